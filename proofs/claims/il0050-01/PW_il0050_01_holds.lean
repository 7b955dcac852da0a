import PyProof.Rows.All
import Wide.All
import OpenK.AllK
import Wide.FinOn
import Lean
import PySem.Challenge.RW_il0050_01
set_option Elab.async false
set_option linter.all false
section
open PySem PySem.W PyProof.Rows
namespace Mine.Internal
noncomputable abbrev Led := List (Addr × Obj)
noncomputable abbrev Lo := Str → Option Value
structure Fk where
  L : Addr
  cs : List (Str × Addr)
inductive Prv
  | fr (k : Fk) (m : Lo)
  | ob (a : Addr) (o : Obj)
noncomputable def Prv.own : Prv → List Addr
  | .fr k _ => k.L :: k.cs.map (·.2)
  | .ob a _ => [a]
noncomputable def FrAt (h : Heap) (k : Fk) (m : Lo) : Prop := (∃ ml, h.Ns k.L ml ∧ ∀ x, k.cs.lookup x = none → ml x = m x) ∧ (∀ p ∈ k.cs, h.IsCell p.2 (m p.1)) ∧ (k.cs.map (·.1)).Nodup
noncomputable def Prv.At (h : Heap) : Prv → Prop
  | .fr k m => FrAt h k m
  | .ob a o => h.get? a = some o
noncomputable abbrev Frs := List Prv
noncomputable def own (Φ : Frs) : List Addr := Φ.flatMap Prv.own
theorem z_at (i : Nat) : (0 : Int) + (i : Int) * 1 = (i : Int) := by rw [Int.mul_one, Int.zero_add]
theorem left_ij {P Q i j i' j' f : Nat} (h : P - i + (Q - j) ≤ f + 1) (hi : i ≤ i') (hj : j ≤ j') (hs : (i < i' ∧ i < P) ∨ (j < j' ∧ j < Q)) : P - i' + (Q - j') ≤ f := by
  have h1 := Nat.sub_le_sub_left hi P
  have h2 := Nat.sub_le_sub_left hj Q
  refine Nat.le_of_lt_succ (Nat.lt_of_lt_of_le ?_ h)
  rcases hs with ⟨a, b⟩ | ⟨a, b⟩
  · exact Nat.add_lt_add_of_lt_of_le (Nat.sub_lt_sub_left b a) h2
  · exact Nat.add_lt_add_of_le_of_lt h1 (Nat.sub_lt_sub_left b a)
theorem mem_own {f : Prv} {Φ : Frs} {a : Addr} (hf : f ∈ Φ) (ha : a ∈ f.own) : a ∈ own Φ := List.mem_flatMap.mpr ⟨f, hf, ha⟩
theorem own_cons (f : Prv) (Φ : Frs) : own (f :: Φ) = f.own ++ own Φ := rfl
theorem lookup_mem {α β : Type} [BEq α] [LawfulBEq α] {x : α} {c : β} : ∀ {l : List (α × β)}, l.lookup x = some c → (x, c) ∈ l
  | [], h => by simp at h
  | (y, d) :: l, h => by
    rw [List.lookup_cons] at h
    cases e : x == y with
    | true => rw [e] at h; simp at h; rw [eq_of_beq e, h]; exact .head _
    | false => rw [e] at h; exact .tail _ (lookup_mem h)
theorem Prv.At.keep {h h' : Heap} {f : Prv} (x : f.At h) (k : ∀ a ∈ f.own, ∀ o, h.get? a = some o → h'.get? a = some o) : f.At h' := by
  cases f with
  | ob a o => exact k a (.head _) _ x
  | fr key m =>
    obtain ⟨⟨ml, hn, he⟩, hc, hnd⟩ := x
    refine ⟨⟨ml, ?_, he⟩, fun p hp => ?_, hnd⟩
    · obtain ⟨o, es, ep, ho, r⟩ := hn
      exact ⟨o, es, ep, k _ (.head _) _ ho, r⟩
    · obtain ⟨o, ho, hd⟩ := hc p hp
      exact ⟨o, k _ (.tail _ (List.mem_map.mpr ⟨_, hp, rfl⟩)) _ ho, hd⟩
theorem Prv.At.lt {h : Heap} {f : Prv} (x : f.At h) : ∀ a ∈ f.own, a < h.objs.size := by
  intro a ha
  cases f with
  | ob b o => simp [Prv.own] at ha; subst ha; exact Heap.lt_size x
  | fr key m =>
    rcases List.mem_cons.mp ha with rfl | ha
    · obtain ⟨⟨ml, hn, _⟩, _⟩ := x; exact hn.lt
    · obtain ⟨p, hp, rfl⟩ := List.mem_map.mp ha
      obtain ⟨o, ho, _⟩ := x.2.1 p hp
      exact Heap.lt_size ho
structure Cx where
  prog : Program
  w : World
  K : Frag
  tabs : List Addr
  qual : Addr → Str
  os : OsState
noncomputable abbrev Cx.M (C : Cx) : Model := model C.prog C.w
noncomputable abbrev Cx.g (C : Cx) (a : Addr) : Option Obj := C.K.lookup a
noncomputable def IsCode (o : Obj) (q : Str) : Prop := ∃ vs t, o.data = .fields vs ∧ vs[1]? = some (.str q t)
noncomputable def NoFields (o : Obj) : Prop := ∀ vs, o.data = .fields vs → ∀ t q, vs[1]? ≠ some (Value.str q t)
noncomputable def TabOk (C : Cx) (z : Addr → Option Obj) (P : Addr) (h : Heap) : Prop :=
  ∃ ps, h.get? P = some { cls := .none, data := .fields ps } ∧ TriplesOk ps.toList ∧
    ∀ pos cv, codeAmong pos ps.toList = some cv → ∃ c o, cv = .ref c ∧ z c = some o ∧ IsCode o (C.qual P)
structure RepZ (C : Cx) (z : Addr → Option Obj) (N : Led) (Φ : Frs) (h : Heap) : Prop where
  st : ∀ b o, C.g b = some o → z b = some o
  fz : ∀ b o, z b = some o → h.get? b = some o
  led : ∀ p ∈ N, h.get? p.1 = some p.2
  ledz : ∀ p ∈ N, z p.1 = none ∨ (z p.1 = some p.2 ∧ ¬ NoFields p.2)
  frm : ∀ f ∈ Φ, f.At h
  frz : ∀ a ∈ own Φ, z a = none
  apart : ∀ a ∈ own Φ, ∀ p ∈ N, p.1 ≠ a
  nd : (own Φ).Nodup
  tab : ∀ P ∈ C.tabs, z P = none ∧ (∀ p ∈ N, p.1 ≠ P) ∧ P ∉ own Φ ∧ TabOk C z P h
structure Rep (C : Cx) (N : Led) (Φ : Frs) (s : Shared) : Prop where
  z : ∃ z, RepZ C z N Φ s.heap
  os : s.os = C.os
  gens : AllBare s.gens
noncomputable def Ext (N N' : Led) : Prop := ∀ p ∈ N, p ∈ N'
noncomputable def ExtBut (a : Addr) (N N' : Led) : Prop := ∀ p ∈ N, p.1 ≠ a → p ∈ N'
noncomputable def New (a : Addr) (N : Led) : Prop := ∀ p ∈ N, p.1 ≠ a
theorem Ext.refl (N : Led) : Ext N N := fun _ h => h
theorem Ext.trans {N N' N'' : Led} (x : Ext N N') (y : Ext N' N'') : Ext N N'' := fun p h => y p (x p h)
theorem Ext.but {N N' N'' : Led} {a : Addr} (x : Ext N N') (n : New a N) (y : ExtBut a N' N'') : Ext N N'' := fun p h => y p (x p h) (n p h)
theorem Ext.cons (p : Addr × Obj) (N : Led) : Ext N (p :: N) := fun _ h => .tail _ h
noncomputable def updL (N : Led) (a : Addr) (o : Obj) : Led := (a, o) :: N.filter fun p => p.1 != a
theorem updL_self (N : Led) (a : Addr) (o : Obj) : (a, o) ∈ updL N a o := .head _
theorem updL_but (N : Led) (a : Addr) (o : Obj) : ExtBut a N (updL N a o) := fun p h n => .tail _ (List.mem_filter.mpr ⟨h, by simpa using n⟩)
theorem updL_mem {N : Led} {a : Addr} {o : Obj} {p : Addr × Obj} (h : p ∈ updL N a o) : p = (a, o) ∨ (p ∈ N ∧ p.1 ≠ a) := by
  rcases List.mem_cons.mp h with h | h
  · exact .inl h
  · have := List.mem_filter.mp h
    exact .inr ⟨this.1, by simpa using this.2⟩
variable {C : Cx} {N : Led} {Φ : Frs}
theorem RepZ.fn {z} {h : Heap} (R : RepZ C z N Φ h) {a : Addr} {o o' : Obj} (x : (a, o) ∈ N) (y : (a, o') ∈ N) : o = o' := by
  have h1 := R.led _ x
  have h2 := R.led _ y
  exact Option.some.inj (h1.symm.trans h2)
theorem RepZ.lt {z} {h : Heap} (R : RepZ C z N Φ h) {p : Addr × Obj} (x : p ∈ N) : p.1 < h.objs.size := Heap.lt_size (R.led _ x)
structure Fresh (C : Cx) (z : Addr → Option Obj) (N : Led) (Φ : Frs) (a : Addr) : Prop where
  n : New a N
  z : z a = none
  f : a ∉ own Φ
  t : ∀ P ∈ C.tabs, P ≠ a
theorem RepZ.fresh {z} {h : Heap} (R : RepZ C z N Φ h) {a : Addr} (ha : h.objs.size ≤ a) : Fresh C z N Φ a := by
  refine ⟨fun p hp e => ?_, ?_, fun hf => ?_, fun P hP e => ?_⟩
  · exact absurd (Nat.lt_of_lt_of_le (R.lt hp) ha) (by rw [e]; exact Nat.lt_irrefl _)
  · cases hz : z a with
    | none => rfl
    | some o => exact absurd (Nat.lt_of_lt_of_le (Heap.lt_size (R.fz _ _ hz)) ha) (Nat.lt_irrefl _)
  · obtain ⟨f, hf, h'⟩ := List.mem_flatMap.mp hf
    exact absurd (Nat.lt_of_lt_of_le ((R.frm f hf).lt a h') ha) (Nat.lt_irrefl _)
  · obtain ⟨_, _, _, ps, hps, _⟩ := R.tab P hP
    exact absurd (Nat.lt_of_lt_of_le (Heap.lt_size hps) ha) (by rw [e]; exact Nat.lt_irrefl _)
theorem RepZ.grow {z} {h h' : Heap} (R : RepZ C z N Φ h) (k : ∀ b o, h.get? b = some o → h'.get? b = some o) : RepZ C z N Φ h' :=
  ⟨R.st, fun b o e => k b o (R.fz b o e), fun p hp => k _ _ (R.led p hp), R.ledz, fun f hf => (R.frm f hf).keep fun a _ => k a, R.frz, R.apart, R.nd,
    fun P hP => let ⟨a, b, c, ps, d, e⟩ := R.tab P hP; ⟨a, b, c, ps, k _ _ d, e⟩⟩
theorem RepZ.push {z} {h : Heap} (R : RepZ C z N Φ h) (o : Obj) : RepZ C z N Φ (h.push o) := R.grow fun _ _ e => Heap.get?_push_of_some _ e
theorem RepZ.add {z} {h : Heap} (R : RepZ C z N Φ h) {a : Addr} {o : Obj} (e : h.get? a = some o) (F : Fresh C z N Φ a) : RepZ C z ((a, o) :: N) Φ h where
  st := R.st
  fz := R.fz
  led := fun p hp => by
    rcases List.mem_cons.mp hp with rfl | hp
    · exact e
    · exact R.led p hp
  ledz := fun p hp => by
    rcases List.mem_cons.mp hp with rfl | hp
    · exact .inl F.z
    · exact R.ledz p hp
  frm := R.frm
  frz := R.frz
  apart := fun b hb p hp => by
    rcases List.mem_cons.mp hp with rfl | hp
    · exact fun q => F.f (by rw [show a = b from q]; exact hb)
    · exact R.apart b hb p hp
  nd := R.nd
  tab := fun P hP => by
    obtain ⟨a1, a2, a3, a4⟩ := R.tab P hP
    refine ⟨a1, fun p hp => ?_, a3, a4⟩
    rcases List.mem_cons.mp hp with rfl | hp
    · exact fun q => F.t P hP q.symm
    · exact a2 p hp
theorem RepZ.pushN {z} {h : Heap} (R : RepZ C z N Φ h) (o : Obj) (hf : o.isFreed = false) : RepZ C z ((h.objs.size, o) :: N) Φ (h.push o) :=
  (R.push o).add (Heap.get?_push_size h hf) (R.fresh (Nat.le_refl _))
theorem RepZ.drop {z} {h : Heap} {N' : Led} (R : RepZ C z N Φ h) (k : Ext N' N) : RepZ C z N' Φ h :=
  ⟨R.st, R.fz, fun p hp => R.led p (k p hp), fun p hp => R.ledz p (k p hp), R.frm, R.frz, fun f hf p hp => R.apart f hf p (k p hp), R.nd,
    fun P hP => let ⟨a, b, c, d⟩ := R.tab P hP; ⟨a, fun p hp => b p (k p hp), c, d⟩⟩
theorem RepZ.noz {z} {h : Heap} (R : RepZ C z N Φ h) {a : Addr} {o : Obj} (ha : (a, o) ∈ N) (hd : NoFields o) : z a = none := by
  rcases R.ledz _ ha with e | ⟨_, e⟩
  · exact e
  · exact absurd hd e
theorem RepZ.show {z} {h : Heap} (R : RepZ C z N Φ h) {a : Addr} {o : Obj} {q : Str} (e : z a = some o) (hc : IsCode o q) : RepZ C z ((a, o) :: N) Φ h where
  st := R.st
  fz := R.fz
  led := fun p hp => by
    rcases List.mem_cons.mp hp with rfl | hp
    · exact R.fz _ _ e
    · exact R.led p hp
  ledz := fun p hp => by
    rcases List.mem_cons.mp hp with rfl | hp
    · obtain ⟨vs, t, hd, h1⟩ := hc
      exact .inr ⟨e, fun h => h vs hd t q h1⟩
    · exact R.ledz p hp
  frm := R.frm
  frz := R.frz
  apart := fun b hb p hp => by
    rcases List.mem_cons.mp hp with rfl | hp
    · exact fun q => by have := R.frz b hb; rw [← show a = b from q, e] at this; cases this
    · exact R.apart b hb p hp
  nd := R.nd
  tab := fun P hP => by
    obtain ⟨a1, a2, a3, a4⟩ := R.tab P hP
    refine ⟨a1, fun p hp => ?_, a3, a4⟩
    rcases List.mem_cons.mp hp with rfl | hp
    · exact fun q => by rw [← show a = P from q, e] at a1; cases a1
    · exact a2 p hp
theorem RepZ.upd {z} {h h' : Heap} (R : RepZ C z N Φ h) {a : Addr} {o o' : Obj} (ha : (a, o) ∈ N) (hd : NoFields o) (x : Heap.ExtBut a h h') (e : h'.get? a = some o') :
    RepZ C z (updL N a o') Φ h' where
  st := R.st
  fz := fun b o e' => x b o (fun q => by rw [q, R.noz ha hd] at e'; cases e') (R.fz b o e')
  led := fun p hp => by
    rcases updL_mem hp with rfl | ⟨hp, hn⟩
    · exact e
    · exact x _ _ hn (R.led p hp)
  ledz := fun p hp => by
    rcases updL_mem hp with rfl | ⟨hp, hn⟩
    · exact .inl (R.noz ha hd)
    · exact R.ledz p hp
  frm := fun f hf => (R.frm f hf).keep fun b hb o' e' => x b o' (fun q => R.apart b (mem_own hf hb) _ ha q.symm) e'
  frz := R.frz
  apart := fun f hf p hp => by
    rcases updL_mem hp with rfl | ⟨hp, hn⟩
    · exact R.apart f hf (a, o) ha
    · exact R.apart f hf p hp
  nd := R.nd
  tab := fun P hP => by
    obtain ⟨a1, a2, a3, ps, a4, a5⟩ := R.tab P hP
    refine ⟨a1, fun p hp => ?_, a3, ps, x _ _ (fun q => a2 _ ha q.symm) a4, a5⟩
    rcases updL_mem hp with rfl | ⟨hp, hn⟩
    · exact a2 (a, o) ha
    · exact a2 p hp
theorem RepZ.top {z} {h h' : Heap} {f f' : Prv} (R : RepZ C z N (f :: Φ) h) (ho : f'.own = f.own) (x : ∀ b o, b ∉ f.own → h.get? b = some o → h'.get? b = some o) (e : f'.At h') : RepZ C z N (f' :: Φ) h' := by
  have hown : own (f' :: Φ) = own (f :: Φ) := by rw [own_cons, own_cons, ho]
  refine ⟨R.st, fun b o e' => x b o (fun q => ?_) (R.fz b o e'), fun p hp => x _ _ (fun q => ?_) (R.led p hp), R.ledz, fun g hg => ?_, by rw [hown]; exact R.frz, by rw [hown]; exact R.apart, by rw [hown]; exact R.nd, fun P hP => ?_⟩
  · rw [R.frz b (mem_own (.head _) q)] at e'; cases e'
  · exact R.apart _ (mem_own (.head _) q) p hp rfl
  · rcases List.mem_cons.mp hg with rfl | hg
    · exact e
    · refine (R.frm g (.tail _ hg)).keep fun b hb o' e' => x b o' (fun q => ?_) e'
      have := R.nd
      rw [own_cons, List.nodup_append] at this
      exact this.2.2 b q b (mem_own hg hb) rfl
  · obtain ⟨a1, a2, a3, ps, a4, a5⟩ := R.tab P hP
    rw [hown]
    exact ⟨a1, a2, a3, ps, x _ _ (fun q => a3 (mem_own (.head _) q)) a4, a5⟩
theorem RepZ.perm {z} {h : Heap} {Ψ : Frs} (R : RepZ C z N Φ h) (p : Φ.Perm Ψ) : RepZ C z N Ψ h := by
  have hp : (own Φ).Perm (own Ψ) := p.flatMap_right _
  exact ⟨R.st, R.fz, R.led, R.ledz, fun f hf => R.frm f (p.mem_iff.mpr hf), fun a ha => R.frz a (hp.mem_iff.mpr ha), fun a ha => R.apart a (hp.mem_iff.mpr ha), hp.nodup_iff.mp R.nd,
    fun P hP => let ⟨a, b, c, d⟩ := R.tab P hP; ⟨a, b, fun q => c (hp.mem_iff.mpr q), d⟩⟩
theorem RepZ.pushF {z} {h : Heap} {f : Prv} (R : RepZ C z N Φ h) (e : f.At h) (F : ∀ a ∈ f.own, Fresh C z N Φ a) (hn : f.own.Nodup) : RepZ C z N (f :: Φ) h where
  st := R.st
  fz := R.fz
  led := R.led
  ledz := R.ledz
  frm := fun g hg => by
    rcases List.mem_cons.mp hg with rfl | hg
    · exact e
    · exact R.frm g hg
  frz := fun a ha => by
    rw [own_cons, List.mem_append] at ha
    rcases ha with ha | ha
    · exact (F a ha).z
    · exact R.frz a ha
  apart := fun a ha => by
    rw [own_cons, List.mem_append] at ha
    rcases ha with ha | ha
    · exact (F a ha).n
    · exact R.apart a ha
  nd := by
    rw [own_cons, List.nodup_append]
    exact ⟨hn, R.nd, fun a ha b hb q => (F a ha).f (q ▸ hb)⟩
  tab := fun P hP => by
    obtain ⟨a1, a2, a3, a4⟩ := R.tab P hP
    refine ⟨a1, a2, fun q => ?_, a4⟩
    rw [own_cons, List.mem_append] at q
    rcases q with ha | ha
    · exact (F P ha).t P hP rfl
    · exact a3 ha
theorem RepZ.popF {z} {h : Heap} {f : Prv} (R : RepZ C z N (f :: Φ) h) : RepZ C z N Φ h :=
  ⟨R.st, R.fz, R.led, R.ledz, fun f hf => R.frm f (.tail _ hf), fun a ha => R.frz a (by rw [own_cons, List.mem_append]; exact .inr ha), fun a ha => R.apart a (by rw [own_cons, List.mem_append]; exact .inr ha), by
    have := R.nd; rw [own_cons, List.nodup_append] at this; exact this.2.1, fun P hP => let ⟨a, b, c, d⟩ := R.tab P hP; ⟨a, b, fun q => c (by rw [own_cons, List.mem_append]; exact .inr q), d⟩⟩
theorem RepZ.give {z} {h : Heap} {a : Addr} {o : Obj} (R : RepZ C z N (.ob a o :: Φ) h) : RepZ C z ((a, o) :: N) Φ h := by
  refine R.popF.add (R.frm _ (.head _)) ⟨R.apart a (mem_own (.head _) (.head _)), R.frz a (mem_own (.head _) (.head _)), fun q => ?_, fun P hP e => (R.tab P hP).2.2.1 (mem_own (.head _) (by rw [e]; exact .head _))⟩
  have := R.nd
  rw [own_cons, List.nodup_append] at this
  exact this.2.2 a (.head _) a q rfl
theorem RepZ.lose {z} {h h' : Heap} {f : Prv} (R : RepZ C z N (f :: Φ) h) (x : ∀ b o, b ∉ f.own → h.get? b = some o → h'.get? b = some o) : RepZ C z N Φ h' := by
  have R' := R.popF
  refine ⟨R.st, fun b o e' => x b o (fun q => ?_) (R.fz b o e'), fun p hp => x _ _ (fun q => ?_) (R.led p hp), R.ledz, fun g hg => ?_, R'.frz, R'.apart, R'.nd, fun P hP => ?_⟩
  · rw [R.frz b (mem_own (.head _) q)] at e'; cases e'
  · exact R.apart _ (mem_own (.head _) q) p hp rfl
  · refine (R.frm g (.tail _ hg)).keep fun b hb o' e' => x b o' (fun q => ?_) e'
    have := R.nd
    rw [own_cons, List.nodup_append] at this
    exact this.2.2 b q b (mem_own hg hb) rfl
  · obtain ⟨a1, a2, a3, ps, a4, a5⟩ := R.tab P hP
    exact ⟨a1, a2, (R'.tab P hP).2.2.1, ps, x _ _ (fun q => a3 (mem_own (.head _) q)) a4, a5⟩
theorem RepZ.take {z} {h : Heap} {a : Addr} {o : Obj} (R : RepZ C z N Φ h) (ha : (a, o) ∈ N) (hd : NoFields o) : RepZ C z (N.filter fun p => p.1 != a) (.ob a o :: Φ) h := by
  have hN : ∀ p ∈ N.filter (fun p => p.1 != a), p ∈ N ∧ p.1 ≠ a := fun p hp => by
    have := List.mem_filter.mp hp
    exact ⟨this.1, by simpa using this.2⟩
  have R' : RepZ C z (N.filter fun p => p.1 != a) Φ h := R.drop fun p hp => (hN p hp).1
  refine R'.pushF (R.led _ ha) (fun b hb => ?_) (by simp [Prv.own])
  have : b = a := by simpa [Prv.own] using hb
  subst this
  exact ⟨fun p hp => (hN p hp).2, R.noz ha hd, fun q => R.apart b q _ ha rfl, fun P hP e => (R.tab P hP).2.1 _ ha (by rw [e])⟩
theorem codeAmong_or (pos : Pos) (a b : Int) (t u : Tok) (c cv : Value) (l : List Value) (h : TriplesOk l) (e : codeAmong pos (l ++ [Value.int a t, Value.int b u, c]) = some cv) : codeAmong pos l = some cv ∨ cv = c := by
  fun_induction TriplesOk l with
  | case1 =>
    simp only [List.nil_append, codeAmong] at e
    split at e
    · exact .inr (Option.some.inj e).symm
    · simp [codeAmong] at e
  | case2 i t' j u' x rest ih =>
    simp only [List.cons_append, codeAmong] at e ⊢
    split at e
    · rename_i hc; rw [if_pos hc]; exact .inl e
    · rename_i hc; rw [if_neg hc]; exact ih h e
  | case3 => exact h.elim
theorem RepZ.tabAdd {z} {h h' : Heap} (R : RepZ C z N Φ h) {P c' : Addr} {ps : Array Value} {oc : Obj} {a b : Int} {t u : Tok} (hP : P ∈ C.tabs) (ht : h.get? P = some { cls := .none, data := .fields ps }) (hx : Heap.ExtBut P h h') (hc : h.objs.size ≤ c')
    (ho : h'.get? c' = some oc) (hr : IsCode oc (C.qual P)) (hg : h'.get? P = some { cls := .none, data := .fields (ps ++ #[Value.int a t, Value.int b u, Value.ref c']) }) (htr : TriplesOk (ps ++ #[Value.int a t, Value.int b u, Value.ref c']).toList) : RepZ C (fun b => if b = c' then some oc else z b) N Φ h' := by
  have F := R.fresh hc
  have zP := (R.tab P hP).1
  refine ⟨fun b o e => ?_, fun b o e => ?_, fun p hp => hx _ _ ((R.tab P hP).2.1 p hp) (R.led p hp), fun p hp => ?_, fun f hf => (R.frm f hf).keep fun b hb o e => hx b o (fun q => (R.tab P hP).2.2.1 (by rw [← q]; exact mem_own hf hb)) e, fun b hb => ?_, R.apart, R.nd, fun P' hP' => ?_⟩
  · have : b ≠ c' := fun q => by have := R.st b o e; rw [q, F.z] at this; cases this
    rw [if_neg this]; exact R.st b o e
  · split at e
    · rename_i q; rw [q]; cases e; exact ho
    · exact hx b o (fun q => by rw [q, zP] at e; cases e) (R.fz b o e)
  · rw [if_neg (F.n p hp)]; exact R.ledz p hp
  · show (if b = c' then some oc else z b) = none
    rw [if_neg (fun q => F.f (by rw [← q]; exact hb))]; exact R.frz b hb
  · obtain ⟨a1, a2, a3, ps', a4, a5, a6⟩ := R.tab P' hP'
    refine ⟨by rw [if_neg (F.t P' hP')]; exact a1, a2, a3, ?_⟩
    by_cases q : P' = P
    · subst q
      rw [ht] at a4
      cases a4
      refine ⟨_, hg, htr, fun pos cv e => ?_⟩
      rw [Array.toList_append] at e
      rcases codeAmong_or pos a b t u _ _ _ a5 e with e | rfl
      · obtain ⟨c, o, r1, r2, r3⟩ := a6 pos cv e
        refine ⟨c, o, r1, ?_, r3⟩
        show (if c = c' then some oc else z c) = some o
        rw [if_neg (fun q => by rw [q, F.z] at r2; cases r2)]; exact r2
      · exact ⟨c', oc, rfl, if_pos rfl, hr⟩
    · refine ⟨ps', hx _ _ q a4, a5, fun pos cv e => ?_⟩
      obtain ⟨c, o, r1, r2, r3⟩ := a6 pos cv e
      refine ⟨c, o, r1, ?_, r3⟩
      show (if c = c' then some oc else z c) = some o
      rw [if_neg (fun q => by rw [q, F.z] at r2; cases r2)]; exact r2
section rep
variable {s : Shared}
theorem Rep.tabAdd {h' : Heap} {tk : Nat} {P c' : Addr} {ps : Array Value} {oc : Obj} {a b : Int} {t u : Tok} (R : Rep C N Φ s) (hP : P ∈ C.tabs) (ht : s.heap.get? P = some { cls := .none, data := .fields ps }) (hx : Heap.ExtBut P s.heap h') (hc : s.heap.objs.size ≤ c')
    (ho : h'.get? c' = some oc) (hr : IsCode oc (C.qual P)) (hg : h'.get? P = some { cls := .none, data := .fields (ps ++ #[Value.int a t, Value.int b u, Value.ref c']) }) (htr : TriplesOk (ps ++ #[Value.int a t, Value.int b u, Value.ref c']).toList) : Rep C ((c', oc) :: N) Φ { s with heap := h', toks := tk } :=
  ⟨let ⟨z, x⟩ := R.z; ⟨_, (x.tabAdd hP ht hx hc ho hr hg htr).show (if_pos rfl) hr⟩, R.os, R.gens⟩
theorem Rep.tabAt {P : Addr} (R : Rep C N Φ s) (hP : P ∈ C.tabs) : ∃ ps, s.heap.get? P = some { cls := .none, data := .fields ps } ∧ TriplesOk ps.toList ∧
    ∀ pos cv, codeAmong pos ps.toList = some cv → ∃ c o, cv = .ref c ∧ IsCode o (C.qual P) ∧ Rep C ((c, o) :: N) Φ s := by
  obtain ⟨z, x⟩ := R.z
  obtain ⟨_, _, _, ps, a4, a5, a6⟩ := x.tab P hP
  refine ⟨ps, a4, a5, fun pos cv e => ?_⟩
  obtain ⟨c, o, r1, r2, r3⟩ := a6 pos cv e
  exact ⟨c, o, r1, r3, ⟨z, x.show r2 r3⟩, R.os, R.gens⟩
theorem Rep.lose {h' : Heap} {tk : Nat} {f : Prv} (R : Rep C N (f :: Φ) s) (x : ∀ b o, b ∉ f.own → s.heap.get? b = some o → h'.get? b = some o) : Rep C N Φ { s with heap := h', toks := tk } :=
  ⟨let ⟨z, y⟩ := R.z; ⟨z, y.lose x⟩, R.os, R.gens⟩
theorem Rep.take {a : Addr} {o : Obj} (R : Rep C N Φ s) (ha : (a, o) ∈ N) (hd : NoFields o) : Rep C (N.filter fun p => p.1 != a) (.ob a o :: Φ) s := ⟨let ⟨z, x⟩ := R.z; ⟨z, x.take ha hd⟩, R.os, R.gens⟩
theorem Rep.grow {h' : Heap} {tk : Nat} (R : Rep C N Φ s) (k : ∀ b o, s.heap.get? b = some o → h'.get? b = some o) : Rep C N Φ { s with heap := h', toks := tk } :=
  ⟨let ⟨z, x⟩ := R.z; ⟨z, x.grow k⟩, R.os, R.gens⟩
theorem Rep.tok (R : Rep C N Φ s) (tk : Nat) : Rep C N Φ { s with toks := tk } := ⟨R.z, R.os, R.gens⟩
theorem Rep.push (R : Rep C N Φ s) (o : Obj) : Rep C N Φ { s with heap := s.heap.push o } := ⟨let ⟨z, x⟩ := R.z; ⟨z, x.push o⟩, R.os, R.gens⟩
theorem Rep.pushN (R : Rep C N Φ s) (o : Obj) (hf : o.isFreed = false) : Rep C ((s.heap.objs.size, o) :: N) Φ { s with heap := s.heap.push o } :=
  ⟨let ⟨z, x⟩ := R.z; ⟨z, x.pushN o hf⟩, R.os, R.gens⟩
theorem Rep.drop {N' : Led} (R : Rep C N Φ s) (k : Ext N' N) : Rep C N' Φ s := ⟨let ⟨z, x⟩ := R.z; ⟨z, x.drop k⟩, R.os, R.gens⟩
theorem Rep.upd {h' : Heap} {tk : Nat} {a : Addr} {o o' : Obj} (R : Rep C N Φ s) (ha : (a, o) ∈ N) (hd : NoFields o) (x : Heap.ExtBut a s.heap h') (e : h'.get? a = some o') : Rep C (updL N a o') Φ { s with heap := h', toks := tk } :=
  ⟨let ⟨z, y⟩ := R.z; ⟨z, y.upd ha hd x e⟩, R.os, R.gens⟩
theorem Rep.top {h' : Heap} {tk : Nat} {f f' : Prv} (R : Rep C N (f :: Φ) s) (ho : f'.own = f.own) (x : ∀ b o, b ∉ f.own → s.heap.get? b = some o → h'.get? b = some o) (e : f'.At h') : Rep C N (f' :: Φ) { s with heap := h', toks := tk } :=
  ⟨let ⟨z, y⟩ := R.z; ⟨z, y.top ho x e⟩, R.os, R.gens⟩
theorem Rep.popF {f : Prv} (R : Rep C N (f :: Φ) s) : Rep C N Φ s := ⟨let ⟨z, x⟩ := R.z; ⟨z, x.popF⟩, R.os, R.gens⟩
theorem Rep.give {a : Addr} {o : Obj} (R : Rep C N (.ob a o :: Φ) s) : Rep C ((a, o) :: N) Φ s := ⟨let ⟨z, x⟩ := R.z; ⟨z, x.give⟩, R.os, R.gens⟩
theorem Rep.perm {Ψ : Frs} (R : Rep C N Φ s) (p : Φ.Perm Ψ) : Rep C N Ψ s := ⟨let ⟨z, x⟩ := R.z; ⟨z, x.perm p⟩, R.os, R.gens⟩
theorem Rep.pushG {h' : Heap} {tk : Nat} {f : Prv} (R : Rep C N Φ s) (k : ∀ b o, s.heap.get? b = some o → h'.get? b = some o) (e : f.At h') (F : ∀ a ∈ f.own, s.heap.objs.size ≤ a) (hn : f.own.Nodup) : Rep C N (f :: Φ) { s with heap := h', toks := tk } :=
  ⟨let ⟨z, x⟩ := R.z; ⟨z, (x.grow k).pushF e (fun a ha => x.fresh (F a ha)) hn⟩, R.os, R.gens⟩
theorem Rep.frm {f : Prv} (R : Rep C N Φ s) (hf : f ∈ Φ) : f.At s.heap := let ⟨_, x⟩ := R.z; x.frm _ hf
theorem Rep.get {a : Addr} {o : Obj} (R : Rep C N Φ s) (h : (a, o) ∈ N) : s.heap.get? a = some o := let ⟨_, x⟩ := R.z; x.led _ h
theorem Rep.fn {a : Addr} {o o' : Obj} (R : Rep C N Φ s) (x : (a, o) ∈ N) (y : (a, o') ∈ N) : o = o' := let ⟨_, r⟩ := R.z; r.fn x y
theorem Rep.st {b : Addr} {o : Obj} (R : Rep C N Φ s) (h : C.g b = some o) : s.heap.get? b = some o := let ⟨_, x⟩ := R.z; x.fz _ _ (x.st _ _ h)
theorem Rep.inK (R : Rep C N Φ s) : C.K.In s.heap := fun _ _ h => R.st h
theorem Rep.stat (R : Rep C N Φ s) : ∀ b o, C.g b = some o → s.heap.get? b = some o := fun _ _ h => R.st h
theorem Rep.new (R : Rep C N Φ s) : New s.heap.objs.size N := let ⟨_, x⟩ := R.z; (x.fresh (Nat.le_refl _)).n
end rep
@[reducible] noncomputable def WEQ {α : Type} (C : Cx) (Q : α → Led → Prop) (Φ : Frs) : α → Shared → Prop := fun v s' => ∃ N', Rep C N' Φ s' ∧ Q v N'
@[reducible] noncomputable def WSQ {α : Type} (C : Cx) (Q : α → Led → Lo → Prop) (k : Fk) (Φ : Frs) : α → Shared → Prop := fun v s' => ∃ N' m', Rep C N' (.fr k m' :: Φ) s' ∧ Q v N' m'
noncomputable def WE {α : Type} (C : Cx) (A : Around) (t : Sem α) (Q : α → Led → Prop) (N : Led) (Φ : Frs) : Prop :=
  ∀ s E, Rep C N Φ s → wpAny C.M A t (WEQ C Q Φ) E s
theorem ite_y {c : Prop} [Decidable c] {a b : Prop} (hc : c) (x : a) : ite c a b := (if_pos hc).symm ▸ x
theorem ite_n {c : Prop} [Decidable c] {a b : Prop} (hc : ¬ c) (x : b) : ite c a b := (if_neg hc).symm ▸ x
noncomputable def WS {α : Type} (C : Cx) (A : Around) (t : Sem α) (Q : α → Led → Lo → Prop) (N : Led) (k : Fk) (m : Lo) (Φ : Frs) : Prop :=
  ∀ s E, Rep C N (.fr k m :: Φ) s → wpAny C.M A t (WSQ C Q k Φ) E s
section we
variable {α β : Type} {A : Around}
theorem WE.pure {a : α} {Q : α → Led → Prop} (h : Q a N) : WE C A (pure a) Q N Φ := fun _ _ R => wpAny_pure ⟨N, R, h⟩
theorem WE.bind {t : Sem α} {f : α → Sem β} {Q : β → Led → Prop} (h : WE C A t (fun v N' => WE C A (f v) Q N' Φ) N Φ) : WE C A (t >>= f) Q N Φ :=
  fun s E R => wpAny_bind (wpAny_mono (h s E R) (fun _ s' ⟨_, R', q⟩ => q s' E R') fun _ _ x => x)
theorem WE.mono {t : Sem α} {Q Q' : α → Led → Prop} (h : WE C A t Q N Φ) (k : ∀ v N', Q v N' → Q' v N') : WE C A t Q' N Φ :=
  fun s E R => wpAny_mono (h s E R) (fun v _ ⟨N', R', q⟩ => ⟨N', R', k v N' q⟩) fun _ _ x => x
theorem WE.of_eq {t t' : Sem α} {Q : α → Led → Prop} (e : t = t') (h : WE C A t' Q N Φ) : WE C A t Q N Φ := e ▸ h
theorem WE.use {t : Sem α} {Q : α → Led → Prop} {s : Shared} {K : α → Shared → Prop} {E : Value → Shared → Prop} (h : WE C A t Q N Φ) (R : Rep C N Φ s) (k : ∀ v s' N', Rep C N' Φ s' → Q v N' → K v s') : wpAny C.M A t K E s :=
  wpAny_mono (h s E R) (fun v s' ⟨N', R', q⟩ => k v s' N' R' q) fun _ _ x => x
theorem WE.fn {t : Sem α} {Q : α → Led → Prop} (h : (∀ a o o', (a, o) ∈ N → (a, o') ∈ N → o = o') → WE C A t Q N Φ) : WE C A t Q N Φ := fun s E R => h (fun _ _ _ x y => R.fn x y) s E R
variable {L : Fk} {m : Lo}
theorem WS.pure {a : α} {Q : α → Led → Lo → Prop} (h : Q a N m) : WS C A (pure a) Q N L m Φ := fun _ _ R => wpAny_pure ⟨N, m, R, h⟩
theorem WS.bind {t : Sem α} {f : α → Sem β} {Q : β → Led → Lo → Prop} (h : WS C A t (fun v N' m' => WS C A (f v) Q N' L m' Φ) N L m Φ) : WS C A (t >>= f) Q N L m Φ :=
  fun s E R => wpAny_bind (wpAny_mono (h s E R) (fun _ s' ⟨_, _, R', q⟩ => q s' E R') fun _ _ x => x)
theorem WS.mono {t : Sem α} {Q Q' : α → Led → Lo → Prop} (h : WS C A t Q N L m Φ) (k : ∀ v N' m', Q v N' m' → Q' v N' m') : WS C A t Q' N L m Φ :=
  fun s E R => wpAny_mono (h s E R) (fun v _ ⟨N', m', R', q⟩ => ⟨N', m', R', k v N' m' q⟩) fun _ _ x => x
theorem WS.of_WE {t : Sem α} {Q : α → Led → Lo → Prop} (h : WE C A t (fun v N' => Q v N' m) N (.fr L m :: Φ)) : WS C A t Q N L m Φ :=
  fun s E R => wpAny_mono (h s E R) (fun _ _ ⟨N', R', q⟩ => ⟨N', m, R', q⟩) fun _ _ x => x
theorem WS.use {t : Sem α} {Q : α → Led → Lo → Prop} {s : Shared} {K : α → Shared → Prop} {E : Value → Shared → Prop} (h : WS C A t Q N L m Φ) (R : Rep C N (.fr L m :: Φ) s) (k : ∀ v s' N' m', Rep C N' (.fr L m' :: Φ) s' → Q v N' m' → K v s') : wpAny C.M A t K E s :=
  wpAny_mono (h s E R) (fun v s' ⟨N', m', R', q⟩ => k v s' N' m' R' q) fun _ _ x => x
end we
end Mine.Internal
end
section
open PySem PySem.W PyProof.Rows PySem.Calls
namespace Mine.Internal
variable {C : Cx} {N : Led} {Φ : Frs}
noncomputable def Has (C : Cx) (N : Led) (a : Addr) (o : Obj) : Prop := C.g a = some o ∨ (a, o) ∈ N
theorem Rep.has {s : Shared} {a : Addr} {o : Obj} (R : Rep C N Φ s) (h : Has C N a o) : s.heap.get? a = some o := h.elim R.st R.get
theorem Has.mono {N' : Led} {a : Addr} {o : Obj} (h : Has C N a o) (e : Ext N N') : Has C N' a o := h.imp id (e _)
theorem Has.led {a : Addr} {o : Obj} (h : (a, o) ∈ N) : Has C N a o := .inr h
theorem Has.st {a : Addr} {o : Obj} (h : C.g a = some o) : Has C N a o := .inl h
section prim
variable {α β : Type} {A : Around}
theorem WE.still {t : Sem α} {Q : α → Led → Prop} {v : α} (h : ∀ s (K : α → Shared → Prop) E, Rep C N Φ s → (∀ tk, K v { s with toks := tk }) → wpAny C.M A t K E s) (q : Q v N) : WE C A t Q N Φ :=
  fun s E R => h s _ E R fun tk => ⟨N, R.tok tk, q⟩
theorem WE.load {a : Addr} {o : Obj} {Q : Obj → Led → Prop} (h : Has C N a o) (q : Q o N) : WE C A (load a) Q N Φ := fun _ _ R => wpAny_load (R.has h) ⟨N, R, q⟩
theorem WE.loadPart {a : Addr} {pt : Option Value} {o : Obj} {Q : Obj → Led → Prop} (h : Has C N a o) (q : Q o N) : WE C A (loadPart a pt) Q N Φ := fun _ _ R => wpAny_loadPart (R.has h) ⟨N, R, q⟩
theorem WE.alloc {o : Obj} {Q : Addr → Led → Prop} (hf : o.isFreed = false) (q : ∀ a, New a N → Q a ((a, o) :: N)) : WE C A (alloc o) Q N Φ :=
  fun s _ R => wpAny_alloc ⟨_, R.pushN o hf, q _ R.new⟩
theorem WE.update {a : Addr} {o : Obj} {f : Obj → Obj} {Q : Unit → Led → Prop} (h : (a, o) ∈ N) (hd : NoFields o) (hf : (f o).isFreed = false) (q : Q () (updL N a (f o))) : WE C A (update a f) Q N Φ :=
  fun s _ R => wpAny_update (R.get h) ⟨_, R.upd (tk := s.toks) h hd (Heap.SameBut.update ..).extBut (Heap.get?_update_self f (R.get h) hf), q⟩
theorem WE.updatePart {a : Addr} {pt : Option Value} {o : Obj} {f : Obj → Obj} {Q : Unit → Led → Prop} (h : (a, o) ∈ N) (hd : NoFields o) (hf : (f o).isFreed = false) (q : Q () (updL N a (f o))) : WE C A (updatePart a pt f) Q N Φ :=
  fun s _ R => wpAny_updatePart (R.get h) ⟨_, R.upd (tk := s.toks) h hd (Heap.SameBut.update ..).extBut (Heap.get?_update_self f (R.get h) hf), q⟩
theorem WE.rule {tag : String} {Q : Unit → Led → Prop} (q : Q () N) : WE C A (rule tag) Q N Φ := fun _ _ R => wpAny_rule ⟨N, R, q⟩
theorem WE.standAt {p : Pos} {Q : Unit → Led → Prop} (q : Q () N) : WE C A (standAt p) Q N Φ := fun _ _ R => wpAny_standAt ⟨N, R, q⟩
theorem WE.point {Q : Unit → Led → Prop} (q : Q () N) : WE C A point Q N Φ := fun _ _ R => wpAny_point ⟨N, R, q⟩
theorem WE.holding {vs : List Value} {t : Sem α} {Q : α → Led → Prop} (h : WE C A t Q N Φ) : WE C A (holding vs t) Q N Φ := fun s E R => wpAny_holding (h s E R)
theorem WE.operate {vs : List Value} {t : Sem Value} {Q : Value → Led → Prop} (h : WE C A t Q N Φ) : WE C A (operate vs t) Q N Φ := fun s E R => wpAny_operate' (h s E R)
theorem WE.letGo {base : Expr} {o r : Value} {Q : Unit → Led → Prop} (q : Q () N) : WE C A (letTemporaryGo base o r) Q N Φ := fun _ _ R => wpAny_letTemporaryGo ⟨N, R, q⟩
theorem WE.newObj {T : String} {d : Data} {Q : Value → Led → Prop} (hd : sizeOk d) (hf : ({ cls := .type T, data := d } : Obj).isFreed = false) (q : ∀ a, New a N → Q (.ref a) ((a, { cls := .type T, data := d }) :: N)) :
    WE C A (newObj (.type T) d) Q N Φ := fun s _ R => wpAny_newObj_type ⟨_, R.pushN _ hf, q _ R.new⟩ hd
theorem WE.newList {vs : List Value} {Q : Value → Led → Prop} (hs : vs.length ≤ sizeLine) (q : ∀ a, New a N → Q (.ref a) ((a, { cls := .type "list", data := .seq vs.toArray }) :: N)) : WE C A (newList vs) Q N Φ :=
  WE.newObj (by show vs.toArray.size ≤ sizeLine; rw [List.size_toArray]; exact hs) rfl q
theorem WE.newTuple {vs : List Value} {Q : Value → Led → Prop} (hs : vs.length ≤ sizeLine) (q : ∀ a, New a N → Q (.ref a) ((a, { cls := .type "tuple", data := .seq vs.toArray }) :: N)) : WE C A (newTuple vs) Q N Φ :=
  WE.newObj (by show vs.toArray.size ≤ sizeLine; rw [List.size_toArray]; exact hs) rfl q
end prim
@[reducible] noncomputable def kBin2 (C : Cx) (A : Around) (Φ : Frs) (op : Operator) (a : Value) (Q : Value → Led → Prop) : Value → Led → Prop := fun b N => WE C A (binaryOp op a b) Q N Φ
@[reducible] noncomputable def kBin (C : Cx) (A : Around) (Φ : Frs) (env : Env) (op : Operator) (r : Expr) (Q : Value → Led → Prop) : Value → Led → Prop := fun a N => WE C A (eval r env) (kBin2 C A Φ op a Q) N Φ
@[reducible] noncomputable def kUn (C : Cx) (A : Around) (Φ : Frs) (op : UnaryOp) (Q : Value → Led → Prop) : Value → Led → Prop := fun a N => WE C A (unaryOp op a) Q N Φ
@[reducible] noncomputable def kCmp2 (C : Cx) (A : Around) (Φ : Frs) (op : CmpOp) (a : Value) (Q : Value → Led → Prop) : Value → Led → Prop := fun b N => WE C A (compareOp op a b) Q N Φ
@[reducible] noncomputable def kCmp (C : Cx) (A : Around) (Φ : Frs) (env : Env) (op : CmpOp) (r : Expr) (Q : Value → Led → Prop) : Value → Led → Prop := fun a N => WE C A (eval r env) (kCmp2 C A Φ op a Q) N Φ
@[reducible] noncomputable def kCons (v : Value) (Q : List Value → Led → Prop) : List Value → Led → Prop := fun vs N => Q (v :: vs) N
@[reducible] noncomputable def kArg (C : Cx) (A : Around) (Φ : Frs) (env : Env) (pos : Pos) (rest : List Expr) (Q : List Value → Led → Prop) : Value → Led → Prop := fun v N => WE C A (spliced (backTo pos (starEach rest env))) (kCons v Q) N Φ
@[reducible] noncomputable def kList (Q : Value → Led → Prop) : List Value → Led → Prop := fun vs N => vs.length ≤ sizeLine ∧ ∀ a, New a N → Q (.ref a) ((a, { cls := .type "list", data := .seq vs.toArray }) :: N)
@[reducible] noncomputable def kTup (Q : Value → Led → Prop) : List Value → Led → Prop := fun vs N => vs.length ≤ sizeLine ∧ ∀ a, New a N → Q (.ref a) ((a, { cls := .type "tuple", data := .seq vs.toArray }) :: N)
@[reducible] noncomputable def kPCall (C : Cx) (A : Around) (Φ : Frs) (f : Value) (first : List Value) (Q : Value → Led → Prop) : List Value → Led → Prop := fun vs N => WE C A (PySem.call f (first ++ vs)) Q N Φ
@[reducible] noncomputable def kCall (C : Cx) (A : Around) (Φ : Frs) (env : Env) (pos : Pos) (args : List Expr) (Q : Value → Led → Prop) : Value → Led → Prop := fun v N => WE C A (callWith pos v [] (backTo pos (starEach args env)) []) Q N Φ
@[reducible] noncomputable def kSeq (C : Cx) (A : Around) (Φ : Frs) (L : Fk) (env : Env) (rest : List Stmt) (Q : Flow → Led → Lo → Prop) : Flow → Led → Lo → Prop := fun f N m => match f with | .next => WS C A (execs rest env) Q N L m Φ | f => Q f N m
@[reducible] noncomputable def kRet (m : Lo) (Q : Flow → Led → Lo → Prop) : Value → Led → Prop := fun v N => Q (.ret v) N m
section expr
variable {A : Around} {env : Env} {L : Fk} {m : Lo}
theorem e_int {i : Int} {k pos} {Q : Value → Led → Prop} (h : ∀ t, Q (.int i t) N) : WE C A (eval (.Constant (.int i) k pos) env) Q N Φ := fun _ _ R => wpAny_Constant_int ⟨N, R.tok _, h _⟩
theorem e_str {x : Str} {k pos} {Q : Value → Led → Prop} (h : ∀ t, Q (.str x t) N) : WE C A (eval (.Constant (.str x) k pos) env) Q N Φ := fun _ _ R => wpAny_Constant_str ⟨N, R.tok _, h _⟩
theorem e_none {k pos} {Q : Value → Led → Prop} (h : Q .none N) : WE C A (eval (.Constant .none k pos) env) Q N Φ := fun _ _ R => wpAny_Constant_none ⟨N, R, h⟩
theorem e_bool {b : Bool} {k pos} {Q : Value → Led → Prop} (h : Q (.bool b) N) : WE C A (eval (.Constant (.bool b) k pos) env) Q N Φ := fun _ _ R => wpAny_Constant_bool ⟨N, R, h⟩
theorem e_local {x : Str} {pos} {v : Value} {cs : List (Str × Addr)} {Q : Value → Led → Prop} (hv : m x = some v) (h : Q v N)
    (hk : env.scope.kind = .function := by rfl) (hl : env.kindOf x = some .local := by rfl) (hc : cs.lookup x = none := by rfl) (hd : (x == ("__debug__" : Str)) = false := by decide) : WE C A (eval (.Name x pos) env) Q N (.fr ⟨env.locals, cs⟩ m :: Φ) := by
  intro s E R
  obtain ⟨⟨ml, hn, he⟩, _⟩ := R.frm (.head _)
  exact wpAny_Name (wpAny_loadName_local hk hl hn ((he x hc).trans hv) ⟨N, R, h⟩) hd
noncomputable def HasCell (C : Cx) (N : Led) (Φ : Frs) (c : Addr) (v : Value) : Prop := ∀ s, Rep C N Φ s → s.heap.IsCell c (some v)
theorem HasCell.top {x : Str} {c : Addr} {v : Value} {k : Fk} (hm : m x = some v) (hc : k.cs.lookup x = some c) : HasCell C N (.fr k m :: Φ) c v := fun s R => by
  have := (R.frm (.head _)).2.1 _ (lookup_mem hc)
  rwa [hm] at this
theorem HasCell.fr {x : Str} {c : Addr} {v : Value} {k : Fk} (hf : .fr k m ∈ Φ) (hm : m x = some v) (hc : k.cs.lookup x = some c) : HasCell C N Φ c v := fun s R => by
  have := (R.frm hf).2.1 _ (lookup_mem hc)
  rwa [hm] at this
theorem e_cell {x : Str} {pos} {c : Addr} {v : Value} {Q : Value → Led → Prop} (hm : HasCell C N Φ c v) (h : Q v N)
    (hc : env.cells.lookup x = some c := by rfl) (hk : env.scope.kind = .function := by rfl) (hl : env.kindOf x = some .cell := by rfl) (hd : (x == ("__debug__" : Str)) = false := by decide) : WE C A (eval (.Name x pos) env) Q N Φ :=
  fun _ _ R => wpAny_Name (wpAny_loadName_cell hk hl hc (hm _ R) ⟨N, R, h⟩) hd
theorem e_free {x : Str} {pos} {c : Addr} {v : Value} {Q : Value → Led → Prop} (hm : HasCell C N Φ c v) (h : Q v N)
    (hc : env.cells.lookup x = some c := by rfl) (hk : env.scope.kind = .function := by rfl) (hl : env.kindOf x = some .free := by rfl) (hd : (x == ("__debug__" : Str)) = false := by decide)
    (hn : (x == ("__classdict__" : Str)) = false := by decide) : WE C A (eval (.Name x pos) env) Q N Φ :=
  fun _ _ R => wpAny_Name (wpAny_loadName_free hk hl hc (hm _ R) ⟨N, R, h⟩ hn) hd
structure Glo (C : Cx) (mg mb : Lo) : Prop where
  g : ∀ h : Heap, (∀ b o, C.g b = some o → h.get? b = some o) → h.Ns mainGlobals mg
  b : ∀ h : Heap, (∀ b o, C.g b = some o → h.get? b = some o) → h.Ns builtinsNs mb
  lim : ∀ h : Heap, (∀ b o, C.g b = some o → h.get? b = some o) → h.NoLimit
variable {mg mb : Lo}
theorem e_glob {x : Str} {pos} {v : Value} {Q : Value → Led → Prop} (G : Glo C mg mb) (hv : mg x = some v) (h : Q v N) (hg : env.globals = mainGlobals := by rfl)
    (hk : env.scope.kind = .function := by rfl) (hx : env.kindOf x = some .globalImplicit := by rfl) (hd : (x == ("__debug__" : Str)) = false := by decide) : WE C A (eval (.Name x pos) env) Q N Φ :=
  fun _ _ R => Name_function_global hk hx (loadGlobal_global (by rw [hg]; exact G.g _ R.stat) hv ⟨N, R, h⟩) hd
theorem e_blt {x : Str} {pos} {v : Value} {Q : Value → Led → Prop} (G : Glo C mg mb) (hm : mg x = none) (hv : mb x = some v) (h : Q v N) (hg : env.globals = mainGlobals := by rfl) (hb : env.builtins = builtinsNs := by rfl)
    (hk : env.scope.kind = .function := by rfl) (hx : env.kindOf x = some .globalImplicit := by rfl) (hd : (x == ("__debug__" : Str)) = false := by decide) : WE C A (eval (.Name x pos) env) Q N Φ :=
  fun _ _ R => Name_function_global hk hx (loadGlobal_builtin (by rw [hg]; exact G.g _ R.stat) hm (by rw [hb]; exact G.b _ R.stat) hv ⟨N, R, h⟩) hd
theorem e_bin {l r : Expr} {op : Operator} {pos} {Q : Value → Led → Prop} (h : WE C A (eval l env) (kBin C A Φ env op r Q) N Φ) :
    WE C A (eval (.BinOp l op r pos) env) Q N Φ := by
  rw [arm_eval_BinOp]
  exact WE.bind (h.mono fun a N₁ h₁ => WE.bind (WE.holding (h₁.mono fun b N₂ h₂ => WE.bind (WE.standAt (WE.operate h₂)))))
theorem e_un {x : Expr} {op : UnaryOp} {pos} {Q : Value → Led → Prop} (h : WE C A (eval x env) (kUn C A Φ op Q) N Φ) : WE C A (eval (.UnaryOp op x pos) env) Q N Φ := by
  rw [arm_eval_UnaryOp]
  exact WE.bind (h.mono fun a N₁ h₁ => WE.bind (WE.standAt (WE.holding h₁)))
theorem e_cmp {l r : Expr} {op : CmpOp} {pos} {Q : Value → Led → Prop} (h : WE C A (eval l env) (kCmp C A Φ env op r Q) N Φ)
    (hb : behindInMarks op r = false := by rfl) : WE C A (eval (.Compare l [op] [r] pos) env) Q N Φ := by
  rw [arm_eval_Compare]
  refine WE.bind (h.mono fun a N₁ h₁ => ?_)
  have e : markedEach [op] [r] (evalEach [r] env) = [eval r env] := by
    simp only [evalEach, markedEach, markedBehindIn_of_false hb]
  rw [e]
  exact WE.bind (WE.holding (h₁.mono fun b N₂ h₂ => WE.bind (WE.standAt (WE.operate h₂))))
theorem a_nil {pos} {Q : List Value → Led → Prop} (h : Q [] N) : WE C A (spliced (backTo pos (starEach [] env))) Q N Φ := WE.pure h
theorem a_cons {pos} {e : Expr} {rest : List Expr} {Q : List Value → Led → Prop} (h : WE C A (eval e env) (kArg C A Φ env pos rest Q) N Φ)
    (he : starEach (e :: rest) env = (false, eval e env) :: starEach rest env := by rfl) : WE C A (spliced (backTo pos (starEach (e :: rest) env))) Q N Φ :=
  fun s E R => wpAny_items_cons (wpAny_mono (h s E R) (fun v s₁ ⟨N₁, R₁, h₁⟩ => wpAny_mono (h₁ s₁ E R₁) (fun vs s₂ ⟨N₂, R₂, h₂⟩ => ⟨N₂, R₂, h₂⟩) fun _ _ x => x) fun _ _ x => x) he
theorem e_list {es : List Expr} {pos} {Q : Value → Led → Prop} (h : WE C A (spliced (backTo pos (starEach es env))) (kList Q) N Φ) :
    WE C A (eval (.List es pos) env) Q N Φ := by
  rw [arm_eval_List]
  exact WE.bind (WE.standAt (WE.bind (h.mono fun vs N₁ h₁ => WE.newList h₁.1 h₁.2)))
theorem e_tuple {es : List Expr} {k pos} {Q : Value → Led → Prop} (h : WE C A (spliced (backTo pos (starEach es env))) (kTup Q) N Φ) :
    WE C A (eval (.Tuple es k pos) env) Q N Φ := by
  rw [arm_eval_Tuple]
  exact WE.bind (WE.standAt (WE.bind (h.mono fun vs N₁ h₁ => WE.newTuple h₁.1 h₁.2)))
theorem evalArgs_we {f : Value} {args : List (Bool × Sem Value)} {Q : Args → Led → Prop} (hs : args.any (·.1) = false) (h : WE C A (spliced args) (fun vs N₁ => Q ⟨vs, []⟩ N₁) N Φ) : WE C A (evalArgs f true args []) Q N Φ := by
  match args, hs, h with
  | [], _, h =>
    intro s E R
    unfold evalArgs
    show wpAny _ _ (spliced [] >>= _) _ _ s
    exact wpAny_bind (wpAny_mono (h s E R) (fun vs s₁ h₁ => wpAny_bind (wpAny_pure (wpAny_holding (wpAny_bind (wpAny_pure (wpAny_bind (wpAny_pure (wpAny_pure h₁)))))))) fun _ _ x => x)
  | (false, x) :: rest, _, h => exact fun s E R => evalArgs_plain (h s E R)
  | (true, x) :: rest, hs, _ => simp at hs
theorem cw_fn {pos} {a : Addr} {o : Obj} {fd : FuncData} {first : List Value} {args : List (Bool × Sem Value)} {Q : Value → Led → Prop} (hs : args.any (·.1) = false) (hd : o.data = .func fd)
    (h : WE C A (spliced args) (fun vs N₁ => Has C N₁ a o ∧ WE C A (call (.ref a) (first ++ vs)) Q N₁ Φ) N Φ) : WE C A (callWith pos (.ref a) first args []) Q N Φ :=
  fun s E R => callWith_function (o := o) (fd := fd) (wpAny_mono (evalArgs_we (Q := fun x N₁ => Has C N₁ a o ∧ x.kw = [] ∧ WE C A (call (.ref a) (first ++ x.pos)) Q N₁ Φ) hs (h.mono fun vs N₁ h₁ => ⟨h₁.1, rfl, h₁.2⟩) s E R)
    (fun x s₁ ⟨N₁, R₁, h1, h2, h3⟩ => ⟨⟨R₁.has h1, hd⟩, by rw [h2]; exact h3 s₁ E R₁⟩) fun _ _ x => x)
theorem cw_blt {pos} {id : String} {first : List Value} {args : List (Bool × Sem Value)} {Q : Value → Led → Prop} (hs : args.any (·.1) = false)
    (h : WE C A (spliced args) (kPCall C A Φ (.builtin id) first Q) N Φ) : WE C A (callWith pos (.builtin id) first args []) Q N Φ :=
  fun s E R => callWith_builtin hs (wpAny_mono (evalArgs_we (Q := fun x N₁ => x.kw = [] ∧ WE C A (call (.builtin id) (first ++ x.pos)) Q N₁ Φ) hs (h.mono fun vs N₁ h₁ => ⟨rfl, h₁⟩) s E R)
    (fun x s₁ ⟨N₁, R₁, h2, h3⟩ => by rw [h2]; exact h3 s₁ E R₁) fun _ _ x => x)
theorem e_call {f : Expr} {args : List Expr} {pos} {Q : Value → Led → Prop} (he : eval (.Call f args [] pos) env = (do callWith pos (← eval f env) [] (backTo pos (starEach args env)) (backToKw pos (keywordEach [] env))) := by rfl)
    (h : WE C A (eval f env) (kCall C A Φ env pos args Q) N Φ) : WE C A (eval (.Call f args [] pos) env) Q N Φ := by
  rw [he]
  exact WE.bind h
end expr
section stmt
variable {A : Around} {env : Env} {L : Fk} {m : Lo}
theorem s_nil {Q : Flow → Led → Lo → Prop} (h : Q .next N m) : WS C A (execs [] env) Q N L m Φ := WS.pure h
theorem s_cons {st : Stmt} {rest : List Stmt} {Q : Flow → Led → Lo → Prop} (h : WS C A (exec st env) (kSeq C A Φ L env rest Q) N L m Φ) :
    WS C A (execs (st :: rest) env) Q N L m Φ := by
  rw [execs_cons]
  refine WS.bind (h.mono fun f N₁ m₁ h₁ => ?_)
  cases f with
  | next => exact h₁
  | brk => exact WS.pure h₁
  | cont => exact WS.pure h₁
  | ret v => exact WS.pure h₁
theorem s_ret {e : Expr} {pos} {Q : Flow → Led → Lo → Prop} (h : WE C A (eval e env) (kRet m Q) N (.fr L m :: Φ)) : WS C A (exec (.Return (some e) pos) env) Q N L m Φ := by
  rw [exec_Return_some]
  exact WS.of_WE (WE.bind (WE.standAt (WE.bind (h.mono fun v N₁ h₁ => WE.pure h₁))))
end stmt
end Mine.Internal
end
section
open PySem PySem.W PyProof.Rows PySem.Calls PySem.Spec
namespace Mine.Internal
variable {C : Cx} {N : Led} {Φ : Frs}
section intops
variable {A : Around} {a b : Int} {t u : Tok}
theorem o_add {Q : Value → Led → Prop} (h : ∀ t, Q (.int (a + b) t) N) : WE C A (binaryOp .Add (.int a t) (.int b u)) Q N Φ := fun _ _ R => add_int ⟨N, R.tok _, h _⟩
theorem o_sub {Q : Value → Led → Prop} (h : ∀ t, Q (.int (a - b) t) N) : WE C A (binaryOp .Sub (.int a t) (.int b u)) Q N Φ := fun _ _ R => sub_int ⟨N, R.tok _, h _⟩
theorem o_mod {Q : Value → Led → Prop} (hb : b ≠ 0) (h : ∀ t, Q (.int (a.fmod b) t) N) : WE C A (binaryOp .Mod (.int a t) (.int b u)) Q N Φ := fun _ _ R => mod_int' hb ⟨N, R.tok _, h _⟩
theorem o_div {Q : Value → Led → Prop} (hb : b ≠ 0) (hg : Builtin.divisionGoesByPylong a b = false) (h : ∀ t, Q (.int (a.fdiv b) t) N) : WE C A (binaryOp .FloorDiv (.int a t) (.int b u)) Q N Φ :=
  fun _ _ R => floordiv_int hb ⟨N, R.tok _, h _⟩ (.inl hg)
theorem o_pow {n : Int} {Q : Value → Led → Prop} (hn : 0 ≤ n) (hsz : (Builtin.Int.intBits a : Int) * n ≤ 2 ^ 27) (h : ∀ t, Q (.int (a ^ n.toNat) t) N) : WE C A (binaryOp .Pow (.int a t) (.int n u)) Q N Φ :=
  fun _ _ R => pow_int hn hsz ⟨N, R.tok _, h _⟩
theorem o_neg {Q : Value → Led → Prop} (h : ∀ t, Q (.int (-a) t) N) : WE C A (unaryOp .USub (.int a t)) Q N Φ := fun _ _ R => neg_int ⟨N, R.tok _, h _⟩
theorem o_lt {Q : Value → Led → Prop} (h : Q (.bool (decide (a < b))) N) : WE C A (compareOp .Lt (.int a t) (.int b u)) Q N Φ := fun _ _ R => lt_int ⟨N, R, h⟩
theorem o_gt {Q : Value → Led → Prop} (h : Q (.bool (decide (b < a))) N) : WE C A (compareOp .Gt (.int a t) (.int b u)) Q N Φ := fun _ _ R => gt_int ⟨N, R, h⟩
theorem o_ge {Q : Value → Led → Prop} (h : Q (.bool (decide (b ≤ a))) N) : WE C A (compareOp .GtE (.int a t) (.int b u)) Q N Φ := fun _ _ R => ge_int ⟨N, R, h⟩
theorem o_eq {Q : Value → Led → Prop} (h : Q (.bool (a == b)) N) : WE C A (compareOp .Eq (.int a t) (.int b u)) Q N Φ := fun _ _ R => eq_int ⟨N, R, h⟩
theorem o_ne {Q : Value → Led → Prop} (h : Q (.bool (a != b)) N) : WE C A (compareOp .NotEq (.int a t) (.int b u)) Q N Φ := fun _ _ R => ne_int ⟨N, R, h⟩
theorem o_subB {p q : Bool} {Q : Value → Led → Prop} (h : ∀ t, Q (.int (b2i p - b2i q) t) N) : WE C A (binaryOp .Sub (.bool p) (.bool q)) Q N Φ := fun _ _ R => sub_bool ⟨N, R.tok _, h _⟩
theorem o_tInt {Q : Bool → Led → Prop} (h : Q (a != 0) N) : WE C A (truthy (.int a t)) Q N Φ := fun _ _ R => truthy_int ⟨N, R, h⟩
theorem o_tBool {p : Bool} {Q : Bool → Led → Prop} (h : Q p N) : WE C A (truthy (.bool p)) Q N Φ := fun _ _ R => wpAny_truthy_bool ⟨N, R, h⟩
end intops
end Mine.Internal
end
section
open PySem PySem.W PyProof.Rows PySem.Calls PySem.Spec PySem.Builtin.List PySem.Builtin
namespace Mine.Internal
variable {C : Cx} {N : Led} {Φ : Frs}
noncomputable abbrev sq (cl : Value) (d : Option Addr) (vs : List Value) (n : Nat) : Obj := { cls := cl, dict := d, data := .seq vs.toArray n }
noncomputable abbrev lst (vs : List Value) (n : Nat) : Obj := sq (.type "list") none vs n
noncomputable abbrev tup (vs : List Value) (n : Nat) : Obj := sq (.type "tuple") none vs n
noncomputable def accA : Addr := 122
structure AccF (C : Cx) : Prop where
  sub : mroIn C.K accA (.type "list") = some true
  iter : findIn C.K (.ref accA) "__iter__" = some (some (.builtin "list.__iter__"))
  getitem : findIn C.K (.ref accA) "__getitem__" = some (some (.builtin "list.__getitem__"))
  setitem : findIn C.K (.ref accA) "__setitem__" = some (some (.builtin "list.__setitem__"))
  len : findIn C.K (.ref accA) "__len__" = some (some (.ref 89))
  boolN : findIn C.K (.ref accA) "__bool__" = some none
  append : findIn C.K (.ref accA) "append" = some (some (.builtin "list.append"))
  remove : findIn C.K (.ref accA) "remove" = some (some (.builtin "list.remove"))
  pop : findIn C.K (.ref accA) "pop" = some (some (.ref 82))
  push : findIn C.K (.ref accA) "push" = some (some (.ref 66))
  reset : findIn C.K (.ref accA) "reset" = some (some (.ref 104))
  part_count : findIn C.K (.ref accA) "part_count" = some (some (.ref 119))
  init : findIn C.K (.ref accA) "__init__" = some (some (.ref 59))
  isize : findIn C.K (.ref accA) "_initial_size" = some none
  gattr : findIn C.K (.ref accA) "__getattribute__" = some (some (.builtin "list.__getattribute__"))
  gattrN : findIn C.K (.ref accA) "__getattr__" = some none
  seqs : seqItemTypes.all (fun n => mroIn C.K accA (.type n) == some false) = true
section codes
variable {A : Around}
noncomputable def FE (C : Cx) (A : Around) (t : Sem PySem.Fin) (Q : Value → Led → Prop) (N : Led) (Φ : Frs) : Prop :=
  ∀ s (R : Result → Shared → Prop), Rep C N Φ s → (∀ v s' N', Rep C N' Φ s' → Q v N' → R (.ok (.ret v)) s') →
    wpAny C.M A.in1 t (fun fin s' => match fin with | .done f => R (.ok f) s' | .again c => c.quiet = true ∧ codeAny C.M A c R s') (fun e s' => R (.error e) s') s
noncomputable def CE (C : Cx) (A : Around) (c : Code) (Q : Value → Led → Prop) (N : Led) (Φ : Frs) : Prop :=
  ∀ s (R : Result → Shared → Prop), Rep C N Φ s → (∀ v s' N', Rep C N' Φ s' → Q v N' → R (.ok (.ret v)) s') → codeAny C.M A c R s
theorem FE.ret {v : Value} {Q : Value → Led → Prop} (q : Q v N) : FE C A (ret v) Q N Φ := fun s R r k => wpAny_pure (k v s N r q)
theorem FE.retInt {i : Int} {Q : Value → Led → Prop} (q : ∀ t, Q (.int i t) N) : FE C A (retInt i) Q N Φ := fun s R r k => wpAny_bind (wpAny_mkInt (wpAny_pure (k _ _ N (r.tok _) (q _))))
theorem FE.bind {α : Type} {t : Sem α} {f : α → Sem PySem.Fin} {Q : Value → Led → Prop} (h : WE C A.in1 t (fun v N' => FE C A (f v) Q N' Φ) N Φ) : FE C A (t >>= f) Q N Φ :=
  fun s R r k => wpAny_bind (h.use r fun v s' N' r' q => q s' R r' k)
theorem FE.again {c : Code} {Q : Value → Led → Prop} (hq : c.quiet = true) (h : CE C A c Q N Φ) : FE C A (again c) Q N Φ := fun s R r k => wpAny_pure ⟨hq, h s R r k⟩
theorem FE.mono {t : Sem PySem.Fin} {Q Q' : Value → Led → Prop} (h : FE C A t Q N Φ) (k : ∀ v N', Q v N' → Q' v N') : FE C A t Q' N Φ := fun s R r k' => h s R r fun v s' N' r' q => k' v s' N' r' (k v N' q)
theorem CE.builtin {id : String} {args : Args} {b : Builtin} {Q : Value → Led → Prop} (hp : plainId id = true) (hb : entryFor table id = some b) (h : FE C A (b args) Q N Φ) : CE C A (.builtin id args) Q N Φ :=
  fun s R r k => codeAny_builtin hb (by rw [Around.under_plainId hp args]; exact h s R r k)
theorem WE.call {f : Value} {vs : List Value} {Q : Value → Led → Prop} (h : CE C A (.call f ⟨vs, []⟩) Q N Φ) : WE C A (call f vs) Q N Φ :=
  fun s E r => wpAny_call (h s _ r fun v s' N' r' q => ⟨N', r', q⟩)
theorem CE.callB {id : String} {args : Args} {b : Builtin} {Q : Value → Led → Prop} (hp : plainId id = true) (hb : entryFor table id = some b)
    (hc : WE C A.in1 (checkBuiltinCall id args) (fun _ N' => N' = N) N Φ) (h : FE C A (b args) Q N Φ) : CE C A (.call (.builtin id) args) Q N Φ :=
  fun s R r k => codeAny_call_builtin hp hb (hc.use r fun _ s' N' r' e => by subst e; exact h s' R r' k)
theorem args_some {id : String} {args : Args} {sig} (h : Manifest.signature? id = some sig) (ha : argsOk id args) : Bind.checkArgs id sig args = Pure.pure () := by
  have e : ∀ o, o = some sig → (match o with | some sig => Bind.checkArgs id sig args | none => Pure.pure ()) = Pure.pure () → Bind.checkArgs id sig args = Pure.pure () := fun o h ha => by subst h; exact ha
  exact e _ h ha
theorem WE.callFn {id : String} {b : Builtin} {args : List Value} {Q : Value → Led → Prop} (hk : builtinKind id = none) (hp : plainId id = true) (hb : entryFor table id = some b) (ha : argsOk id ⟨args, []⟩)
    (h : FE C A (b ⟨args, []⟩) Q N Φ) : WE C A (PySem.call (.builtin id) args) Q N Φ := by
  refine WE.call (CE.callB hp hb ?_ h)
  unfold checkBuiltinCall
  rw [hk]
  cases hsig : Manifest.signature? id with
  | none => exact WE.pure rfl
  | some sig => exact WE.of_eq (args_some hsig ha) (WE.pure rfl)
end codes
section types
variable {A : Around}
noncomputable def LsC (cl : Value) : Prop := cl = .type "list" ∨ cl = .ref accA
theorem WE.typeOf {a : Addr} {o : Obj} {Q : Value → Led → Prop} (h : Has C N a o) (q : Q o.cls N) : WE C A (typeOf (.ref a)) Q N Φ := WE.bind (WE.loadPart h (WE.pure q))
theorem WE.looks {α : Type} {t : Sem α} {r : α} {Q : α → Led → Prop} (h : ∀ s, Rep C N Φ s → Looks C.M s.heap t r) (q : Q r N) : WE C A t Q N Φ := fun s E R => (h s R).here ⟨N, R, q⟩
theorem WE.find {t : Value} {name : Str} {r : Option Value} {Q : Option Value → Led → Prop} (e : findIn C.K t name = some r) (q : Q r N) : WE C A (typeLookup t name) Q N Φ := WE.looks (fun s R => looks_findIn R.inK e) q
theorem isSub_list_list : isSubtype (.type "list") (.type "list") = pure true := by rw [isSubtype_type]; kernel_rfl
theorem WE.isInstL {a : Addr} {cl : Value} {d : Option Addr} {vs : List Value} {n : Nat} {Q : Bool → Led → Prop} (F : AccF C) (hc : LsC cl) (h : Has C N a (sq cl d vs n)) (q : Q true N) : WE C A (isInstance (.ref a) (.type "list")) Q N Φ := by
  unfold isInstance
  refine WE.bind (WE.typeOf h ?_)
  rcases hc with rfl | rfl
  · exact WE.of_eq isSub_list_list (WE.pure q)
  · exact WE.looks (fun s R => looks_mroIn R.inK F.sub) q
structure LSlot (name : Str) (id : String) (b : Builtin) : Prop where
  lookup : typeLookup (.type "list") name = pure (some (.builtin id))
  kind : builtinKind id = some .slot ∨ builtinKind id = some .method
  split : ∃ n, splitId id = some ("list", n)
  bind : ∀ self, bindSpecial (.builtin id) self = pure (.builtin id, [self])
  plain : plainId id = true
  entry : entryFor table id = some b
theorem LSlot.check {name : Str} {id : String} {b : Builtin} (S : LSlot name id b) {a : Addr} {cl : Value} {d : Option Addr} {vs : List Value} {n : Nat} {rest : List Value} {kw : List (Str × Value)} {Q : Unit → Led → Prop}
    (F : AccF C) (hc : LsC cl) (h : Has C N a (sq cl d vs n)) (ha : argsOk id ⟨.ref a :: rest, kw⟩) (q : Q () N) : WE C A (checkBuiltinCall id ⟨.ref a :: rest, kw⟩) Q N Φ := by
  obtain ⟨nm, hs⟩ := S.split
  rcases S.kind with hk | hk <;>
  · unfold checkBuiltinCall
    rw [hk, hs]
    refine WE.bind (WE.isInstL F hc h ?_)
    refine WE.of_eq (if_neg (by decide)) ?_
    cases hsig : Manifest.signature? id with
    | none => exact WE.pure q
    | some sig => exact WE.of_eq (args_some hsig ha) (WE.pure q)
theorem LSlot.call {name : Str} {id : String} {b : Builtin} (S : LSlot name id b) {a : Addr} {cl : Value} {d : Option Addr} {vs : List Value} {n : Nat} {rest : List Value} {Q : Value → Led → Prop}
    (F : AccF C) (hc : LsC cl) (h : Has C N a (sq cl d vs n)) (ha : argsOk id ⟨.ref a :: rest, []⟩) (k : FE C A (b ⟨.ref a :: rest, []⟩) Q N Φ) : WE C A (PySem.call (.builtin id) (.ref a :: rest)) Q N Φ :=
  WE.call (CE.callB S.plain S.entry (S.check F hc h ha rfl) k)
end types
section items
variable {A : Around}
theorem WE.listItems {a : Addr} {cl : Value} {d : Option Addr} {vs : List Value} {n : Nat} {Q : Array Value → Led → Prop} (h : Has C N a (sq cl d vs n)) (q : Q vs.toArray N) : WE C A (listItems (.ref a)) Q N Φ :=
  WE.bind (WE.bind (WE.load h (WE.pure (WE.pure q))))
theorem WE.listUpdate {a : Addr} {cl : Value} {d : Option Addr} {vs ws : List Value} {n : Nat} {f : Array Value → Array Value} {Q : Unit → Led → Prop} (h : (a, sq cl d vs n) ∈ N) (hf : f vs.toArray = ws.toArray) (hs : ws.length ≤ sizeLine + 1)
    (q : ∀ k, Q () (updL N a (sq cl d ws k))) : WE C A (listUpdate (.ref a) f) Q N Φ := by
  have e : Obj.mapSeq f (sq cl d vs n) = sq cl d ws (if ws.toArray.size == vs.toArray.size then n else n + 1) := by
    show (⟨cl, d, .seq (f vs.toArray) (if (f vs.toArray).size == vs.toArray.size then n else n + 1), #[]⟩ : Obj) = _
    rw [hf]
  show WE C A (updateSeq a f) Q N Φ
  unfold updateSeq
  refine WE.bind (WE.load (.led h) ?_)
  refine WE.bind (WE.update h (fun _ hd => by cases hd) (by rw [e]; rfl) ?_)
  rw [e]
  unfold lookBehind
  refine WE.bind (WE.loadPart (.led (updL_self ..)) ?_)
  have hp : (sq cl d ws (if ws.toArray.size == vs.toArray.size then n else n + 1)).data.pastItsLine = none := by
    have : ¬ (ws.length > sizeLine + 1) := by lia
    exact if_neg (by rw [List.size_toArray]; exact this)
  rw [hp]
  exact WE.pure (q _)
end items
theorem sl_append : LSlot "append" "list.append" Builtin.«list.append» := ⟨PySem.F.slot_list_append.lookup, by first | exact .inl (by decide +kernel) | exact .inr (by decide +kernel), ⟨"append", by decide +kernel⟩, PySem.F.slot_list_append.bind, PySem.F.slot_list_append.plain, PySem.F.entry_list_append⟩
theorem sl_remove : LSlot "remove" "list.remove" Builtin.«list.remove» := ⟨PySem.F.slot_list_remove.lookup, by first | exact .inl (by decide +kernel) | exact .inr (by decide +kernel), ⟨"remove", by decide +kernel⟩, PySem.F.slot_list_remove.bind, PySem.F.slot_list_remove.plain, PySem.F.entry_list_remove⟩
theorem sl_pop : LSlot "pop" "list.pop" Builtin.«list.pop» := ⟨PySem.F.slot_list_pop.lookup, by first | exact .inl (by decide +kernel) | exact .inr (by decide +kernel), ⟨"pop", by decide +kernel⟩, PySem.F.slot_list_pop.bind, PySem.F.slot_list_pop.plain, PySem.F.entry_list_pop⟩
theorem sl_count : LSlot "count" "list.count" Builtin.«list.count» := ⟨PySem.F.slot_list_count.lookup, by first | exact .inl (by decide +kernel) | exact .inr (by decide +kernel), ⟨"count", by decide +kernel⟩, PySem.F.slot_list_count.bind, PySem.F.slot_list_count.plain, PySem.F.entry_list_count⟩
theorem sl_extend : LSlot "extend" "list.extend" Builtin.«list.extend» := ⟨PySem.F.slot_list_extend.lookup, by first | exact .inl (by decide +kernel) | exact .inr (by decide +kernel), ⟨"extend", by decide +kernel⟩, PySem.F.slot_list_extend.bind, PySem.F.slot_list_extend.plain, PySem.F.entry_list_extend⟩
theorem sl_getitem : LSlot "__getitem__" "list.__getitem__" Builtin.«list.__getitem__» := ⟨PySem.F.slot_list_getitem.lookup, by first | exact .inl (by decide +kernel) | exact .inr (by decide +kernel), ⟨"__getitem__", by decide +kernel⟩, PySem.F.slot_list_getitem.bind, PySem.F.slot_list_getitem.plain, PySem.F.entry_list_getitem⟩
theorem sl_setitem : LSlot "__setitem__" "list.__setitem__" Builtin.«list.__setitem__» := ⟨PySem.F.slot_list_setitem.lookup, by first | exact .inl (by decide +kernel) | exact .inr (by decide +kernel), ⟨"__setitem__", by decide +kernel⟩, PySem.F.slot_list_setitem.bind, PySem.F.slot_list_setitem.plain, PySem.F.entry_list_setitem⟩
theorem sl_iter : LSlot "__iter__" "list.__iter__" Builtin.«list.__iter__» := ⟨PySem.F.slot_list_iter.lookup, by first | exact .inl (by decide +kernel) | exact .inr (by decide +kernel), ⟨"__iter__", by decide +kernel⟩, PySem.F.slot_list_iter.bind, PySem.F.slot_list_iter.plain, PySem.F.entry_list_iter⟩
theorem sl_len : LSlot "__len__" "list.__len__" Builtin.«list.__len__» := ⟨PySem.F.slot_list_len.lookup, by first | exact .inl (by decide +kernel) | exact .inr (by decide +kernel), ⟨"__len__", by decide +kernel⟩, PySem.F.slot_list_len.bind, PySem.F.slot_list_len.plain, PySem.F.entry_list_len⟩
theorem sl_init : LSlot "__init__" "list.__init__" Builtin.«list.__init__» := ⟨PySem.F.slot_list_init.lookup, by first | exact .inl (by decide +kernel) | exact .inr (by decide +kernel), ⟨"__init__", by decide +kernel⟩, PySem.F.slot_list_init.bind, PySem.F.slot_list_init.plain, PySem.F.entry_list_init⟩
end Mine.Internal
end
section
open PySem PySem.W PyProof.Rows PySem.Calls PySem.Spec PySem.Builtin.List PySem.Builtin
namespace Mine.Internal
variable {C : Cx} {N : Led} {Φ : Frs} {A : Around}
section special
variable {a : Addr} {cl : Value} {d : Option Addr} {vs : List Value} {n : Nat} {name : Str} {id : String} {b : Builtin}
theorem WE.specialL {Q : Option Value → Led → Prop} (S : LSlot name id b) (hf : findIn C.K (.ref accA) name = some (some (.builtin id))) (hc : LsC cl) (h : Has C N a (sq cl d vs n)) (q : Q (some (.builtin id)) N) :
    WE C A (specialOf (.ref a) name) Q N Φ := by
  unfold specialOf
  refine WE.bind (WE.typeOf h ?_)
  rcases hc with rfl | rfl
  · exact WE.of_eq S.lookup (WE.pure q)
  · exact WE.find hf q
theorem WE.callSpecialL {rest : List Value} {Q : Option Value → Led → Prop} (S : LSlot name id b) (hf : findIn C.K (.ref accA) name = some (some (.builtin id))) (hc : LsC cl) (h : Has C N a (sq cl d vs n))
    (k : WE C A (PySem.call (.builtin id) (.ref a :: rest)) (fun v N' => Q (some v) N') N Φ) : WE C A (callSpecial? (.ref a) name rest) Q N Φ := by
  unfold callSpecial?
  refine WE.bind (WE.specialL S hf hc h ?_)
  dsimp only
  refine WE.holding ?_
  rw [S.bind]
  refine WE.bind (WE.pure ?_)
  exact WE.bind (k.mono fun v N' q => WE.pure q)
theorem WE.seqKey {k : Value} {nm : Str} {Q : Value → Led → Prop} (F : AccF C) (hc : LsC cl) (h : Has C N a (sq cl d vs n)) (q : Q k N) : WE C A (sequenceKey (.ref a) k nm) Q N Φ := by
  unfold sequenceKey
  refine WE.bind (WE.typeOf h ?_)
  rcases hc with rfl | rfl
  · dsimp only
    rw [if_pos (by decide +kernel)]
    exact WE.pure q
  · dsimp only
    have e := F.seqs
    simp only [seqItemTypes, List.all_cons, List.all_nil, Bool.and_true, beq_iff_eq] at e
    show WE C A ((seqItemTypes.anyM fun n => isSubtype (.ref accA) (.type n)) >>= _) _ _ _
    show WE C A ((isSubtype (.ref accA) (.type "collections.deque") >>= _) >>= _) _ _ _
    refine WE.bind (WE.bind (WE.looks (fun s R => looks_mroIn R.inK e) ?_))
    exact WE.pure (WE.pure q)
theorem getItem_L {k : Value} {Q : Value → Led → Prop} (F : AccF C) (hc : LsC cl) (h : Has C N a (sq cl d vs n))
    (q : FE C A (Builtin.«list.__getitem__» ⟨[.ref a, k], []⟩) Q N Φ) (ha : argsOk "list.__getitem__" ⟨[.ref a, k], []⟩ := PySem.args_list_getitem _ _) : WE C A (getItem (.ref a) k) Q N Φ := by
  unfold getItem
  refine WE.holding (WE.bind (WE.seqKey F hc h ?_))
  refine WE.bind (WE.callSpecialL sl_getitem F.getitem hc h (sl_getitem.call F hc h ha (q.mono fun v N' z => ?_)))
  exact WE.pure z
theorem getItem_int {k : Int} {t : Tok} {x : Value} {Q : Value → Led → Prop} (F : AccF C) (hc : LsC cl) (h : Has C N a (sq cl d vs n)) (h0 : 0 ≤ k) (hx : vs[k.toNat]? = some x) (hs : vs.length ≤ sizeLine) (q : Q x N) :
    WE C A (getItem (.ref a) (.int k t)) Q N Φ := by
  have hlt : k.toNat < vs.length := (List.getElem?_eq_some_iff.mp hx).1
  refine getItem_L F hc h ?_
  unfold Builtin.«list.__getitem__»
  show FE C A (listSubscript? (.int k t) >>= _) _ _ _
  refine FE.bind ?_
  have hfit : -(2 ^ 63 : Int) ≤ k ∧ k < 2 ^ 63 := by rw [sizeLine_eq] at hs; lia
  refine WE.still (v := some k) (fun s K' E R q' => wpAny_listSubscript_int (fitsIndex_of h0 hfit.2) (q' s.toks)) ?_
  obtain ⟨j, rfl⟩ := Int.eq_ofNat_of_zero_le h0
  have hx' : vs[j]? = some x := hx
  show FE C A ((seqItemAt a j >>= fun r => Pure.pure (r.map (j, ·))) >>= _) _ _ _
  refine FE.bind (WE.bind (WE.bind (WE.loadPart h (WE.pure ?_))))
  show WE C A.in1 (Pure.pure ((vs.toArray[j]?).map (j, ·))) _ _ _
  refine WE.pure ?_
  rw [List.getElem?_toArray, hx']
  exact FE.ret q
noncomputable abbrev slc (l u st : Value) : Obj := { cls := .type "slice", data := .fields #[l, u, st] }
theorem WE.listPart {v : Value} {k : Option Int} {Q : Value → Led → Prop} (hv : IsPart v k) (q : Q (rawPart k) N) : WE C A (listPart v) Q N Φ := fun _ _ R => wpAny_listPart hv ⟨N, R, q⟩
theorem WE.field {x : Addr} {o : Obj} {fs : Array Value} {i : Nat} {v : Value} {Q : Value → Led → Prop} (h : Has C N x o) (hd : o.data = .fields fs) (hv : fs[i]? = some v) (q : Q v N) : WE C A (field (.ref x) i) Q N Φ :=
  fun s E R => wpAny_field (R.has h) hd hv ⟨N, R, q⟩
theorem getItem_slice {sl : Addr} {vl vu vst : Value} {lo hi st : Option Int} {ws : List Value} {Q : Value → Led → Prop} (F : AccF C) (hc : LsC cl) (h : Has C N a (sq cl d vs n)) (hsl : Has C N sl (slc vl vu vst))
    (pl : IsPart vl lo) (pu : IsPart vu hi) (ps : IsPart vst st) (h0 : st ≠ some 0) (hs : vs.length ≤ sizeLine) (hw : slicePick vs.toArray lo hi st = ws.toArray)
    (q : ∀ r, New r N → Q (.ref r) ((r, lst ws 0) :: N)) : WE C A (getItem (.ref a) (.ref sl)) Q N Φ := by
  refine getItem_L F hc h ?_
  unfold Builtin.«list.__getitem__»
  show FE C A (listSubscript? (.ref sl) >>= _) _ _ _
  refine FE.bind ?_
  unfold listSubscript?
  refine WE.bind (WE.bind (WE.typeOf hsl (WE.of_eq slice_no_index (WE.pure ?_))))
  refine WE.of_eq (if_pos rfl) (WE.pure ?_)
  show FE C A (typeOf (.ref sl) >>= _) _ _ _
  refine FE.bind (WE.typeOf hsl ?_)
  rw [if_neg (show ¬ ((Value.type "slice" != Value.type "slice") = true) from by decide)]
  rw [listSliceParts_eq]
  have hstep : ¬ ((rawPart st == rawInt 0) = true) := by
    cases st with
    | none => exact Bool.false_ne_true
    | some c =>
      intro hh
      have : c = 0 := by simpa [rawPart, rawInt] using hh
      exact h0 (by rw [this])
  refine FE.bind (WE.bind (WE.field hsl rfl (v := vst) rfl (WE.bind (WE.listPart ps ?_))))
  rw [if_neg hstep]
  refine WE.bind (WE.field hsl rfl (v := vl) rfl (WE.bind (WE.listPart pl ?_)))
  refine WE.bind (WE.field hsl rfl (v := vu) rfl (WE.bind (WE.listPart pu (WE.pure ?_))))
  refine FE.bind (WE.listItems h ?_)
  refine FE.bind (WE.of_eq (sliceIndices_raw lo hi st vs.toArray.size h0) (WE.pure ?_))
  refine FE.bind (WE.newObj ?_ rfl fun r hr => FE.ret ?_)
  · exact Nat.le_trans (slicePick_size_le vs.toArray lo hi st) (by rw [List.size_toArray]; exact hs)
  · show Q (.ref r) ((r, { cls := .type "list", data := .seq (slicePick vs.toArray lo hi st) }) :: N)
    rw [hw]
    exact q r hr
end special
end Mine.Internal
end
section
open PySem PySem.W PyProof.Rows PySem.Calls PySem.Spec PySem.Builtin.List PySem.Builtin
namespace Mine.Internal
variable {C : Cx} {N : Led} {Φ : Frs} {A : Around} {env : Env}
noncomputable def subT (value slice : Expr) (o i : Value) : Sem Value := do
  let r ← subscripted slice (← getitemInPython o) o i
  letTemporaryGo value o r
  pure r
@[reducible] noncomputable def kSub2 (C : Cx) (A : Around) (Φ : Frs) (value slice : Expr) (o : Value) (Q : Value → Led → Prop) : Value → Led → Prop := fun i N => WE C A (subT value slice o i) Q N Φ
@[reducible] noncomputable def kSub (C : Cx) (A : Around) (Φ : Frs) (env : Env) (value slice : Expr) (Q : Value → Led → Prop) : Value → Led → Prop := fun o N => WE C A (eval slice env) (kSub2 C A Φ value slice o Q) N Φ
@[reducible] noncomputable def kSl3 (vl vu : Value) (Q : Value → Led → Prop) : Value → Led → Prop := fun vs N => ∀ r, New r N → Q (.ref r) ((r, slc vl vu vs) :: N)
@[reducible] noncomputable def kSl2 (C : Cx) (A : Around) (Φ : Frs) (env : Env) (st : Option Expr) (vl : Value) (Q : Value → Led → Prop) : Value → Led → Prop := fun vu N => WE C A (valueOrNone (evalOpt st env)) (kSl3 vl vu Q) N Φ
@[reducible] noncomputable def kSl1 (C : Cx) (A : Around) (Φ : Frs) (env : Env) (u st : Option Expr) (Q : Value → Led → Prop) : Value → Led → Prop := fun vl N => WE C A (valueOrNone (evalOpt u env)) (kSl2 C A Φ env st vl Q) N Φ
theorem e_sub {value slice : Expr} {pos} {Q : Value → Led → Prop} (h : WE C A (eval value env) (kSub C A Φ env value slice Q) N Φ) :
    WE C A (eval (.Subscript value slice pos) env) Q N Φ := by
  rw [arm_eval_Subscript]
  exact WE.bind (h.mono fun o N₁ h₁ => WE.bind (WE.holding (h₁.mono fun i N₂ h₂ => WE.bind (WE.standAt h₂))))
theorem e_part0 {Q : Value → Led → Prop} (q : Q .none N) : WE C A (valueOrNone (evalOpt none env)) Q N Φ := WE.pure q
theorem e_part1 {e : Expr} {Q : Value → Led → Prop} (h : WE C A (eval e env) Q N Φ) : WE C A (valueOrNone (evalOpt (some e) env)) Q N Φ := h
theorem e_slice {l u st : Option Expr} {pos} {Q : Value → Led → Prop}
    (h : WE C A (valueOrNone (evalOpt l env)) (kSl1 C A Φ env u st Q) N Φ) :
    WE C A (eval (.Slice l u st pos) env) Q N Φ := by
  rw [arm_eval_Slice]
  exact WE.bind (h.mono fun vl N₁ h₁ => WE.bind (WE.holding (h₁.mono fun vu N₂ h₂ => WE.bind (WE.holding (h₂.mono fun vs N₃ h₃ => WE.newObj (by size_fits) rfl h₃)))))
section seq
variable {a : Addr} {cl : Value} {d : Option Addr} {vs : List Value} {n : Nat}
theorem WE.inPy {Q : Bool → Led → Prop} (F : AccF C) (hc : LsC cl) (h : Has C N a (sq cl d vs n)) (q : Q false N) : WE C A (getitemInPython (.ref a)) Q N Φ := by
  unfold getitemInPython
  refine WE.bind (WE.specialL sl_getitem F.getitem hc h ?_)
  exact WE.pure q
theorem subscr (slice : Expr) (o i : Value) : subscripted slice false o i = operate [i, o] (getItem o i) ∨ subscripted slice false o i = operate [o, i] (getItem o i) := by
  cases slice
  case Slice l u st p =>
    cases st
    · exact .inl rfl
    · exact .inr rfl
  all_goals exact .inr rfl
theorem subT_L {value slice : Expr} {i : Value} {Q : Value → Led → Prop} (F : AccF C) (hc : LsC cl) (h : Has C N a (sq cl d vs n)) (q : WE C A (getItem (.ref a) i) Q N Φ) : WE C A (subT value slice (.ref a) i) Q N Φ := by
  unfold subT
  refine WE.bind (WE.inPy F hc h ?_)
  refine WE.bind ?_
  rcases subscr slice (.ref a) i with e | e <;> rw [e] <;> exact WE.operate (q.mono fun v N' z => WE.bind (WE.letGo (WE.pure z)))
theorem subT_int {value slice : Expr} {k : Int} {t : Tok} {x : Value} {Q : Value → Led → Prop} (F : AccF C) (hc : LsC cl) (h : Has C N a (sq cl d vs n)) (h0 : 0 ≤ k) (hx : vs[k.toNat]? = some x) (hs : vs.length ≤ sizeLine) (q : Q x N) :
    WE C A (subT value slice (.ref a) (.int k t)) Q N Φ := subT_L F hc h (getItem_int F hc h h0 hx hs q)
theorem subT_slice {value slice : Expr} {sl : Addr} {vl vu vst : Value} {lo hi st : Option Int} {ws : List Value} {Q : Value → Led → Prop} (F : AccF C) (hc : LsC cl) (h : Has C N a (sq cl d vs n)) (hsl : Has C N sl (slc vl vu vst))
    (pl : IsPart vl lo) (pu : IsPart vu hi) (ps : IsPart vst st) (h0 : st ≠ some 0) (hs : vs.length ≤ sizeLine) (hw : slicePick vs.toArray lo hi st = ws.toArray)
    (q : ∀ r, New r N → Q (.ref r) ((r, lst ws 0) :: N)) : WE C A (subT value slice (.ref a) (.ref sl)) Q N Φ := subT_L F hc h (getItem_slice F hc h hsl pl pu ps h0 hs hw q)
theorem pick_upto {vs : List Value} (b : Nat) : slicePick vs.toArray none (some (b : Int)) none = (vs.take b).toArray := by rw [slicePick_upto']
theorem pick_from {vs : List Value} (b : Nat) : slicePick vs.toArray (some (b : Int)) none none = (vs.drop b).toArray := by rw [slicePick_from']
theorem pick_all {vs : List Value} : slicePick vs.toArray none none none = vs.toArray := slicePick_all _
theorem pick_rev {vs : List Value} : slicePick vs.toArray none none (some (-1)) = vs.reverse.toArray := krv_pick _
end seq
section meths
variable {a : Addr} {cl : Value} {d : Option Addr} {vs : List Value} {n : Nat}
theorem m_append {v : Value} {Q : Value → Led → Prop} (F : AccF C) (hc : LsC cl) (h : (a, sq cl d vs n) ∈ N) (hs : vs.length ≤ sizeLine) (q : ∀ k, Q .none (updL N a (sq cl d (vs ++ [v]) k))) :
    WE C A (PySem.call (.builtin "list.append") [.ref a, v]) Q N Φ := by
  refine sl_append.call F hc (.led h) (PySem.F.args_list_append_2 _ _) ?_
  show FE C A (PySem.Builtin.List.listUpdate (.ref a) (·.push v) >>= fun _ => ret .none) _ _ _
  exact FE.bind (WE.listUpdate (ws := vs ++ [v]) h (by simp) (by simp; lia) fun k => FE.ret (q k))
theorem m_extend {b : Addr} {cl' : Value} {d' : Option Addr} {ws : List Value} {n' : Nat} {Q : Value → Led → Prop} (F : AccF C) (hc : LsC cl) (h : (a, sq cl d vs n) ∈ N) (hb : Has C N b (sq (.type "list") d' ws n')) (hs : vs.length + ws.length ≤ sizeLine)
    (q : ∀ k, Q .none (updL N a (sq cl d (vs ++ ws) k))) : WE C A (PySem.call (.builtin "list.extend") [.ref a, .ref b]) Q N Φ := by
  refine sl_extend.call F hc (.led h) (PySem.F.args_list_extend_2 _ _) ?_
  show FE C A (listExtendWith (.ref a) (.ref b) .none) _ _ _
  unfold listExtendWith
  refine FE.bind (WE.typeOf hb ?_)
  rw [if_pos (by simp)]
  refine FE.bind (WE.listItems hb (FE.bind (WE.listItems (.led h) ?_)))
  have hl : listTooLong (vs.toArray.size + ws.toArray.size) = false := by simp [listTooLong]; lia
  simp only [hl, Bool.and_false, Bool.false_eq_true, if_false]
  refine FE.bind (WE.listUpdate (ws := vs ++ ws) h (by simp) (by simp; lia) fun k => FE.ret (q k))
end meths
end Mine.Internal
end
section
open PySem PySem.W PyProof.Rows PySem.Calls PySem.Spec PySem.Builtin.List PySem.Builtin
namespace Mine.Internal
variable {C : Cx} {N N' : Led} {Φ : Frs} {A : Around}
noncomputable abbrev Pc := Bool × Bool
noncomputable def S1 (p : Pc) : Str := if p.1 then " " else ""
noncomputable def S2 (p : Pc) : Str := if p.2 then "a" else ""
noncomputable def pcD (p : Pc) : PyData := .tuple [.str (S1 p), .str (S2 p)]
noncomputable def sg (p : Pc) : Nat := (if p.1 then 1 else 0) + (if p.2 then 1 else 0)
noncomputable def IsPc (N : Led) (v : Value) (p : Pc) : Prop := ∃ a n t u, v = .ref a ∧ (a, tup [.str (S1 p) t, .str (S2 p) u] n) ∈ N
theorem IsPc.mono {v : Value} {p : Pc} (h : IsPc N v p) (e : Ext N N') : IsPc N' v p := let ⟨a, n, t, u, x, y⟩ := h; ⟨a, n, t, u, x, e _ y⟩
noncomputable def All2 {α : Type} (F : Value → α → Prop) : List Value → List α → Prop
  | [], [] => True
  | v :: vs, p :: ps => F v p ∧ All2 F vs ps
  | _, _ => False
section all2
variable {α : Type} {F G : Value → α → Prop}
theorem All2.length : ∀ {vs : List Value} {ps : List α}, All2 F vs ps → vs.length = ps.length
  | [], [], _ => rfl
  | _ :: _, _ :: _, h => congrArg (· + 1) (All2.length h.2)
theorem All2.imp (k : ∀ v p, F v p → G v p) : ∀ {vs : List Value} {ps : List α}, All2 F vs ps → All2 G vs ps
  | [], [], _ => trivial
  | _ :: _, _ :: _, h => ⟨k _ _ h.1, All2.imp k h.2⟩
theorem All2.append : ∀ {vs ws : List Value} {ps qs : List α}, All2 F vs ps → All2 F ws qs → All2 F (vs ++ ws) (ps ++ qs)
  | [], _, [], _, _, h => h
  | _ :: _, _, _ :: _, _, h, k => ⟨h.1, All2.append h.2 k⟩
theorem All2.get : ∀ {vs : List Value} {ps : List α} {i : Nat} {p : α}, All2 F vs ps → ps[i]? = some p → ∃ v, vs[i]? = some v ∧ F v p
  | v :: _, _ :: _, 0, p, h, e => by simp at e; subst e; exact ⟨v, rfl, h.1⟩
  | _ :: vs, _ :: ps, i + 1, p, h, e => by
    have := All2.get (vs := vs) (ps := ps) (i := i) h.2 (by simpa using e)
    simpa using this
  | [], [], i, p, _, e => by simp at e
theorem All2.get' : ∀ {vs : List Value} {ps : List α} {i : Nat} {v : Value}, All2 F vs ps → vs[i]? = some v → ∃ p, ps[i]? = some p ∧ F v p
  | _ :: _, p :: _, 0, v, h, e => by simp at e; subst e; exact ⟨p, rfl, h.1⟩
  | _ :: vs, _ :: ps, i + 1, v, h, e => by
    have := All2.get' (vs := vs) (ps := ps) (i := i) h.2 (by simpa using e)
    simpa using this
  | [], [], i, v, _, e => by simp at e
theorem All2.take : ∀ {vs : List Value} {ps : List α} (k : Nat), All2 F vs ps → All2 F (vs.take k) (ps.take k)
  | [], [], k, _ => by simp; trivial
  | _ :: _, _ :: _, 0, _ => trivial
  | _ :: _, _ :: _, k + 1, h => ⟨h.1, All2.take k h.2⟩
theorem All2.drop : ∀ {vs : List Value} {ps : List α} (k : Nat), All2 F vs ps → All2 F (vs.drop k) (ps.drop k)
  | [], [], k, _ => by simp; trivial
  | _ :: _, _ :: _, 0, h => h
  | _ :: _, _ :: _, k + 1, h => All2.drop k h.2
theorem All2.reverse {vs : List Value} {ps : List α} (h : All2 F vs ps) : All2 F vs.reverse ps.reverse := by
  induction vs generalizing ps with
  | nil => cases ps with
    | nil => trivial
    | cons => exact h.elim
  | cons v vs ih => cases ps with
    | nil => exact h.elim
    | cons p ps =>
      rw [List.reverse_cons, List.reverse_cons]
      exact (ih h.2).append ⟨h.1, trivial⟩
theorem All2.snoc {vs : List Value} {ps : List α} {p : α} (h : All2 F vs (ps ++ [p])) : ∃ ws v, vs = ws ++ [v] ∧ All2 F ws ps ∧ F v p := by
  induction ps generalizing vs with
  | nil => cases vs with
    | nil => exact h.elim
    | cons v vs => cases vs with
      | nil => exact ⟨[], v, rfl, trivial, h.1⟩
      | cons => exact h.2.elim
  | cons q ps ih => cases vs with
    | nil => exact h.elim
    | cons v vs =>
      refine Classical.byContradiction fun hn => ?_
      obtain ⟨ws, w, e, h1, h2⟩ := ih h.2
      refine hn ?_
      clear hn
      exact ⟨v :: ws, w, by rw [e]; rfl, ⟨h.1, h1⟩, h2⟩
end all2
noncomputable abbrev PcL (N : Led) : List Value → List Pc → Prop := All2 (IsPc N)
theorem PcL.mono {vs : List Value} {ps : List Pc} (h : PcL N vs ps) (e : Ext N N') : PcL N' vs ps := All2.imp (fun _ _ x => x.mono e) h
noncomputable def IsPL (N : Led) (v : Value) (ps : List Pc) : Prop := ∃ a vs n, v = .ref a ∧ (a, lst vs n) ∈ N ∧ PcL N vs ps
theorem IsPL.mono {v : Value} {ps : List Pc} (h : IsPL N v ps) (e : Ext N N') : IsPL N' v ps := let ⟨a, vs, n, x, y, z⟩ := h; ⟨a, vs, n, x, e _ y, z.mono e⟩
noncomputable abbrev PLs (N : Led) : List Value → List (List Pc) → Prop := All2 (IsPL N)
theorem PLs.mono {vs : List Value} {ps : List (List Pc)} (h : PLs N vs ps) (e : Ext N N') : PLs N' vs ps := All2.imp (fun _ _ x => x.mono e) h
noncomputable def Rd (N : Led) (v : Value) (d : PyData) : Prop := ∀ h : Heap, (∀ p ∈ N, h.get? p.1 = some p.2) → ∃ as, Reads h v d as
noncomputable def RdL (N : Led) (vs : List Value) (ds : List PyData) : Prop := ∀ h : Heap, (∀ p ∈ N, h.get? p.1 = some p.2) → ∃ as, ReadsAll h vs ds as
theorem RdL.nil : RdL N [] [] := fun _ _ => ⟨_, .nil⟩
theorem RdL.cons {v : Value} {vs : List Value} {d : PyData} {ds : List PyData} (x : Rd N v d) (y : RdL N vs ds) : RdL N (v :: vs) (d :: ds) := fun h k => let ⟨_, a⟩ := x h k; let ⟨_, b⟩ := y h k; ⟨_, .cons a b⟩
theorem Rd.str {x : Str} {t : Tok} : Rd N (.str x t) (.str x) := fun _ _ => ⟨_, .str x t⟩
theorem Rd.tup {a : Addr} {vs : List Value} {n : Nat} {ds : List PyData} (h : (a, tup vs n) ∈ N) (x : RdL N vs ds) : Rd N (.ref a) (.tuple ds) := fun hp k => let ⟨_, y⟩ := x hp k; ⟨_, .tuple (k _ h) rfl rfl (by simpa using y)⟩
theorem Rd.lst {a : Addr} {vs : List Value} {n : Nat} {ds : List PyData} (h : (a, lst vs n) ∈ N) (x : RdL N vs ds) : Rd N (.ref a) (.list ds) := fun hp k => let ⟨_, y⟩ := x hp k; ⟨_, .list (k _ h) rfl rfl (by simpa using y)⟩
theorem RdL.of_all2 {α : Type} {F : Value → α → Prop} {f : α → PyData} (k : ∀ v p, F v p → Rd N v (f p)) : ∀ {vs : List Value} {ps : List α}, All2 F vs ps → RdL N vs (ps.map f)
  | [], [], _ => RdL.nil
  | _ :: _, _ :: _, h => RdL.cons (k _ _ h.1) (RdL.of_all2 k h.2)
theorem IsPc.rd {v : Value} {p : Pc} (h : IsPc N v p) : Rd N v (pcD p) := by
  obtain ⟨a, n, t, u, rfl, hm⟩ := h
  exact Rd.tup hm (RdL.cons Rd.str (RdL.cons Rd.str RdL.nil))
noncomputable def plD (ps : List Pc) : PyData := .list (ps.map pcD)
noncomputable def plsD (pss : List (List Pc)) : PyData := .list (pss.map plD)
theorem PcL.rd {vs : List Value} {ps : List Pc} (h : PcL N vs ps) : RdL N vs (ps.map pcD) := RdL.of_all2 (fun _ _ x => x.rd) h
theorem IsPL.rd {v : Value} {ps : List Pc} (h : IsPL N v ps) : Rd N v (plD ps) := by
  obtain ⟨a, vs, n, rfl, hm, hp⟩ := h
  exact Rd.lst hm hp.rd
theorem PLs.rd {vs : List Value} {pss : List (List Pc)} (h : PLs N vs pss) : RdL N vs (pss.map plD) := RdL.of_all2 (fun _ _ x => x.rd) h
theorem pcD_lay (p : Pc) : (pcD p).canLay0 = true := by obtain ⟨_ | _, _ | _⟩ := p <;> decide +kernel
theorem pcD_depth (p : Pc) : (pcD p).depth ≤ 2 := by obtain ⟨_ | _, _ | _⟩ := p <;> decide +kernel
theorem pcD_eqv (p q : Pc) : PyData.eqv (pcD p) (pcD q) = decide (p = q) := by
  obtain ⟨_ | _, _ | _⟩ := p <;> obtain ⟨_ | _, _ | _⟩ := q <;> decide +kernel
theorem layAll_map {α : Type} {f : α → PyData} (h : ∀ a, (f a).canLay0 = true) : ∀ l : List α, PyData.canLayAll0 (l.map f) = true
  | [] => rfl
  | a :: l => by simp only [List.map_cons, PyData.canLayAll0, h a, layAll_map h l, Bool.and_self]
theorem depthAll_map {α : Type} {f : α → PyData} {k : Nat} (h : ∀ a, (f a).depth ≤ k) : ∀ l : List α, PyData.depthAll (l.map f) ≤ k
  | [] => by simp [PyData.depthAll]
  | a :: l => by
    have := h a
    have := depthAll_map h l
    simp only [List.map_cons, PyData.depthAll]
    lia
theorem eqvAll_map {α : Type} [DecidableEq α] {f : α → PyData} (h : ∀ a b, PyData.eqv (f a) (f b) = decide (a = b)) : ∀ l m : List α, PyData.eqvAll (l.map f) (m.map f) = decide (l = m)
  | [], [] => by simp [PyData.eqvAll]
  | [], _ :: _ => by simp [PyData.eqvAll]
  | _ :: _, [] => by simp [PyData.eqvAll]
  | a :: l, b :: m => by
    simp only [List.map_cons, PyData.eqvAll, h a b, eqvAll_map h l m, List.cons.injEq, Bool.decide_and]
theorem plD_lay (ps : List Pc) : (plD ps).canLay0 = true := by simp only [plD, PyData.canLay0]; exact layAll_map pcD_lay ps
theorem plD_depth (ps : List Pc) : (plD ps).depth ≤ 3 := by simp only [plD, PyData.depth]; have := depthAll_map pcD_depth ps; lia
theorem plD_eqv (ps qs : List Pc) : PyData.eqv (plD ps) (plD qs) = decide (ps = qs) := by simp only [plD, PyData.eqv]; exact eqvAll_map pcD_eqv ps qs
theorem plsD_lay (ps : List (List Pc)) : (plsD ps).canLay0 = true := by simp only [plsD, PyData.canLay0]; exact layAll_map plD_lay ps
theorem plsD_depth (ps : List (List Pc)) : (plsD ps).depth ≤ 4 := by simp only [plsD, PyData.depth]; have := depthAll_map plD_depth ps; lia
theorem plsD_eqv (ps qs : List (List Pc)) : PyData.eqv (plsD ps) (plsD qs) = decide (ps = qs) := by simp only [plsD, PyData.eqv]; exact eqvAll_map plD_eqv ps qs
structure AOk (A : Around) (k : Nat) : Prop where
  d : A.depth + k < recursionLimit
  u : A.units + 10 * k + 100 < cLine
  h : A.handled = none
theorem AOk.le {j k : Nat} (h : AOk A k) (hj : j ≤ k) : AOk A j := ⟨by have := h.d; lia, by have := h.u; lia, h.h⟩
theorem AOk.in1 {k : Nat} (h : AOk A (k + 1)) : AOk A.in1 k := ⟨by have := h.d; show A.depth + k < _; lia, by have := h.u; show A.units + 1 + _ + _ < _; lia, h.h⟩
theorem AOk.deeper {k : Nat} {env : Env} (h : AOk A (k + 1)) : AOk (A.deeper env) k := ⟨by have := h.d; show A.depth + 1 + k < _; lia, by have := h.u; show A.units + 3 + _ + _ < _; lia, h.h⟩
theorem AOk.u0 {k : Nat} (h : AOk A k) : A.units + 64 < cLine := by have := h.u; lia
theorem Rep.rd {s : Shared} {v : Value} {d : PyData} (R : Rep C N Φ s) (h : Rd N v d) : ∃ as, Reads s.heap v d as := let ⟨_, r⟩ := R.z; h _ r.led
theorem WE.eqBool {k : Nat} {v w : Value} {d e : PyData} {Q : Bool → Led → Prop} (ho : AOk A k) (hv : Rd N v d) (hw : Rd N w e) (ld : d.canLay0 = true) (le : e.canLay0 = true) (dd : d.depth ≤ 8) (q : Q (PyData.eqv d e) N) : WE C A (eqBool v w) Q N Φ :=
  fun s E R => by
    refine Classical.byContradiction fun hn => ?_
    obtain ⟨as, ra⟩ := R.rd hv
    obtain ⟨bs, rb⟩ := R.rd hw
    refine hn ?_
    clear hn
    exact PySem.SeqAt.eqAt_reads d e A s v w as bs ra rb ld le (Nat.lt_of_le_of_lt (Nat.add_le_add_left (Nat.le_trans (Nat.min_le_left _ _) dd) _) (by have := ho.u0; lia)) C.prog C.w E _ ⟨N, R, q⟩
theorem WE.eqPc {k : Nat} {v w : Value} {p q : Pc} {Q : Bool → Led → Prop} (ho : AOk A k) (hv : IsPc N v p) (hw : IsPc N w q) (z : Q (decide (p = q)) N) : WE C A (PySem.eqBool v w) Q N Φ :=
  WE.eqBool ho hv.rd hw.rd (pcD_lay p) (pcD_lay q) (Nat.le_trans (pcD_depth p) (by decide)) (by rw [pcD_eqv]; exact z)
theorem o_eqD {k : Nat} {v w : Value} {d e : PyData} {Q : Value → Led → Prop} (ho : AOk A k) (hv : Rd N v d) (hw : Rd N w e) (ld : d.canLay0 = true) (le : e.canLay0 = true) (dd : d.depth ≤ 8) (de : e.depth ≤ 8) (q : Q (.bool (PyData.eqv d e)) N) :
    WE C A (compareOp .Eq v w) Q N Φ := fun s E R => by
  refine Classical.byContradiction fun hn => ?_
  obtain ⟨as, ra⟩ := R.rd hv
  obtain ⟨bs, rb⟩ := R.rd hw
  refine hn ?_
  clear hn
  refine eq_dataH ra rb ?_ ?_ ho.u0 ⟨N, R, q⟩
  · unfold SeqAt.shaped; rw [ld, Bool.true_and]; exact decide_eq_true (Nat.le_trans dd (by decide))
  · unfold SeqAt.shaped; rw [le, Bool.true_and]; exact decide_eq_true (Nat.le_trans de (by decide))
theorem o_neD {k : Nat} {v w : Value} {d e : PyData} {Q : Value → Led → Prop} (ho : AOk A k) (hv : Rd N v d) (hw : Rd N w e) (ld : d.canLay0 = true) (le : e.canLay0 = true) (dd : d.depth ≤ 8) (de : e.depth ≤ 8) (q : Q (.bool (!PyData.eqv d e)) N) :
    WE C A (compareOp .NotEq v w) Q N Φ := fun s E R => by
  refine Classical.byContradiction fun hn => ?_
  obtain ⟨as, ra⟩ := R.rd hv
  obtain ⟨bs, rb⟩ := R.rd hw
  refine hn ?_
  clear hn
  refine ne_dataH ra rb ?_ ?_ ho.u0 ⟨N, R, q⟩
  · unfold SeqAt.shaped; rw [ld, Bool.true_and]; exact decide_eq_true (Nat.le_trans dd (by decide))
  · unfold SeqAt.shaped; rw [le, Bool.true_and]; exact decide_eq_true (Nat.le_trans de (by decide))
end Mine.Internal
end
section
open PySem PySem.W PyProof.Rows PySem.Calls PySem.Spec
namespace Mine.Internal
variable {C : Cx} {N N' : Led} {Φ : Frs} {A : Around}
noncomputable def setLo (m : Lo) (x : Str) (v : Value) : Lo := fun y => if y = x then some v else m y
theorem setLo_self (m : Lo) (x : Str) (v : Value) : setLo m x v x = some v := if_pos rfl
theorem setLo_ne {m : Lo} {x y : Str} {v : Value} (h : y ≠ x) : setLo m x v y = m y := if_neg h
noncomputable def bindM : List (Str × Value) → Lo → Lo
  | [], m => m
  | (n, v) :: r, m => bindM r (setLo m n v)
theorem bindM_c {n : Str} {v : Value} {r : List (Str × Value)} {m : Lo} : bindM ((n, v) :: r) m = bindM r (setLo m n v) := rfl
theorem bindM_lookup : ∀ (b : List (Str × Value)) (m : Lo) (x : Str), bindM b m x = (b.reverse.lookup x).or (m x)
  | [], m, x => rfl
  | (n, v) :: r, m, x => by
    show bindM r (setLo m n v) x = _
    rw [bindM_lookup r, List.reverse_cons]
    have : (r.reverse ++ [(n, v)]).lookup x = (r.reverse.lookup x).or ([(n, v)].lookup x) := by
      induction r.reverse with
      | nil => rfl
      | cons p l ih => obtain ⟨y, w⟩ := p; rw [List.cons_append, List.lookup_cons, List.lookup_cons]; cases x == y <;> simp [ih]
    rw [this, Option.or_assoc]
    congr 1
    unfold setLo
    by_cases e : x = n
    · subst e; simp [List.lookup]
    · have : (x == n) = false := by simpa using e
      simp [List.lookup, this, e]
theorem bindL_eq (k : Str → Option NameKind) : ∀ (b : List (Str × Value)) (m m' : Lo) (x : Str), (k x = some .local → m x = m' x) → k x = some .local → bindL k b m x = bindM b m' x
  | [], m, m', x, h, hk => h hk
  | (n, v) :: r, m, m', x, h, hk => by
    unfold bindL; rw [bindM_c]
    refine bindL_eq k r _ _ x (fun _ => ?_) hk
    by_cases hn : k n = some .local
    · rw [if_pos hn]; unfold setLo; by_cases e : x = n <;> simp [e, h hk]
    · rw [if_neg hn, setLo_ne (fun e => hn (by rw [← e]; exact hk)), h hk]
theorem bindL_no (k : Str → Option NameKind) : ∀ (b : List (Str × Value)) (m : Lo) (x : Str), k x ≠ some .local → bindL k b m x = m x
  | [], m, x, hk => rfl
  | (n, v) :: r, m, x, hk => by
    unfold bindL
    rw [bindL_no k r _ x hk]
    by_cases hn : k n = some .local
    · rw [if_pos hn]; exact if_neg (fun e => hk (by rw [e]; exact hn))
    · rw [if_neg hn]
theorem bindM_none : ∀ (b : List (Str × Value)) (m : Lo) (x : Str), (∀ y ∈ b, y.1 ≠ x) → bindM b m x = m x
  | [], m, x, hk => rfl
  | (n, v) :: r, m, x, h => by
    rw [bindM_c, bindM_none r _ x fun y hy => h y (.tail _ hy), setLo_ne]
    exact fun e => h (n, v) (.head _) e.symm
theorem bindC_eq (k : Str → Option NameKind) : ∀ (b : List (Str × Value)) (m m' : Lo) (x : Str), m x = m' x → k x ≠ some .local → bindC k b m x = bindM b m' x
  | [], m, m', x, h, hk => h
  | (n, v) :: r, m, m', x, h, hk => by
    unfold bindC; rw [bindM_c]
    refine bindC_eq k r _ _ x ?_ hk
    by_cases hn : k n = some .local
    · rw [if_pos hn, setLo_ne (fun e => hk (by rw [e]; exact hn)), h]
    · rw [if_neg hn]; unfold setLo; by_cases e : x = n <;> simp [e, h]
structure HasFn (C : Cx) (N : Led) (a : Addr) (fd : FuncData) : Prop where
  obj : ∃ o, Has C N a o ∧ o.data = .func fd
  cls : ∃ o, Has C N a o ∧ o.cls = .type "function"
  code : ∃ c o, fd.code = .ref c ∧ Has C N c o ∧ IsCode o fd.qualname
theorem HasFn.mono {a : Addr} {fd : FuncData} (h : HasFn C N a fd) (e : Ext N N') : HasFn C N' a fd :=
  ⟨let ⟨o, x, y⟩ := h.obj; ⟨o, x.mono e, y⟩, let ⟨o, x, y⟩ := h.cls; ⟨o, x.mono e, y⟩, let ⟨c, o, x, y, z⟩ := h.code; ⟨c, o, x, y.mono e, z⟩⟩
theorem HasFn.record {a : Addr} {fd : FuncData} (h : HasFn C N a fd) {s : Shared} (R : Rep C N Φ s) : s.heap.CodeRec fd.code fd.qualname :=
  let ⟨c, o, x, y, vs, t, z, u⟩ := h.code; ⟨c, o, vs, t, x, R.has y, z, u⟩
noncomputable def retOf : Flow → Value
  | .ret v => v
  | _ => .none
variable {mg mb : Lo}
theorem cells_above : ∀ (names : List (Str × NameKind)) (n : Nat) (acc : List (Str × Addr)) (x : Str × Addr), x ∈ cellsFrom n names acc → x ∈ acc ∨ n ≤ x.2
  | [], n, acc, x, h => .inl h
  | (nm, kd) :: r, n, acc, x, h => by
    unfold cellsFrom at h
    split at h
    · rcases cells_above r (n + 1) _ x h with h | h
      · rcases List.mem_cons.mp h with rfl | h
        · exact .inr (Nat.le_refl _)
        · exact .inl h
      · exact .inr (Nat.le_of_succ_le h)
    · exact cells_above r n _ x h
theorem cells_keys : ∀ (names : List (Str × NameKind)) (n : Nat) (acc : List (Str × Addr)) (x : Str), x ∈ (cellsFrom n names acc).map (·.1) ↔ x ∈ acc.map (·.1) ∨ (x, NameKind.cell) ∈ names
  | [], n, acc, x => by simp [cellsFrom]
  | (nm, kd) :: r, n, acc, x => by
    cases kd
    case cell =>
      show x ∈ (cellsFrom (n + 1) r ((nm, n) :: acc)).map (·.1) ↔ _
      rw [cells_keys r]; simp; grind
    all_goals
      show x ∈ (cellsFrom n r acc).map (·.1) ↔ _
      rw [cells_keys r]; simp
theorem cells_nodup : ∀ (names : List (Str × NameKind)) (n : Nat) (acc : List (Str × Addr)), (names.map (·.1)).Nodup → (acc.map (·.1)).Nodup → (∀ x ∈ acc.map (·.1), x ∉ names.map (·.1)) → ((cellsFrom n names acc).map (·.1)).Nodup
  | [], n, acc, _, h, _ => h
  | (nm, kd) :: r, n, acc, hn, h, ha => by
    rw [List.map_cons, List.nodup_cons] at hn
    unfold cellsFrom
    split
    · refine cells_nodup r _ _ hn.2 ?_ ?_
      · rw [List.map_cons, List.nodup_cons]
        exact ⟨fun hx => ha nm hx (by simp), h⟩
      · intro x hx
        rw [List.map_cons] at hx
        rcases List.mem_cons.mp hx with rfl | hx
        · exact hn.1
        · intro hr; exact ha x hx (by rw [List.map_cons]; exact .tail _ hr)
    · exact cells_nodup r _ _ hn.2 h fun x hx hr => ha x hx (by rw [List.map_cons]; exact .tail _ hr)
theorem lookup_of_mem {α β : Type} [BEq α] [LawfulBEq α] : ∀ {l : List (α × β)} {p : α × β}, (l.map (·.1)).Nodup → p ∈ l → l.lookup p.1 = some p.2
  | q :: l, p, hn, hp => by
    rw [List.map_cons, List.nodup_cons] at hn
    rcases List.mem_cons.mp hp with rfl | hp
    · simp [List.lookup]
    · have : (p.1 == q.1) = false := by
        refine beq_false_of_ne fun e => hn.1 ?_
        rw [← e]; exact List.mem_map.mpr ⟨p, hp, rfl⟩
      rw [List.lookup_cons, this]
      exact lookup_of_mem hn.2 hp
theorem lookup_none {α β : Type} [BEq α] [LawfulBEq α] {x : α} : ∀ {l : List (α × β)}, l.lookup x = none → x ∉ l.map (·.1)
  | [], _ => by simp
  | q :: l, h => by
    rw [List.lookup_cons] at h
    cases e : x == q.1 with
    | true => rw [e] at h; cases h
    | false =>
      rw [e] at h
      rw [List.map_cons]
      intro hm
      rcases List.mem_cons.mp hm with rfl | hm
      · simp at e
      · exact lookup_none h hm
noncomputable def nodupB : List (Str × NameKind) → Bool
  | [] => true
  | (n, _) :: r => !(r.any (·.1 == n)) && nodupB r
theorem nodupB_ok : ∀ {l : List (Str × NameKind)}, nodupB l = true → (l.map (·.1)).Nodup
  | [], _ => by simp
  | (n, k) :: r, h => by
    replace h : (!(r.any (·.1 == n)) && nodupB r) = true := h
    simp only [Bool.and_eq_true, Bool.not_eq_true'] at h
    rw [List.map_cons, List.nodup_cons]
    refine ⟨fun hm => ?_, nodupB_ok h.2⟩
    obtain ⟨p, hp, e⟩ := List.mem_map.mp hm
    have := List.any_eq_false.mp h.1 p hp
    simp [e] at this
noncomputable def bindsOk (names : List (Str × NameKind)) (binds : List (Str × Value)) : Bool := binds.all fun x => names.lookup x.1 == some .local || names.lookup x.1 == some .cell
@[reducible] noncomputable def kBody (Q : Value → Led → Prop) : Flow → Led → Lo → Prop := fun f N _ => Q (retOf f) N
@[reducible] noncomputable def kAsg (m : Lo) (x : Str) (Q : Flow → Led → Lo → Prop) : Value → Led → Prop := fun v N => Q .next N (setLo m x v)
@[reducible] noncomputable def kExpr (m : Lo) (Q : Flow → Led → Lo → Prop) : Value → Led → Prop := fun v N => Q .next N m ∧ ∀ a, v ≠ .ref a
@[reducible] noncomputable def kIf (C : Cx) (A : Around) (Φ : Frs) (K : Fk) (m : Lo) (env : Env) (body orelse : List Stmt) (Q : Flow → Led → Lo → Prop) : Bool → Led → Prop := fun b N => if b then WS C A (execs body env) Q N K m Φ else WS C A (execs orelse env) Q N K m Φ
@[reducible] noncomputable def kTru (C : Cx) (A : Around) (Φ : Frs) (Q : Bool → Led → Prop) : Value → Led → Prop := fun c N => WE C A (truthy c) Q N Φ
@[reducible] noncomputable def kTCmp2 (C : Cx) (A : Around) (Φ : Frs) (op : CmpOp) (a : Value) (Q : Bool → Led → Prop) : Value → Led → Prop := fun b N => WE C A (compareOp op a b) (kTru C A Φ Q) N Φ
@[reducible] noncomputable def kTCmp (C : Cx) (A : Around) (Φ : Frs) (env : Env) (op : CmpOp) (r : Expr) (Q : Bool → Led → Prop) : Value → Led → Prop := fun a N => WE C A (eval r env) (kTCmp2 C A Φ op a Q) N Φ
theorem CE.fnCells {k : Nat} {a : Addr} {fd : FuncData} {body : List Stmt} {vs : List Value} {binds : List (Str × Value)} {cs : Addr → List (Str × Addr)} {Q : Value → Led → Prop} (G : Glo C mg mb) (ho : AOk A (k + 1)) (hf : HasFn C N a fd) (hbody : fd.body = .stmts body)
    (hbind : bindArgs fd ⟨vs, []⟩ = pure binds) (hclo : fd.closure = [])
    (hcs : ∀ L, cellsFrom (L + 1) fd.scope.names [] = cs L)
    (h : ∀ L, WS C (A.deeper (callEnvC fd L a)) (execs body (callEnvC fd L a)) (kBody Q) N ⟨L, cs L⟩ (bindM binds fun _ => none) Φ)
    (hkinds : bindsOk fd.scope.names binds = true := by rfl) (hndB : nodupB fd.scope.names = true := by rfl)
    (hco : fd.scope.isCoroutine = false := by rfl) (hgen : fd.scope.isGenerator = false := by rfl) (hk : fd.scope.kind = .function := by rfl) : CE C A (.call (.ref a) ⟨vs, []⟩) Q N Φ := by
  intro s r R kk
  obtain ⟨o, hob, hdat⟩ := hf.obj
  have hkind : ∀ x ∈ binds, fd.scope.names.lookup x.1 = some .local ∨ fd.scope.names.lookup x.1 = some .cell := fun x hx => by
    have := List.all_eq_true.mp hkinds x hx
    simpa using this
  have hnd := nodupB_ok hndB
  have hnm : ∀ L, ((cs L).map (·.1)).Nodup := fun L => by rw [← hcs]; exact cells_nodup _ _ _ hnd List.nodup_nil (by simp)
  have hck : ∀ L x, (cs L).lookup x = none → fd.scope.names.lookup x ≠ some .cell := fun L x hx e => by
    have := lookup_none hx
    rw [← hcs, cells_keys] at this
    exact this (.inr (lookup_mem e))
  have hck' : ∀ L, ∀ p ∈ cs L, fd.scope.names.lookup p.1 = some .cell := fun L p hp => by
    have : p.1 ∈ (cs L).map (·.1) := List.mem_map.mpr ⟨p, hp, rfl⟩
    rw [← hcs, cells_keys] at this
    rcases this with h | h
    · simp at h
    · exact lookup_of_mem hnd h
  have hkey : ∀ (n : Str) (l : List (Str × Addr)), (l.map (·.1)).Nodup → ∀ p ∈ l, l.lookup p.1 = some p.2 := by
    intro n l
    induction l with
    | nil => intro _ p hp; cases hp
    | cons q l ih =>
      intro hn p hp
      rw [List.map_cons, List.nodup_cons] at hn
      rcases List.mem_cons.mp hp with rfl | hp
      · simp [List.lookup]
      · have : (p.1 == q.1) = false := by
          refine beq_false_of_ne fun e => hn.1 ?_
          rw [← e]; exact List.mem_map.mpr ⟨p, hp, rfl⟩
        rw [List.lookup_cons, this]
        exact ih hn.2 p hp
  have key : ∀ L, ∀ p ∈ cs L, (cs L).lookup p.1 = some p.2 := fun L => hkey "" _ (hnm L)
  have isSomeOf : ∀ x, fd.scope.names.lookup x = some .cell → ((cellsFrom (s.heap.objs.size + 1) fd.scope.names []).lookup x).isSome = true := fun x hx => by
    rw [hcs]
    cases e : (cs s.heap.objs.size).lookup x with
    | some _ => rfl
    | none => exact absurd hx (hck _ _ e)
  refine codeAny_call_cells (by have := ho.d; lia) (R.has hob) hdat (G.lim _ R.stat) (hf.record R) hbody hbind hclo (fun x hx => (hkind x hx).imp id fun e => ⟨e, isSomeOf _ e⟩) (fun s₁ X => ?_) hco hgen hk
  obtain ⟨h₁, tk, e, hkeep⟩ := X.done
  have hcs' : (callEnvC fd s.heap.objs.size a).cells = cs s.heap.objs.size := hcs _
  have hap := X.apart
  rw [hcs'] at hap
  have hge : ∀ p ∈ cs s.heap.objs.size, s.heap.objs.size + 1 ≤ p.2 := fun p hp => by
    have hp' : p ∈ cellsFrom (s.heap.objs.size + 1) fd.scope.names [] := by rw [hcs]; exact hp
    rcases cells_above _ _ _ _ hp' with h | h
    · cases h
    · exact h
  have R₂ : Rep C N (.fr ⟨s.heap.objs.size, cs s.heap.objs.size⟩ (bindM binds fun _ => none) :: Φ) s₁ := by
    rw [e]
    refine R.pushG hkeep ?_ (fun b hb => ?_) ?_
    · rw [e] at X
      refine ⟨⟨_, X.toInCall.ns, fun x hx => ?_⟩, fun p hp => ?_, hnm _⟩
      · have hx' := hck _ _ hx
        by_cases hl : (callEnvC fd s.heap.objs.size a).kindOf x = some .local
        · exact bindL_eq _ _ _ _ _ (fun _ => rfl) hl
        · rw [bindL_no _ _ _ _ hl, bindM_none]
          intro y hy e
          rcases hkind y hy with h1 | h1
          · exact hl (by rw [← e]; exact h1)
          · exact hx' (by rw [← e]; exact h1)
      · have := X.cell p.1 p.2 (by rw [hcs']; exact key _ _ hp)
        rw [bindC_eq (callEnvC fd s.heap.objs.size a).kindOf binds _ (fun _ => none) p.1 rfl (by show fd.scope.names.lookup p.1 ≠ _; rw [hck' _ _ hp]; decide)] at this
        exact this
    · rcases List.mem_cons.mp hb with rfl | hb
      · exact Nat.le_refl _
      · obtain ⟨p, hp, rfl⟩ := List.mem_map.mp hb
        exact Nat.le_of_succ_le (hge p hp)
    · rw [show (Prv.fr ⟨s.heap.objs.size, cs s.heap.objs.size⟩ (bindM binds fun _ => none)).own = s.heap.objs.size :: (cs s.heap.objs.size).map (·.2) from rfl, List.nodup_cons]
      refine ⟨fun hm => ?_, ?_⟩
      · obtain ⟨p, hp, e⟩ := List.mem_map.mp hm
        have := hge p hp
        rw [e] at this
        exact absurd this (Nat.not_succ_le_self _)
      · exact List.pairwise_map.mpr hap
  exact wpAny_mono (h _ s₁ _ R₂) (fun f s' ⟨N', m', R', q⟩ => by cases f <;> exact kk _ s' N' R'.popF q) fun _ _ x => x
theorem CE.fnDef {k : Nat} {a : Addr} {fd : FuncData} {body : List Stmt} {vs : List Value} {binds : List (Str × Value)} {Q : Value → Led → Prop} (G : Glo C mg mb) (ho : AOk A (k + 1)) (hf : HasFn C N a fd) (hbody : fd.body = .stmts body)
    (hbind : ∀ s, Rep C N Φ s → BindsTo s fd ⟨vs, []⟩ binds) 
    (h : ∀ L, WS C (A.deeper (callEnv fd L a)) (execs body (callEnv fd L a)) (kBody Q) N ⟨L, []⟩ (bindM binds fun _ => none) Φ)
    (hcellB : fd.scope.names.all (fun x => x.2 != .cell) = true := by rfl) (hlocB : binds.all (fun x => fd.scope.names.lookup x.1 == some .local) = true := by rfl) (hco : fd.scope.isCoroutine = false := by rfl) (hgen : fd.scope.isGenerator = false := by rfl) (hk : fd.scope.kind = .function := by rfl) : CE C A (.call (.ref a) ⟨vs, []⟩) Q N Φ := by
  have hcell : ∀ x ∈ fd.scope.names, x.2 ≠ .cell := fun x hx => by simpa using List.all_eq_true.mp hcellB x hx
  have hloc : ∀ x ∈ binds, fd.scope.names.lookup x.1 = some .local := fun x hx => by simpa using List.all_eq_true.mp hlocB x hx
  intro s r R kk
  obtain ⟨o, hob, hdat⟩ := hf.obj
  refine codeAny_call_def (by have := ho.d; lia) (R.has hob) hdat (G.lim _ R.stat) (hf.record R) hbody (hbind s R) hcell hloc (fun h₀ hn hkeep => ?_) hco hgen hk
  have R₂ : Rep C N (.fr ⟨s.heap.objs.size, []⟩ (bindM binds fun _ => none) :: Φ) { s with heap := h₀, toks := s.toks + binds.length } := by
    refine R.pushG hkeep ⟨⟨_, hn, fun x _ => ?_⟩, (fun p (hp : p ∈ ([] : List (Str × Addr))) => nomatch hp), List.nodup_nil⟩ (fun b hb => ?_) ?_
    · rw [bindM_lookup, Option.or_none]
    · rcases List.mem_cons.mp hb with rfl | hb
      · exact Nat.le_refl _
      · cases hb
    · simp [Prv.own]
  exact wpAny_mono (h _ _ _ R₂) (fun f s' ⟨N', m', R', q⟩ => by cases f <;> exact kk _ s' N' R'.popF q) fun _ _ x => x
theorem CE.fnLam {k : Nat} {a : Addr} {fd : FuncData} {body : Expr} {vs : List Value} {binds : List (Str × Value)} {Q : Value → Led → Prop} (G : Glo C mg mb) (ho : AOk A (k + 1)) (hf : HasFn C N a fd) (hbody : fd.body = .expr body)
    (hbind : bindArgs fd ⟨vs, []⟩ = pure binds) 
    (h : ∀ L, WE C (A.deeper (callEnv fd L a)) (eval body (callEnv fd L a)) Q N (.fr ⟨L, []⟩ (bindM binds fun _ => none) :: Φ))
    (hcellB : fd.scope.names.all (fun x => x.2 != .cell) = true := by rfl) (hlocB : binds.all (fun x => fd.scope.names.lookup x.1 == some .local) = true := by rfl) (hco : fd.scope.isCoroutine = false := by rfl) (hgen : fd.scope.isGenerator = false := by rfl) (hk : fd.scope.kind = .function := by rfl) : CE C A (.call (.ref a) ⟨vs, []⟩) Q N Φ := by
  have hcell : ∀ x ∈ fd.scope.names, x.2 ≠ .cell := fun x hx => by simpa using List.all_eq_true.mp hcellB x hx
  have hloc : ∀ x ∈ binds, fd.scope.names.lookup x.1 = some .local := fun x hx => by simpa using List.all_eq_true.mp hlocB x hx
  intro s r R kk
  obtain ⟨o, hob, hdat⟩ := hf.obj
  refine kla_callFunE (by have := ho.d; lia) (R.has hob) hdat hco hgen hbody (hf.record R) ?_
  rw [hbind]
  refine wpAny_pure (wpAny_newFunctionEnv hcell hloc (fun h₀ hn hsb => ?_) hk)
  have hkeep : ∀ b o, s.heap.get? b = some o → h₀.get? b = some o := fun b o e => hsb.extBut b o (Nat.ne_of_lt (Heap.lt_size e)) (Heap.get?_push_of_some _ e)
  have R₂ : Rep C N (.fr ⟨s.heap.objs.size, []⟩ (bindM binds fun _ => none) :: Φ) { s with heap := h₀, toks := s.toks + binds.length } := by
    refine R.pushG hkeep ⟨⟨_, hn, fun x _ => ?_⟩, (fun p (hp : p ∈ ([] : List (Str × Addr))) => nomatch hp), List.nodup_nil⟩ (fun b hb => ?_) ?_
    · rw [bindM_lookup, Option.or_none]
    · rcases List.mem_cons.mp hb with rfl | hb
      · exact Nat.le_refl _
      · cases hb
    · simp [Prv.own]
  refine ⟨(G.lim _ R.stat).fresh _ hsb, kla_codeExpr ?_⟩
  exact wpAny_mono (h _ _ _ R₂) (fun v s' ⟨N', R', q⟩ => kk _ s' N' R'.popF q) fun _ _ x => x
section store
variable {env : Env} {K : Fk} {m : Lo}
noncomputable def StOk (env : Env) (k : Fk) (x : Str) : Prop :=
  (env.kindOf x = some .local ∧ env.locals = k.L ∧ k.cs.lookup x = none) ∨ ∃ c, env.kindOf x = some .cell ∧ env.cells.lookup x = some c ∧ k.cs.lookup x = some c
theorem WS.store {x : Str} {v : Value} {Q : Unit → Led → Lo → Prop} (hk : env.scope.kind = .function) (hs : StOk env K x) (q : Q () N (setLo m x v)) : WS C A (storeName env x v) Q N K m Φ := by
  intro s E R
  obtain ⟨⟨ml, hn, he⟩, hc, hnd⟩ := R.frm (.head _)
  have hno : (Prv.fr K m).own.Nodup := by
    obtain ⟨z, rz⟩ := R.z
    have := rz.nd
    rw [own_cons, List.nodup_append] at this
    exact this.1
  rw [show (Prv.fr K m).own = K.L :: K.cs.map (·.2) from rfl, List.nodup_cons] at hno
  rcases hs with ⟨hl, hL, hcs⟩ | ⟨c, hl, hcc, hcs⟩
  · refine wpAny_storeName_local hl (by rw [hL]; exact hn) (fun h' hn' hs' => ?_) (by rw [hk]; rfl)
    rw [hL] at hn' hs'
    refine ⟨N, _, R.top (f' := .fr K (setLo m x v)) rfl (fun b o hb e => hs'.extBut b o (fun q => hb (q ▸ .head _)) e) ⟨⟨_, hn', fun y hy => ?_⟩, fun p hp => ?_, hnd⟩, q⟩
    · show (if y = x then some v else ml y) = setLo m x v y
      unfold setLo; rw [he y hy]
    · have hpL : p.2 ≠ K.L := fun e => hno.1 (e ▸ List.mem_map.mpr ⟨p, hp, rfl⟩)
      have : p.1 ≠ x := fun e => by
        have h1 : ∀ (l : List (Str × Addr)), p ∈ l → l.lookup p.1 ≠ none := by
          intro l
          induction l with
          | nil => intro h; cases h
          | cons q l ih =>
            intro h h'
            rw [List.lookup_cons] at h'
            cases e : p.1 == q.1 with
            | true => rw [e] at h'; cases h'
            | false =>
              rw [e] at h'
              rcases List.mem_cons.mp h with rfl | h
              · simp at e
              · exact ih h h'
        exact h1 _ hp (e ▸ hcs)
      rw [setLo_ne this]
      exact (hc p hp).sameBut hs' hpL
  · refine wpAny_storeName_cell hk hl hcc (hc _ (lookup_mem hcs)) fun h' hc' hs' => ?_
    have hcm := lookup_mem hcs
    have hcL : K.L ≠ c := fun e => hno.1 (by rw [e]; exact List.mem_map.mpr ⟨_, hcm, rfl⟩)
    refine ⟨N, _, R.top (f' := .fr K (setLo m x v)) rfl (fun b o hb e => hs'.extBut b o (fun q => hb (by rw [q]; exact .tail _ (List.mem_map.mpr ⟨_, hcm, rfl⟩))) e) ⟨⟨_, hn.sameBut hs' hcL, fun y hy => ?_⟩, fun p hp => ?_, hnd⟩, q⟩
    · rw [setLo_ne (fun e => by rw [e, hcs] at hy; cases hy), he y hy]
    · by_cases e : p.2 = c
      · have hi : ∀ (l : List (Str × Addr)), (l.map (·.2)).Nodup → ∀ p ∈ l, ∀ q ∈ l, p.2 = q.2 → p = q := by
          intro l
          induction l with
          | nil => intro _ p hp; cases hp
          | cons r l ih =>
            intro hn p hp q hq e
            rw [List.map_cons, List.nodup_cons] at hn
            rcases List.mem_cons.mp hp with rfl | hp <;> rcases List.mem_cons.mp hq with hq' | hq
            · exact hq'.symm
            · exact absurd (List.mem_map.mpr ⟨q, hq, e.symm⟩) hn.1
            · exact absurd (List.mem_map.mpr ⟨p, hp, by rw [← hq', e]⟩) hn.1
            · exact ih hn.2 p hp q hq e
        have := hi _ hno.2 p hp (x, c) hcm e
        subst this
        rw [setLo_self]
        exact hc'
      · have : p.1 ≠ x := fun e' => by
          have hi : ∀ (l : List (Str × Addr)), (l.map (·.1)).Nodup → ∀ p ∈ l, ∀ q ∈ l, p.1 = q.1 → p = q := by
            intro l
            induction l with
            | nil => intro _ p hp; cases hp
            | cons r l ih =>
              intro hn p hp q hq e
              rw [List.map_cons, List.nodup_cons] at hn
              rcases List.mem_cons.mp hp with rfl | hp <;> rcases List.mem_cons.mp hq with hq' | hq
              · exact hq'.symm
              · exact absurd (List.mem_map.mpr ⟨q, hq, e.symm⟩) hn.1
              · exact absurd (List.mem_map.mpr ⟨p, hp, by rw [← hq', e]⟩) hn.1
              · exact ih hn.2 p hp q hq e
          exact e (congrArg Prod.snd (hi _ hnd p hp (x, c) hcm e'))
        rw [setLo_ne this]
        exact (hc p hp).sameBut hs' e
theorem WS.bindName {x : Str} {v : Value} {Q : Unit → Led → Lo → Prop} (hk : env.scope.kind = .function) (hs : StOk env K x) (q : Q () N (setLo m x v)) : WS C A (bindName env x v) Q N K m Φ :=
  fun s E R => wpAny_bindName (WS.store hk hs q s E R)
theorem as_name {x : Str} {pos} {v : Value} {Q : Unit → Led → Lo → Prop} (hk : env.scope.kind = .function) (hs : StOk env K x) (q : Q () N (setLo m x v)) : WS C A (assign (.Name x pos) env v) Q N K m Φ :=
  fun s E R => wpAny_assign_Name (WS.store hk hs q s E R)
theorem s_assign {x pos' value pos} {Q : Flow → Led → Lo → Prop} (hst : StOk env K x) (h : WE C A (eval value env) (kAsg m x Q) N (.fr K m :: Φ))
    (hk : env.scope.kind = .function := by rfl) (hs : swapsWith value (some (.Name x pos')) pos.line env = pure false := by rfl) : WS C A (exec (.Assign [.Name x pos'] value pos) env) Q N K m Φ := by
  intro s E R
  refine wpAny_Assign_Name (h.use R fun v s₁ N₁ R₁ q => ?_) hs
  exact wpAny_mono (WS.store (Q := fun _ N' m' => Q .next N' m') hk hst q s₁ E R₁) (fun _ _ x => x) fun _ _ x => x
theorem s_expr {e : Expr} {pos} {Q : Flow → Led → Lo → Prop} (h : WE C A (eval e env) (kExpr m Q) N (.fr K m :: Φ)) (hi : interactive env = false := by rfl) (hs : swapsWith e none pos.line env = pure false := by rfl) :
    WS C A (exec (.Expr e pos) env) Q N K m Φ := by
  intro s E R
  refine wpAny_Expr (h.use R fun v s' N' R' q => ?_) hi hs
  cases v with
  | ref a => exact q.2 a rfl
  | _ => exact ⟨N', m, R', q.1⟩
theorem s_if {test : Expr} {body orelse : List Stmt} {pos} {Q : Flow → Led → Lo → Prop} (h : WE C A (isTrue test env (eval test env)) (kIf C A Φ K m env body orelse Q) N (.fr K m :: Φ)) :
    WS C A (exec (.If test body orelse pos) env) Q N K m Φ := by
  intro s E R
  refine wpAny_If (h.use R fun b s' N' R' q => ?_)
  cases b
  · simp only [Bool.false_eq_true, if_false] at q ⊢; exact q s' E R'
  · simp only [if_true] at q ⊢; exact q s' E R'
theorem t_cmp {l r : Expr} {op : CmpOp} {pos whole} {Q : Bool → Led → Prop} (h : WE C A (eval l env) (kTCmp C A Φ env op r Q) N Φ)
    (hb : behindInMarks op r = false := by rfl) : WE C A (isTrue (.Compare l [op] [r] pos) env whole) Q N Φ := by
  rw [isTrue_Compare1]
  refine WE.bind (h.mono fun a N₁ h₁ => ?_)
  rw [markedBehindIn_of_false hb]
  exact WE.bind (WE.holding (h₁.mono fun b N₂ h₂ => WE.bind (WE.standAt (WE.bind (WE.operate (h₂.mono fun c N₃ h₃ => WE.holding h₃))))))
end store
end Mine.Internal
end
section
open PySem PySem.W PyProof.Rows PySem.Calls PySem.Spec
namespace Mine.Internal
variable {C : Cx} {N N' : Led} {Φ : Frs} {A : Around}
structure Iter (C : Cx) (A : Around) (P : Nat → Obj) (n : Nat) (X : Nat → Value → Prop) (V : Led → Prop) : Prop where
  item : ∀ {i I N Φ s E} {Q : Option Value → Shared → Prop}, i < n → Rep C N (.ob I (P i) :: Φ) s → V N → (∀ x s', X i x → Rep C N (.ob I (P (i + 1)) :: Φ) s' → Q (some x) s') → wpAny C.M A (pyNext (.ref I)) Q E s
  stop : ∀ {I N Φ s E} {Q : Option Value → Shared → Prop}, Rep C N (.ob I (P n) :: Φ) s → V N → (∀ s', Rep C N Φ s' → Q none s') → wpAny C.M A (pyNext (.ref I)) Q E s
  own : ∀ {i I N Φ s E target v} {Q : Unit → Shared → Prop}, Rep C N (.ob I (P i) :: Φ) s → Q () s → wpAny C.M A (letOwnedTupleGo target (.ref I) v) Q E s
  self : ∀ {i I N Φ s E} {Q : Value → Shared → Prop}, Rep C N (.ob I (P i) :: Φ) s → Q (.ref I) s → wpAny C.M A (pyIter (.ref I)) Q E s
noncomputable def ItOf (C : Cx) (A : Around) (x : Value) (P : Nat → Obj) (V : Led → Prop) : Prop :=
  ∀ {N Φ s E} {Q : Value → Shared → Prop}, Rep C N Φ s → V N → (∀ I s', Rep C N (.ob I (P 0) :: Φ) s' → Q (.ref I) s') → wpAny C.M A (pyIter x) Q E s
noncomputable abbrev itO (l : Addr) (i : Nat) : Obj := { cls := .type "list_iterator", data := .fields #[.ref l, .int i 0] }
noncomputable def Lists (C : Cx) (l : Addr) (cl : Value) (d : Option Addr) (vs : List Value) (N : Led) : Prop := ∃ k, Has C N l (sq cl d vs k)
theorem letOwned_no {target : Expr} {I : Addr} {n : String} {fs : Array Value} {v : Value} {s : Shared} {E : Value → Shared → Prop} {Q : Unit → Shared → Prop} (ho : s.heap.get? I = some { cls := .type n, data := .fields fs })
    (hn : ["enumerate", "zip", "dict_itemiterator", "dict_reverseitemiterator", "odict_iterator", "itertools.zip_longest", "itertools.pairwise"].contains n = false) (q : Q () s) :
    wpAny C.M A (letOwnedTupleGo target (.ref I) v) Q E s := by
  have h1 : ∀ v, (∃ a, v = .ref a) ∨ letOwnedTupleGo (.Tuple [] default default) (.ref I) v = pure () := by intro v; cases v <;> first | exact .inl ⟨_, rfl⟩ | exact .inr rfl
  have h2 : ∀ t, letOwnedTupleGo t (.ref I) v = pure () ∨ letOwnedTupleGo t (.ref I) v = letOwnedTupleGo (.Tuple [] default default) (.ref I) v := by intro t; cases t <;> first | exact .inl rfl | exact .inr rfl
  rcases h2 target with e | e <;> rw [e]
  · exact wpAny_pure q
  rcases h1 v with ⟨a, rfl⟩ | e
  · refine wpAny_bind (wpAny_load ho ?_)
    dsimp only
    rw [hn]
    exact wpAny_pure q
  · rw [e]; exact wpAny_pure q
section raw
variable {prog : Program} {w : World} {s : Shared} {E : Value → Shared → Prop} {l I : Addr} {cl : Value} {d : Option Addr} {vs : List Value} {k i : Nat}
theorem next_item {x : Value} {Q : Option Value → Shared → Prop} (ho : s.heap.get? I = some (itO l i)) (hl : s.heap.get? l = some (sq cl d vs k)) (hx : vs[i]? = some x)
    (hQ : ∀ h', h'.get? I = some (itO l (i + 1)) → Heap.SameBut I s.heap h' → Q (some x) { s with heap := h' }) : wpAny (model prog w) A (pyNext (.ref I)) Q E s := by
  have hit : s.TypeIs (.ref I) "list_iterator" := ⟨_, ho, rfl⟩
  unfold pyNext
  refine wpAny_bind (wpAny_attempt (wpAny_callSpecial?_slot (name := Str.ofString "__next__") hit slot_listiter_next
    (wpAny_call_entry slot_listiter_next hit entry_listiter_next ?_ (args_listiter_next _))))
  show wpAny _ _ (field (.ref I) 0 >>= _) _ _ s
  refine wpAny_bind (wpAny_field ho rfl (x := .ref l) rfl ?_)
  show wpAny _ _ (if (Value.ref l == Value.none) = true then _ else _) _ _ s
  rw [if_neg (show ¬ ((Value.ref l == Value.none) = true) from Bool.false_ne_true)]
  show wpAny _ _ (field (.ref I) 1 >>= _) _ _ s
  refine wpAny_bind (wpAny_field ho rfl (x := .int i 0) rfl ?_)
  show wpAny _ _ (seqItems? (.ref l) >>= _) _ _ s
  refine wpAny_bind (wpAny_seqItems hl rfl ?_)
  dsimp only
  rw [show vs.toArray[((i : Nat) : Int).toNat]? = vs[i]? from List.getElem?_toArray, hx]
  refine wpAny_bind (wpAny_setField ho rfl (by simp) (wpAny_pure ⟨x, rfl, wpAny_pure (hQ _ ?_ (Heap.SameBut.update ..))⟩))
  have := Heap.get?_update_self (a := I) (Obj.mapFields fun fs => fs.setIfInBounds 1 (.int (i + 1) 0)) ho (Obj.isFreed_of_fields (Obj.data_mapFields rfl _))
  exact this
theorem next_end {Q : Option Value → Shared → Prop} (hh : A.handled = none) (ho : s.heap.get? I = some (itO l vs.length)) (hl : s.heap.get? l = some (sq cl d vs k))
    (hQ : ∀ h', Heap.ExtBut I s.heap h' → Q none { s with heap := h' }) : wpAny (model prog w) A (pyNext (.ref I)) Q E s := by
  have hit : s.TypeIs (.ref I) "list_iterator" := ⟨_, ho, rfl⟩
  have hx : vs[vs.length]? = none := List.getElem?_eq_none (Nat.le_refl _)
  unfold pyNext
  refine wpAny_bind (wpAny_attempt (wpAny_callSpecial?_slot (name := Str.ofString "__next__") hit slot_listiter_next
    (wpAny_call_entry slot_listiter_next hit entry_listiter_next ?_ (args_listiter_next _))))
  show wpAny _ _ (field (.ref I) 0 >>= _) _ _ s
  refine wpAny_bind (wpAny_field ho rfl (x := .ref l) rfl ?_)
  show wpAny _ _ (if (Value.ref l == Value.none) = true then _ else _) _ _ s
  rw [if_neg (show ¬ ((Value.ref l == Value.none) = true) from Bool.false_ne_true)]
  show wpAny _ _ (field (.ref I) 1 >>= _) _ _ s
  refine wpAny_bind (wpAny_field ho rfl (x := .int vs.length 0) rfl ?_)
  show wpAny _ _ (seqItems? (.ref l) >>= _) _ _ s
  refine wpAny_bind (wpAny_seqItems hl rfl ?_)
  dsimp only
  rw [show vs.toArray[((vs.length : Nat) : Int).toNat]? = vs[vs.length]? from List.getElem?_toArray, hx]
  refine wpAny_bind (wpAny_rule (wpAny_bind (wpAny_setField ho rfl (by simp) ?_)))
  show wpAny _ _ (newExc (.type "StopIteration") [] >>= _) _ _ _
  refine wpAny_bind ?_
  simp only [newExc, newTuple]
  refine wpAny_bind (wpAny_newObj_type ?_ (by size_fits))
  refine wpAny_bind (m := firstArgMember _ _) (wpAny_of_eq (a := Value.none) (by first | rfl | (simp only [firstArgMember]; rfl)) ?_)
  refine wpAny_newObj_type ?_ (by size_fits)
  unfold raiseNew
  refine wpAny_bind (wpAny_handled ?_)
  rw [show A.in1.handled = none from hh]
  refine wpAny_bind (wpAny_pure (wpAny_throw ?_))
  refine wpAny_bind (wpAny_isInstance (T := "StopIteration") (b := true) ⟨_, Heap.get?_push_size _ rfl, rfl⟩ isSubtype_stop ?_)
  exact wpAny_pure (hQ _ (((Heap.SameBut.update ..).extBut.push _).push _))
end raw
section list
variable {l : Addr} {cl : Value} {d : Option Addr} {vs : List Value}
theorem seqItemsL {s : Shared} {E} {Q : Option (Array Value) → Shared → Prop} {k : Nat} (R : Rep C N Φ s) (h : Has C N l (sq cl d vs k)) (q : Q (some vs.toArray) s) : wpAny C.M A (seqItems? (.ref l)) Q E s :=
  wpAny_seqItems (R.has h) rfl q
theorem Iter.list (hh : A.handled = none) : Iter C A (itO l) vs.length (fun i x => vs[i]? = some x) (Lists C l cl d vs) where
  item := by
    rintro i I N Φ s E Q hi R ⟨k, hl⟩ hQ
    exact next_item (R.frm (.head _)) (R.has hl) (List.getElem?_eq_getElem hi) fun h' e x => hQ _ _ (List.getElem?_eq_getElem hi) (R.top (f' := .ob I (itO l (i + 1))) rfl (fun b o hb e => x.extBut b o (fun q => hb (q ▸ .head _)) e) e)
  stop := by
    rintro I N Φ s E Q R ⟨k, hl⟩ hQ
    exact next_end hh (R.frm (.head _)) (R.has hl) fun h' x => hQ _ (R.lose fun b o hb e => x b o (fun q => hb (q ▸ .head _)) e)
  own := fun R q => letOwned_no (R.frm (.head _)) (by decide) q
  self := fun {i I N Φ s E Q} R q => wpAny_pyIter_listiter (l := l) (i := i) ⟨_, R.frm (.head _), rfl, rfl⟩ q
theorem special_raw {a : Addr} {n : Nat} {name : Str} {id : String} {b : Builtin} {s : Shared} {E} {Q : Option Value → Shared → Prop} (S : LSlot name id b) (hf : findIn C.K (.ref accA) name = some (some (.builtin id))) (hc : LsC cl) (R : Rep C N Φ s) (h : Has C N a (sq cl d vs n))
    (q : ∀ s', Rep C N Φ s' → Q (some (.builtin id)) s') : wpAny C.M A (specialOf (.ref a) name) Q E s :=
  (WE.specialL (Q := fun v N' => v = some (.builtin id) ∧ N' = N) S hf hc h ⟨rfl, rfl⟩).use R fun v s' N' R' ⟨e1, e2⟩ => by subst e1; subst e2; exact q s' R'
theorem ItOf.list (F : AccF C) (hc : LsC cl) : ItOf C A (.ref l) (itO l) (Lists C l cl d vs) := by
  rintro N Φ s E Q R ⟨k, hl⟩ hQ
  unfold pyIter
  refine wpAny_bind (special_raw sl_iter F.iter hc R hl fun s₁ R₁ => ?_)
  show wpAny C.M A (callSpecialIfBoundUnlessNone? (.ref l) "__iter__" _ >>= _) Q E s₁
  refine wpAny_bind ?_
  unfold callSpecialIfBoundUnlessNone? bindSpecialIfBound?
  refine wpAny_holding (wpAny_bind (wpAny_bind (special_raw sl_iter F.iter hc R₁ hl fun s₂ R₂ => ?_)))
  dsimp only
  rw [sl_iter.bind]
  refine wpAny_bind (wpAny_askSetting (wpAny_ite ?_))
  have fin : ∀ {K : Option Value → Shared → Prop} {refuse : Sem Value}, (∀ I s', Rep C N (.ob I (itO l 0) :: Φ) s' → K (some (.ref I)) s') →
      wpAny C.M A (if (Value.builtin "list.__iter__" == Value.none) = true then (refuse >>= fun v => pure (some v)) else (call (.builtin "list.__iter__") [.ref l] >>= fun v => pure (some v))) K E s₂ := by
    intro K refuse hK
    rw [if_neg (by decide)]
    refine wpAny_bind (wpAny_call (codeAny_call_builtin sl_iter.plain sl_iter.entry ((sl_iter.check (Q := fun _ N' => N' = N) (cl := cl) (d := d) (vs := vs) (n := k) (a := l) (rest := []) (kw := []) F hc hl (args_list_iter _) rfl).use R₂ fun _ s₃ N₃ R₃ e => ?_)))
    subst e
    show wpAny _ _ (do ret (← newFields "list_iterator" [.ref l, rawInt 0])) _ _ s₃
    refine wpAny_bind (wpAny_newObj_type (wpAny_pure (wpAny_pure (hK _ _ ?_))))
    exact R₃.pushG (tk := s₃.toks) (f := .ob s₃.heap.objs.size (itO l 0)) (fun _ _ e => Heap.get?_push_of_some _ e) (Heap.get?_push_size _ rfl) (fun b hb => by simp [Prv.own] at hb; rw [hb]; exact Nat.le_refl _) (by simp [Prv.own])
  have nx : ∀ I s', Rep C N (.ob I (itO l 0) :: Φ) s' → wpAny C.M A (specialOf (.ref I) "__next__") (fun r s'' => (∃ x, r = some x) ∧ Q (.ref I) s'') E s' := fun I s' R' =>
    wpAny_specialOf (T := "list_iterator") ⟨_, R'.frm (.head _), rfl⟩ slot_listiter_next.lookup ⟨⟨_, rfl⟩, hQ I s' R'⟩
  have tail : ∀ I s', Rep C N (.ob I (itO l 0) :: Φ) s' → wpAny C.M A (do match ← specialOf (.ref I) "__next__" with
      | none => rule "iter.non-iterator"; raiseError "TypeError" s!"iter() returned non-iterator of type '{← typeNameOf (.ref I)}'"
      | some _ => pure (.ref I)) Q E s' := fun I s' R' => wpAny_bind (wpAny_mono (nx I s' R') (fun r s'' ⟨⟨x, e⟩, q⟩ => by subst e; exact wpAny_pure q) fun _ _ x => x)
  split
  · exact wpAny_bind (wpAny_pure (wpAny_pure (fin tail)))
  · exact wpAny_tryCatch (wpAny_bind (wpAny_pure (wpAny_pure (fin tail))))
end list
section range
noncomputable abbrev rngO (a b c : Int) (t u v : Tok) : Obj := { cls := .type "range", data := .fields #[.int a t, .int b u, .int c v] }
noncomputable abbrev ritO (x left step : Int) : Obj := { cls := .type "range_iterator", data := .fields #[rawInt x, rawInt left, rawInt step] }
theorem Iter.range (hh : A.handled = none) (a c : Int) (n : Nat) : Iter C A (fun i => ritO (a + i * c) (n - i) c) n (fun i x => ∃ t, x = .int (a + i * c) t) (fun _ => True) where
  item := by
    intro i I N Φ s E Q hi R _ hQ
    have ho := R.frm (.head _)
    refine wpAny_pyNext_range_item ho (by lia) fun h' hit hs => hQ _ _ ⟨_, rfl⟩ ?_
    refine R.top (f' := .ob I _) rfl (fun b o hb e => hs.extBut b o (fun q => hb (q ▸ .head _)) e) ?_
    have e1 : a + (i : Int) * c + c = a + ((i + 1 : Nat) : Int) * c := by rw [Int.natCast_add, Int.add_mul]; simp; lia
    have e2 : (n : Int) - (i : Int) - 1 = (n : Int) - ((i + 1 : Nat) : Int) := by lia
    rw [e1, e2] at hit
    exact hit
  stop := by
    intro I N Φ s E Q R _ hQ
    have ho := R.frm (.head _)
    refine wpAny_pyNext_range_end hh ho (by lia) fun h' hx => hQ _ ?_
    exact R.lose (tk := s.toks) fun b o hb e => hx b o (fun q => hb (q ▸ .head _)) e
  own := fun R q => letOwned_no (R.frm (.head _)) (by decide) q
  self := by
    intro i I N Φ s E Q R q
    have ho := R.frm (.head _)
    have hT : s.TypeIs (.ref I) "range_iterator" := ⟨_, ho, rfl⟩
    refine wpAny_pyIter_slot hT F.slot_range_iterator_iter (wpAny_call_entry F.slot_range_iterator_iter hT F.entry_range_iterator_iter ?_ (F.args_range_iterator_iter_1 _))
    unfold Builtin.«dict_keyiterator.__iter__»
    exact wpAny_pure ⟨_, rfl, "range_iterator", _, hT, F.slot_range_iterator_next.lookup, q⟩
theorem ItOf.range {r : Addr} {a b c : Int} {t u v : Tok} {n : Nat} (hsmall : Builtin.Range.small a b c = true) (hn : Builtin.Range.rangeSize a b c = n) : ItOf C A (.ref r) (fun i => ritO (a + i * c) (n - i) c) (fun N => Has C N r (rngO a b c t u v)) := by
  intro N Φ s E Q R hr hQ
  refine wpAny_pyIter_range (R.has hr) hsmall (hQ _ _ ?_)
  refine R.pushG (tk := s.toks) (f := .ob s.heap.objs.size _) (fun _ _ e => Heap.get?_push_of_some _ e) ?_ (fun b hb => by simp [Prv.own] at hb; rw [hb]; exact Nat.le_refl _) (by simp [Prv.own])
  rw [hn]
  have e : ritO (a + ((0 : Nat) : Int) * c) ((n : Int) - ((0 : Nat) : Int)) c = ritO a n c := by simp
  show Heap.get? _ _ = some (ritO (a + ((0 : Nat) : Int) * c) ((n : Int) - ((0 : Nat) : Int)) c)
  rw [e]
  exact Heap.get?_push_size s.heap (o := ritO a n c) rfl
end range
section loops
variable {env : Env} {K : Fk} {m : Lo}
@[reducible] noncomputable def kDone (J : Led → Lo → Prop) : Flow → Led → Lo → Prop := fun f N m => (f = .next ∨ f = .cont) ∧ J N m
@[reducible] noncomputable def kInto (C : Cx) (A : Around) (Φ : Frs) (K : Fk) (env : Env) (body : List Stmt) (Q : Flow → Led → Lo → Prop) : Unit → Led → Lo → Prop := fun _ N m => WS C A (execs body env) Q N K m Φ
@[reducible] noncomputable def kFor (C : Cx) (A : Around) (Φ : Frs) (K : Fk) (m : Lo) (env : Env) (target : Expr) (body : List Stmt) (Q : Flow → Led → Lo → Prop) : Value → Led → Prop := fun x N₁ =>
  ∃ P n X V₀ V, ∃ J : Nat → Led → Lo → Prop, ItOf C A x P V₀ ∧ Iter C A P n X V ∧ V₀ N₁ ∧ J 0 N₁ m ∧ (∀ i N' m', J i N' m' → V N') ∧
      (∀ i N' m' x I, i < n → J i N' m' → X i x → WS C A (assign target env x) (kInto C A (.ob I (P (i + 1)) :: Φ) K env body (kDone (J (i + 1)))) N' K m' (.ob I (P (i + 1)) :: Φ)) ∧
      (∀ N' m', J n N' m' → Q .next N' m')
theorem s_for {target iter : Expr} {body : List Stmt} {pos} {Q : Flow → Led → Lo → Prop}
    (h : WE C A (eval iter env) (kFor C A Φ K m env target body Q) N (.fr K m :: Φ))
    (hs : ∀ x, foldedSetIterable iter env x = pure x := by intro _; rfl) : WS C A (exec (.For target iter body [] pos) env) Q N K m Φ := by
  intro s E R
  refine wpAny_For (h.use R fun x s₁ N₁ R₁ q => ?_) hs
  obtain ⟨P, n, X, V₀, V, J, h0, hI, hv, hJ, hV, turn, done⟩ := q
  refine h0 R₁ hv fun I s₂ R₂ => ?_
  refine codeAny_forLoop_any (fun k s' => ∃ i N' m', i ≤ n ∧ k = n - i ∧ Rep C N' (.ob I (P i) :: .fr K m' :: Φ) s' ∧ J i N' m') (fun k s' hk => ?_) n ⟨0, N₁, m, Nat.zero_le _, rfl, R₂, hJ⟩
  obtain ⟨i, N', m', hi, rfl, R', hj⟩ := hk
  rcases Nat.lt_or_ge i n with hlt | hge
  · refine hI.item hlt R' (hV _ _ _ hj) fun x s₃ hx R₃ => ?_
    refine hI.own R₃ ?_
    have R₃' := R₃.perm (List.Perm.swap _ _ _)
    refine (turn i N' m' x I hlt hj hx).use R₃' fun _ s₄ N₄ m₄ R₄ h₄ => ?_
    refine h₄.use R₄ fun f s₅ N₅ m₅ R₅ h₅ => ?_
    rcases h₅.1 with rfl | rfl <;> exact ⟨n - (i + 1), Nat.sub_succ_lt_self _ _ hlt, i + 1, N₅, m₅, hlt, rfl, R₅.perm (List.Perm.swap _ _ _), h₅.2⟩
  · obtain rfl : i = n := Nat.le_antisymm hi hge
    refine hI.stop R' (hV _ _ _ hj) fun s₃ R₃ => ?_
    exact wpAny_execs_nil ⟨N', m', R₃, done N' m' hj⟩
end loops
end Mine.Internal
end
section
open PySem PySem.W PyProof.Rows PySem.Calls PySem.Spec PySem.Builtin.List
namespace Mine.Internal
variable {C : Cx} {N N' : Led} {Φ : Frs} {A : Around}
noncomputable abbrev testsOk (ifs : List Expr) (env : Env) : Sem Bool := forIn ifs true fun c r => if r = true then do let ok ← isTrue c env (eval c env); pure (ForInStep.yield ok) else pure (ForInStep.yield r)
@[reducible] noncomputable def kElt (J : List Value → Led → Prop) (ys : List Value) : Value → Led → Prop := fun y N => J (ys ++ [y]) N
@[reducible] noncomputable def kOkd (C : Cx) (A : Around) (Φ : Frs) (cenv : Env) (elt : Expr) (J : List Value → Led → Prop) (ys : List Value) : Bool → Led → Prop := fun ok N => if ok = true then WE C A (eval elt cenv) (kElt J ys) N Φ else J ys N
@[reducible] noncomputable def kTst (C : Cx) (A : Around) (Φ : Frs) (K : Fk) (cenv : Env) (elt : Expr) (ifs : List Expr) (J : List Value → Led → Prop) (ys : List Value) : Unit → Led → Lo → Prop := fun _ N m => WE C A (testsOk ifs cenv) (kOkd C A (.fr K m :: Φ) cenv elt J ys) N (.fr K m :: Φ)
theorem tests_nil {env cenv : Env} {elt : Expr} {J : List Value → Led → Prop} {ys : List Value} {Φ' : Frs} (q : WE C A (eval elt cenv) (kElt J ys) N Φ') : WE C A (testsOk [] env) (kOkd C A Φ' cenv elt J ys) N Φ := WE.pure (ite_y rfl q)
theorem tests_one {env : Env} {c : Expr} {Q : Bool → Led → Prop} (h : WE C A (isTrue c env (eval c env)) Q N Φ) : WE C A (testsOk [c] env) Q N Φ := fun s E R => wpAny_tests_one (h s E R)
theorem append_prv {D : Addr} {vs : List Value} {k : Nat} {v : Value} {Ψ : Frs} {s : Shared} {E} {Q : Value → Shared → Prop} (F : AccF C) (R : Rep C N (.ob D (lst vs k) :: Ψ) s) (hs : vs.length ≤ sizeLine)
    (q : ∀ r s' k', Rep C N (.ob D (lst (vs ++ [v]) k') :: Ψ) s' → Q r s') : wpAny C.M A (call (.builtin "list.append") [.ref D, v]) Q E s := by
  have hD : New D N := by obtain ⟨z, rz⟩ := R.z; exact rz.apart D (mem_own (.head _) (.head _))
  refine (m_append (Q := fun r N' => r = .none ∧ ∃ k', N' = updL ((D, lst vs k) :: N) D (lst (vs ++ [v]) k')) F (.inl rfl) (.head _) hs fun k' => ⟨rfl, k', rfl⟩).use R.give fun r s' N' R' pz0 => ?_
  obtain ⟨e, k', e'⟩ := pz0
  subst e'
  refine q _ _ k' ((R'.take (updL_self _ _ _) (fun _ h => by cases h)).drop fun p hp => ?_)
  refine List.mem_filter.mpr ⟨updL_but _ _ _ p (.tail _ hp) (hD p hp), by simpa using hD p hp⟩
noncomputable def compT1 (elt target iter : Expr) (ifs : List Expr) (nx : Code) (it acc : Value) (env : Env) : Sem PySem.Fin := standAt iter.pos >>= fun _ => pyNext it >>= fun r => match r with
      | none => pure (.done .next)
      | some v => letOwnedTupleGo target it v >>= fun _ => assign target env v >>= fun _ => testsOk ifs env >>= fun ok =>
        if ok = true then (eval elt env >>= fun x => call (.builtin "list.append") [acc, x] >>= fun _ => pure ()) >>= fun _ => again nx
        else again nx
theorem comp_turn1 (elt target iter : Expr) (ifs : List Expr) (scope : Scope) (pos : Pos) (it acc : Value) (env : Env) :
    compTurn (.ListComp elt [⟨target, iter, ifs, 0⟩] scope pos) 0 it acc env = compT1 elt target iter ifs (.compLoop (.ListComp elt [⟨target, iter, ifs, 0⟩] scope pos) 0 it acc env) it acc env := by rfl
theorem comp_turn2 (elt t₀ i₀ target iter : Expr) (scope : Scope) (pos : Pos) (it acc : Value) (env : Env) :
    compTurn (.ListComp elt [⟨t₀, i₀, [], 0⟩, ⟨target, iter, [], 0⟩] scope pos) 1 it acc env = compT1 elt target iter [] (.compLoop (.ListComp elt [⟨t₀, i₀, [], 0⟩, ⟨target, iter, [], 0⟩] scope pos) 1 it acc env) it acc env := by rfl
theorem comp_turn0 (elt t₀ i₀ target iter : Expr) (scope : Scope) (pos : Pos) (it acc : Value) (env : Env) :
    compTurn (.ListComp elt [⟨t₀, i₀, [], 0⟩, ⟨target, iter, [], 0⟩] scope pos) 0 it acc env = (standAt i₀.pos >>= fun _ => pyNext it >>= fun r => match r with
      | none => pure (.done .next)
      | some v => letOwnedTupleGo t₀ it v >>= fun _ => assign t₀ env v >>= fun _ => testsOk [] env >>= fun ok =>
        if ok = true then (eval iter env >>= fun x => standAt iter.pos >>= fun _ => foldedSetIterable iter env x >>= fun x => holding [x] (pyIter x) >>= fun it' =>
          runOwn (.compStart (.ListComp elt [⟨t₀, i₀, [], 0⟩, ⟨target, iter, [], 0⟩] scope pos) 1 it' acc env) env >>= fun _ => again (.compLoop (.ListComp elt [⟨t₀, i₀, [], 0⟩, ⟨target, iter, [], 0⟩] scope pos) 0 it acc env))
        else again (.compLoop (.ListComp elt [⟨t₀, i₀, [], 0⟩, ⟨target, iter, [], 0⟩] scope pos) 0 it acc env)) := by rfl
theorem cellsFrom_append : ∀ (names : List (Str × NameKind)) (n : Nat) (acc acc' : List (Str × Addr)), cellsFrom n names (acc ++ acc') = cellsFrom n names acc ++ acc'
  | [], _, _, _ => rfl
  | (nm, kd) :: r, n, acc, acc' => by
    unfold cellsFrom
    split
    · exact cellsFrom_append r (n + 1) ((nm, n) :: acc) acc'
    · exact cellsFrom_append r n acc acc'
theorem newEnv_comp {scope : Scope} {globals : Addr} {cs : Addr → List (Str × Addr)} {cl : List (Str × Addr)} {qual : Str} {env : Env} {s : Shared} {E} {Q : Env → Shared → Prop} (hcs : ∀ L, cellsFrom (L + 1) scope.names [] = cs L) (hndB : nodupB scope.names = true) (R : Rep C N Φ s)
    (q : ∀ L s', Rep C N (.fr ⟨L, cs L⟩ (fun _ => none) :: Φ) s' → Q { scope, locals := L, globals, cells := cs L ++ cl, qual, func := none, code := env.code, frame := env.frame, builtins := env.builtins } s') :
    wpAny C.M A (newFunctionEnv scope globals cl [] qual none .none (some env)) Q E s := by
  unfold newFunctionEnv
  simp only [Option.isSome_some, if_true]
  refine wpAny_bind (wpAny_alloc ?_)
  refine wpAny_bind (wpAny_layCells _ (fun name kind cells => by cases hkc : kind == NameKind.cell <;> simp [hkc]) _ _ _ _ ?_)
  rw [show ({ s with heap := s.heap.push { cls := .type "dict", data := .dict #[] } } : Shared).heap.objs.size = s.heap.objs.size + 1 from Heap.size_push ..]
  rw [show cl = [] ++ cl from rfl, cellsFrom_append, hcs]
  refine wpAny_bind ?_
  rw [List.forIn_nil]
  refine wpAny_pure (wpAny_pure ?_)
  have ok := cellsFrom_ok scope.names (s.heap.push { cls := .type "dict", data := .dict #[] }) (s.heap.objs.size + 1) [] ⟨fun _ _ hm => (nomatch hm), List.Pairwise.nil⟩ (by rw [Heap.size_push]; exact Nat.le_refl _)
  rw [Heap.size_push, hcs] at ok
  have hgrow : ∀ b o, s.heap.get? b = some o → (pushCells (s.heap.push { cls := .type "dict", data := .dict #[] }) scope.names).get? b = some o := fun b o e => pushCells_keeps _ _ b o (Heap.get?_push_of_some _ e)
  refine q _ _ (R.pushG (tk := s.toks) hgrow ⟨⟨_, (Heap.Ns.new s.heap (.type "dict")).keeps (pushCells_keeps _ _), fun x _ => rfl⟩, fun p hp => (ok.empty p.1 p.2 hp).1, ?_⟩ (fun b hb => ?_) ?_)
  · show ((cs s.heap.objs.size).map (·.1)).Nodup
    rw [← hcs]; exact cells_nodup _ _ _ (nodupB_ok hndB) List.nodup_nil (by simp)
  · rcases List.mem_cons.mp hb with rfl | hb
    · exact Nat.le_refl _
    · obtain ⟨p, hp, rfl⟩ := List.mem_map.mp hb
      exact Nat.le_of_succ_le (ok.empty p.1 p.2 hp).2
  · rw [show (Prv.fr ⟨s.heap.objs.size, cs s.heap.objs.size⟩ (fun _ => none)).own = s.heap.objs.size :: (cs s.heap.objs.size).map (·.2) from rfl, List.nodup_cons]
    refine ⟨fun hm => ?_, List.pairwise_map.mpr ok.apart⟩
    obtain ⟨p, hp, e⟩ := List.mem_map.mp hm
    have := (ok.empty p.1 p.2 hp).2
    rw [e] at this
    exact absurd this (Nat.not_succ_le_self _)
section comp
variable {elt target iter : Expr} {ifs : List Expr} {scope : Scope} {pos : Pos} {env : Env}
noncomputable abbrev CompOk (C : Cx) (A : Around) (elt target : Expr) (ifs : List Expr) (cenv : Env) (K : Fk) (P : Nat → Obj) (n : Nat) (X : Nat → Value → Prop) (J : Nat → List Value → Led → Prop) (Φ : Frs) : Prop :=
  ∀ i ys N m x I D k, i < n → J i ys N → X i x → WS C A (assign target cenv x) (kTst C A (.ob D (lst ys k) :: .ob I (P (i + 1)) :: Φ) K cenv elt ifs (J (i + 1)) ys) N K m (.ob D (lst ys k) :: .ob I (P (i + 1)) :: Φ)
theorem comp_loopG {gs : List Comprehension} {dp : Nat} {P : Nat → Obj} {n : Nat} {X : Nat → Value → Prop} {V : Led → Prop} {J : Nat → List Value → Led → Prop} {cenv : Env} {K : Fk} {I D : Addr} {s : Shared} {k : Nat} {m : Lo} {R : Result → Shared → Prop} (F : AccF C) (ht : compTurn (.ListComp elt gs scope pos) dp (.ref I) (.ref D) cenv = compT1 elt target iter ifs (.compLoop (.ListComp elt gs scope pos) dp (.ref I) (.ref D) cenv) (.ref I) (.ref D) cenv)
    (hI : Iter C A P n X V) (hV : ∀ i ys N', J i ys N' → V N' ∧ ys.length ≤ sizeLine) (turn : CompOk C A elt target ifs cenv K P n X J Φ)
    {ys₀ : List Value} (R₀ : Rep C N (.fr K m :: .ob D (lst ys₀ k) :: .ob I (P 0) :: Φ) s) (hJ : J 0 ys₀ N)
    (done : ∀ ys N' m' k' s', J n ys N' → Rep C N' (.fr K m' :: .ob D (lst ys k') :: Φ) s' → R (.ok .next) s') :
    codeAny C.M A (.compLoop (.ListComp elt gs scope pos) dp (.ref I) (.ref D) cenv) R s := by
  refine codeAny_loop rfl (fun j s' => ∃ i ys N' m' k', i ≤ n ∧ j = n - i ∧ Rep C N' (.fr K m' :: .ob D (lst ys k') :: .ob I (P i) :: Φ) s' ∧ J i ys N') (fun j s' hj => ?_) n ⟨0, ys₀, N, m, k, Nat.zero_le _, rfl, R₀, hJ⟩
  obtain ⟨i, ys, N', m', k', hi, rfl, R', hj⟩ := hj
  show wpAny _ A ((compTurn (.ListComp elt gs scope pos) dp (.ref I) (.ref D) cenv).onRaise (fun x => do noteFrame x cenv; theTreesLotGoes x)) _ _ s'
  refine wpAny_noted ?_
  rw [ht]
  unfold compT1
  have pm : ∀ (a b c : Prv) (l : Frs), (a :: b :: c :: l).Perm (c :: a :: b :: l) := fun a b c l => ((List.Perm.swap c b l).cons a).trans (List.Perm.swap c a (b :: l))
  refine wpAny_bind (wpAny_standAt (wpAny_bind ?_))
  rcases Nat.lt_or_ge i n with hlt | hge
  · refine hI.item hlt (R'.perm (pm _ _ _ _)) (hV _ _ _ hj).1 fun x s₃ hx R₃ => ?_
    dsimp only
    refine wpAny_bind (hI.own R₃ ?_)
    refine wpAny_bind ((turn i ys N' m' x I D k' hlt hj hx).use (R₃.perm (pm _ _ _ _).symm) fun _ s₄ N₄ m₄ R₄ h₄ => ?_)
    refine wpAny_bind (h₄.use R₄ fun ok s₅ N₅ R₅ h₅ => ?_)
    cases ok with
    | false =>
      exact wpAny_pure ⟨rfl, n - (i + 1), Nat.sub_succ_lt_self _ _ hlt, i + 1, ys, N₅, m₄, k', hlt, rfl, R₅, h₅⟩
    | true =>
      refine wpAny_bind (wpAny_bind (WE.use h₅ R₅ fun y s₆ N₆ R₆ h₆ => wpAny_bind ?_))
      refine append_prv F (R₆.perm (List.Perm.swap _ _ _)) (hV _ _ _ hj).2 fun r s₇ k₇ R₇ => ?_
      exact wpAny_pure (wpAny_pure ⟨rfl, n - (i + 1), Nat.sub_succ_lt_self _ _ hlt, i + 1, _, N₆, m₄, k₇, hlt, rfl, R₇.perm (List.Perm.swap _ _ _), h₆⟩)
  · obtain rfl : i = n := Nat.le_antisymm hi hge
    refine hI.stop (R'.perm (pm _ _ _ _)) (hV _ _ _ hj).1 fun s₃ R₃ => ?_
    exact wpAny_pure (done ys N' m' k' s₃ hj R₃)
theorem comp_loop {P : Nat → Obj} {n : Nat} {X : Nat → Value → Prop} {V : Led → Prop} {J : Nat → List Value → Led → Prop} {cenv : Env} {K : Fk} {I D : Addr} {s : Shared} {k : Nat} {m : Lo} {R : Result → Shared → Prop} (F : AccF C)
    (hI : Iter C A P n X V) (hV : ∀ i ys N', J i ys N' → V N' ∧ ys.length ≤ sizeLine) (turn : CompOk C A elt target ifs cenv K P n X J Φ)
    (R₀ : Rep C N (.fr K m :: .ob D (lst [] k) :: .ob I (P 0) :: Φ) s) (hJ : J 0 [] N)
    (done : ∀ ys N' m' k' s', J n ys N' → Rep C N' (.fr K m' :: .ob D (lst ys k') :: Φ) s' → R (.ok .next) s') :
    codeAny C.M A (.compLoop (.ListComp elt [⟨target, iter, ifs, 0⟩] scope pos) 0 (.ref I) (.ref D) cenv) R s :=
  comp_loopG F (comp_turn1 elt target iter ifs scope pos (.ref I) (.ref D) cenv) hI hV turn R₀ hJ done
noncomputable abbrev CompSrc (C : Cx) (A : Around) (elt target : Expr) (ifs : List Expr) (scope : Scope) (cs : Addr → List (Str × Addr)) (cl : List (Str × Addr)) (env : Env) (Φ : Frs) (Q : List Value → Addr → Nat → Led → Prop) (x : Value) (N₁ : Led) : Prop :=
  ∃ P n X V₀ V, ∃ J : Nat → List Value → Led → Prop, ItOf C A x P V₀ ∧ Iter C A P n X V ∧ V₀ N₁ ∧ J 0 [] N₁ ∧ (∀ i ys N', J i ys N' → V N' ∧ ys.length ≤ sizeLine) ∧
    (∀ Cf, CompOk C A elt target ifs (compEnvC scope (cs Cf ++ cl) Cf env) ⟨Cf, cs Cf⟩ P n X J Φ) ∧ (∀ ys N' D k, J n ys N' → New D N' → Q ys D k N')
theorem comp_run {cs : Addr → List (Str × Addr)} {cl : List (Str × Addr)} {x : Value} {s : Shared} {E} {Q : List Value → Addr → Nat → Led → Prop} {RR : Value → Addr → Result → Shared → Prop} (F : AccF C) (hcs : ∀ L, cellsFrom (L + 1) scope.names [] = cs L) (hnd : nodupB scope.names = true) (hkind : scope.kind = .function)
    (R : Rep C N Φ s) (h : CompSrc C A elt target ifs scope cs cl env Φ Q x N)
    (hRR : ∀ ys N' D Cf m' k' s', Q ys D k' N' → Rep C N' (.fr ⟨Cf, cs Cf⟩ m' :: .ob D (lst ys k') :: Φ) s' → RR (.ref D) Cf (.ok .next) s') :
    wpAny C.M A (pyIter x) (fun it s₂ => wpAny C.M A (newList []) (fun acc s₃ =>
      wpAny C.M A (newFunctionEnv scope env.globals cl [] env.qual none .none (some env)) (fun cenv s₄ =>
        codeAny C.M A (.compStart (.ListComp elt [⟨target, iter, ifs, 0⟩] scope pos) 0 it acc { cenv with scope := relabel scope env }) (RR acc cenv.locals) s₄) E s₃) E s₂) E s := by
  obtain ⟨P, n, X, V₀, V, J, h0, hI, hv, hJ, hV, turn, done⟩ := h
  refine h0 R hv fun I s₁ R₁ => ?_
  refine wpAny_newObj_type ?_ (by size_fits)
  have R₂ : Rep C N (.ob s₁.heap.objs.size (lst [] 0) :: .ob I (P 0) :: Φ) { s₁ with heap := s₁.heap.push (lst [] 0) } :=
    R₁.pushG (tk := s₁.toks) (f := .ob s₁.heap.objs.size (lst [] 0)) (fun _ _ e => Heap.get?_push_of_some _ e) (Heap.get?_push_size _ rfl) (fun b hb => by simp [Prv.own] at hb; rw [hb]; exact Nat.le_refl _) (by simp [Prv.own])
  refine newEnv_comp hcs hnd R₂ fun Cf s₂ R₃ => ?_
  have lp : codeAny C.M A (.compLoop (.ListComp elt [⟨target, iter, ifs, 0⟩] scope pos) 0 (.ref I) (.ref s₁.heap.objs.size) (compEnvC scope (cs Cf ++ cl) Cf env)) (RR (.ref s₁.heap.objs.size) Cf) s₂ := by
    refine comp_loop F hI hV (turn _) R₃ hJ fun ys N' m' k' s'' hj R'' => ?_
    refine hRR ys N' _ _ m' k' s'' (done ys N' _ _ hj ?_) R''
    obtain ⟨z, rz⟩ := R''.z
    exact rz.apart _ (mem_own (.tail _ (.head _)) (.head _))
  refine codeAny_compStart_list lp ?_
  exact hI.self (R₃.perm (((List.Perm.swap _ _ _).cons _).trans (List.Perm.swap _ _ _))) lp
@[reducible] noncomputable def kComp (Q : Value → Led → Prop) : List Value → Addr → Nat → Led → Prop := fun ys D k N => Q (.ref D) ((D, lst ys k) :: N)
@[reducible] noncomputable def kCompA (m : Lo) (y : Str) (Q : Flow → Led → Lo → Prop) : List Value → Addr → Nat → Led → Prop := fun ys D k N => Q .next ((D, lst ys k) :: N) (setLo m y (.ref D))
theorem e_compC (cs : Addr → List (Str × Addr)) {cl : List (Str × Addr)} {Q : Value → Led → Prop} (F : AccF C)
    (h : WE C A (eval iter env) (CompSrc C A elt target ifs scope cs cl env Φ (kComp Q)) N Φ)
    (hclos : closureFor scope env = pure cl := by rfl) (hcs : ∀ L, cellsFrom (L + 1) scope.names [] = cs L := by intro _; rfl) (hnd : nodupB scope.names = true := by rfl) (hkind : scope.kind = .function := by rfl)
    (hnames : ∀ y ∈ scope.names, y.2 = .local → scope.names.lookup y.1 = some .local := by decide)
    (hs : ∀ x, foldedSetIterable iter env x = pure x := by intro _; rfl) : WE C A (eval (.ListComp elt [⟨target, iter, ifs, 0⟩] scope pos) env) Q N Φ := by
  intro s E R
  rw [eval_ListComp]
  refine wpAny_comprehension_free (use := none) rfl hs hclos hkind hnames (h.use R fun x s₁ N₁ R₁ q => ?_)
  refine comp_run (RR := fun acc Cf => compPost C.M A E none _ acc Cf) F hcs hnd hkind R₁ q fun ys N' D Cf m' k' s' hq R' => ?_
  obtain ⟨⟨ml, hn, _⟩, _⟩ := R'.frm (.head _)
  refine ⟨ml, hn, fun h' hs' => ⟨_, ?_, hq⟩⟩
  exact (R'.lose (tk := s'.toks) fun b o hb e => hs'.extBut b o (fun q => hb (q ▸ .head _)) e).give
theorem e_comp {cl : List (Str × Addr)} {Q : Value → Led → Prop} (F : AccF C)
    (h : WE C A (eval iter env) (CompSrc C A elt target ifs scope (fun _ => []) cl env Φ (kComp Q)) N Φ)
    (hclos : closureFor scope env = pure cl := by rfl) (hcs : ∀ L, cellsFrom (L + 1) scope.names [] = [] := by intro _; rfl) (hnd : nodupB scope.names = true := by rfl) (hkind : scope.kind = .function := by rfl)
    (hnames : ∀ y ∈ scope.names, y.2 = .local → scope.names.lookup y.1 = some .local := by decide)
    (hs : ∀ x, foldedSetIterable iter env x = pure x := by intro _; rfl) : WE C A (eval (.ListComp elt [⟨target, iter, ifs, 0⟩] scope pos) env) Q N Φ := e_compC (cs := fun _ => []) (F := F) (h := h) (hclos := hclos) (hcs := hcs) (hnd := hnd) (hkind := hkind) (hnames := hnames) (hs := hs)
theorem s_assign_compC (cs : Addr → List (Str × Addr)) {K : Fk} {m : Lo} {y : Str} {py spos : Pos} {cl : List (Str × Addr)} {Q : Flow → Led → Lo → Prop} (F : AccF C) (hst : StOk env K y)
    (h : WE C A (eval iter env) (CompSrc C A elt target ifs scope cs cl env (.fr K m :: Φ) (kCompA m y Q)) N (.fr K m :: Φ))
    (hsw : swapsWith (.ListComp elt [⟨target, iter, ifs, 0⟩] scope pos) (some (.Name y py)) spos.line env = pure true := by rfl)
    (hclos : closureFor scope env = pure cl := by rfl) (hcs : ∀ L, cellsFrom (L + 1) scope.names [] = cs L := by intro _; rfl) (hnd : nodupB scope.names = true := by rfl) (hkind : scope.kind = .function := by rfl)
    (hnames : ∀ y ∈ scope.names, y.2 = .local → scope.names.lookup y.1 = some .local := by decide) (hk : env.scope.kind = .function := by rfl)
    (hs : ∀ x, foldedSetIterable iter env x = pure x := by intro _; rfl) : WS C A (exec (.Assign [.Name y py] (.ListComp elt [⟨target, iter, ifs, 0⟩] scope pos) spos) env) Q N K m Φ := by
  intro s E R
  rw [exec_Assign_Name_used _ _ _ _ hsw]
  refine wpAny_bind (wpAny_standAt (wpAny_bind ?_))
  show wpAny _ A (do let _ ← comprehension (.ListComp elt [⟨target, iter, ifs, 0⟩] scope pos) scope env _ (newList []) false (eval iter env) (some (assign (.Name y py) env))) _ _ s
  refine wpAny_bind (wpAny_mono (wpAny_comprehension_free (use := some (assign (.Name y py) env)) (Q := fun _ s' => ∃ N' m', Rep C N' (.fr K m' :: Φ) s' ∧ Q .next N' m') rfl hs hclos hkind hnames (h.use R fun x s₁ N₁ R₁ q => ?_)) (fun _ s' hq => wpAny_pure (wpAny_pure hq)) fun _ _ e => e)
  refine comp_run (RR := fun acc Cf => compPost C.M A E (some (assign (.Name y py) env)) _ acc Cf) F hcs hnd hkind R₁ q fun ys N' D Cf m' k' s' hq R' => ?_
  show wpAny _ A (assign (.Name y py) env (.ref D)) _ _ _
  have R₂ := ((R'.perm (List.Perm.swap _ _ _)).give).perm (List.Perm.swap _ _ _)
  refine (as_name (Q := fun _ N'' m'' => Q .next N'' m'') hk hst hq).use R₂ fun _ s₂ N₂ m₂ R₃ q₃ => ?_
  have R₄ := R₃.perm (List.Perm.swap _ _ _)
  obtain ⟨⟨ml, hn, _⟩, _⟩ := R₄.frm (.head _)
  refine ⟨ml, hn, fun h' hs' => ⟨N₂, m₂, ?_, q₃⟩⟩
  exact R₄.lose (tk := s₂.toks) fun b o hb e => hs'.extBut b o (fun q => hb (q ▸ .head _)) e
theorem s_assign_comp {K : Fk} {m : Lo} {y : Str} {py spos : Pos} {cl : List (Str × Addr)} {Q : Flow → Led → Lo → Prop} (F : AccF C) (hst : StOk env K y)
    (h : WE C A (eval iter env) (CompSrc C A elt target ifs scope (fun _ => []) cl env (.fr K m :: Φ) (kCompA m y Q)) N (.fr K m :: Φ))
    (hsw : swapsWith (.ListComp elt [⟨target, iter, ifs, 0⟩] scope pos) (some (.Name y py)) spos.line env = pure true := by rfl)
    (hclos : closureFor scope env = pure cl := by rfl) (hcs : ∀ L, cellsFrom (L + 1) scope.names [] = [] := by intro _; rfl) (hnd : nodupB scope.names = true := by rfl) (hkind : scope.kind = .function := by rfl)
    (hnames : ∀ y ∈ scope.names, y.2 = .local → scope.names.lookup y.1 = some .local := by decide) (hk : env.scope.kind = .function := by rfl)
    (hs : ∀ x, foldedSetIterable iter env x = pure x := by intro _; rfl) : WS C A (exec (.Assign [.Name y py] (.ListComp elt [⟨target, iter, ifs, 0⟩] scope pos) spos) env) Q N K m Φ := s_assign_compC (cs := fun _ => []) (F := F) (h := h) (hclos := hclos) (hcs := hcs) (hnd := hnd) (hkind := hkind) (hnames := hnames) (hs := hs) (hst := hst) (hsw := hsw) (hk := hk)
@[reducible] noncomputable def kSrc2 (C : Cx) (A : Around) (Φ : Frs) (K : Fk) (cenv : Env) (elt target : Expr) (J : List Value → Led → Prop) (ys : List Value) : Value → Led → Prop := fun z N₃ =>
    ∃ P' n' X' V₀' V', ∃ J' : Nat → List Value → Led → Prop, ItOf C A z P' V₀' ∧ Iter C A P' n' X' V' ∧ V₀' N₃ ∧ J' 0 ys N₃ ∧ (∀ i ys N', J' i ys N' → V' N' ∧ ys.length ≤ sizeLine) ∧
      CompOk C A elt target [] cenv K P' n' X' J' Φ ∧ (∀ ys' N', J' n' ys' N' → J ys' N')
@[reducible] noncomputable def kIter2 (C : Cx) (A : Around) (Φ₀ Φ : Frs) (K : Fk) (cenv : Env) (elt target iter : Expr) (J : List Value → Led → Prop) (ys : List Value) : Unit → Led → Lo → Prop := fun _ N m => WE C A (eval iter cenv) (kSrc2 C A Φ₀ K cenv elt target J ys) N (.fr K m :: Φ)
noncomputable abbrev CompOk2 (C : Cx) (A : Around) (elt t₀ target iter : Expr) (cenv : Env) (K : Fk) (P : Nat → Obj) (n : Nat) (X : Nat → Value → Prop) (J : Nat → List Value → Led → Prop) (Φ : Frs) : Prop :=
  ∀ i ys N m x I D k, i < n → J i ys N → X i x → WS C A (assign t₀ cenv x) (kIter2 C A (.ob I (P (i + 1)) :: Φ) (.ob D (lst ys k) :: .ob I (P (i + 1)) :: Φ) K cenv elt target iter (J (i + 1)) ys) N K m (.ob D (lst ys k) :: .ob I (P (i + 1)) :: Φ)
theorem comp_loop2 {t₀ i₀ : Expr} {P : Nat → Obj} {n : Nat} {X : Nat → Value → Prop} {V : Led → Prop} {J : Nat → List Value → Led → Prop} {cenv : Env} {K : Fk} {I D : Addr} {s : Shared} {k : Nat} {m : Lo} {R : Result → Shared → Prop} (F : AccF C)
    (hI : Iter C A P n X V) (hV : ∀ i ys N', J i ys N' → V N') (turn : CompOk2 C A elt t₀ target iter cenv K P n X J Φ)
    (R₀ : Rep C N (.fr K m :: .ob D (lst [] k) :: .ob I (P 0) :: Φ) s) (hJ : J 0 [] N)
    (done : ∀ ys N' m' k' s', J n ys N' → Rep C N' (.fr K m' :: .ob D (lst ys k') :: Φ) s' → R (.ok .next) s')
    (hs : ∀ x, foldedSetIterable iter cenv x = pure x) :
    codeAny C.M A (.compLoop (.ListComp elt [⟨t₀, i₀, [], 0⟩, ⟨target, iter, [], 0⟩] scope pos) 0 (.ref I) (.ref D) cenv) R s := by
  refine codeAny_loop rfl (fun j s' => ∃ i ys N' m' k', i ≤ n ∧ j = n - i ∧ Rep C N' (.fr K m' :: .ob D (lst ys k') :: .ob I (P i) :: Φ) s' ∧ J i ys N') (fun j s' hj => ?_) n ⟨0, [], N, m, k, Nat.zero_le _, rfl, R₀, hJ⟩
  obtain ⟨i, ys, N', m', k', hi, rfl, R', hj⟩ := hj
  show wpAny _ A ((compTurn (.ListComp elt [⟨t₀, i₀, [], 0⟩, ⟨target, iter, [], 0⟩] scope pos) 0 (.ref I) (.ref D) cenv).onRaise (fun x => do noteFrame x cenv; theTreesLotGoes x)) _ _ s'
  refine wpAny_noted ?_
  rw [comp_turn0]
  have pm : ∀ (a b c : Prv) (l : Frs), (a :: b :: c :: l).Perm (c :: a :: b :: l) := fun a b c l => ((List.Perm.swap c b l).cons a).trans (List.Perm.swap c a (b :: l))
  refine wpAny_bind (wpAny_standAt (wpAny_bind ?_))
  rcases Nat.lt_or_ge i n with hlt | hge
  · refine hI.item hlt (R'.perm (pm _ _ _ _)) (hV _ _ _ hj) fun x s₃ hx R₃ => ?_
    dsimp only
    refine wpAny_bind (hI.own R₃ ?_)
    refine wpAny_bind ((turn i ys N' m' x I D k' hlt hj hx).use (R₃.perm (pm _ _ _ _).symm) fun _ s₄ N₄ m₄ R₄ h₄ => ?_)
    refine wpAny_bind (wpAny_pure ?_)
    refine wpAny_bind (h₄.use R₄ fun z s₅ N₅ R₅ h₅ => wpAny_bind (wpAny_standAt (wpAny_bind (wpAny_of_eq (hs z) (wpAny_bind (wpAny_holding ?_))))))
    obtain ⟨P', n', X', V₀', V', J', g0, gI, gv, gJ, gV, gturn, gdone⟩ := h₅
    refine g0 R₅ gv fun I' s₆ R₆ => ?_
    have pm' : ∀ (a b c : Prv) (l : Frs), (a :: b :: c :: l).Perm (b :: c :: a :: l) := fun a b c l => (List.Perm.swap b a (c :: l)).trans ((List.Perm.swap c a l).cons b)
    have lp : ∀ s', Rep C N₅ (.ob I' (P' 0) :: .fr K m₄ :: .ob D (lst ys k') :: .ob I (P (i + 1)) :: Φ) s' → codeAny C.M A (.compLoop (.ListComp elt [⟨t₀, i₀, [], 0⟩, ⟨target, iter, [], 0⟩] scope pos) 1 (.ref I') (.ref D) cenv)
        (fun r s' => match r with | .ok f => (∃ N' m' ys' k'', Rep C N' (.fr K m' :: .ob D (lst ys' k'') :: .ob I (P (i + 1)) :: Φ) s' ∧ J (i + 1) ys' N') | .error e => False) s' := fun s' Rq =>
      comp_loopG F (comp_turn2 elt t₀ i₀ target iter scope pos (.ref I') (.ref D) cenv) gI gV gturn (Rq.perm (pm' _ _ _ _)) gJ fun ys' N'' m'' k'' s'' hj' R'' => ⟨N'', m'', ys', k'', R'', gdone _ _ hj'⟩
    refine wpAny_bind (wpAny_runOwn (codeAny_mono (?_ : codeAny C.M A (.compStart (.ListComp elt [⟨t₀, i₀, [], 0⟩, ⟨target, iter, [], 0⟩] scope pos) 1 (.ref I') (.ref D) cenv)
        (fun r s' => match r with | .ok f => (∃ N' m' ys' k'', Rep C N' (.fr K m' :: .ob D (lst ys' k'') :: .ob I (P (i + 1)) :: Φ) s' ∧ J (i + 1) ys' N') | .error e => False) s₆) fun r s' hr => ?_))
    · refine codeAny_of_tree ?_
      show wpAny _ _ ((compStart (.ListComp elt [⟨t₀, i₀, [], 0⟩, ⟨target, iter, [], 0⟩] scope pos) 1 (.ref I') (.ref D) cenv).onRaise (fun x => do noteFrame x cenv; standAt theWindowsPlace)) _ _ _
      refine wpAny_notedAt ?_
      unfold compStart
      show wpAny _ _ (ask >>= _) _ _ _
      refine wpAny_bind (wpAny_askSetting (wpAny_ite ?_))
      split
      · first
          | exact wpAny_bind (wpAny_pure (wpAny_pure (And.intro rfl (lp _ R₆))))
          | exact wpAny_pure (And.intro rfl (lp _ R₆))
      · first
          | exact wpAny_bind (wpAny_rule (wpAny_bind (wpAny_standAt (wpAny_bind (gI.self R₆ (wpAny_pure (And.intro rfl (lp _ R₆))))))))
          | (refine wpAny_bind (wpAny_rule ?_); show wpAny _ _ (standAt iter.pos >>= _) _ _ _; exact wpAny_bind (wpAny_standAt (wpAny_bind (gI.self R₆ (wpAny_pure (And.intro rfl (lp _ R₆)))))))
    · cases r with
      | error e => exact hr.elim
      | ok f =>
        obtain ⟨N'', m'', ys', k'', R'', hj'⟩ := hr
        exact wpAny_pure ⟨rfl, n - (i + 1), Nat.sub_succ_lt_self _ _ hlt, i + 1, ys', N'', m'', k'', hlt, rfl, R'', hj'⟩
  · obtain rfl : i = n := Nat.le_antisymm hi hge
    refine hI.stop (R'.perm (pm _ _ _ _)) (hV _ _ _ hj) fun s₃ R₃ => ?_
    exact wpAny_pure (done ys N' m' k' s₃ hj R₃)
noncomputable abbrev CompSrc2 (C : Cx) (A : Around) (elt t₀ target iter : Expr) (scope : Scope) (cs : Addr → List (Str × Addr)) (cl : List (Str × Addr)) (env : Env) (Φ : Frs) (Q : List Value → Addr → Nat → Led → Prop) (x : Value) (N₁ : Led) : Prop :=
  ∃ P n X V₀ V, ∃ J : Nat → List Value → Led → Prop, ItOf C A x P V₀ ∧ Iter C A P n X V ∧ V₀ N₁ ∧ J 0 [] N₁ ∧ (∀ i ys N', J i ys N' → V N') ∧
    (∀ Cf, CompOk2 C A elt t₀ target iter (compEnvC scope (cs Cf ++ cl) Cf env) ⟨Cf, cs Cf⟩ P n X J Φ) ∧ (∀ ys N' D k, J n ys N' → New D N' → Q ys D k N')
theorem comp_run2 {cs : Addr → List (Str × Addr)} {t₀ i₀ : Expr} {cl : List (Str × Addr)} {x : Value} {s : Shared} {E} {Q : List Value → Addr → Nat → Led → Prop} {RR : Value → Addr → Result → Shared → Prop} (F : AccF C) (hcs : ∀ L, cellsFrom (L + 1) scope.names [] = cs L) (hnd : nodupB scope.names = true) (hkind : scope.kind = .function) (hs2 : ∀ Cf x, foldedSetIterable iter (compEnvC scope (cs Cf ++ cl) Cf env) x = pure x)
    (R : Rep C N Φ s) (h : CompSrc2 C A elt t₀ target iter scope cs cl env Φ Q x N)
    (hRR : ∀ ys N' D Cf m' k' s', Q ys D k' N' → Rep C N' (.fr ⟨Cf, cs Cf⟩ m' :: .ob D (lst ys k') :: Φ) s' → RR (.ref D) Cf (.ok .next) s') :
    wpAny C.M A (pyIter x) (fun it s₂ => wpAny C.M A (newList []) (fun acc s₃ =>
      wpAny C.M A (newFunctionEnv scope env.globals cl [] env.qual none .none (some env)) (fun cenv s₄ =>
        codeAny C.M A (.compStart (.ListComp elt [⟨t₀, i₀, [], 0⟩, ⟨target, iter, [], 0⟩] scope pos) 0 it acc { cenv with scope := relabel scope env }) (RR acc cenv.locals) s₄) E s₃) E s₂) E s := by
  obtain ⟨P, n, X, V₀, V, J, h0, hI, hv, hJ, hV, turn, done⟩ := h
  refine h0 R hv fun I s₁ R₁ => ?_
  refine wpAny_newObj_type ?_ (by size_fits)
  have R₂ : Rep C N (.ob s₁.heap.objs.size (lst [] 0) :: .ob I (P 0) :: Φ) { s₁ with heap := s₁.heap.push (lst [] 0) } :=
    R₁.pushG (tk := s₁.toks) (f := .ob s₁.heap.objs.size (lst [] 0)) (fun _ _ e => Heap.get?_push_of_some _ e) (Heap.get?_push_size _ rfl) (fun b hb => by simp [Prv.own] at hb; rw [hb]; exact Nat.le_refl _) (by simp [Prv.own])
  refine newEnv_comp hcs hnd R₂ fun Cf s₂ R₃ => ?_
  have lp : codeAny C.M A (.compLoop (.ListComp elt [⟨t₀, i₀, [], 0⟩, ⟨target, iter, [], 0⟩] scope pos) 0 (.ref I) (.ref s₁.heap.objs.size) (compEnvC scope (cs Cf ++ cl) Cf env)) (RR (.ref s₁.heap.objs.size) Cf) s₂ := by
    refine comp_loop2 F hI hV (turn _) R₃ hJ (fun ys N' m' k' s'' hj R'' => ?_) (hs2 _)
    refine hRR ys N' _ _ m' k' s'' (done ys N' _ _ hj ?_) R''
    obtain ⟨z, rz⟩ := R''.z
    exact rz.apart _ (mem_own (.tail _ (.head _)) (.head _))
  refine codeAny_compStart_list lp ?_
  exact hI.self (R₃.perm (((List.Perm.swap _ _ _).cons _).trans (List.Perm.swap _ _ _))) lp
theorem e_comp2C (cs : Addr → List (Str × Addr)) {t₀ i₀ : Expr} {cl : List (Str × Addr)} {Q : Value → Led → Prop} (F : AccF C)
    (h : WE C A (eval i₀ env) (CompSrc2 C A elt t₀ target iter scope cs cl env Φ (kComp Q)) N Φ)
    (hclos : closureFor scope env = pure cl := by rfl) (hcs : ∀ L, cellsFrom (L + 1) scope.names [] = cs L := by intro _; rfl) (hnd : nodupB scope.names = true := by rfl) (hkind : scope.kind = .function := by rfl)
    (hnames : ∀ y ∈ scope.names, y.2 = .local → scope.names.lookup y.1 = some .local := by decide)
    (hs : ∀ x, foldedSetIterable i₀ env x = pure x := by intro _; rfl) (hs2 : ∀ Cf x, foldedSetIterable iter (compEnvC scope (cs Cf ++ cl) Cf env) x = pure x := by intro _ _; rfl) : WE C A (eval (.ListComp elt [⟨t₀, i₀, [], 0⟩, ⟨target, iter, [], 0⟩] scope pos) env) Q N Φ := by
  intro s E R
  rw [eval_ListComp]
  refine wpAny_comprehension_free (use := none) rfl hs hclos hkind hnames (h.use R fun x s₁ N₁ R₁ q => ?_)
  refine comp_run2 (RR := fun acc Cf => compPost C.M A E none _ acc Cf) F hcs hnd hkind hs2 R₁ q fun ys N' D Cf m' k' s' hq R' => ?_
  obtain ⟨⟨ml, hn, _⟩, _⟩ := R'.frm (.head _)
  refine ⟨ml, hn, fun h' hs' => ⟨_, ?_, hq⟩⟩
  exact (R'.lose (tk := s'.toks) fun b o hb e => hs'.extBut b o (fun q => hb (q ▸ .head _)) e).give
theorem e_comp2 {t₀ i₀ : Expr} {cl : List (Str × Addr)} {Q : Value → Led → Prop} (F : AccF C)
    (h : WE C A (eval i₀ env) (CompSrc2 C A elt t₀ target iter scope (fun _ => []) cl env Φ (kComp Q)) N Φ)
    (hclos : closureFor scope env = pure cl := by rfl) (hcs : ∀ L, cellsFrom (L + 1) scope.names [] = [] := by intro _; rfl) (hnd : nodupB scope.names = true := by rfl) (hkind : scope.kind = .function := by rfl)
    (hnames : ∀ y ∈ scope.names, y.2 = .local → scope.names.lookup y.1 = some .local := by decide)
    (hs : ∀ x, foldedSetIterable i₀ env x = pure x := by intro _; rfl) (hs2 : ∀ Cf x, foldedSetIterable iter (compEnvC scope cl Cf env) x = pure x := by intro _ _; rfl) : WE C A (eval (.ListComp elt [⟨t₀, i₀, [], 0⟩, ⟨target, iter, [], 0⟩] scope pos) env) Q N Φ := e_comp2C (cs := fun _ => []) (F := F) (h := h) (hclos := hclos) (hcs := hcs) (hnd := hnd) (hkind := hkind) (hnames := hnames) (hs := hs) (hs2 := hs2)
theorem s_assign_comp2C (cs : Addr → List (Str × Addr)) {t₀ i₀ : Expr} {K : Fk} {m : Lo} {y : Str} {py spos : Pos} {cl : List (Str × Addr)} {Q : Flow → Led → Lo → Prop} (F : AccF C) (hst : StOk env K y)
    (h : WE C A (eval i₀ env) (CompSrc2 C A elt t₀ target iter scope cs cl env (.fr K m :: Φ) (kCompA m y Q)) N (.fr K m :: Φ))
    (hsw : swapsWith (.ListComp elt [⟨t₀, i₀, [], 0⟩, ⟨target, iter, [], 0⟩] scope pos) (some (.Name y py)) spos.line env = pure true := by rfl)
    (hclos : closureFor scope env = pure cl := by rfl) (hcs : ∀ L, cellsFrom (L + 1) scope.names [] = cs L := by intro _; rfl) (hnd : nodupB scope.names = true := by rfl) (hkind : scope.kind = .function := by rfl)
    (hnames : ∀ y ∈ scope.names, y.2 = .local → scope.names.lookup y.1 = some .local := by decide) (hk : env.scope.kind = .function := by rfl)
    (hs : ∀ x, foldedSetIterable i₀ env x = pure x := by intro _; rfl) (hs2 : ∀ Cf x, foldedSetIterable iter (compEnvC scope (cs Cf ++ cl) Cf env) x = pure x := by intro _ _; rfl) : WS C A (exec (.Assign [.Name y py] (.ListComp elt [⟨t₀, i₀, [], 0⟩, ⟨target, iter, [], 0⟩] scope pos) spos) env) Q N K m Φ := by
  intro s E R
  rw [exec_Assign_Name_used _ _ _ _ hsw]
  refine wpAny_bind (wpAny_standAt (wpAny_bind ?_))
  show wpAny _ A (do let _ ← comprehension (.ListComp elt [⟨t₀, i₀, [], 0⟩, ⟨target, iter, [], 0⟩] scope pos) scope env _ (newList []) false (eval i₀ env) (some (assign (.Name y py) env))) _ _ s
  refine wpAny_bind (wpAny_mono (wpAny_comprehension_free (use := some (assign (.Name y py) env)) (Q := fun _ s' => ∃ N' m', Rep C N' (.fr K m' :: Φ) s' ∧ Q .next N' m') rfl hs hclos hkind hnames (h.use R fun x s₁ N₁ R₁ q => ?_)) (fun _ s' hq => wpAny_pure (wpAny_pure hq)) fun _ _ e => e)
  refine comp_run2 (RR := fun acc Cf => compPost C.M A E (some (assign (.Name y py) env)) _ acc Cf) F hcs hnd hkind hs2 R₁ q fun ys N' D Cf m' k' s' hq R' => ?_
  show wpAny _ A (assign (.Name y py) env (.ref D)) _ _ _
  have R₂ := ((R'.perm (List.Perm.swap _ _ _)).give).perm (List.Perm.swap _ _ _)
  refine (as_name (Q := fun _ N'' m'' => Q .next N'' m'') hk hst hq).use R₂ fun _ s₂ N₂ m₂ R₃ q₃ => ?_
  have R₄ := R₃.perm (List.Perm.swap _ _ _)
  obtain ⟨⟨ml, hn, _⟩, _⟩ := R₄.frm (.head _)
  refine ⟨ml, hn, fun h' hs' => ⟨N₂, m₂, ?_, q₃⟩⟩
  exact R₄.lose (tk := s₂.toks) fun b o hb e => hs'.extBut b o (fun q => hb (q ▸ .head _)) e
theorem s_assign_comp2 {t₀ i₀ : Expr} {K : Fk} {m : Lo} {y : Str} {py spos : Pos} {cl : List (Str × Addr)} {Q : Flow → Led → Lo → Prop} (F : AccF C) (hst : StOk env K y)
    (h : WE C A (eval i₀ env) (CompSrc2 C A elt t₀ target iter scope (fun _ => []) cl env (.fr K m :: Φ) (kCompA m y Q)) N (.fr K m :: Φ))
    (hsw : swapsWith (.ListComp elt [⟨t₀, i₀, [], 0⟩, ⟨target, iter, [], 0⟩] scope pos) (some (.Name y py)) spos.line env = pure true := by rfl)
    (hclos : closureFor scope env = pure cl := by rfl) (hcs : ∀ L, cellsFrom (L + 1) scope.names [] = [] := by intro _; rfl) (hnd : nodupB scope.names = true := by rfl) (hkind : scope.kind = .function := by rfl)
    (hnames : ∀ y ∈ scope.names, y.2 = .local → scope.names.lookup y.1 = some .local := by decide) (hk : env.scope.kind = .function := by rfl)
    (hs : ∀ x, foldedSetIterable i₀ env x = pure x := by intro _; rfl) (hs2 : ∀ Cf x, foldedSetIterable iter (compEnvC scope cl Cf env) x = pure x := by intro _ _; rfl) : WS C A (exec (.Assign [.Name y py] (.ListComp elt [⟨t₀, i₀, [], 0⟩, ⟨target, iter, [], 0⟩] scope pos) spos) env) Q N K m Φ := s_assign_comp2C (cs := fun _ => []) (F := F) (h := h) (hclos := hclos) (hcs := hcs) (hnd := hnd) (hkind := hkind) (hnames := hnames) (hs := hs) (hst := hst) (hsw := hsw) (hk := hk) (hs2 := hs2)
end comp
end Mine.Internal
end
section
open PySem PySem.W PyProof.Rows PySem.Calls PySem.Spec PySem.Builtin.List
namespace Mine.Internal
noncomputable def stOf (i : Nat) : Stmt := PySem.Challenge.pw_il0050_01.main.body.getD i (.Pass default)
noncomputable def stBody : Stmt → List Stmt
  | .FunctionDef _ _ b _ _ _ _ _ _ _ => b
  | .ClassDef _ _ _ b _ _ _ _ _ _ _ => b
  | _ => []
noncomputable def stScope : Stmt → Scope
  | .FunctionDef _ _ _ _ _ _ s _ _ _ => s
  | _ => default
noncomputable def stArgs : Stmt → Arguments
  | .FunctionDef _ a _ _ _ _ _ _ _ _ => a
  | _ => default
noncomputable def stName : Stmt → Str
  | .FunctionDef n _ _ _ _ _ _ _ _ _ => n
  | _ => default
noncomputable def clOf (i : Nat) : Stmt := (stBody (stOf 7)).getD i (.Pass default)
noncomputable def mkFd (st : Stmt) (a : Addr) (q : Str) (clo : List (Str × Addr)) (dflt pm ct : Value) : FuncData :=
  { name := stName st, qualname := q, params := stArgs st, body := .stmts (stBody st), scope := stScope st, globals := mainGlobals, closure := clo, defaults := dflt, kwdefaults := .none, doc := .none, pyModule := pm, annotations := none,
    code := .ref (a - 1), closureTuple := ct, builtins := builtinsNs }
noncomputable def FnS (C : Cx) (i : Nat) (a : Addr) (dflt : Value) : Prop := ∃ pm, HasFn C [] a (mkFd (stOf i) a (stName (stOf i)) [] dflt pm .none)
structure Prg (C : Cx) (mg mb : Lo) : Prop where
  G : Glo C mg mb
  F : AccF C
  g_bag : mg "_law_bag" = some (.ref 147)
  g_row : mg "_law_row" = some (.ref 154)
  g_held : mg "_law_held" = some (.ref 159)
  g_signs : mg "_law_signs" = some (.ref 164)
  g_asked : mg "_law_asked" = some (.ref 169)
  g_line : mg "_law_line" = some (.ref 176)
  g_due : mg "_law_due" = some (.ref 181)
  g_bare : mg "_law_bare" = some (.ref 188)
  g_served : mg "_law_served" = some (.ref 193)
  g_own : mg "_law_own" = some (.ref 198)
  g_apart : mg "_law_apart" = some (.ref 205)
  g_again : mg "_law_again" = some (.ref 212)
  g_sld : mg "sorted_list_difference" = some (.ref 28)
  g_uld : mg "unorderable_list_difference" = some (.ref 35)
  g_cmp : mg "three_way_cmp" = some (.ref 42)
  g_acc : mg "_Accumulator" = some (.ref 122)
  g_key : mg "cmp_to_key" = some (.ref 133)
  g_red : mg "reduce" = some (.ref 142)
  g_im : mg "_initial_missing" = some (.ref 134)
  n_len : mg "len" = none
  n_sum : mg "sum" = none
  n_range : mg "range" = none
  n_sorted : mg "sorted" = none
  n_list : mg "list" = none
  b_len : mb "len" = some (.builtin "len")
  b_sum : mb "sum" = some (.builtin "sum")
  b_range : mb "range" = some (.type "range")
  b_sorted : mb "sorted" = some (.builtin "sorted")
  b_list : mb "list" = some (.type "list")
  f_sld : FnS C 2 28 .none
  f_uld : FnS C 3 35 .none
  f_cmp : FnS C 4 42 .none
  f_bag : FnS C 13 147 .none
  f_row : FnS C 14 154 .none
  f_held : FnS C 15 159 .none
  f_signs : FnS C 16 164 .none
  f_asked : FnS C 17 169 .none
  f_line : FnS C 18 176 .none
  f_due : FnS C 19 181 .none
  f_bare : FnS C 20 188 .none
  f_served : FnS C 21 193 .none
  f_own : FnS C 22 198 .none
  f_apart : FnS C 23 205 .none
  f_again : FnS C 24 212 .none
  f_law : FnS C 25 217 .none
variable {C : Cx} {N N' : Led} {Φ : Frs} {A : Around} {mg mb : Lo}
theorem Ext.nil (N : Led) : Ext [] N := fun _ h => nomatch h
theorem HasFn.any {a : Addr} {fd : FuncData} (h : HasFn C [] a fd) : HasFn C N a fd := h.mono (Ext.nil N)
end Mine.Internal
end
section
open PySem PySem.W PyProof.Rows PySem.Calls PySem.Spec PySem.Builtin.List
namespace Mine.Internal
variable {C : Cx} {N N' N₁ : Led} {Φ : Frs} {A : Around}
section src
variable {elt target iter : Expr} {ifs : List Expr} {scope : Scope} {cs : Addr → List (Str × Addr)} {cl' : List (Str × Addr)} {env : Env} {Q : List Value → Addr → Nat → Led → Prop}
theorem src_list {l : Addr} {cl : Value} {d : Option Addr} {vs : List Value} {k : Nat} (F : AccF C) (hh : A.handled = none) (hc : LsC cl) (hl : Has C N₁ l (sq cl d vs k)) (J : Nat → List Value → Led → Prop) (h0 : J 0 [] N₁)
    (hJ : ∀ i ys N', J i ys N' → Lists C l cl d vs N' ∧ ys.length ≤ sizeLine) (turn : ∀ Cf, CompOk C A elt target ifs (compEnvC scope (cs Cf ++ cl') Cf env) ⟨Cf, cs Cf⟩ (itO l) vs.length (fun i x => vs[i]? = some x) J Φ)
    (done : ∀ ys N' D k, J vs.length ys N' → New D N' → Q ys D k N') : CompSrc C A elt target ifs scope cs cl' env Φ Q (.ref l) N₁ :=
  ⟨_, _, _, _, _, J, ItOf.list F hc, Iter.list (cl := cl) (d := d) hh, ⟨_, hl⟩, h0, hJ, turn, done⟩
theorem src_range {r : Addr} {a b c : Int} {t u v : Tok} {n : Nat} (hh : A.handled = none) (hr : Has C N₁ r (rngO a b c t u v)) (hsmall : Builtin.Range.small a b c = true) (hn : Builtin.Range.rangeSize a b c = n) (J : Nat → List Value → Led → Prop) (h0 : J 0 [] N₁)
    (hJ : ∀ i ys N', J i ys N' → ys.length ≤ sizeLine) (turn : ∀ Cf, CompOk C A elt target ifs (compEnvC scope (cs Cf ++ cl') Cf env) ⟨Cf, cs Cf⟩ (fun i => ritO (a + i * c) (n - i) c) n (fun i x => ∃ t, x = .int (a + i * c) t) J Φ)
    (done : ∀ ys N' D k, J n ys N' → New D N' → Q ys D k N') : CompSrc C A elt target ifs scope cs cl' env Φ Q (.ref r) N₁ :=
  ⟨_, _, _, _, _, J, ItOf.range hsmall hn, Iter.range hh a c n, hr, h0, fun i ys N' h => ⟨trivial, hJ i ys N' h⟩, turn, done⟩
theorem src_list2 {t₀ : Expr} {l : Addr} {cl : Value} {d : Option Addr} {vs : List Value} {k : Nat} (F : AccF C) (hh : A.handled = none) (hc : LsC cl) (hl : Has C N₁ l (sq cl d vs k)) (J : Nat → List Value → Led → Prop) (h0 : J 0 [] N₁)
    (hJ : ∀ i ys N', J i ys N' → Lists C l cl d vs N') (turn : ∀ Cf, CompOk2 C A elt t₀ target iter (compEnvC scope (cs Cf ++ cl') Cf env) ⟨Cf, cs Cf⟩ (itO l) vs.length (fun i x => vs[i]? = some x) J Φ)
    (done : ∀ ys N' D k, J vs.length ys N' → New D N' → Q ys D k N') : CompSrc2 C A elt t₀ target iter scope cs cl' env Φ Q (.ref l) N₁ :=
  ⟨_, _, _, _, _, J, ItOf.list F hc, Iter.list (cl := cl) (d := d) hh, ⟨_, hl⟩, h0, hJ, turn, done⟩
end src
section rng
theorem range1 {n : Int} {t : Tok} {Q : Value → Led → Prop} (q : ∀ r u v, New r N → Q (.ref r) ((r, rngO 0 n 1 u t v) :: N)) : WE C A (PySem.call (.type "range") [.int n t]) Q N Φ := fun s E R =>
  call_range_1 ⟨_, (R.pushN _ rfl).tok _, q _ _ _ R.new⟩
theorem range3 {a b c : Int} {t u v : Tok} {Q : Value → Led → Prop} (hc : c ≠ 0) (hp : Builtin.divisionGoesByPylong (b - a) c = false) (q : ∀ r, New r N → Q (.ref r) ((r, rngO a b c t u v) :: N)) : WE C A (PySem.call (.type "range") [.int a t, .int b u, .int c v]) Q N Φ := fun s E R =>
  call_range_3 hc ⟨_, (R.pushN _ rfl), q _ R.new⟩ (.inl hp)
theorem cw_type {pos} {id : String} {first : List Value} {args : List (Bool × Sem Value)} {Q : Value → Led → Prop} (hs : args.any (·.1) = false)
    (h : WE C A (spliced args) (fun vs N₁ => WE C A (call (.type id) (first ++ vs)) Q N₁ Φ) N Φ) : WE C A (callWith pos (.type id) first args []) Q N Φ :=
  fun s E R => PySem.callWith_type hs (wpAny_mono (evalArgs_we (Q := fun x N₁ => x.kw = [] ∧ WE C A (call (.type id) (first ++ x.pos)) Q N₁ Φ) hs (h.mono fun vs N₁ h₁ => ⟨rfl, h₁⟩) s E R)
    (fun x s₁ ⟨N₁, R₁, h2, h3⟩ => by rw [h2]; exact h3 s₁ E R₁) fun _ _ x => x)
end rng
section lens
theorem len_L {a : Addr} {d : Option Addr} {vs : List Value} {n : Nat} {Q : Value → Led → Prop} (F : AccF C) (h : Has C N a (sq (.type "list") d vs n)) (hs : vs.length ≤ sizeLine) (q : ∀ t, Q (.int vs.length t) N) : WE C A (PySem.call (.builtin "len") [.ref a]) Q N Φ := fun s E R => by
  have hl : s.heap.IsList a vs.toArray := ⟨_, R.has h, rfl, _, rfl⟩
  exact call_len_list hl (by rw [List.size_toArray]; rw [sizeLine_eq] at hs; lia) ⟨N, (R.tok _), by simpa using q _⟩
theorem len_S {x : Str} {t : Tok} {Q : Value → Led → Prop} (hx : x.length < 2 ^ 62) (q : ∀ t, Q (.int x.length t) N) : WE C A (PySem.call (.builtin "len") [.str x t]) Q N Φ := fun s E R => len_str (by lia) ⟨N, R.tok _, q _⟩
end lens
end Mine.Internal
end
section
open PySem PySem.W PyProof.Rows PySem.Calls PySem.Spec PySem.Builtin.List
namespace Mine.Internal
variable {C : Cx} {N N' : Led} {Φ : Frs} {A : Around} {mg mb : Lo}
theorem c_held {row : Addr} {cl : Value} {d : Option Addr} {vs : List Value} {n : Nat} {Q : Value → Led → Prop} (G : Prg C mg mb) (ho : AOk A 3) (hc : LsC cl) (hr : (row, sq cl d vs n) ∈ N) (hs : vs.length ≤ sizeLine)
    (q : ∀ r k, New r N → Q (.ref r) ((r, lst vs k) :: N)) : WE C A (PySem.call (.ref 159) [.ref row]) Q N Φ := by
  obtain ⟨pm, hf⟩ := G.f_held
  refine WE.call (CE.fnCells (binds := [("row", .ref row)]) (cs := fun _ => []) (k := 2) G.G ho hf.any rfl rfl rfl (fun _ => rfl) fun L => ?_)
  refine s_cons ?_
  refine s_ret ?_
  refine e_comp G.F (scope := _) ?_
  refine e_local (v := .ref row) rfl ?_
  refine src_list G.F ho.h hc (.inr hr) (fun i ys N' => ys = vs.take i ∧ N' = N) ⟨rfl, rfl⟩ ?_ (fun Cf => ?_) ?_
  · rintro i ys N' ⟨rfl, rfl⟩
    refine ⟨⟨n, .inr hr⟩, ?_⟩
    rw [List.length_take]; exact Nat.le_trans (Nat.min_le_right _ _) hs
  · rintro i ys N' m x I D k hi ⟨rfl, rfl⟩ hx
    refine as_name rfl (.inl ⟨rfl, rfl, rfl⟩) ?_
    refine tests_nil ?_
    refine e_local (setLo_self ..) ?_
    refine ⟨?_, rfl⟩
    rw [List.take_add_one, hx]; rfl
  · rintro ys N' D k ⟨rfl, rfl⟩ hD
    rw [List.take_length]
    exact q _ _ hD
end Mine.Internal
end
section
open PySem PySem.W PyProof.Rows PySem.Calls PySem.Spec PySem.Builtin.List
namespace Mine.Internal
variable {C : Cx} {N N' N₁ : Led} {Φ : Frs} {A : Around}
noncomputable def IsI (v : Value) (i : Int) : Prop := ∃ t, v = .int i t
theorem sum_L {l : Addr} {vs : List Value} {k : Nat} {ks : List Int} {Q : Value → Led → Prop} (hh : A.handled = none) (h : Has C N l (lst vs k)) (hi : All2 IsI vs ks) (hb : ∀ x ∈ ks, -(2 ^ 40) ≤ x ∧ x ≤ 2 ^ 40) (hn : ks.length ≤ 2 ^ 20)
    (q : ∀ t, Q (.int ks.sum t) N) : WE C A (PySem.call (.builtin "sum") [.ref l]) Q N Φ := by
  intro s E R
  have hl : s.heap.IsList l vs.toArray := ⟨_, R.has h, rfl, _, rfl⟩
  have hlt : l < s.heap.objs.size := Heap.lt_size (R.has h)
  refine call_sum_walk (wpAny_pyIter_list hl ?_)
  refine ⟨_, _, _, _, _, _, fun i => ks.getD i 0, rfl, Walks.list (A := A.in1) hh s.heap.objs.size l (Nat.ne_of_lt hlt) vs.toArray, ⟨⟨_, Heap.get?_push_size _ rfl, rfl, rfl⟩, hl.push _⟩, fun b hb => ?_, fun i v hv => ?_, fun j hj => ?_, fun h' tk t' hk => ?_⟩
  · rw [Heap.size_push]
    rcases List.mem_cons.mp hb with rfl | hb
    · exact Nat.lt_succ_self _
    · rw [List.mem_singleton.mp hb]; exact Nat.lt_succ_of_lt hlt
  · rw [List.getElem?_toArray] at hv
    refine Classical.byContradiction fun hn => ?_
    obtain ⟨p, hp, t, e⟩ := hi.get' hv
    refine hn ?_
    clear hn
    exact ⟨t, by show v = .int (ks.getD i 0) t; rw [e, List.getD_eq_getElem?_getD, hp]; rfl⟩
  · have := sumFits_small hb hn
    have hj' : j < ks.length := by rw [← hi.length]; simpa using hj
    refine ⟨(this j hj').1, ?_⟩
    rw [preSum_getD]; exact (this j hj').2
  · refine ⟨N, ?_, ?_⟩
    · exact R.grow fun b o e => hk b o (by simpa using Nat.ne_of_lt (Heap.lt_size e)) (Heap.get?_push_of_some _ e)
    · rw [preSum_getD, List.size_toArray, hi.length, List.take_length]; exact q _
section pair
variable {env : Env} {K : Fk} {m : Lo}
theorem as_pair {x y : Str} {p₁ p₂ pos : Pos} {k : Nat} {t : Addr} {v w : Value} {n : Nat} {Q : Unit → Led → Lo → Prop} (hh : A.handled = none) (hk : env.scope.kind = .function) (hx : StOk env K x) (hy : StOk env K y) (ht : Has C N t (tup [v, w] n))
    (q : Q () N (setLo (setLo m x v) y w)) : WS C A (assign (.Tuple [.Name x p₁, .Name y p₂] k pos) env (.ref t)) Q N K m Φ := by
  intro s E R
  have hT : IsTup s.heap t #[v, w] := ⟨_, R.has ht, rfl, _, rfl⟩
  refine assign_Tuple_tuple hh hT rfl rfl fun h' he => ?_
  have R' : Rep C N (.fr K m :: Φ) { s with heap := h' } := R.grow fun b o e => he b o (Nat.ne_of_lt (Heap.lt_size e)) e
  refine assignInOrder_cons ?_
  refine (as_name (pos := p₁) (v := v) (Q := fun _ N' m' => N' = N ∧ m' = setLo m x v) hk hx ⟨rfl, rfl⟩).use R' fun _ s₁ N₁ m₁ R₁ pz0 => ?_
  obtain ⟨e1, e2⟩ := pz0
  subst e1; subst e2
  refine assignInOrder_cons ?_
  refine (as_name (pos := p₂) (v := w) (Q := fun _ N' m' => N' = N₁ ∧ m' = setLo (setLo m x v) y w) hk hy ⟨rfl, rfl⟩).use R₁ fun _ s₂ N₂ m₂ R₂ pz0 => ?_
  obtain ⟨e1, e2⟩ := pz0
  subst e1; subst e2
  exact assignInOrder_nil ⟨_, _, R₂, q⟩
@[reducible] noncomputable def kPair (C : Cx) (m : Lo) (x y : Str) (Q : Flow → Led → Lo → Prop) : Value → Led → Prop := fun r N' => ∃ t v w n, r = .ref t ∧ Has C N' t (tup [v, w] n) ∧ Q .next N' (setLo (setLo m x v) y w)
theorem s_pair {x y : Str} {p₁ p₂ tpos pos : Pos} {k : Nat} {value : Expr} {Q : Flow → Led → Lo → Prop} (hh : A.handled = none) (hx : StOk env K x) (hy : StOk env K y)
    (h : WE C A (eval value env) (kPair C m x y Q) N (.fr K m :: Φ))
    (hk : env.scope.kind = .function := by rfl)
    (hs : swapsWithSole [.Tuple [.Name x p₁, .Name y p₂] k tpos] value pos.line env = pure false := by rfl)
    (hw : swappedStores [.Tuple [.Name x p₁, .Name y p₂] k tpos] value env = pure none := by rfl) : WS C A (exec (.Assign [.Tuple [.Name x p₁, .Name y p₂] k tpos] value pos) env) Q N K m Φ := by
  intro s E R
  refine Assign_Tuple (h.use R fun r s₁ N₁ R₁ q => ?_) hs hw
  obtain ⟨t, v, w, n, rfl, ht, hq⟩ := q
  exact wpAny_mono (as_pair (Q := fun _ N' m' => Q .next N' m') hh hk hx hy ht hq s₁ E R₁) (fun _ _ x => x) fun _ _ x => x
end pair
end Mine.Internal
end
section
open PySem PySem.W PyProof.Rows PySem.Calls PySem.Spec PySem.Builtin.List PySem.Builtin
namespace Mine.Internal
variable {C : Cx} {N N' N₁ : Led} {Φ : Frs} {A : Around}
theorem plain_count_loop : plainId "list.count.loop" = true := by decide +kernel
theorem entry_count_loop : entryFor table "list.count.loop" = some Builtin.«list.count.loop» := entryFor_of_tree (by kernel_rfl)
section cnt
variable {a : Addr} {cl : Value} {d : Option Addr} {vs : List Value} {n : Nat}
theorem count_loop {ps : List Pc} {v : Value} {p : Pc} {k : Nat} {Q : Value → Led → Prop} (F : AccF C) (ho : AOk A (k + 1)) (h : Has C N a (sq cl d vs n)) (hv : PcL N vs ps) (hp : IsPc N v p) (q : ∀ t, Q (.int (ps.count p) t) N) :
    ∀ (j i : Nat), i + j = vs.length → CE C A (.builtin "list.count.loop" ⟨[.ref a, v, rawInt i, rawInt ((ps.take i).count p)], []⟩) Q N Φ := by
  intro j
  induction j with
  | zero =>
    intro i hi
    refine CE.builtin plain_count_loop entry_count_loop ?_
    show FE C A (PySem.Builtin.List.listItems (.ref a) >>= _) Q N Φ
    refine FE.bind (WE.listItems h ?_)
    have : vs.toArray[((i : Nat) : Int).toNat]? = none := by simp; lia
    rw [this]
    refine FE.retInt fun t => ?_
    rw [List.take_of_length_le (by rw [← hv.length]; lia)]
    exact q t
  | succ j ih =>
    intro i hi
    refine CE.builtin plain_count_loop entry_count_loop ?_
    show FE C A (PySem.Builtin.List.listItems (.ref a) >>= _) Q N Φ
    refine FE.bind (WE.listItems h ?_)
    have hlt : i < vs.length := by lia
    obtain ⟨x, hx⟩ : ∃ x, vs[i]? = some x := ⟨_, List.getElem?_eq_getElem hlt⟩
    have : vs.toArray[((i : Nat) : Int).toNat]? = some x := by simpa using hx
    rw [this]
    obtain ⟨p', hp', hx'⟩ := hv.get' hx
    show FE C A (eqBool x v >>= _) Q N Φ
    refine FE.bind (WE.eqPc (k := 0) ⟨by have := ho.in1.d; lia, by have := ho.in1.u; lia, ho.h⟩ hx' hp ?_)
    have e : (ps.take (i + 1)).count p = (ps.take i).count p + if p' = p then 1 else 0 := by
      rw [List.take_add_one, hp', List.count_append]
      by_cases e : p' = p <;> simp [e]
    have e2 : (if decide (p' = p) = true then (((ps.take i).count p : Nat) : Int) + 1 else (((ps.take i).count p : Nat) : Int)) = (((ps.take (i + 1)).count p : Nat) : Int) := by
      rw [e]; by_cases e : p' = p <;> simp [e]
    show FE C A (again (.builtin "list.count.loop" ⟨[.ref a, v, rawInt ((i : Int) + 1), rawInt (if decide (p' = p) = true then (((ps.take i).count p : Nat) : Int) + 1 else (((ps.take i).count p : Nat) : Int))], []⟩)) Q N Φ
    rw [e2]
    exact FE.again (plainId_quiet plain_count_loop _) (ih (i + 1) (by lia))
theorem m_count {ps : List Pc} {v : Value} {p : Pc} {k : Nat} {Q : Value → Led → Prop} (F : AccF C) (ho : AOk A (k + 1)) (hc : LsC cl) (h : Has C N a (sq cl d vs n)) (hv : PcL N vs ps) (hp : IsPc N v p) (q : ∀ t, Q (.int (ps.count p) t) N) :
    WE C A (PySem.call (.builtin "list.count") [.ref a, v]) Q N Φ := by
  refine sl_count.call F hc h (PySem.F.args_list_count_2 _ _) ?_
  refine FE.again (plainId_quiet plain_count_loop _) ?_
  exact count_loop F ho h hv hp q vs.length 0 (Nat.zero_add _)
end cnt
theorem o_notIn {cl : Value} {v : Value} {ps : List Pc} {p : Pc} {k : Nat} {Q : Value → Led → Prop} (ho : AOk A k) (hl : IsPL N cl ps) (hp : IsPc N v p) (q : Q (.bool (!decide (p ∈ ps))) N) : WE C A (compareOp .NotIn v cl) Q N Φ := fun s E R => by
  obtain ⟨as, ra⟩ := R.rd hl.rd
  obtain ⟨bs, rb⟩ := R.rd hp.rd
  refine SeqAt.notIn_list_reads ra rb (layAll_map pcD_lay ps) (pcD_lay p) (Nat.lt_of_le_of_lt (Nat.add_le_add_left (Nat.le_trans (Nat.min_le_right _ _) (pcD_depth p)) _) (by have := ho.u0; lia)) ⟨N, R, ?_⟩
  have : (ps.map pcD).any (fun y => PyData.eqv y (pcD p)) = decide (p ∈ ps) := by
    rw [List.any_map, Bool.eq_iff_iff]
    simp only [List.any_eq_true, Function.comp_def, pcD_eqv, decide_eq_true_eq]
    exact ⟨fun ⟨x, hx, e⟩ => e ▸ hx, fun h => ⟨p, h, rfl⟩⟩
  rw [this]; exact q
theorem o_addL {a b : Addr} {vs ws : List Value} {n k : Nat} {Q : Value → Led → Prop} (F : AccF C) (ha : Has C N a (lst vs n)) (hb : Has C N b (lst ws k)) (hs : vs.length + ws.length ≤ sizeLine) (q : ∀ r, New r N → Q (.ref r) ((r, lst (vs ++ ws) 0) :: N)) :
    WE C A (binaryOp .Add (.ref a) (.ref b)) Q N Φ := fun s E R => by
  have hla : s.heap.IsList a vs.toArray := ⟨_, R.has ha, rfl, _, rfl⟩
  have hlb : s.heap.IsList b ws.toArray := ⟨_, R.has hb, rfl, _, rfl⟩
  refine PySem.P.add_list (n := n) (n2 := k) (R.has ha) (R.has hb) ⟨_, R.pushN _ rfl, ?_⟩ (by simpa using hs)
  have := q _ R.new
  simpa using this
noncomputable def pn (p : Pc) : Nat := (if p.1 then 2 else 0) + (if p.2 then 1 else 0)
noncomputable def pcLt (p q : Pc) : Bool := decide (pn p < pn q)
noncomputable def plLt : List Pc → List Pc → Bool
  | _, [] => false
  | [], _ :: _ => true
  | p :: ps, q :: qs => if p = q then plLt ps qs else pcLt p q
theorem plLt_c {p q : Pc} {ps qs : List Pc} : plLt (p :: ps) (q :: qs) = if p = q then plLt ps qs else pcLt p q := rfl
theorem WE.cmpSame {a b : Value} {T id : String} {op : CmpOp} {Q : Value → Led → Prop} {oa ob : Obj} {x y : Addr} (hx : a = .ref x) (hy : b = .ref y) (ha : Has C N x oa) (hb : Has C N y ob) (ca : oa.cls = .type T) (cb : ob.cls = .type T) (h : Slot T (cmpInfo op).2.1 id) (hu : A.units < cLine)
    (hc : WE C A (PySem.call (.builtin id) [a, b]) (fun v N' => v ≠ .notImplemented ∧ Q v N') N Φ) : WE C A (richCompare op a b) Q N Φ := fun s E R => by
  subst hx; subst hy
  refine wpAny_richCompare_same_room ⟨_, R.has ha, ca⟩ ⟨_, R.has hb, cb⟩ h ?_ hu
  exact wpAny_mono (hc s E R) (fun v s' ⟨N', R', q1, q2⟩ => ⟨q1, N', R', q2⟩) fun _ _ x => x
section pcs
variable {v w : Value} {p q : Pc} {k : Nat}
theorem WE.isInst {a : Addr} {o : Obj} {T U : String} {b : Bool} {Q : Bool → Led → Prop} (h : Has C N a o) (hc : o.cls = .type T) (hs : isSubtype (.type T) (.type U) = Pure.pure b) (q : Q b N) : WE C A (isInstance (.ref a) (.type U)) Q N Φ :=
  fun s E R => wpAny_isInstance ⟨_, R.has h, hc⟩ hs ⟨N, R, q⟩
theorem sub_tt : isSubtype (.type "tuple") (.type "tuple") = Pure.pure true := by rw [isSubtype_type]; kernel_rfl
theorem WE.seqItems {a : Addr} {o : Obj} {xs : Array Value} {n : Nat} {Q : Option (Array Value) → Led → Prop} (h : Has C N a o) (hd : o.data = .seq xs n) (q : Q (some xs) N) : WE C A (seqItems? (.ref a)) Q N Φ := fun s E R => wpAny_seqItems (R.has h) hd ⟨N, R, q⟩
theorem eqv_str (x y : Str) : PyData.eqv (PyData.str x) (PyData.str y) = (x == y) := by simp [PyData.eqv]
theorem WE.eqStr {x y : Str} {t u : Tok} {b : Bool} {Q : Bool → Led → Prop} (ho : AOk A k) (lx : (PyData.str x).canLay0 = true) (ly : (PyData.str y).canLay0 = true) (hb : (x == y) = b) (q : Q b N) : WE C A (PySem.eqBool (.str x t) (.str y u)) Q N Φ := by
  have hx : Rd N (.str x t) (PyData.str x) := fun _ _ => ⟨_, .str x t⟩
  have hy : Rd N (.str y u) (PyData.str y) := fun _ _ => ⟨_, .str y u⟩
  refine Mine.Internal.WE.eqBool ho hx hy lx ly (by simp [PyData.depth]) ?_
  rw [eqv_str, hb]; exact q
theorem s1_lay (p : Pc) : (PyData.str (S1 p)).canLay0 = true := by obtain ⟨_ | _, _ | _⟩ := p <;> decide +kernel
theorem s2_lay (p : Pc) : (PyData.str (S2 p)).canLay0 = true := by obtain ⟨_ | _, _ | _⟩ := p <;> decide +kernel
theorem s1_eq (p q : Pc) : (S1 p == S1 q) = (p.1 == q.1) := by obtain ⟨_ | _, _ | _⟩ := p <;> obtain ⟨_ | _, _ | _⟩ := q <;> decide +kernel
theorem s2_eq (p q : Pc) : (S2 p == S2 q) = (p.2 == q.2) := by obtain ⟨_ | _, _ | _⟩ := p <;> obtain ⟨_ | _, _ | _⟩ := q <;> decide +kernel
theorem s1_lt (p q : Pc) (h : (p.1 == q.1) = false) : decide ((S1 p).cps.toList < (S1 q).cps.toList) = pcLt p q := by
  obtain ⟨_ | _, _ | _⟩ := p <;> obtain ⟨_ | _, _ | _⟩ := q <;> first | (cases h; done) | decide +kernel
theorem s2_lt (p q : Pc) (h1 : (p.1 == q.1) = true) (h : (p.2 == q.2) = false) : decide ((S2 p).cps.toList < (S2 q).cps.toList) = pcLt p q := by
  obtain ⟨_ | _, _ | _⟩ := p <;> obtain ⟨_ | _, _ | _⟩ := q <;> first | (cases h; done) | (cases h1; done) | decide +kernel
theorem no_lt (p q : Pc) (h1 : (p.1 == q.1) = true) (h : (p.2 == q.2) = true) : pcLt p q = false ∧ pcLt q p = false := by
  obtain ⟨_ | _, _ | _⟩ := p <;> obtain ⟨_ | _, _ | _⟩ := q <;> first | (cases h; done) | (cases h1; done) | decide +kernel
theorem b_tupLt {Q : Value → Led → Prop} (ho : AOk A (k + 1)) (hv : IsPc N v p) (hw : IsPc N w q) (z : Q (.bool (pcLt p q)) N) : FE C A (Builtin.«tuple.__lt__» ⟨[v, w], []⟩) Q N Φ := by
  obtain ⟨a, n, t, u, rfl, ha⟩ := hv
  obtain ⟨b, n', t', u', rfl, hb⟩ := hw
  show FE C A (isInstance (.ref b) (.type "tuple") >>= _) Q N Φ
  refine FE.bind (WE.isInst (.inr hb) rfl sub_tt ?_)
  dsimp only [Bool.not_true]
  rw [if_neg (by decide)]
  refine FE.bind (WE.bind (WE.seqItems (.inr ha) rfl (WE.pure ?_)))
  refine FE.bind (WE.bind (WE.seqItems (.inr hb) rfl (WE.pure ?_)))
  dsimp only [List.zip, List.zipWith]
  rw [List.forIn_cons]
  refine FE.bind (WE.bind (WE.bind (WE.eqStr ho.in1 (s1_lay p) (s1_lay q) (s1_eq p q) ?_)))
  cases h1 : p.1 == q.1 with
  | false =>
    refine WE.bind (WE.rule (WE.bind ?_))
    show WE C A.in1 (compareOp .Lt (.str (S1 p) t) (.str (S1 q) t')) _ _ _
    exact fun s E R => PySem.P.lt_str ⟨N, R, WE.bind (WE.pure (WE.pure (WE.pure (FE.ret (by rw [s1_lt p q h1]; exact z)))))⟩
  | true =>
    refine WE.pure ?_
    dsimp only
    rw [List.forIn_cons]
    refine (WE.bind (WE.bind (WE.eqStr ho.in1 (s2_lay p) (s2_lay q) (s2_eq p q) ?_)))
    cases h2 : p.2 == q.2 with
    | false =>
      refine WE.bind (WE.rule (WE.bind ?_))
      show WE C A.in1 (compareOp .Lt (.str (S2 p) u) (.str (S2 q) u')) _ _ _
      exact fun s E R => PySem.P.lt_str ⟨N, R, WE.bind (WE.pure (WE.pure (WE.pure (FE.ret (by rw [s2_lt p q h1 h2]; exact z)))))⟩
    | true =>
      refine WE.pure (WE.pure ?_)
      refine FE.ret ?_
      rw [(no_lt p q h1 h2).1] at z
      exact z
theorem o_ltPc {Q : Value → Led → Prop} (ho : AOk A (k + 1)) (hv : IsPc N v p) (hw : IsPc N w q) (z : Q (.bool (pcLt p q)) N) : WE C A (compareOp .Lt v w) Q N Φ := by
  obtain ⟨a, n, t, u, e, ha⟩ := id hv
  obtain ⟨b, n', t', u', e', hb⟩ := id hw
  show WE C A (richCompare .Lt v w) Q N Φ
  refine WE.cmpSame e e' (.inr ha) (.inr hb) rfl rfl PySem.F.slot_tuple_lt (by have := ho.u0; lia) ?_
  subst e; subst e'
  refine WE.call (CE.callB PySem.F.slot_tuple_lt.plain PySem.F.entry_tuple_lt ?_ (b_tupLt ho hv hw ⟨by simp, z⟩))
  exact fun s E R => PySem.F.slot_tuple_lt.check _ _ _ _ _ _ _ _ ⟨_, R.get ha, rfl⟩ (PySem.F.args_tuple_lt_2 _ _) ⟨N, R, rfl⟩
theorem b_tupGt {Q : Value → Led → Prop} (ho : AOk A (k + 1)) (hv : IsPc N v p) (hw : IsPc N w q) (z : Q (.bool (pcLt q p)) N) : FE C A (Builtin.«tuple.__gt__» ⟨[v, w], []⟩) Q N Φ := by
  obtain ⟨a, n, t, u, rfl, ha⟩ := hv
  obtain ⟨b, n', t', u', rfl, hb⟩ := hw
  show FE C A (isInstance (.ref b) (.type "tuple") >>= _) Q N Φ
  refine FE.bind (WE.isInst (.inr hb) rfl sub_tt ?_)
  dsimp only [Bool.not_true]
  rw [if_neg (by decide)]
  refine FE.bind (WE.bind (WE.seqItems (.inr ha) rfl (WE.pure ?_)))
  refine FE.bind (WE.bind (WE.seqItems (.inr hb) rfl (WE.pure ?_)))
  dsimp only [List.zip, List.zipWith]
  rw [List.forIn_cons]
  refine FE.bind (WE.bind (WE.bind (WE.eqStr ho.in1 (s1_lay p) (s1_lay q) (s1_eq p q) ?_)))
  cases h1 : p.1 == q.1 with
  | false =>
    refine WE.bind (WE.rule (WE.bind ?_))
    show WE C A.in1 (compareOp .Gt (.str (S1 p) t) (.str (S1 q) t')) _ _ _
    exact fun s E R => PySem.P.gt_str ⟨N, R, WE.bind (WE.pure (WE.pure (WE.pure (FE.ret (by rw [s1_lt q p (by rw [Bool.beq_comm]; exact h1)]; exact z)))))⟩
  | true =>
    refine WE.pure ?_
    dsimp only
    rw [List.forIn_cons]
    refine (WE.bind (WE.bind (WE.eqStr ho.in1 (s2_lay p) (s2_lay q) (s2_eq p q) ?_)))
    cases h2 : p.2 == q.2 with
    | false =>
      refine WE.bind (WE.rule (WE.bind ?_))
      show WE C A.in1 (compareOp .Gt (.str (S2 p) u) (.str (S2 q) u')) _ _ _
      exact fun s E R => PySem.P.gt_str ⟨N, R, WE.bind (WE.pure (WE.pure (WE.pure (FE.ret (by rw [s2_lt q p (by rw [Bool.beq_comm]; exact h1) (by rw [Bool.beq_comm]; exact h2)]; exact z)))))⟩
    | true =>
      refine WE.pure (WE.pure ?_)
      refine FE.ret ?_
      rw [(no_lt p q h1 h2).2] at z
      exact z
theorem o_gtPc {Q : Value → Led → Prop} (ho : AOk A (k + 1)) (hv : IsPc N v p) (hw : IsPc N w q) (z : Q (.bool (pcLt q p)) N) : WE C A (compareOp .Gt v w) Q N Φ := by
  obtain ⟨a, n, t, u, e, ha⟩ := id hv
  obtain ⟨b, n', t', u', e', hb⟩ := id hw
  show WE C A (richCompare .Gt v w) Q N Φ
  refine WE.cmpSame e e' (.inr ha) (.inr hb) rfl rfl PySem.F.slot_tuple_gt (by have := ho.u0; lia) ?_
  subst e; subst e'
  refine WE.call (CE.callB PySem.F.slot_tuple_gt.plain PySem.F.entry_tuple_gt ?_ (b_tupGt ho hv hw ⟨by simp, z⟩))
  exact fun s E R => PySem.F.slot_tuple_gt.check _ _ _ _ _ _ _ _ ⟨_, R.get ha, rfl⟩ (PySem.F.args_tuple_gt_2 _ _) ⟨N, R, rfl⟩
end pcs
end Mine.Internal
end
section
open PySem PySem.W PyProof.Rows PySem.Calls PySem.Spec PySem.Builtin.List PySem.Builtin
namespace Mine.Internal
variable {C : Cx} {N N' N₁ : Led} {Φ : Frs} {A : Around}
theorem sub_ll : isSubtype (.type "list") (.type "list") = Pure.pure true := by rw [isSubtype_type]; kernel_rfl
theorem plain_eq_loop : plainId "list.__eq__.loop" = true := by decide +kernel
theorem entry_eq_loop : entryFor table "list.__eq__.loop" = some Builtin.«list.__eq__.loop» := entryFor_of_tree (by kernel_rfl)
theorem plLt_drop {ps qs : List Pc} {i : Nat} (he : ps.take i = qs.take i) (hp : i ≤ ps.length) (hq : i ≤ qs.length) : plLt ps qs = plLt (ps.drop i) (qs.drop i) := by
  induction i generalizing ps qs with
  | zero => rfl
  | succ i ih =>
    cases ps with
    | nil => simp at hp
    | cons p ps => cases qs with
      | nil => simp at hq
      | cons q qs =>
        simp only [List.take_succ_cons, List.cons.injEq] at he
        rw [List.drop_succ_cons, List.drop_succ_cons, ← ih he.2 (by simpa using hp) (by simpa using hq)]
        exact if_pos he.1
section lls
variable {a b : Addr} {vs ws : List Value} {n n' k : Nat} {ps qs : List Pc}
theorem lt_loop {Q : Value → Led → Prop} (ho : AOk A (k + 2)) (ha : Has C N a (lst vs n)) (hb : Has C N b (lst ws n')) (hv : PcL N vs ps) (hw : PcL N ws qs) (z : Q (.bool (plLt ps qs)) N) :
    ∀ (j i : Nat), i + j = min vs.length ws.length → ps.take i = qs.take i → CE C A (.builtin "list.__eq__.loop" ⟨[.ref a, .ref b, rawInt i, rawInt 0], []⟩) Q N Φ := by
  have hlp := hv.length
  have hlq := hw.length
  have m1 := Nat.min_le_left vs.length ws.length
  have m2 := Nat.min_le_right vs.length ws.length
  have m3 : vs.length ≤ min vs.length ws.length ∨ ws.length ≤ min vs.length ws.length := (Nat.le_total vs.length ws.length).imp (fun h => Nat.le_min.mpr ⟨Nat.le_refl _, h⟩) fun h => Nat.le_min.mpr ⟨h, Nat.le_refl _⟩
  generalize min vs.length ws.length = M at m1 m2 m3
  intro j
  induction j with
  | zero =>
    intro i hi he
    refine CE.builtin plain_eq_loop entry_eq_loop ?_
    show FE C A (PySem.Builtin.List.listItems (.ref a) >>= _) Q N Φ
    refine FE.bind (WE.listItems ha (FE.bind (WE.listItems hb ?_)))
    rw [plLt_drop he (by lia) (by lia)] at z
    rcases Nat.lt_or_ge vs.length ws.length with h1 | h1
    · have e1 : vs.toArray[((i : Nat) : Int).toNat]? = none := by simp; lia
      rw [e1]
      refine FE.bind (WE.listItems ha (FE.bind (WE.listItems hb ?_)))
      refine FE.ret ?_
      have e2 : ps.drop i = [] := List.drop_eq_nil_of_le (by lia)
      have e3 : plLt [] (qs.drop i) = true := by
        cases h : qs.drop i with
        | nil => have := List.drop_eq_nil_iff.mp h; lia
        | cons => rfl
      rw [e2, e3] at z
      have e4 : decide (vs.toArray.size < ws.toArray.size) = true := by simpa using h1
      show Q (.bool (decide (vs.toArray.size < ws.toArray.size))) N
      rw [e4]; exact z
    · have e1 : ws.toArray[((i : Nat) : Int).toNat]? = none := by simp; lia
      rw [e1]
      have e2 : qs.drop i = [] := List.drop_eq_nil_of_le (by lia)
      have e3 : plLt (ps.drop i) [] = false := by cases ps.drop i <;> rfl
      rw [e2, e3] at z
      have e4 : decide (vs.toArray.size < ws.toArray.size) = false := by simpa using h1
      have fin : FE C A (do ret (.bool (decide ((← PySem.Builtin.List.listItems (.ref a)).size < (← PySem.Builtin.List.listItems (.ref b)).size)))) Q N Φ := by
        refine FE.bind (WE.listItems ha (FE.bind (WE.listItems hb ?_)))
        refine FE.ret ?_
        rw [e4]; exact z
      cases vs.toArray[((i : Nat) : Int).toNat]? <;> exact fin
  | succ j ih =>
    intro i hi he
    refine CE.builtin plain_eq_loop entry_eq_loop ?_
    show FE C A (PySem.Builtin.List.listItems (.ref a) >>= _) Q N Φ
    refine FE.bind (WE.listItems ha (FE.bind (WE.listItems hb ?_)))
    obtain ⟨x, hx⟩ : ∃ x, vs[i]? = some x := ⟨_, List.getElem?_eq_getElem (by lia)⟩
    obtain ⟨y, hy⟩ : ∃ y, ws[i]? = some y := ⟨_, List.getElem?_eq_getElem (by lia)⟩
    have ex : vs.toArray[((i : Nat) : Int).toNat]? = some x := by simpa using hx
    have ey : ws.toArray[((i : Nat) : Int).toNat]? = some y := by simpa using hy
    rw [ex, ey]
    refine Classical.byContradiction fun hn => ?_
    obtain ⟨p, hp, hxp⟩ := hv.get' hx
    obtain ⟨q, hq, hyq⟩ := hw.get' hy
    refine hn ?_
    clear hn
    have dp : ps.drop i = p :: ps.drop (i + 1) := by rw [List.drop_eq_getElem?_toList_append, hp]; rfl
    have dq : qs.drop i = q :: qs.drop (i + 1) := by rw [List.drop_eq_getElem?_toList_append, hq]; rfl
    show FE C A (eqBool x y >>= _) Q N Φ
    refine FE.bind (WE.eqPc (k := k + 1) ho.in1 hxp hyq ?_)
    by_cases h : p = q
    · rw [decide_eq_true h]
      refine FE.again (plainId_quiet plain_eq_loop _) (ih (i + 1) (by lia) ?_)
      rw [List.take_add_one, List.take_add_one, he, hp, hq, h]
    · rw [decide_eq_false h]
      refine FE.bind (WE.listItems ha (FE.bind (WE.listItems hb ?_)))
      rw [ex, ey]
      show FE C A (richCompare .Lt x y >>= _) Q N Φ
      refine FE.bind ?_
      refine (o_ltPc (k := k) ho.in1 hxp hyq (FE.ret ?_))
      rw [plLt_drop he (by lia) (by lia), dp, dq, plLt_c, if_neg h] at z
      exact z
theorem gt_loop {Q : Value → Led → Prop} (ho : AOk A (k + 2)) (ha : Has C N a (lst vs n)) (hb : Has C N b (lst ws n')) (hv : PcL N vs ps) (hw : PcL N ws qs) (z : Q (.bool (plLt qs ps)) N) :
    ∀ (j i : Nat), i + j = min vs.length ws.length → ps.take i = qs.take i → CE C A (.builtin "list.__eq__.loop" ⟨[.ref a, .ref b, rawInt i, rawInt 4], []⟩) Q N Φ := by
  have hlp := hv.length
  have hlq := hw.length
  have m1 := Nat.min_le_left vs.length ws.length
  have m2 := Nat.min_le_right vs.length ws.length
  have m3 : vs.length ≤ min vs.length ws.length ∨ ws.length ≤ min vs.length ws.length := (Nat.le_total vs.length ws.length).imp (fun h => Nat.le_min.mpr ⟨Nat.le_refl _, h⟩) fun h => Nat.le_min.mpr ⟨h, Nat.le_refl _⟩
  generalize min vs.length ws.length = M at m1 m2 m3
  intro j
  induction j with
  | zero =>
    intro i hi he
    refine CE.builtin plain_eq_loop entry_eq_loop ?_
    show FE C A (PySem.Builtin.List.listItems (.ref a) >>= _) Q N Φ
    refine FE.bind (WE.listItems ha (FE.bind (WE.listItems hb ?_)))
    rw [plLt_drop he.symm (by lia) (by lia)] at z
    rcases Nat.lt_or_ge vs.length ws.length with h1 | h1
    · have e1 : vs.toArray[((i : Nat) : Int).toNat]? = none := by simp; lia
      rw [e1]
      refine FE.bind (WE.listItems ha (FE.bind (WE.listItems hb ?_)))
      refine FE.ret ?_
      have e2 : ps.drop i = [] := List.drop_eq_nil_of_le (by lia)
      have e3 : plLt (qs.drop i) [] = false := by cases qs.drop i <;> rfl
      rw [e2, e3] at z
      have e4 : decide (vs.toArray.size > ws.toArray.size) = false := by simp; lia
      show Q (.bool (decide (vs.toArray.size > ws.toArray.size))) N
      rw [e4]; exact z
    · have e1 : ws.toArray[((i : Nat) : Int).toNat]? = none := by simp; lia
      rw [e1]
      have e2 : qs.drop i = [] := List.drop_eq_nil_of_le (by lia)
      have e4 : decide (vs.toArray.size > ws.toArray.size) = plLt [] (ps.drop i) := by
        cases h : ps.drop i with
        | nil => have := List.drop_eq_nil_iff.mp h; show _ = false; simp; lia
        | cons x l =>
          have hlt : i < ps.length := Nat.lt_of_not_le fun h' => by rw [List.drop_eq_nil_of_le h'] at h; cases h
          show _ = true; simp; lia
      rw [e2] at z
      have fin : FE C A (do ret (.bool (decide ((← PySem.Builtin.List.listItems (.ref a)).size > (← PySem.Builtin.List.listItems (.ref b)).size)))) Q N Φ := by
        refine FE.bind (WE.listItems ha (FE.bind (WE.listItems hb ?_)))
        refine FE.ret ?_
        rw [e4]; exact z
      cases vs.toArray[((i : Nat) : Int).toNat]? <;> exact fin
  | succ j ih =>
    intro i hi he
    refine CE.builtin plain_eq_loop entry_eq_loop ?_
    show FE C A (PySem.Builtin.List.listItems (.ref a) >>= _) Q N Φ
    refine FE.bind (WE.listItems ha (FE.bind (WE.listItems hb ?_)))
    obtain ⟨x, hx⟩ : ∃ x, vs[i]? = some x := ⟨_, List.getElem?_eq_getElem (by lia)⟩
    obtain ⟨y, hy⟩ : ∃ y, ws[i]? = some y := ⟨_, List.getElem?_eq_getElem (by lia)⟩
    have ex : vs.toArray[((i : Nat) : Int).toNat]? = some x := by simpa using hx
    have ey : ws.toArray[((i : Nat) : Int).toNat]? = some y := by simpa using hy
    rw [ex, ey]
    refine Classical.byContradiction fun hn => ?_
    obtain ⟨p, hp, hxp⟩ := hv.get' hx
    obtain ⟨q, hq, hyq⟩ := hw.get' hy
    refine hn ?_
    clear hn
    have dp : ps.drop i = p :: ps.drop (i + 1) := by rw [List.drop_eq_getElem?_toList_append, hp]; rfl
    have dq : qs.drop i = q :: qs.drop (i + 1) := by rw [List.drop_eq_getElem?_toList_append, hq]; rfl
    show FE C A (eqBool x y >>= _) Q N Φ
    refine FE.bind (WE.eqPc (k := k + 1) ho.in1 hxp hyq ?_)
    by_cases h : p = q
    · rw [decide_eq_true h]
      refine FE.again (plainId_quiet plain_eq_loop _) (ih (i + 1) (by lia) ?_)
      rw [List.take_add_one, List.take_add_one, he, hp, hq, h]
    · rw [decide_eq_false h]
      refine FE.bind (WE.listItems ha (FE.bind (WE.listItems hb ?_)))
      rw [ex, ey]
      show FE C A (richCompare .Gt x y >>= _) Q N Φ
      refine FE.bind ?_
      refine (o_gtPc (k := k) ho.in1 hxp hyq (FE.ret ?_))
      rw [plLt_drop he.symm (by lia) (by lia), dp, dq, plLt_c, if_neg (fun e => h e.symm)] at z
      exact z
theorem o_ltL {Q : Value → Led → Prop} (ho : AOk A (k + 2)) (ha : Has C N a (lst vs n)) (hb : Has C N b (lst ws n')) (hv : PcL N vs ps) (hw : PcL N ws qs) (z : Q (.bool (plLt ps qs)) N) : WE C A (compareOp .Lt (.ref a) (.ref b)) Q N Φ := by
  show WE C A (richCompare .Lt (.ref a) (.ref b)) Q N Φ
  refine WE.cmpSame rfl rfl ha hb rfl rfl PySem.F.slot_list_lt (by have := ho.u0; lia) ?_
  refine WE.call (CE.callB PySem.F.slot_list_lt.plain PySem.F.entry_list_lt ?_ ?_)
  · exact fun s E R => PySem.F.slot_list_lt.check _ _ _ _ _ _ _ _ ⟨_, R.has ha, rfl⟩ (PySem.F.args_list_lt_2 _ _) ⟨N, R, rfl⟩
  · show FE C A (isInstance (.ref b) (.type "list") >>= _) _ N Φ
    refine FE.bind (WE.isInst hb rfl sub_ll ?_)
    dsimp only [Bool.not_true]
    rw [if_neg (by decide)]
    refine FE.bind (WE.pure ?_)
    exact FE.again (plainId_quiet plain_eq_loop _) (lt_loop ho ha hb hv hw ⟨by simp, z⟩ _ 0 (Nat.zero_add _) rfl)
theorem o_gtL {Q : Value → Led → Prop} (ho : AOk A (k + 2)) (ha : Has C N a (lst vs n)) (hb : Has C N b (lst ws n')) (hv : PcL N vs ps) (hw : PcL N ws qs) (z : Q (.bool (plLt qs ps)) N) : WE C A (compareOp .Gt (.ref a) (.ref b)) Q N Φ := by
  show WE C A (richCompare .Gt (.ref a) (.ref b)) Q N Φ
  refine WE.cmpSame rfl rfl ha hb rfl rfl PySem.F.slot_list_gt (by have := ho.u0; lia) ?_
  refine WE.call (CE.callB PySem.F.slot_list_gt.plain PySem.F.entry_list_gt ?_ ?_)
  · exact fun s E R => PySem.F.slot_list_gt.check _ _ _ _ _ _ _ _ ⟨_, R.has ha, rfl⟩ (PySem.F.args_list_gt_2 _ _) ⟨N, R, rfl⟩
  · show FE C A (isInstance (.ref b) (.type "list") >>= _) _ N Φ
    refine FE.bind (WE.isInst hb rfl sub_ll ?_)
    dsimp only [Bool.not_true]
    rw [if_neg (by decide)]
    refine FE.bind (WE.pure ?_)
    exact FE.again (plainId_quiet plain_eq_loop _) (gt_loop ho ha hb hv hw ⟨by simp, z⟩ _ 0 (Nat.zero_add _) rfl)
end lls
theorem plain_rem_loop : plainId "list.remove.loop" = true := by decide +kernel
theorem entry_rem_loop : entryFor table "list.remove.loop" = some Builtin.«list.remove.loop» := entryFor_of_tree (by kernel_rfl)
theorem idxOf_le {α : Type} [BEq α] [LawfulBEq α] {p : α} : ∀ {ps : List α} {i : Nat}, ps[i]? = some p → ps.idxOf p ≤ i
  | [], i, h => by simp at h
  | q :: ps, 0, h => by
    simp at h
    rw [h]
    simp [List.idxOf_cons]
  | q :: ps, i + 1, h => by
    have := idxOf_le (ps := ps) (i := i) (by simpa using h)
    rw [List.idxOf_cons]
    cases q == p <;> simp <;> lia
section rem
variable {a : Addr} {cl : Value} {d : Option Addr} {vs : List Value} {n k : Nat} {ps : List Pc} {v : Value} {p : Pc}
theorem rem_loop {Q : Value → Led → Prop} (ho : AOk A (k + 1)) (h : (a, sq cl d vs n) ∈ N) (hv : PcL N vs ps) (hp : IsPc N v p) (hs : vs.length ≤ sizeLine)
    (z : ∀ i k', ps.idxOf p = i → i < ps.length → Q .none (updL N a (sq cl d (vs.eraseIdx i) k'))) (hm : p ∈ ps) :
    ∀ (j i : Nat), i + j = vs.length → p ∉ ps.take i → CE C A (.builtin "list.remove.loop" ⟨[.ref a, v, rawInt i], []⟩) Q N Φ := by
  intro j
  induction j with
  | zero =>
    intro i hi hn
    rw [List.take_of_length_le (by rw [← hv.length]; lia)] at hn
    exact absurd hm hn
  | succ j ih =>
    intro i hi hn
    refine CE.builtin plain_rem_loop entry_rem_loop ?_
    show FE C A (PySem.Builtin.List.listItems (.ref a) >>= _) Q N Φ
    refine FE.bind (WE.listItems (.inr h) ?_)
    obtain ⟨x, hx⟩ : ∃ x, vs[i]? = some x := ⟨_, List.getElem?_eq_getElem (by lia)⟩
    have ex : vs.toArray[((i : Nat) : Int).toNat]? = some x := by simpa using hx
    rw [ex]
    refine Classical.byContradiction fun hn => ?_
    obtain ⟨p', hp', hx'⟩ := hv.get' hx
    refine hn ?_
    clear hn
    show FE C A (eqBool x v >>= _) Q N Φ
    refine FE.bind (WE.eqPc ho.in1 hx' hp ?_)
    have hlt : i < ps.length := by rw [← hv.length]; lia
    by_cases e : p' = p
    · rw [decide_eq_true e]
      refine FE.bind (WE.listUpdate (ws := vs.eraseIdx i) h ?_ ?_ fun k' => FE.ret (z i k' ?_ hlt))
      · have hl : i < vs.length := by lia
        simp [Array.eraseIdxIfInBounds, hl]
      · have := List.length_eraseIdx_le vs i; lia
      · have hpi : ps[i] = p := by
          rw [List.getElem?_eq_getElem hlt] at hp'; rw [← e]; exact Option.some.inj hp'
        have h1 : ps.idxOf p ≤ i := idxOf_le (by rw [List.getElem?_eq_getElem hlt, hpi])
        rcases Nat.lt_or_ge (ps.idxOf p) i with h2 | h2
        · exfalso
          apply hn
          have h3 : ps.idxOf p < ps.length := Nat.lt_trans h2 hlt
          rw [List.mem_take_iff_getElem]
          exact ⟨ps.idxOf p, Nat.lt_min.mpr ⟨h2, h3⟩, List.getElem_idxOf h3⟩
        · exact Nat.le_antisymm h1 h2
    · rw [decide_eq_false e]
      refine FE.again (plainId_quiet plain_rem_loop _) (ih (i + 1) (by lia) ?_)
      rw [List.take_add_one, hp']
      simp only [Option.toList, List.mem_append, List.mem_singleton, not_or]
      exact ⟨hn, fun q => e q.symm⟩
theorem m_remove {Q : Value → Led → Prop} (F : AccF C) (hc : LsC cl) (ho : AOk A (k + 1)) (h : (a, sq cl d vs n) ∈ N) (hv : PcL N vs ps) (hp : IsPc N v p) (hs : vs.length ≤ sizeLine) (hm : p ∈ ps)
    (z : ∀ i k', ps.idxOf p = i → i < ps.length → Q .none (updL N a (sq cl d (vs.eraseIdx i) k'))) : WE C A (PySem.call (.builtin "list.remove") [.ref a, v]) Q N Φ := by
  refine sl_remove.call F hc (.inr h) (PySem.F.args_list_remove_2 _ _) ?_
  refine FE.again (plainId_quiet plain_rem_loop _) ?_
  exact rem_loop ho h hv hp hs z hm vs.length 0 (Nat.zero_add _) (by simp)
end rem
end Mine.Internal
end
section
open PySem PySem.W PyProof.Rows PySem.Calls PySem.Spec PySem.Builtin.List
namespace Mine.Internal
variable {C : Cx} {N N' : Led} {Φ : Frs} {A : Around} {mg mb : Lo}
noncomputable def sgL (ps : List Pc) : Nat := (ps.map sg).sum
theorem sg_le (p : Pc) : sg p ≤ 2 := by obtain ⟨_ | _, _ | _⟩ := p <;> decide
theorem sgL_int : ∀ ps : List Pc, (ps.map fun p => (sg p : Int)).sum = ((sgL ps : Nat) : Int)
  | [] => rfl
  | p :: ps => by
    have := sgL_int ps
    simp only [sgL, List.map_cons, List.sum_cons] at this ⊢
    lia
theorem s_len (p : Pc) : (S1 p).length + (S2 p).length = sg p := by obtain ⟨_ | _, _ | _⟩ := p <;> decide
theorem s1_len (p : Pc) : (S1 p).length < 2 := by obtain ⟨_ | _, _ | _⟩ := p <;> decide
theorem s2_len (p : Pc) : (S2 p).length < 2 := by obtain ⟨_ | _, _ | _⟩ := p <;> decide
theorem c_signs {v : Value} {ps : List Pc} {Q : Value → Led → Prop} (G : Prg C mg mb) (ho : AOk A 3) (hv : IsPL N v ps) (hs : ps.length ≤ 2 ^ 16)
    (q : ∀ N' t, Ext N N' → Q (.int (sgL ps : Nat) t) N') : WE C A (PySem.call (.ref 164) [v]) Q N Φ := by
  obtain ⟨a, vs, n, rfl, ha, hp⟩ := hv
  obtain ⟨pm, hf⟩ := G.f_signs
  have hl := hp.length
  refine WE.call (CE.fnCells (binds := [("bag", .ref a)]) (cs := fun _ => []) (k := 2) G.G ho hf.any rfl rfl rfl (fun _ => rfl) fun L => ?_)
  have ho' := ho.deeper (env := callEnvC (mkFd (stOf 16) 164 (stName (stOf 16)) [] Value.none pm Value.none) L 164)
  refine s_cons ?_
  refine s_ret ?_
  refine e_call rfl ?_
  refine e_blt G.G G.n_sum G.b_sum ?_
  refine cw_blt rfl ?_
  refine a_cons ?_
  refine e_comp G.F ?_
  refine e_local (v := .ref a) rfl ?_
  refine src_list (vs := vs) (cl := .type "list") (d := none) G.F ho.h (.inl rfl) (.inr ha) (fun i ys N' => Ext N N' ∧ All2 IsI ys ((ps.take i).map fun p => (sg p : Int))) ⟨Ext.refl _, trivial⟩ ?_ (fun Cf => ?_) ?_
  · rintro i ys N' ⟨e, hy⟩
    refine ⟨⟨n, .inr (e _ ha)⟩, ?_⟩
    have := hy.length
    rw [List.length_map, List.length_take] at this
    rw [sizeLine_eq]; lia
  · rintro i ys N' m x I D k hi ⟨e, hy⟩ hx
    refine Classical.byContradiction fun hn => ?_
    obtain ⟨p, hp1, hx1⟩ := hp.get' hx
    refine hn ?_
    clear hn
    obtain ⟨b, nb, t, u, rfl, hb⟩ := hx1.mono e
    refine as_pair (v := .str (S1 p) t) (w := .str (S2 p) u) (n := nb) ho.h rfl (.inl ⟨rfl, rfl, rfl⟩) (.inl ⟨rfl, rfl, rfl⟩) (.inr hb) ?_
    refine tests_nil ?_
    refine e_bin ?_
    refine e_call rfl ?_
    refine e_blt G.G G.n_len G.b_len ?_
    refine cw_blt rfl ?_
    refine a_cons ?_
    refine e_local (v := .str (S1 p) t) rfl ?_
    refine a_nil ?_
    refine len_S (by have := s1_len p; lia) fun t1 => ?_
    refine e_call rfl ?_
    refine e_blt G.G G.n_len G.b_len ?_
    refine cw_blt rfl ?_
    refine a_cons ?_
    refine e_local (v := .str (S2 p) u) rfl ?_
    refine a_nil ?_
    refine len_S (by have := s2_len p; lia) fun t2 => ?_
    refine o_add fun t3 => ?_
    refine ⟨e, ?_⟩
    rw [List.take_add_one, hp1, List.map_append]
    refine hy.append ⟨⟨t3, ?_⟩, trivial⟩
    show Value.int _ _ = Value.int ((sg p : Nat) : Int) _
    rw [← s_len p]; simp
  · rintro ys N' D k ⟨e, hy⟩ hD
    refine a_nil ?_
    rw [hl, List.take_length] at hy
    refine sum_L (ks := ps.map fun p => (sg p : Int)) ho.h (.inr (.head _)) (hy) (fun x hx => ?_) ?_ fun t => ?_
    · obtain ⟨p, _, rfl⟩ := List.mem_map.mp hx
      have := sg_le p; lia
    · rw [List.length_map]; lia
    · show Q _ _
      rw [sgL_int]
      exact q _ _ (e.trans (Ext.cons _ _))
noncomputable def askI (ps : List Pc) : Nat → List Pc
  | 0 => []
  | i + 1 => askI ps i ++ (if 0 < sgL (ps.take (ps.length - i)) then (ps[ps.length - 1 - i]?).toList else [])
theorem askI_s {ps : List Pc} {i : Nat} : askI ps (i + 1) = askI ps i ++ (if 0 < sgL (ps.take (ps.length - i)) then (ps[ps.length - 1 - i]?).toList else []) := rfl
noncomputable def askd (ps : List Pc) : List Pc := askI ps ps.length
theorem askI_le (ps : List Pc) : ∀ i, (askI ps i).length ≤ i
  | 0 => Nat.le_refl _
  | i + 1 => by
    have := askI_le ps i
    rw [askI_s, List.length_append]
    split
    · cases ps[ps.length - 1 - i]? <;> simp <;> lia
    · simp; lia
theorem cw_S {pos} {i : Nat} {a : Addr} {dv : Value} {args : List (Bool × Sem Value)} {Q : Value → Led → Prop} (hf : FnS C i a dv) (hs : args.any (·.1) = false) (h : WE C A (spliced args) (kPCall C A Φ (.ref a) [] Q) N Φ) :
    WE C A (callWith pos (.ref a) [] args []) Q N Φ := by
  refine Classical.byContradiction fun hn => ?_
  obtain ⟨pm, hf⟩ := hf
  obtain ⟨o, h1, h2⟩ := hf.obj
  refine hn ?_
  clear hn
  exact cw_fn hs h2 (h.mono fun vs N₁ h => ⟨h1.mono (Ext.nil _), h⟩)
theorem size_down (n : Nat) : Builtin.Range.rangeSize ((n : Int) - 1) (-1) (-1) = n := by
  unfold Builtin.Range.rangeSize
  simp only [Int.neg_neg, Int.ediv_one]
  split <;> first | lia | (split <;> lia)
theorem small_down {n : Nat} (h : n ≤ 2 ^ 16) : Builtin.Range.small ((n : Int) - 1) (-1) (-1) = true := by
  unfold Builtin.Range.small
  rw [size_down]
  simp only [Builtin.Range.rangeFitsLong, Bool.and_eq_true, Bool.or_eq_true, decide_eq_true_eq, beq_iff_eq, show ¬ ((-1 : Int) > 0) from by decide, if_false]
  refine ⟨⟨⟨⟨by lia, by lia⟩, by decide⟩, by lia⟩, .inr (by decide)⟩
theorem small_up {n : Nat} (h : n ≤ 2 ^ 16) : Builtin.Range.small 0 n 1 = true := small_one (by decide) (by decide) (by lia) (by lia)
theorem size_up (n : Nat) : Builtin.Range.rangeSize 0 n 1 = n := by rw [rangeSize_one]; split <;> lia
theorem c_asked {v : Value} {ps : List Pc} {Q : Value → Led → Prop} (G : Prg C mg mb) (ho : AOk A 6) (hv : IsPL N v ps) (hs : ps.length ≤ 2 ^ 16)
    (q : ∀ N' r ws k, Ext N N' → New r N' → PcL N' ws (askd ps) → Q (.ref r) ((r, lst ws k) :: N')) : WE C A (PySem.call (.ref 169) [v]) Q N Φ := by
  obtain ⟨a, vs, n, rfl, ha, hp⟩ := hv
  obtain ⟨pm, hf⟩ := G.f_asked
  have hl := hp.length
  refine WE.call (CE.fnCells (binds := [("bag", .ref a)]) (cs := fun L => [("bag", L + 1)]) (k := 5) G.G ho hf.any rfl rfl rfl (fun _ => rfl) fun L => ?_)
  refine s_cons ?_
  refine s_ret ?_
  refine e_comp G.F ?_
  refine e_call rfl ?_
  refine e_blt G.G G.n_range G.b_range ?_
  refine cw_type rfl ?_
  refine a_cons ?_
  refine e_bin ?_
  refine e_call rfl ?_
  refine e_blt G.G G.n_len G.b_len ?_
  refine cw_blt rfl ?_
  refine a_cons ?_
  refine e_cell (v := .ref a) (.top (x := "bag") rfl rfl) ?_
  refine a_nil ?_
  refine len_L G.F (.inr ha) (by rw [sizeLine_eq]; lia) fun t1 => ?_
  refine e_int fun t2 => ?_
  refine o_sub fun t3 => ?_
  refine a_cons ?_
  refine e_un ?_
  refine e_int fun t4 => ?_
  refine o_neg fun t5 => ?_
  refine a_cons ?_
  refine e_un ?_
  refine e_int fun t6 => ?_
  refine o_neg fun t7 => ?_
  refine a_nil ?_
  refine range3 (by decide) (PyProof.noPylong_small (by lia)) fun r hr => ?_
  refine src_range (n := ps.length) ho.h (.inr (.head _)) ?_ ?_ (fun i ys N' => Ext ((r, _) :: N) N' ∧ PcL N' ys (askI ps i) ∧ i ≤ ps.length) ⟨Ext.refl _, trivial, Nat.zero_le _⟩ ?_ (fun Cf => ?_) ?_
  · rw [hl]; exact small_down hs
  · rw [hl]; exact size_down _
  · rintro i ys N' ⟨e, hy, hi⟩
    have h1 := hy.length
    have h2 := askI_le ps i
    rw [sizeLine_eq]; lia
  · rintro i ys N' m x I D k hi ⟨e, hy, _⟩ ⟨t8, rfl⟩
    obtain ⟨m1, hm1⟩ := Nat.exists_eq_add_of_lt (show i < ps.length from hi)
    have hm2 : ps.length - 1 - i = m1 := by rw [hm1, Nat.add_sub_cancel, Nat.add_sub_cancel_left]
    have hat : (vs.length : Int) - 1 + (i : Int) * -1 = ((ps.length - 1 - i : Nat) : Int) := by rw [hm2, hl, hm1]; lia
    rw [hat]
    have hj1 : ps.length - 1 - i + 1 = ps.length - i := by rw [hm2, hm1, Nat.add_assoc, Nat.add_sub_cancel_left]
    have e' : Ext N N' := (Ext.cons _ _).trans e
    have ha' := e' _ ha
    refine as_name rfl (.inl ⟨rfl, rfl, rfl⟩) ?_
    refine tests_one ?_
    refine t_cmp ?_
    refine e_call rfl ?_
    refine e_glob G.G G.g_signs ?_
    refine cw_S G.f_signs rfl ?_
    refine a_cons ?_
    refine e_sub ?_
    refine e_cell (v := .ref a) (.fr (x := "bag") (.tail _ (.tail _ (.tail _ (.head _)))) rfl rfl) ?_
    refine e_slice ?_
    refine e_part0 ?_
    refine e_part1 ?_
    refine e_bin ?_
    refine e_local (v := .int _ t8) rfl ?_
    refine e_int fun t9 => ?_
    refine o_add fun t10 => ?_
    refine e_part0 ?_
    intro sl hsl
    have hcast : ((ps.length - 1 - i : Nat) : Int) + 1 = ((ps.length - i : Nat) : Int) := by rw [← hj1]; rfl
    rw [hcast]
    refine subT_slice G.F (.inl rfl) (.inr (.tail _ ha')) (.inr (.head _)) .none (.int _ _) .none (by decide) (by rw [sizeLine_eq]; lia) (pick_upto _) fun r2 hr2 => ?_
    refine a_nil ?_
    refine c_signs G (ps := ps.take (ps.length - i)) (ho.deeper.le (by decide)) ⟨_, _, _, rfl, .head _, (hp.mono (e'.trans ((Ext.cons _ _).trans (Ext.cons _ _)))).take _⟩ (by rw [List.length_take]; exact Nat.le_trans (Nat.min_le_right _ _) hs) fun N₂ t11 e2 => ?_
    have e3 : Ext N' N₂ := ((Ext.cons _ _).trans (Ext.cons _ _)).trans e2
    refine e_int fun t12 => ?_
    refine o_gt ?_
    refine o_tBool ?_
    have hlt : i < ps.length := hi
    by_cases hc : 0 < sgL (ps.take (ps.length - i))
    · have hc' : decide ((0 : Int) < (sgL (ps.take (ps.length - i)) : Nat)) = true := by simpa using hc
      refine ite_y hc' ?_
      refine e_sub ?_
      refine e_cell (v := .ref a) (.fr (x := "bag") (.tail _ (.tail _ (.tail _ (.head _)))) rfl rfl) ?_
      refine e_local (v := .int _ t8) rfl ?_
      obtain ⟨p, hpj⟩ : ∃ p, ps[ps.length - 1 - i]? = some p := ⟨_, List.getElem?_eq_getElem (by rw [hm2, hm1]; lia)⟩
      refine Classical.byContradiction fun hn => ?_
      obtain ⟨x, hx, hxp⟩ := hp.get hpj
      refine hn ?_
      clear hn
      refine subT_int G.F (.inl rfl) (.inr (e3 _ ha')) (Int.natCast_nonneg _) (x := x) hx (by rw [sizeLine_eq]; lia) ?_
      refine ⟨e.trans e3, ?_, hlt⟩
      rw [askI_s, if_pos hc, hpj]
      exact (hy.mono e3).append ⟨hxp.mono (e'.trans e3), trivial⟩
    · have hc' : ¬ decide ((0 : Int) < (sgL (ps.take (ps.length - i)) : Nat)) = true := by simpa using hc
      refine ite_n hc' ?_
      refine ⟨e.trans e3, ?_, hlt⟩
      rw [askI_s, if_neg hc, List.append_nil]
      exact hy.mono e3
  · rintro ys N' D k ⟨e, hy, _⟩ hD
    exact q _ _ _ _ ((Ext.cons _ _).trans e) hD hy
end Mine.Internal
end
section
open PySem PySem.W PyProof.Rows PySem.Calls PySem.Spec PySem.Builtin.List
namespace Mine.Internal
variable {C : Cx} {N N' : Led} {Φ : Frs} {A : Around} {mg mb : Lo}
theorem sz_ok {l : List Value} (h : l.length ≤ 100) : l.length ≤ sizeLine := by rw [sizeLine_eq]; lia
theorem Ext.c1 {N N' : Led} {a : Addr × Obj} (e : Ext N N') : Ext N (a :: N') := e.trans (Ext.cons _ _)
theorem Ext.c2 {N N' : Led} {a b : Addr × Obj} (e : Ext N N') : Ext N (a :: b :: N') := e.c1.c1
theorem Ext.c3 {N N' : Led} {a b c : Addr × Obj} (e : Ext N N') : Ext N (a :: b :: c :: N') := e.c2.c1
theorem Ext.c4 {N N' : Led} {a b c d : Addr × Obj} (e : Ext N N') : Ext N (a :: b :: c :: d :: N') := e.c3.c1
theorem Ext.c5 {N N' : Led} {a b c d f : Addr × Obj} (e : Ext N N') : Ext N (a :: b :: c :: d :: f :: N') := e.c4.c1
noncomputable def bareL (ps : List Pc) : List Pc := ps.take (ps.length - (askd ps).length)
theorem c_bare {v : Value} {ps : List Pc} {Q : Value → Led → Prop} (G : Prg C mg mb) (ho : AOk A 9) (hv : IsPL N v ps) (hs : ps.length ≤ 2 ^ 16)
    (q : ∀ N' r ws k, Ext N N' → New r N' → PcL N' ws (bareL ps) → Q (.ref r) ((r, lst ws k) :: N')) : WE C A (PySem.call (.ref 188) [v]) Q N Φ := by
  obtain ⟨a, vs, n, rfl, ha, hp⟩ := hv
  obtain ⟨pm, hf⟩ := G.f_bare
  have hl := hp.length
  refine WE.call (CE.fnCells (binds := [("bag", .ref a)]) (cs := fun L => []) (k := 8) G.G ho hf.any rfl rfl rfl (fun _ => rfl) fun L => ?_)
  refine s_cons ?_
  refine s_ret ?_
  refine e_sub ?_
  refine e_local (v := .ref a) rfl ?_
  refine e_slice ?_
  refine e_part0 ?_
  refine e_part1 ?_
  refine e_bin ?_
  refine e_call rfl ?_
  refine e_blt G.G G.n_len G.b_len ?_
  refine cw_blt rfl ?_
  refine a_cons ?_
  refine e_local (v := .ref a) rfl ?_
  refine a_nil ?_
  refine len_L G.F (.inr ha) (by rw [sizeLine_eq]; lia) fun t1 => ?_
  refine e_call rfl ?_
  refine e_blt G.G G.n_len G.b_len ?_
  refine cw_blt rfl ?_
  refine a_cons ?_
  refine e_call rfl ?_
  refine e_glob G.G G.g_asked ?_
  refine cw_S G.f_asked rfl ?_
  refine a_cons ?_
  refine e_local (v := .ref a) rfl ?_
  refine a_nil ?_
  refine c_asked G (ps := ps) (ho.deeper.le (by decide)) ⟨_, _, _, rfl, ha, hp⟩ hs fun N₂ r ws k e1 hr hw => ?_
  refine a_nil ?_
  have hwl := hw.length
  have hal := askI_le ps ps.length
  refine len_L G.F (.inr (.head _)) (by rw [sizeLine_eq]; unfold askd at hwl; lia) fun t2 => ?_
  refine o_sub fun t3 => ?_
  refine e_part0 ?_
  intro sl hsl
  have hcast : ((vs.length : Nat) : Int) - ((ws.length : Nat) : Int) = ((ps.length - (askd ps).length : Nat) : Int) := by rw [hl, hwl]; exact (Int.ofNat_sub hal).symm
  rw [hcast]
  refine subT_slice G.F (.inl rfl) (.inr (.tail _ (.tail _ (e1 _ ha)))) (.inr (.head _)) .none (.int _ _) .none (by decide) (by rw [sizeLine_eq]; lia) (pick_upto _) fun r2 hr2 => ?_
  exact q _ _ _ _ e1.c2 hr2 ((hp.mono e1.c2).take _)
noncomputable def pcOf (n : Nat) : Pc := (n % 2 = 1, n / 2 % 2 = 1)
theorem intBits4 : Builtin.Int.intBits 4 = 3 := by decide +kernel
end Mine.Internal
end
section
open PySem PySem.W PyProof.Rows PySem.Calls PySem.Spec PySem.Builtin.List
namespace Mine.Internal
variable {C : Cx} {N N' : Led} {Φ : Frs} {A : Around} {mg mb : Lo}
section tests
variable {env : Env}
@[reducible] noncomputable def kAnd (C : Cx) (A : Around) (Φ : Frs) (env : Env) (y : Expr) (Q : Bool → Led → Prop) : Bool → Led → Prop := fun b N => if b = true then WE C A (isTrue y env (eval y env)) Q N Φ else Q false N
@[reducible] noncomputable def kOr (C : Cx) (A : Around) (Φ : Frs) (env : Env) (y : Expr) (Q : Bool → Led → Prop) : Bool → Led → Prop := fun b N => if b = true then Q true N else WE C A (isTrue y env (eval y env)) Q N Φ
@[reducible] noncomputable def kNot (Q : Bool → Led → Prop) : Bool → Led → Prop := fun b N => Q (!b) N
theorem t_and2 {x y : Expr} {pos whole} {Q : Bool → Led → Prop} (h : WE C A (isTrue x env (eval x env)) (kAnd C A Φ env y Q) N Φ) : WE C A (isTrue (.BoolOp .And [x, y] pos) env whole) Q N Φ := by
  show WE C A (isTrue x env (eval x env) >>= _) Q N Φ
  refine WE.bind (h.mono fun b N₁ h₁ => ?_)
  cases b with
  | false => exact WE.pure (by simpa [kAnd] using h₁)
  | true =>
    unfold kAnd at h₁; rw [if_pos rfl] at h₁
    show WE C A (isTrue y env (eval y env) >>= _) Q N₁ Φ
    refine WE.bind (h₁.mono fun b N₂ h₂ => ?_)
    cases b <;> exact WE.pure h₂
theorem t_or2 {x y : Expr} {pos whole} {Q : Bool → Led → Prop} (h : WE C A (isTrue x env (eval x env)) (kOr C A Φ env y Q) N Φ) : WE C A (isTrue (.BoolOp .Or [x, y] pos) env whole) Q N Φ := by
  show WE C A (isTrue x env (eval x env) >>= _) Q N Φ
  refine WE.bind (h.mono fun b N₁ h₁ => ?_)
  cases b with
  | true => exact WE.pure (by simpa [kOr] using h₁)
  | false =>
    unfold kOr at h₁; rw [if_neg (by decide)] at h₁
    show WE C A (isTrue y env (eval y env) >>= _) Q N₁ Φ
    refine WE.bind (h₁.mono fun b N₂ h₂ => ?_)
    cases b <;> exact WE.pure h₂
theorem t_not {x : Expr} {pos whole} {Q : Bool → Led → Prop} (h : WE C A (isTrue x env (eval x env)) (kNot Q) N Φ) : WE C A (isTrue (.UnaryOp .Not x pos) env whole) Q N Φ := by
  show WE C A (do return !(← isTrue x env (eval x env))) Q N Φ
  exact WE.bind (h.mono fun b N₁ h₁ => WE.pure h₁)
theorem t_plain {e : Expr} {Q : Bool → Led → Prop} (he : ∀ whole, isTrue e env whole = (do let v ← whole; standAt e.pos; holding [v] (truthy v))) (h : WE C A (eval e env) (kTru C A Φ Q) N Φ) : WE C A (isTrue e env (eval e env)) Q N Φ := by
  rw [he]
  exact WE.bind (h.mono fun v N₁ h₁ => WE.bind (WE.standAt (WE.holding h₁)))
theorem o_tList {a : Addr} {vs : List Value} {n : Nat} {Q : Bool → Led → Prop} (h : Has C N a (lst vs n)) (hs : vs.length ≤ sizeLine) (q : Q (decide (vs ≠ [])) N) : WE C A (truthy (.ref a)) Q N Φ := fun s E R => by
  have hl : s.heap.IsList a vs.toArray := ⟨_, R.has h, rfl, _, rfl⟩
  refine wpAny_truthy_list hl (by rw [List.size_toArray]; rw [sizeLine_eq] at hs; lia) ⟨N, R.tok _, ?_⟩
  have : (!vs.toArray.isEmpty) = decide (vs ≠ []) := by cases vs <;> simp
  rw [this]; exact q
end tests
noncomputable def ownI (one two : List Pc) : Nat → List Pc
  | 0 => []
  | i + 1 => ownI one two i ++ (one[i]?).toList.filter fun p => !decide (p ∈ two) && (!decide (p ∈ one.take i) || !(two.any fun o => pcLt p o))
theorem ownI_s {one two : List Pc} {i : Nat} : ownI one two (i + 1) = ownI one two i ++ (one[i]?).toList.filter fun p => !decide (p ∈ two) && (!decide (p ∈ one.take i) || !(two.any fun o => pcLt p o)) := rfl
noncomputable def ownL (one two : List Pc) : List Pc := ownI one two one.length
theorem ownI_le (one two : List Pc) : ∀ i, (ownI one two i).length ≤ i
  | 0 => Nat.le_refl _
  | i + 1 => by
    have := ownI_le one two i
    rw [ownI_s, List.length_append]
    cases h : one[i]? with
    | none => simp; lia
    | some p =>
      have := List.length_filter_le (fun p => !decide (p ∈ two) && (!decide (p ∈ one.take i) || !(two.any fun o => pcLt p o))) [p]
      simp only [Option.toList]
      simp only [List.length_singleton] at this
      lia
theorem c_own {v w : Value} {ps qs : List Pc} {Q : Value → Led → Prop} (G : Prg C mg mb) (ho : AOk A 6) (hv : IsPL N v ps) (hw : IsPL N w qs) (hs : ps.length ≤ 2 ^ 16) (hs2 : qs.length ≤ 2 ^ 16)
    (q : ∀ N' r ws k, Ext N N' → New r N' → PcL N' ws (ownL ps qs) → Q (.ref r) ((r, lst ws k) :: N')) : WE C A (PySem.call (.ref 198) [v, w]) Q N Φ := by
  have hw0 := hw
  obtain ⟨a, vs, n, rfl, ha, hp⟩ := hv
  obtain ⟨b, us, n', rfl, hb, hq⟩ := hw
  obtain ⟨pm, hf⟩ := G.f_own
  have hl := hp.length
  have hl2 := hq.length
  refine WE.call (CE.fnCells (binds := [("one", .ref a), ("two", .ref b)]) (cs := fun L => [("two", L + 2), ("one", L + 1)]) (k := 5) G.G ho hf.any rfl rfl rfl (fun _ => rfl) fun L => ?_)
  refine s_cons ?_
  refine s_ret ?_
  refine e_compC (cs := fun L => [("at", L + 1)]) G.F ?_
  refine e_call rfl ?_
  refine e_blt G.G G.n_range G.b_range ?_
  refine cw_type rfl ?_
  refine a_cons ?_
  refine e_call rfl ?_
  refine e_blt G.G G.n_len G.b_len ?_
  refine cw_blt rfl ?_
  refine a_cons ?_
  refine e_cell (v := .ref a) (.top (x := "one") rfl rfl) ?_
  refine a_nil ?_
  refine len_L G.F (.inr ha) (by rw [sizeLine_eq]; lia) fun t1 => ?_
  refine a_nil ?_
  refine range1 fun r u1 v1 hr => ?_
  refine src_range (n := ps.length) ho.h (.inr (.head _)) ?_ ?_ (fun i ys N' => Ext N N' ∧ PcL N' ys (ownI ps qs i) ∧ i ≤ ps.length) ⟨Ext.cons _ _, trivial, Nat.zero_le _⟩ ?_ (fun Cf => ?_) ?_
  · rw [hl]; exact small_up hs
  · rw [hl]; exact size_up _
  · rintro i ys N' ⟨e, hy, hi⟩
    have h1 := hy.length
    have h2 := ownI_le ps qs i
    rw [sizeLine_eq]; lia
  · rintro i ys N' m x I D k hi ⟨e, hy, _⟩ ⟨t8, rfl⟩
    have hat : (0 : Int) + (i : Int) * 1 = (i : Int) := z_at _
    rw [hat]
    obtain ⟨p, hpi⟩ : ∃ p, ps[i]? = some p := ⟨_, List.getElem?_eq_getElem hi⟩
    refine Classical.byContradiction fun hn => ?_
    obtain ⟨x, hx, hxp⟩ := hp.get hpi
    refine hn ?_
    clear hn
    have fin : ∀ (N₂ : Led) (c : Bool) (X : Prop), Ext N' N₂ → c = (!decide (p ∈ qs) && (!decide (p ∈ ps.take i) || !(qs.any fun o => pcLt p o))) →
        ((!decide (p ∈ qs) && (!decide (p ∈ ps.take i) || !(qs.any fun o => pcLt p o))) = true → X) → (if c = true then X else Ext N N₂ ∧ PcL N₂ ys (ownI ps qs (i + 1)) ∧ i + 1 ≤ ps.length) := by
      intro N₂ c X e₂ hc h
      cases c with
      | true => refine ite_y rfl ?_; exact h hc.symm
      | false =>
        refine ite_n (by decide) ?_
        refine ⟨e.trans e₂, ?_, hi⟩
        rw [ownI_s, hpi]
        simp only [Option.toList, List.filter_cons, ← hc, Bool.false_eq_true, if_false, List.filter_nil, List.append_nil]
        exact hy.mono e₂
    refine as_name rfl (.inr ⟨_, rfl, rfl, rfl⟩) ?_
    have ho₁ : AOk (A.deeper (callEnvC (mkFd (stOf 22) 198 (stName (stOf 22)) [] Value.none pm Value.none) L 198)) 5 := ho.deeper
    have ha' := e _ ha
    have hb' := e _ hb
    refine tests_one ?_
    refine t_and2 ?_
    refine t_cmp ?_
    refine e_sub ?_
    refine e_cell (v := .ref a) (.fr (x := "one") (.tail _ (.tail _ (.tail _ (.head _)))) rfl rfl) ?_
    refine e_cell (v := .int i t8) (.top (x := "at") (setLo_self ..) rfl) ?_
    refine subT_int G.F (.inl rfl) (.inr ha') (Int.natCast_nonneg _) (x := x) hx (by rw [sizeLine_eq]; lia) ?_
    refine e_cell (v := .ref b) (.fr (x := "two") (.tail _ (.tail _ (.tail _ (.head _)))) rfl rfl) ?_
    refine o_notIn ho₁ (hw0.mono e) (hxp.mono e) ?_
    refine o_tBool ?_
    have last : ∀ (N₂ : Led) (Ψ : Frs), Ext N' N₂ → (!decide (p ∈ qs) && (!decide (p ∈ ps.take i) || !(qs.any fun o => pcLt p o))) = true → WE C (A.deeper (callEnvC (mkFd (stOf 22) 198 (stName (stOf 22)) [] Value.none pm Value.none) L 198)) (PySem.getItem (.ref a) (.int i t8)) (fun y N₄ => Ext N N₄ ∧ PcL N₄ (ys ++ [y]) (ownI ps qs (i + 1)) ∧ i + 1 ≤ ps.length) N₂ Ψ := by
      intro N₂ Ψ e₂ hc
      refine getItem_int G.F (.inl rfl) (.inr (e₂ _ ha')) (Int.natCast_nonneg _) (x := x) hx (by rw [sizeLine_eq]; lia) ⟨e.trans e₂, ?_, hi⟩
      rw [ownI_s, hpi]
      simp only [Option.toList, List.filter_cons, hc, if_true, List.filter_nil]
      exact (hy.mono e₂).append ⟨hxp.mono (e.trans e₂), trivial⟩
    cases h1 : decide (p ∈ qs) with
    | true =>
      show (if false = true then _ else _)
      refine ite_n (by decide) ?_
      refine fin N' false _ (Ext.refl _) (by rw [h1]; rfl) (fun h => by rw [h1] at h; cases h)
    | false =>
      show (if true = true then _ else _)
      refine ite_y rfl ?_
      refine t_or2 ?_
      refine t_cmp ?_
      refine e_sub ?_
      refine e_cell (v := .ref a) (.fr (x := "one") (.tail _ (.tail _ (.tail _ (.head _)))) rfl rfl) ?_
      refine e_cell (v := .int i t8) (.top (x := "at") (setLo_self ..) rfl) ?_
      refine subT_int G.F (.inl rfl) (.inr ha') (Int.natCast_nonneg _) (x := x) hx (by rw [sizeLine_eq]; lia) ?_
      refine e_sub ?_
      refine e_cell (v := .ref a) (.fr (x := "one") (.tail _ (.tail _ (.tail _ (.head _)))) rfl rfl) ?_
      refine e_slice ?_
      refine e_part0 ?_
      refine e_part1 ?_
      refine e_cell (v := .int i t8) (.top (x := "at") (setLo_self ..) rfl) ?_
      refine e_part0 ?_
      intro sl hsl
      refine subT_slice G.F (.inl rfl) (.inr (.tail _ ha')) (.inr (.head _)) .none (.int _ _) .none (by decide) (by rw [sizeLine_eq]; lia) (pick_upto _) fun r2 hr2 => ?_
      refine o_notIn ho₁ (ps := ps.take i) ⟨_, _, _, rfl, .head _, (hp.mono e.c2).take _⟩ (hxp.mono e.c2) ?_
      refine o_tBool ?_
      cases h2 : decide (p ∈ ps.take i) with
      | false =>
        show (if true = true then _ else _)
        refine ite_y rfl ?_
        refine fin _ true _ (Ext.refl _).c2 (by rw [h1, h2]; rfl) fun hc => ?_
        refine e_sub ?_
        refine e_cell (v := .ref a) (.fr (x := "one") (.tail _ (.tail _ (.tail _ (.head _)))) rfl rfl) ?_
        refine e_cell (v := .int i t8) (.top (x := "at") (setLo_self ..) rfl) ?_
        refine subT_L G.F (.inl rfl) (.inr (.tail _ (.tail _ ha'))) ?_
        exact (last _ _ (Ext.refl _).c2 hc)
      | true =>
        show (if false = true then _ else _)
        refine ite_n (by decide) ?_
        refine t_not ?_
        refine t_plain (fun _ => rfl) ?_
        refine e_comp G.F ?_
        refine e_cell (v := .ref b) (.fr (x := "two") (.tail _ (.tail _ (.tail _ (.head _)))) rfl rfl) ?_
        refine src_list (vs := us) (cl := .type "list") (d := none) G.F ho.h (.inl rfl) (.inr (.tail _ (.tail _ hb'))) (fun j zs N₂ => Ext N' N₂ ∧ zs.length = ((qs.take j).filter fun o => pcLt p o).length ∧ j ≤ qs.length) ⟨(Ext.refl _).c2, rfl, Nat.zero_le _⟩ ?_ (fun Cf₂ => ?_) ?_
        · rintro j zs N₂ ⟨e₂, hz, hj⟩
          refine ⟨⟨n', .inr (e₂ _ hb')⟩, ?_⟩
          have := List.length_filter_le (fun o => pcLt p o) (qs.take j)
          rw [List.length_take] at this
          rw [sizeLine_eq]; lia
        · rintro j zs N₂ m₂ y I₂ D₂ k₂ hj ⟨e₂, hz, _⟩ hy2
          refine Classical.byContradiction fun hn => ?_
          obtain ⟨o, hqo, hyo⟩ := hq.get' hy2
          refine hn ?_
          clear hn
          refine as_name rfl (.inl ⟨rfl, rfl, rfl⟩) ?_
          refine tests_one ?_
          refine t_cmp ?_
          refine e_local (setLo_self ..) ?_
          refine e_sub ?_
          refine e_cell (v := .ref a) (.fr (x := "one") (.tail _ (.tail _ (.tail _ (.tail _ (.tail _ (.tail _ (.head _))))))) rfl rfl) ?_
          refine e_cell (v := .int i t8) (.fr (x := "at") (.tail _ (.tail _ (.tail _ (.head _)))) (setLo_self ..) rfl) ?_
          refine subT_int G.F (.inl rfl) (.inr (e₂ _ ha')) (Int.natCast_nonneg _) (x := x) hx (by rw [sizeLine_eq]; lia) ?_
          refine o_gtPc (k := 4) ho₁ (hyo.mono (e.trans e₂)) (hxp.mono (e.trans e₂)) ?_
          refine o_tBool ?_
          have hlen : ((qs.take (j + 1)).filter fun o => pcLt p o).length = ((qs.take j).filter fun o => pcLt p o).length + if pcLt p o = true then 1 else 0 := by
            rw [List.take_add_one, hqo, List.filter_append, List.length_append]
            cases h : pcLt p o <;> simp [h]
          have hj' : j + 1 ≤ qs.length := by lia
          cases h3 : pcLt p o with
          | false =>
            show (if false = true then _ else _)
            refine ite_n (by decide) ?_
            refine ⟨e₂, ?_, hj'⟩
            rw [hlen, h3, hz]; rfl
          | true =>
            show (if true = true then _ else _)
            refine ite_y rfl ?_
            refine e_local (setLo_self ..) ?_
            refine ⟨e₂, ?_, hj'⟩
            rw [hlen, h3, List.length_append, hz]; rfl
        · rintro zs N₂ D₂ k₂ ⟨e₂, hz, _⟩ hD₂
          rw [hl2, List.take_length] at hz
          have hzl : zs.length ≤ sizeLine := by
            have := List.length_filter_le (fun o => pcLt p o) qs
            rw [sizeLine_eq]; lia
          refine o_tList (.inr (.head _)) hzl ?_
          have hany : (qs.any fun o => pcLt p o) = decide (zs ≠ []) := by
            rw [Bool.eq_iff_iff, List.any_eq_true, decide_eq_true_eq]
            constructor
            · rintro ⟨o, ho, hlt⟩ rfl
              have : o ∈ qs.filter fun o => pcLt p o := List.mem_filter.mpr ⟨ho, hlt⟩
              rw [List.length_nil] at hz
              rw [List.eq_nil_of_length_eq_zero hz.symm] at this
              cases this
            · intro hne
              have : (qs.filter fun o => pcLt p o) ≠ [] := fun e => by rw [e] at hz; exact hne (List.eq_nil_of_length_eq_zero hz)
              obtain ⟨o, ho⟩ := List.exists_mem_of_ne_nil _ this
              exact ⟨o, (List.mem_filter.mp ho).1, (List.mem_filter.mp ho).2⟩
          refine fin _ _ _ e₂.c1 (by rw [h1, h2, hany]; rfl) fun hc => ?_
          refine e_sub ?_
          refine e_cell (v := .ref a) (.fr (x := "one") (.tail _ (.tail _ (.tail _ (.head _)))) rfl rfl) ?_
          refine e_cell (v := .int i t8) (.top (x := "at") (setLo_self ..) rfl) ?_
          refine subT_L G.F (.inl rfl) (.inr (.tail _ (e₂ _ ha'))) ?_
          exact (last _ _ e₂.c1 hc)
  · rintro ys N' D k ⟨e, hy, _⟩ hD
    exact q _ _ _ _ e hD hy
end Mine.Internal
end
section
open PySem PySem.W PyProof.Rows PySem.Calls PySem.Spec PySem.Builtin.List
namespace Mine.Internal
variable {C : Cx} {N N' : Led} {Φ : Frs} {A : Around} {mg mb : Lo}
noncomputable def NsO (o : Obj) (m : Lo) : Prop := ∃ es ep, o.data = .dict es ep ∧ StrKeys es ∧ ∀ name, nsFind es name = m name
theorem WE.nsGet {D : Addr} {o : Obj} {m : Lo} {x : Str} {Q : Option Value → Led → Prop} (h : Has C N D o) (hn : NsO o m) (q : Q (m x) N) : WE C A (nsGet D x) Q N Φ := fun s E R => by
  obtain ⟨es, ep, hd, hk, hf⟩ := hn
  exact wpAny_nsGet ⟨o, es, ep, R.has h, hd, hk, hf⟩ ⟨N, R, q⟩
@[reducible] noncomputable def kMet2 (C : Cx) (A : Around) (Φ : Frs) (env : Env) (pos : Pos) (args : List Expr) (Q : Value → Led → Prop) : Value × List Value → Led → Prop := fun fx N => WE C A (callWith pos fx.1 fx.2 (backTo pos (starEach args env)) []) Q N Φ
@[reducible] noncomputable def kMet (C : Cx) (A : Around) (Φ : Frs) (env : Env) (pos : Pos) (o : Expr) (name : Str) (args : List Expr) (Q : Value → Led → Prop) : Value → Led → Prop := fun ov N => WE C A (getMethod ov name (do return (← importBound o env).getD true)) (kMet2 C A Φ env pos args Q) N Φ
theorem e_meth {o : Expr} {name : Str} {apos pos : Pos} {args : List Expr} {env : Env} {Q : Value → Led → Prop}
    (h : WE C A (eval o env) (kMet C A Φ env pos o name args Q) N Φ)
    (hb : ∀ whole, attributeBase o name env whole = whole := by intro _; rfl) (hf : methodCallForm (args.length + ([] : List Keyword).length) (backTo pos (starEach args env)) (backToKw pos (keywordEach [] env)) = true := by rfl)
    (hl : (apos.endLine == pos.line) = true := by rfl) : WE C A (eval (.Call (.Attribute o name apos) args [] pos) env) Q N Φ := by
  rw [arm_eval_Call, hb]
  refine WE.bind (h.mono fun ov N₁ h₁ => ?_)
  refine WE.bind (WE.standAt ?_)
  unfold methodCall
  rw [hf]
  refine WE.bind (WE.holding ?_)
  unfold calleeOf
  rw [if_pos rfl]
  refine h₁.mono fun fx N₂ h₂ => ?_
  have : methodCallPos true o env apos pos = Pure.pure pos := by
    unfold methodCallPos
    rw [hl]; rfl
  show WE C A (methodCallPos true o env apos pos >>= _) Q N₂ Φ
  rw [this]
  exact WE.bind (WE.pure h₂)
section gm
variable {a : Addr} {cl : Value} {d : Option Addr} {vs : List Value} {n : Nat} {name : Str}
noncomputable def DictOk (C : Cx) (N : Led) (d : Option Addr) (name : Str) : Prop := ∀ D, d = some D → ∃ o m, Has C N D o ∧ NsO o m ∧ m name = none
theorem DictOk.none {name : Str} : DictOk C N none name := fun _ h => nomatch h
theorem getMethod_L {f : Value} {pl : Sem Bool} {Q : Value × List Value → Led → Prop} (F : AccF C) (hc : LsC cl) (h : Has C N a (sq cl d vs n)) (hd : DictOk C N d name)
    (hl : cl = .type "list" → typeLookup (.type "list") name = Pure.pure (some f)) (hr : cl = .ref accA → findIn C.K (.ref accA) name = some (some f))
    (ht : ∀ {K : Value → Led → Prop}, (∀ t, (t = .type "function" ∨ t = .type "method_descriptor") → K t N) → WE C A (PySem.typeOf f) K N Φ) (q : Q (f, [.ref a]) N) : WE C A (getMethod (.ref a) name pl) Q N Φ := by
  unfold getMethod
  have sp : ∀ {nm : Str} {r : Option Value} {K : Option Value → Led → Prop}, (cl = .type "list" → typeLookup (.type "list") nm = Pure.pure r) → (cl = .ref accA → findIn C.K (.ref accA) nm = some r) → K r N → WE C A (specialOf (.ref a) nm) K N Φ := by
    intro nm r K h1 h2 hK
    unfold specialOf
    refine WE.bind (WE.typeOf h ?_)
    rcases hc with rfl | rfl
    · exact WE.of_eq (h1 rfl) (WE.pure hK)
    · exact WE.find (h2 rfl) hK
  refine WE.bind (sp (fun _ => list_getattribute) (fun _ => F.gattr) ?_)
  show WE C A (if (Manifest.canonical "list.__getattribute__" != "object.__getattribute__") = true then _ else _) Q N Φ
  rw [canon_list_getattribute, if_neg Bool.false_ne_true]
  refine WE.bind (sp (fun _ => list_getattr_none) (fun _ => F.gattrN) ?_)
  refine WE.bind (sp hl hr ?_)
  refine WE.bind (ht fun t htt => ?_)
  have h1 : (t != .type "function" && t != .type "method_descriptor" && t != .type "wrapper_descriptor") = false := by rcases htt with rfl | rfl <;> rfl
  dsimp only [Option.isSome]
  rw [if_neg (by rw [h1]; decide)]
  refine WE.bind (WE.loadPart h ?_)
  cases d with
  | none => exact WE.bind (WE.rule (WE.pure q))
  | some D =>
    obtain ⟨o, m, ho, hm, hn⟩ := hd D rfl
    refine WE.bind (WE.nsGet ho hm ?_)
    rw [hn]
    dsimp only
    rw [if_neg (by decide)]
    exact WE.bind (WE.rule (WE.pure q))
end gm
structure LMeth (name : Str) (id : String) : Prop where
  look : typeLookup (.type "list") name = Pure.pure (some (.builtin id))
  ty : PySem.typeOf (.builtin id) = Pure.pure (.type "method_descriptor")
theorem lm_append : LMeth "append" "list.append" := ⟨sl_append.lookup, PySem.F.type_list_append⟩
theorem lm_count : LMeth "count" "list.count" := ⟨sl_count.lookup, PySem.F.type_list_count⟩
theorem lm_remove : LMeth "remove" "list.remove" := ⟨sl_remove.lookup, PySem.F.type_list_remove⟩
theorem lm_extend : LMeth "extend" "list.extend" := ⟨sl_extend.lookup, PySem.F.type_list_extend⟩
theorem LMeth.get {name : Str} {id : String} (M : LMeth name id) {a : Addr} {cl : Value} {d : Option Addr} {vs : List Value} {n : Nat} {pl : Sem Bool} {Q : Value × List Value → Led → Prop} (F : AccF C) (hc : LsC cl) (h : Has C N a (sq cl d vs n)) (hd : DictOk C N d name)
    (hr : cl = .ref accA → findIn C.K (.ref accA) name = some (some (.builtin id))) (q : Q (.builtin id, [.ref a]) N) : WE C A (getMethod (.ref a) name pl) Q N Φ :=
  getMethod_L F hc h hd (fun _ => M.look) hr (fun hK => WE.of_eq M.ty (WE.pure (hK _ (.inr rfl)))) q
theorem LMeth.list {name : Str} {id : String} (M : LMeth name id) {a : Addr} {vs : List Value} {n : Nat} {pl : Sem Bool} {Q : Value × List Value → Led → Prop} (F : AccF C) (h : Has C N a (lst vs n)) (q : Q (.builtin id, [.ref a]) N) : WE C A (getMethod (.ref a) name pl) Q N Φ :=
  M.get F (.inl rfl) h .none (fun e => nomatch e) q
end Mine.Internal
end
section
open PySem PySem.W PyProof.Rows PySem.Calls PySem.Spec PySem.Builtin.List
namespace Mine.Internal
variable {C : Cx} {N N' : Led} {Φ : Frs} {A : Around} {mg mb : Lo}
structure Upd (N N' : Led) (a : Addr) (o' : Obj) : Prop where
  self : (a, o') ∈ N'
  but : ExtBut a N N'
  pc : ∀ v p, IsPc N v p → IsPc N' v p
theorem Upd.pcl {a : Addr} {o' : Obj} {vs : List Value} {ps : List Pc} (U : Upd N N' a o') (h : PcL N vs ps) : PcL N' vs ps := All2.imp (fun v p x => U.pc v p x) h
theorem Upd.pl {a : Addr} {o' : Obj} {v : Value} {ps : List Pc} (U : Upd N N' a o') (h : IsPL N v ps) (hn : v ≠ .ref a) : IsPL N' v ps := by
  obtain ⟨b, vs, n, rfl, hb, hp⟩ := h
  exact ⟨b, vs, n, rfl, U.but _ hb (fun e => hn (by rw [show b = a from e])), U.pcl hp⟩
theorem Upd.ext {N₀ : Led} {a : Addr} {o' : Obj} (U : Upd N N' a o') (e : Ext N₀ N) (hn : New a N₀) : Ext N₀ N' := e.but hn U.but
theorem Upd.of {a : Addr} {o o' : Obj} (fn : ∀ a o o', (a, o) ∈ N → (a, o') ∈ N → o = o') (h : (a, o) ∈ N) (hc : o.cls ≠ .type "tuple") : Upd N (updL N a o') a o' where
  self := updL_self ..
  but := updL_but _ _ _
  pc := by
    rintro v p ⟨b, n, t, u, rfl, hb⟩
    refine ⟨b, n, t, u, rfl, updL_but _ _ _ _ hb fun e => ?_⟩
    have e : b = a := e
    subst e
    have := fn _ _ _ h hb
    rw [this] at hc
    exact hc rfl
theorem m_append' {a : Addr} {cl : Value} {d : Option Addr} {vs : List Value} {n : Nat} {v : Value} {Q : Value → Led → Prop} (F : AccF C) (hc : LsC cl) (h : (a, sq cl d vs n) ∈ N) (hs : vs.length ≤ sizeLine) (q : ∀ N' k, Upd N N' a (sq cl d (vs ++ [v]) k) → Q .none N') :
    WE C A (PySem.call (.builtin "list.append") [.ref a, v]) Q N Φ :=
  WE.fn fun fn => m_append F hc h hs fun k => q _ k (.of fn h (by rcases hc with rfl | rfl <;> simp))
noncomputable def lackL (s a : List Pc) : List Pc → List Pc
  | [] => []
  | p :: ps => (if s.count p ≤ a.count p then [p] else []) ++ lackL s (a ++ [p]) ps
theorem lackL_c {s a : List Pc} {p : Pc} {ps : List Pc} : lackL s a (p :: ps) = (if s.count p ≤ a.count p then [p] else []) ++ lackL s (a ++ [p]) ps := rfl
theorem lackL_snoc (s : List Pc) (p : Pc) : ∀ (ps a : List Pc), lackL s a (ps ++ [p]) = lackL s a ps ++ (if s.count p ≤ (a ++ ps).count p then [p] else [])
  | [], a => by rw [List.append_nil]; exact List.append_nil _
  | q :: ps, a => by
    rw [List.cons_append, lackL_c, lackL_snoc s p ps, lackL_c, List.append_assoc, List.append_assoc]
    rfl
theorem lackL_le (s : List Pc) : ∀ (ps a : List Pc), (lackL s a ps).length ≤ ps.length
  | [], a => Nat.le_refl _
  | p :: ps, a => by
    have := lackL_le s ps (a ++ [p])
    rw [lackL_c, List.length_append, List.length_cons]
    split <;> simp <;> lia
noncomputable def dueL (s a : List Pc) : List (List Pc) → List (List Pc)
  | [] => []
  | b :: bs => lackL s a (askd b) :: dueL s (a ++ askd b) bs
theorem dueL_c {s a b : List Pc} {bs : List (List Pc)} : dueL s a (b :: bs) = lackL s a (askd b) :: dueL s (a ++ askd b) bs := rfl
theorem dueL_snoc (s : List Pc) (b : List Pc) : ∀ (bs : List (List Pc)) (a : List Pc), dueL s a (bs ++ [b]) = dueL s a bs ++ [lackL s (a ++ bs.flatMap askd) (askd b)]
  | [], a => by rw [List.flatMap_nil, List.append_nil]; rfl
  | c :: bs, a => by
    rw [List.cons_append, dueL_c, dueL_snoc s b bs, dueL_c, List.flatMap_cons, List.append_assoc]
    rfl
theorem dueL_length (s : List Pc) : ∀ (bs : List (List Pc)) (a : List Pc), (dueL s a bs).length = bs.length
  | [], _ => rfl
  | _ :: bs, _ => congrArg (· + 1) (dueL_length s bs _)
noncomputable def leftI (s a : List Pc) : Nat → List Pc
  | 0 => []
  | i + 1 => leftI s a i ++ (s[i]?).toList.filter fun p => decide (a.count p < (s.take (i + 1)).count p)
theorem leftI_s {s a : List Pc} {i : Nat} : leftI s a (i + 1) = leftI s a i ++ (s[i]?).toList.filter fun p => decide (a.count p < (s.take (i + 1)).count p) := rfl
noncomputable def leftL (s a : List Pc) : List Pc := leftI s a s.length
theorem leftI_le (s a : List Pc) : ∀ i, (leftI s a i).length ≤ i
  | 0 => Nat.le_refl _
  | i + 1 => by
    have := leftI_le s a i
    rw [leftI_s, List.length_append]
    cases h : s[i]? with
    | none => simp; lia
    | some p =>
      exact Nat.add_le_add this (List.length_filter_le (fun p => decide (a.count p < (s.take (i + 1)).count p)) [p])
theorem askd_le (ps : List Pc) : (askd ps).length ≤ ps.length := askI_le ps _
theorem flat_le (k : Nat) : ∀ (bs : List (List Pc)), (∀ b ∈ bs, b.length ≤ k) → (bs.flatMap askd).length ≤ bs.length * k
  | [], _ => by simp
  | b :: bs, h => by
    have h1 := flat_le k bs fun c hc => h c (.tail _ hc)
    have h2 := h b (.head _)
    have h3 := askd_le b
    rw [List.flatMap_cons, List.length_append, List.length_cons, Nat.add_mul, Nat.one_mul, Nat.add_comm]
    exact Nat.add_le_add h1 (Nat.le_trans h3 h2)
noncomputable def PLx (xs : List Addr) (N : Led) (vs : List Value) (pss : List (List Pc)) : Prop := All2 (fun v ps => IsPL N v ps ∧ ∀ x ∈ xs, v ≠ .ref x) vs pss
theorem PLx.pls {xs : List Addr} {vs : List Value} {pss : List (List Pc)} (h : PLx xs N vs pss) : PLs N vs pss := All2.imp (fun _ _ x => x.1) h
theorem PLx.mono {xs : List Addr} {vs : List Value} {pss : List (List Pc)} (h : PLx xs N vs pss) (e : Ext N N') : PLx xs N' vs pss := All2.imp (fun _ _ x => ⟨x.1.mono e, x.2⟩) h
theorem PLx.upd {xs : List Addr} {vs : List Value} {pss : List (List Pc)} {a : Addr} {o : Obj} (h : PLx xs N vs pss) (U : Upd N N' a o) (ha : a ∈ xs) : PLx xs N' vs pss := All2.imp (fun _ _ x => ⟨U.pl x.1 (x.2 a ha), x.2⟩) h
section due
variable {env : Env} {K : Fk}
@[reducible] noncomputable def kForL (C : Cx) (A : Around) (Φ : Frs) (K : Fk) (m : Lo) (env : Env) (target : Expr) (body : List Stmt) (Q : Flow → Led → Lo → Prop) : Value → Led → Prop := fun x N₁ =>
  ∃ l cl d vs k, ∃ J : Nat → Led → Lo → Prop, x = .ref l ∧ LsC cl ∧ Has C N₁ l (sq cl d vs k) ∧ J 0 N₁ m ∧ (∀ i N' m', J i N' m' → Lists C l cl d vs N') ∧
      (∀ i N' m' x I, i < vs.length → J i N' m' → vs[i]? = some x → WS C A (assign target env x) (kInto C A (.ob I (itO l (i + 1)) :: Φ) K env body (kDone (J (i + 1)))) N' K m' (.ob I (itO l (i + 1)) :: Φ)) ∧
      (∀ N' m', J vs.length N' m' → Q .next N' m')
theorem s_for_list {target iter : Expr} {body : List Stmt} {pos} {m : Lo} {Q : Flow → Led → Lo → Prop} (F : AccF C) (hh : A.handled = none)
    (h : WE C A (eval iter env) (kForL C A Φ K m env target body Q) N (.fr K m :: Φ))
    (hs : ∀ x, foldedSetIterable iter env x = pure x := by intro _; rfl) : WS C A (exec (.For target iter body [] pos) env) Q N K m Φ :=
  s_for (h.mono fun x N₁ h => by
    refine Classical.byContradiction fun hn => ?_
    obtain ⟨l, cl, d, vs, k, J, e, hc, hl, hJ, hV, turn, done⟩ := h
    refine hn ?_
    clear hn
    subst e
    exact ⟨_, _, _, _, _, J, ItOf.list F hc, Iter.list (vs := vs) (cl := cl) (d := d) hh, ⟨k, hl⟩, hJ, hV, turn, done⟩) hs
@[reducible] noncomputable def DueI (N : Led) (bags : List (List Pc)) (sh : List Pc) (A1 A2 a : Addr) : Nat → Led → Lo → Prop := fun i N' m' => Ext N N' ∧ (∃ vs k, (A1, lst vs k) ∈ N' ∧ PcL N' vs ((bags.take i).flatMap askd)) ∧ (∃ vs k, (A2, lst vs k) ∈ N' ∧ PLx [A1, A2] N' vs (dueL sh [] (bags.take i))) ∧
    m' "asks" = some (.ref A1) ∧ m' "shelf" = some (.ref a) ∧ m' "due" = some (.ref A2)
@[reducible] noncomputable def DueJ (N : Led) (bags : List (List Pc)) (sh : List Pc) (A1 A2 a : Addr) (i : Nat) (bag : List Pc) (r : Addr) (ws : List Value) (Lk : Addr) : Nat → Led → Lo → Prop := fun j N'' m'' => Ext N N'' ∧ (∃ k, (r, lst ws k) ∈ N'') ∧ PcL N'' ws (askd bag) ∧ (∃ vs k, (A1, lst vs k) ∈ N'' ∧ PcL N'' vs ((bags.take i).flatMap askd ++ (askd bag).take j)) ∧
      (∃ vs k, (A2, lst vs k) ∈ N'' ∧ PLx [A1, A2, Lk] N'' vs (dueL sh [] (bags.take i))) ∧ (∃ vs k, (Lk, lst vs k) ∈ N'' ∧ PcL N'' vs (lackL sh ((bags.take i).flatMap askd) ((askd bag).take j))) ∧
      m'' "asks" = some (.ref A1) ∧ m'' "shelf" = some (.ref a) ∧ m'' "due" = some (.ref A2) ∧ m'' "lacked" = some (.ref Lk)
theorem DueI.elim {N N' : Led} {bags : List (List Pc)} {sh : List Pc} {A1 A2 a : Addr} {i : Nat} {m' : Lo} {P : Prop} (h : DueI N bags sh A1 A2 a i N' m')
    (k : Ext N N' → ∀ vs k, (A1, lst vs k) ∈ N' → PcL N' vs ((bags.take i).flatMap askd) → ∀ vs k, (A2, lst vs k) ∈ N' → PLx [A1, A2] N' vs (dueL sh [] (bags.take i)) → m' "asks" = some (.ref A1) → m' "shelf" = some (.ref a) → m' "due" = some (.ref A2) → P) : P := by
  obtain ⟨e, ⟨_, _, x1, x2⟩, ⟨_, _, x3, x4⟩, m⟩ := h
  exact k e _ _ x1 x2 _ _ x3 x4 m.1 m.2.1 m.2.2
theorem DueJ.elim {N N'' : Led} {bags : List (List Pc)} {sh bag : List Pc} {A1 A2 a r Lk : Addr} {i j : Nat} {ws : List Value} {m'' : Lo} {P : Prop} (h : DueJ N bags sh A1 A2 a i bag r ws Lk j N'' m'')
    (k : Ext N N'' → ∀ k, (r, lst ws k) ∈ N'' → PcL N'' ws (askd bag) → ∀ vs k, (A1, lst vs k) ∈ N'' → PcL N'' vs ((bags.take i).flatMap askd ++ (askd bag).take j) → 
      ∀ vs k, (A2, lst vs k) ∈ N'' → PLx [A1, A2, Lk] N'' vs (dueL sh [] (bags.take i)) → ∀ vs k, (Lk, lst vs k) ∈ N'' → PcL N'' vs (lackL sh ((bags.take i).flatMap askd) ((askd bag).take j)) →
      m'' "asks" = some (.ref A1) → m'' "shelf" = some (.ref a) → m'' "due" = some (.ref A2) → m'' "lacked" = some (.ref Lk) → P) : P := by
  obtain ⟨e, ⟨_, x0⟩, y, ⟨_, _, x1, x2⟩, ⟨_, _, x3, x4⟩, ⟨_, _, x5, x6⟩, m⟩ := h
  exact k e _ x0 y _ _ x1 x2 _ _ x3 x4 _ _ x5 x6 m.1 m.2.1 m.2.2.1 m.2.2.2
@[reducible] noncomputable def DueK (N : Led) (bags : List (List Pc)) (sh : List Pc) (A1 A2 a : Addr) (i : Nat) (bag : List Pc) (r : Addr) (ws : List Value) (Lk : Addr) (j : Nat) (y : Value) (p : Pc) : Flow → Led → Lo → Prop :=
  fun f N₃ m₃ => f = .next ∧ Ext N N₃ ∧ (∃ k, (r, lst ws k) ∈ N₃) ∧ PcL N₃ ws (askd bag) ∧ (∃ vs k, (A1, lst vs k) ∈ N₃ ∧ PcL N₃ vs ((bags.take i).flatMap askd ++ (askd bag).take j)) ∧
          (∃ vs k, (A2, lst vs k) ∈ N₃ ∧ PLx [A1, A2, Lk] N₃ vs (dueL sh [] (bags.take i))) ∧ (∃ vs k, (Lk, lst vs k) ∈ N₃ ∧ PcL N₃ vs (lackL sh ((bags.take i).flatMap askd) ((askd bag).take j ++ [p]))) ∧ IsPc N₃ y p ∧
          m₃ "asks" = some (.ref A1) ∧ m₃ "shelf" = some (.ref a) ∧ m₃ "due" = some (.ref A2) ∧ m₃ "lacked" = some (.ref Lk) ∧ m₃ "piece" = some y
theorem DueK.elim {N N'' : Led} {bags : List (List Pc)} {sh bag : List Pc} {A1 A2 a r Lk : Addr} {i j : Nat} {ws : List Value} {y : Value} {p : Pc} {f : Flow} {m'' : Lo} {P : Prop} (h : DueK N bags sh A1 A2 a i bag r ws Lk j y p f N'' m'')
    (k : f = .next → Ext N N'' → ∀ k, (r, lst ws k) ∈ N'' → PcL N'' ws (askd bag) → ∀ vs k, (A1, lst vs k) ∈ N'' → PcL N'' vs ((bags.take i).flatMap askd ++ (askd bag).take j) → 
      ∀ vs k, (A2, lst vs k) ∈ N'' → PLx [A1, A2, Lk] N'' vs (dueL sh [] (bags.take i)) → ∀ vs k, (Lk, lst vs k) ∈ N'' → PcL N'' vs (lackL sh ((bags.take i).flatMap askd) ((askd bag).take j ++ [p])) → IsPc N'' y p →
      m'' "asks" = some (.ref A1) → m'' "shelf" = some (.ref a) → m'' "due" = some (.ref A2) → m'' "lacked" = some (.ref Lk) → m'' "piece" = some y → P) : P := by
  obtain ⟨f, e, ⟨_, x0⟩, y, ⟨_, _, x1, x2⟩, ⟨_, _, x3, x4⟩, ⟨_, _, x5, x6⟩, z, m⟩ := h
  exact k f e _ x0 y _ _ x1 x2 _ _ x3 x4 _ _ x5 x6 z m.1 m.2.1 m.2.2.1 m.2.2.2.1 m.2.2.2.2
noncomputable abbrev dueEnv (pm : Value) (L : Addr) : Env := callEnvC (mkFd (stOf 19) 181 (stName (stOf 19)) [] Value.none pm Value.none) L 181
noncomputable abbrev dueCs (L : Addr) : List (Str × Addr) := [("asks", L + 2), ("shelf", L + 1)]
theorem c_due {v w : Value} {bags : List (List Pc)} {sh : List Pc} {bv : List Value} {b : Addr} {nb : Nat} {Q : Value → Led → Prop} (G : Prg C mg mb) (ho : AOk A 8) (hv : v = .ref b) (hb : (b, lst bv nb) ∈ N) (hbs : PLs N bv bags) (hw : IsPL N w sh)
    (hl1 : bags.length ≤ 2 ^ 8) (hl2 : ∀ g ∈ bags, g.length ≤ 2 ^ 7) (hl3 : sh.length ≤ 2 ^ 16)
    (q : ∀ N' t du lv n, Ext N N' → (t, tup [.ref du, lv] n) ∈ N' → (∃ vs k, (du, lst vs k) ∈ N' ∧ PLs N' vs (dueL sh [] bags)) → IsPL N' lv (leftL sh (bags.flatMap askd)) → New du N → New t N → Q (.ref t) N') :
    WE C A (PySem.call (.ref 181) [v, w]) Q N Φ := by
  subst hv
  have hw0 := hw
  obtain ⟨a, vs, n, rfl, ha, hp⟩ := hw
  obtain ⟨pm, hf⟩ := G.f_due
  have hl := hp.length
  have hbl := hbs.length
  have ho₁ : AOk (A.deeper (callEnvC (mkFd (stOf 19) 181 (stName (stOf 19)) [] Value.none pm Value.none) 0 181)) 7 := ho.deeper
  refine WE.call (CE.fnCells (binds := [("bags", .ref b), ("shelf", .ref a)]) (cs := dueCs) (k := 7) G.G ho hf.any rfl rfl rfl (fun _ => rfl) fun L => ?_)
  show WS C (A.deeper (dueEnv pm L)) (execs _ (dueEnv pm L)) _ _ _ _ _
  refine s_cons ?_
  refine s_pair ho.h (.inr ⟨_, rfl, rfl, rfl⟩) (.inl ⟨rfl, rfl, rfl⟩) ?_
  refine e_tuple ?_
  refine a_cons ?_
  refine e_list ?_
  refine a_nil ⟨sz_ok (by simp), fun A1 hA1 => ?_⟩
  refine a_cons ?_
  refine e_list ?_
  refine a_nil ⟨sz_ok (by simp), fun A2 hA2 => ?_⟩
  refine a_nil ⟨sz_ok (by simp), fun t0 ht0 => ?_⟩
  refine ⟨t0, _, _, _, rfl, .inr (.head _), ?_⟩
  have e0 : Ext N ((t0, tup [.ref A1, .ref A2] 0) :: (A2, lst [] 0) :: (A1, lst [] 0) :: N) := (Ext.refl _).c3
  have h12 : A1 ≠ A2 := fun e => hA2 _ (.head _) (by rw [e])
  refine s_cons ?_
  refine s_for_list G.F ho.h ?_
  refine e_local (v := .ref b) rfl ?_
  refine ⟨b, _, none, bv, nb, DueI N bags sh A1 A2 a, rfl, .inl rfl, .inr (e0 _ hb), ⟨e0, ⟨[], 0, .tail _ (.tail _ (.head _)), trivial⟩, ⟨[], 0, .tail _ (.head _), trivial⟩, rfl, rfl, rfl⟩, ?_, ?_, ?_⟩
  · rintro i N' m' ⟨e, _⟩
    exact ⟨nb, .inr (e _ hb)⟩
  · intro i N' m' x I hi D hx
    refine DueI.elim D fun e av ak hav hap dv dk hdv hdp m1 m2 m3 => ?_
    clear D
    refine Classical.byContradiction fun hn => ?_
    obtain ⟨bag, hbag, hxb⟩ := hbs.get' hx
    refine hn ?_
    clear hn
    have hbm : bag ∈ bags := List.mem_of_getElem? hbag
    have hbgl := hl2 bag hbm
    have hasl : ((bags.take i).flatMap askd).length ≤ 2 ^ 15 := by
      have := flat_le (2 ^ 7) (bags.take i) fun g hg => hl2 g (List.mem_of_mem_take hg)
      rw [List.length_take] at this
      exact Nat.le_trans this (Nat.le_trans (Nat.mul_le_mul_right (2 ^ 7) (Nat.le_trans (Nat.min_le_right _ _) hl1)) (by decide))
    refine as_name rfl (.inl ⟨rfl, rfl, rfl⟩) ?_
    refine s_cons ?_
    refine s_assign (.inl ⟨rfl, rfl, rfl⟩) ?_
    refine e_list ?_
    refine a_nil ⟨sz_ok (by simp), fun Lk hLk => ?_⟩
    refine s_cons ?_
    refine s_for_list G.F ho.h ?_
    refine e_call rfl ?_
    refine e_glob G.G G.g_asked ?_
    refine cw_S G.f_asked rfl ?_
    refine a_cons ?_
    refine e_local (v := x) rfl ?_
    refine a_nil ?_
    refine c_asked G (ps := bag) (ho.deeper.le (by decide)) (hxb.mono e.c1) (by lia) fun N₂ r ws wk e2 hr hws => ?_
    have hwl := hws.length
    have hal := askd_le bag
    have q1 : A1 ≠ Lk := fun h => hLk _ hav (by rw [h])
    have q2 : A2 ≠ Lk := fun h => hLk _ hdv (by rw [h])
    have e2' : Ext N' N₂ := (Ext.cons _ _).trans e2
    have r1 : A1 ≠ r := fun h => hr _ (e2' _ hav) (by rw [h])
    have r2 : A2 ≠ r := fun h => hr _ (e2' _ hdv) (by rw [h])
    have r3 : Lk ≠ r := fun h => hr _ (e2 _ (.head _)) (by rw [h])
    have eN : Ext N ((r, lst ws wk) :: N₂) := e.trans e2'.c1
    refine ⟨r, _, none, ws, wk, DueJ N bags sh A1 A2 a i bag r ws Lk, rfl, .inl rfl, .inr (.head _), ⟨eN, ⟨wk, .head _⟩, hws.mono (Ext.cons _ _), ?_, ?_, ?_, ?_⟩, ?_, ?_, ?_⟩
    · exact ⟨av, ak, .tail _ (e2' _ hav), by rw [List.take_zero, List.append_nil]; exact hap.mono e2'.c1⟩
    · refine ⟨dv, dk, .tail _ (e2' _ hdv), ?_⟩
      have : PLx [A1, A2, Lk] N' dv (dueL sh [] (bags.take i)) := by
        refine All2.imp (fun v ps x => ⟨x.1, fun y hy => ?_⟩) hdp
        rcases List.mem_cons.mp hy with rfl | hy
        · exact x.2 _ (.head _)
        · rcases List.mem_cons.mp hy with rfl | hy
          · exact x.2 _ (.tail _ (.head _))
          · rw [List.mem_singleton.mp hy]
            obtain ⟨c, us, un, rfl, hc, _⟩ := x.1
            exact fun e => hLk _ hc (by cases e; rfl)
      exact this.mono e2'.c1
    · exact ⟨[], 0, .tail _ (e2 _ (.head _)), trivial⟩
    · refine ⟨?_, ?_, ?_, setLo_self ..⟩
      · rw [setLo_ne (by decide), setLo_ne (by decide)]; exact m1
      · rw [setLo_ne (by decide), setLo_ne (by decide)]; exact m2
      · rw [setLo_ne (by decide), setLo_ne (by decide)]; exact m3
    · rintro j N'' m'' ⟨_, ⟨k', hk'⟩, _⟩
      exact ⟨k', .inr hk'⟩
    · intro j N'' m'' y I₂ hj D hy
      refine DueJ.elim D fun f1 rk f2 f3 uv uk f4 f5 ev ek f6 f7 lv lk f8 f9 g1 g2 g3 g4 => ?_
      clear D
      refine Classical.byContradiction fun hn => ?_
      obtain ⟨p, hpj, hyp⟩ := f3.get' hy
      refine hn ?_
      clear hn
      have hul := f5.length
      have hll := f9.length
      have hlk := lackL_le sh ((askd bag).take j) ((bags.take i).flatMap askd)
      rw [List.length_append] at hul
      rw [List.length_take] at hul hlk
      refine as_name rfl (.inl ⟨rfl, rfl, rfl⟩) ?_
      have tk : (askd bag).take (j + 1) = (askd bag).take j ++ [p] := by rw [List.take_add_one, hpj]; rfl
      refine s_cons (WS.mono (Q := DueK N bags sh A1 A2 a i bag r ws Lk j y p) ?_ ?_)
      rotate_left
      · intro f N₃ m₃ D
        refine DueK.elim D fun f0 f1 rk f2 f3 uv uk f4 f5 ev ek f6 f7 lv lk f8 f9 hyp g1 g2 g3 g4 g5 => ?_
        clear D
        subst f0
        show WS C _ (execs _ _) _ N₃ _ m₃ _
        have hul := f5.length
        rw [List.length_append, List.length_take] at hul
        refine s_cons ?_
        refine s_expr ?_
        refine e_meth ?_
        refine e_cell (v := .ref A1) (.top (x := "asks") g1 rfl) ?_
        refine lm_append.list G.F (.inr f4) ?_
        refine cw_blt rfl ?_
        refine a_cons ?_
        refine e_local (v := y) g5 ?_
        refine a_nil ?_
        refine m_append' G.F (.inl rfl) f4 (by rw [sizeLine_eq, hul]; exact Nat.le_trans (Nat.add_le_add hasl (Nat.le_trans (Nat.min_le_right _ _) (Nat.le_trans hal hbgl))) (by decide)) fun N₄ k₄ U => ?_
        refine ⟨?_, fun _ h => nomatch h⟩
        refine s_nil ⟨.inl rfl, U.ext f1 (fun p hp e => ?_), ⟨rk, U.but _ f2 r1.symm⟩, U.pcl f3, ⟨_, k₄, U.self, ?_⟩, ⟨ev, ek, U.but _ f6 h12.symm, f7.upd U (.head _)⟩, ⟨lv, lk, U.but _ f8 q1.symm, by rw [tk]; exact U.pcl f9⟩, g1, g2, g3, g4⟩
        · exact hA1 p hp e
        · rw [tk, ← List.append_assoc]; exact (U.pcl f5).append ⟨U.pc _ _ hyp, trivial⟩
      · refine s_if ?_
        refine t_cmp ?_
        refine e_meth ?_
        refine e_cell (v := .ref A1) (.top (x := "asks") (by rw [setLo_ne (by decide)]; exact g1) rfl) ?_
        refine lm_count.list G.F (.inr f4) ?_
        refine cw_blt rfl ?_
        refine a_cons ?_
        refine e_local (v := y) (setLo_self ..) ?_
        refine a_nil ?_
        refine m_count (k := 6) G.F ho.deeper (.inl rfl) (.inr f4) f5 hyp fun t1 => ?_
        refine e_meth ?_
        refine e_cell (v := .ref a) (.top (x := "shelf") (by rw [setLo_ne (by decide)]; exact g2) rfl) ?_
        refine lm_count.list G.F (.inr (f1 _ ha)) ?_
        refine cw_blt rfl ?_
        refine a_cons ?_
        refine e_local (v := y) (setLo_self ..) ?_
        refine a_nil ?_
        refine m_count (k := 6) G.F ho.deeper (.inl rfl) (.inr (f1 _ ha)) (hp.mono f1) hyp fun t2 => ?_
        refine o_ge ?_
        refine o_tBool ?_
        have hdec : decide ((((sh.count p : Nat) : Int)) ≤ (((((bags.take i).flatMap askd ++ (askd bag).take j).count p : Nat) : Int))) = decide (sh.count p ≤ ((bags.take i).flatMap askd ++ (askd bag).take j).count p) := by
          rw [decide_eq_decide]; exact Int.ofNat_le
        rw [hdec]
        by_cases hc : sh.count p ≤ ((bags.take i).flatMap askd ++ (askd bag).take j).count p
        · refine ite_y (decide_eq_true hc) ?_
          refine s_cons ?_
          refine s_expr ?_
          refine e_meth ?_
          refine e_local (v := .ref Lk) (by rw [setLo_ne (by decide)]; exact g4) ?_
          refine lm_append.list G.F (.inr f8) ?_
          refine cw_blt rfl ?_
          refine a_cons ?_
          refine e_local (v := y) (setLo_self ..) ?_
          refine a_nil ?_
          refine m_append' G.F (.inl rfl) f8 (by rw [sizeLine_eq, hll]; exact Nat.le_trans hlk (Nat.le_trans (Nat.min_le_right _ _) (Nat.le_trans hal (Nat.le_trans hbgl (by decide))))) fun N₄ k₄ U => ?_
          refine ⟨?_, fun _ h => nomatch h⟩
          refine s_nil ?_
          refine ⟨rfl, U.ext f1 (fun p hp h => hLk _ (e _ hp) h), ⟨rk, U.but _ f2 r3.symm⟩, U.pcl f3, ⟨uv, uk, U.but _ f4 q1, U.pcl f5⟩, ⟨ev, ek, U.but _ f6 q2, f7.upd U (.tail _ (.tail _ (.head _)))⟩, ⟨_, k₄, U.self, ?_⟩, U.pc _ _ hyp, ?_, ?_, ?_, ?_, setLo_self ..⟩
          · rw [lackL_snoc, if_pos hc]; exact (U.pcl f9).append ⟨U.pc _ _ hyp, trivial⟩
          · rw [setLo_ne (by decide)]; exact g1
          · rw [setLo_ne (by decide)]; exact g2
          · rw [setLo_ne (by decide)]; exact g3
          · rw [setLo_ne (by decide)]; exact g4
        · refine ite_n (fun e => hc (of_decide_eq_true e)) ?_
          refine s_nil ?_
          refine ⟨rfl, f1, ⟨rk, f2⟩, f3, ⟨uv, uk, f4, f5⟩, ⟨ev, ek, f6, f7⟩, ⟨lv, lk, f8, ?_⟩, hyp, ?_, ?_, ?_, ?_, setLo_self ..⟩
          · rw [lackL_snoc, if_neg hc, List.append_nil]; exact f9
          · rw [setLo_ne (by decide)]; exact g1
          · rw [setLo_ne (by decide)]; exact g2
          · rw [setLo_ne (by decide)]; exact g3
          · rw [setLo_ne (by decide)]; exact g4
    · intro N'' m'' D
      refine DueJ.elim D fun f1 rk f2 f3 uv uk f4 f5 ev ek f6 f7 lv lk f8 f9 g1 g2 g3 g4 => ?_
      clear D
      rw [hwl, List.take_length] at f5 f9
      have hel := f7.length
      rw [dueL_length, List.length_take] at hel
      refine s_cons ?_
      refine s_expr ?_
      refine e_meth ?_
      refine e_local (v := .ref A2) g3 ?_
      refine lm_append.list G.F (.inr f6) ?_
      refine cw_blt rfl ?_
      refine a_cons ?_
      refine e_local (v := .ref Lk) g4 ?_
      refine a_nil ?_
      refine m_append' G.F (.inl rfl) f6 (by rw [sizeLine_eq, hel]; exact Nat.le_trans (Nat.min_le_right _ _) (Nat.le_trans hl1 (by decide))) fun N₄ k₄ U => ?_
      refine ⟨?_, fun _ h => nomatch h⟩
      have tkb : bags.take (i + 1) = bags.take i ++ [bag] := by rw [List.take_add_one, hbag]; rfl
      refine s_nil ⟨.inl rfl, U.ext f1 (fun p hp e => hA2 _ (.tail _ hp) e), ⟨uv, uk, U.but _ f4 h12, ?_⟩, ⟨_, k₄, U.self, ?_⟩, g1, g2, g3⟩
      · rw [tkb, List.flatMap_append, List.flatMap_singleton]; exact U.pcl f5
      · rw [tkb, dueL_snoc, List.nil_append]
        have w1 : PLx [A1, A2] N₄ ev (dueL sh [] (bags.take i)) := All2.imp (fun v ps x => ⟨x.1, fun z hz => x.2 z (by
          rcases List.mem_cons.mp hz with rfl | hz
          · exact .head _
          · rw [List.mem_singleton.mp hz]; exact .tail _ (.head _))⟩) (f7.upd U (.tail _ (.head _)))
        refine All2.append w1 ⟨⟨⟨Lk, lv, lk, rfl, U.but _ f8 q2.symm, U.pcl f9⟩, fun z hz => ?_⟩, trivial⟩
        rcases List.mem_cons.mp hz with rfl | hz
        · exact fun e => q1 (by cases e; rfl)
        · rw [List.mem_singleton.mp hz]; exact fun e => q2 (by cases e; rfl)
  · intro N' m' D
    refine DueI.elim D fun e av ak hav hap dv dk hdv hdp m1 m2 m3 => ?_
    clear D
    rw [hbl, List.take_length] at hap hdp
    have hasl : (bags.flatMap askd).length ≤ 2 ^ 15 := by
      exact Nat.le_trans (flat_le (2 ^ 7) bags hl2) (Nat.le_trans (Nat.mul_le_mul_right (2 ^ 7) hl1) (by decide))
    have hapl := hap.length
    refine s_cons ?_
    refine s_assign_comp G.F (.inl ⟨rfl, rfl, rfl⟩) ?_
    refine e_call rfl ?_
    refine e_blt G.G G.n_range G.b_range ?_
    refine cw_type rfl ?_
    refine a_cons ?_
    refine e_call rfl ?_
    refine e_blt G.G G.n_len G.b_len ?_
    refine cw_blt rfl ?_
    refine a_cons ?_
    refine e_cell (v := .ref a) (.top (x := "shelf") m2 rfl) ?_
    refine a_nil ?_
    refine len_L G.F (.inr (e _ ha)) (by rw [sizeLine_eq]; lia) fun t1 => ?_
    refine a_nil ?_
    refine range1 fun r u1 v1 hr => ?_
    refine src_range (n := sh.length) ho.h (.inr (.head _)) ?_ ?_ (fun i ys N'' => Ext N' N'' ∧ PcL N'' ys (leftI sh (bags.flatMap askd) i) ∧ i ≤ sh.length) ⟨Ext.cons _ _, trivial, Nat.zero_le _⟩ ?_ (fun Cf => ?_) ?_
    · rw [hl]; exact small_up hl3
    · rw [hl]; exact size_up _
    · rintro i ys N'' ⟨e', hy, hi⟩
      have h1 := hy.length
      have h2 := leftI_le sh (bags.flatMap askd) i
      rw [sizeLine_eq]; lia
    · rintro i ys N'' m₂ x I D k hi ⟨e₂, hy, _⟩ ⟨t8, rfl⟩
      have hat : (0 : Int) + (i : Int) * 1 = (i : Int) := z_at _
      rw [hat]
      obtain ⟨p, hpi⟩ : ∃ p, sh[i]? = some p := ⟨_, List.getElem?_eq_getElem hi⟩
      refine Classical.byContradiction fun hn => ?_
      obtain ⟨x, hx, hxp⟩ := hp.get hpi
      refine hn ?_
      clear hn
      have ha' := e₂ _ (e _ ha)
      have hA' := e₂ _ hav
      refine as_name rfl (.inl ⟨rfl, rfl, rfl⟩) ?_
      refine tests_one ?_
      refine t_cmp ?_
      refine e_meth ?_
      refine e_sub ?_
      refine e_cell (v := .ref a) (.fr (x := "shelf") (.tail _ (.tail _ (.tail _ (.head _)))) m2 rfl) ?_
      refine e_slice ?_
      refine e_part0 ?_
      refine e_part1 ?_
      refine e_bin ?_
      refine e_local (v := .int i t8) (setLo_self ..) ?_
      refine e_int fun t9 => ?_
      refine o_add fun t10 => ?_
      refine e_part0 ?_
      intro sl hsl
      have hcast : (i : Int) + 1 = ((i + 1 : Nat) : Int) := by lia
      rw [hcast]
      refine subT_slice G.F (.inl rfl) (.inr (.tail _ ha')) (.inr (.head _)) .none (.int _ _) .none (by decide) (by rw [sizeLine_eq]; lia) (pick_upto _) fun r2 hr2 => ?_
      refine lm_count.list G.F (.inr (.head _)) ?_
      refine cw_blt rfl ?_
      refine a_cons ?_
      refine e_sub ?_
      refine e_cell (v := .ref a) (.fr (x := "shelf") (.tail _ (.tail _ (.tail _ (.head _)))) m2 rfl) ?_
      refine e_local (v := .int i t8) (setLo_self ..) ?_
      refine subT_int G.F (.inl rfl) (.inr (.tail _ (.tail _ ha'))) (Int.natCast_nonneg _) (x := x) hx (by rw [sizeLine_eq]; lia) ?_
      refine a_nil ?_
      refine m_count (k := 6) (ps := sh.take (i + 1)) (p := p) G.F ho.deeper (.inl rfl) (.inr (.head _)) ((hp.mono (e.trans e₂).c2).take _) (hxp.mono (e.trans e₂).c2) fun t11 => ?_
      refine e_meth ?_
      refine e_cell (v := .ref A1) (.fr (x := "asks") (.tail _ (.tail _ (.tail _ (.head _)))) m1 rfl) ?_
      refine lm_count.list G.F (.inr (.tail _ (.tail _ hA'))) ?_
      refine cw_blt rfl ?_
      refine a_cons ?_
      refine e_sub ?_
      refine e_cell (v := .ref a) (.fr (x := "shelf") (.tail _ (.tail _ (.tail _ (.head _)))) m2 rfl) ?_
      refine e_local (v := .int i t8) (setLo_self ..) ?_
      refine subT_int G.F (.inl rfl) (.inr (.tail _ (.tail _ ha'))) (Int.natCast_nonneg _) (x := x) hx (by rw [sizeLine_eq]; lia) ?_
      refine a_nil ?_
      refine m_count (k := 6) (p := p) G.F ho.deeper (.inl rfl) (.inr (.tail _ (.tail _ hA'))) (hap.mono e₂.c2) (hxp.mono (e.trans e₂).c2) fun t12 => ?_
      refine o_gt ?_
      refine o_tBool ?_
      have hdec : decide ((((bags.flatMap askd).count p : Nat) : Int) < (((sh.take (i + 1)).count p : Nat) : Int)) = decide ((bags.flatMap askd).count p < (sh.take (i + 1)).count p) := by rw [decide_eq_decide]; exact Int.ofNat_lt
      rw [hdec]
      have hi' : i + 1 ≤ sh.length := hi
      by_cases hc : (bags.flatMap askd).count p < (sh.take (i + 1)).count p
      · refine ite_y (decide_eq_true hc) ?_
        refine e_sub ?_
        refine e_cell (v := .ref a) (.fr (x := "shelf") (.tail _ (.tail _ (.tail _ (.head _)))) m2 rfl) ?_
        refine e_local (v := .int i t8) (setLo_self ..) ?_
        refine subT_int G.F (.inl rfl) (.inr (.tail _ (.tail _ ha'))) (Int.natCast_nonneg _) (x := x) hx (by rw [sizeLine_eq]; lia) ?_
        refine ⟨e₂.c2, ?_, hi'⟩
        rw [leftI_s, hpi]
        simp only [Option.toList, List.filter_cons, decide_eq_true hc, if_true, List.filter_nil]
        exact (hy.mono (Ext.refl _).c2).append ⟨hxp.mono (e.trans e₂).c2, trivial⟩
      · refine ite_n (fun e => hc (of_decide_eq_true e)) ?_
        refine ⟨e₂.c2, ?_, hi'⟩
        rw [leftI_s, hpi]
        simp only [Option.toList, List.filter_cons, decide_eq_false hc, Bool.false_eq_true, if_false, List.filter_nil, List.append_nil]
        exact hy.mono (Ext.refl _).c2
    · rintro ys N'' D k ⟨e₂, hy, _⟩ hD
      refine s_cons ?_
      refine s_ret ?_
      refine e_tuple ?_
      refine a_cons ?_
      refine e_local (v := .ref A2) (by rw [setLo_ne (by decide)]; exact m3) ?_
      refine a_cons ?_
      refine e_local (v := .ref D) (setLo_self ..) ?_
      refine a_nil ⟨sz_ok (by simp), fun t ht => ?_⟩
      refine q _ t A2 (.ref D) 0 (e.trans e₂).c2 (.head _) ⟨dv, dk, .tail _ (.tail _ (e₂ _ hdv)), hdp.pls.mono e₂.c2⟩ ⟨D, ys, k, rfl, .tail _ (.head _), hy.mono (Ext.refl _).c2⟩ (fun p hp h => hA2 _ (.tail _ hp) h) fun p hp h => ht _ (.tail _ (e₂ _ (e _ hp))) h
end due
end Mine.Internal
end
section
open PySem PySem.W PyProof.Rows PySem.Calls PySem.Spec PySem.Builtin.List
set_option maxRecDepth 100000
namespace Mine.Internal
variable {C : Cx} {N N' : Led} {Φ : Frs} {A : Around} {mg mb : Lo}
noncomputable abbrev supO (x : Addr) : Obj := { cls := .type "super", data := .fields #[.ref accA, .ref x, .ref accA] }
noncomputable abbrev bndO (T : String) (id : String) (x : Addr) : Obj := { cls := .type T, data := .fields #[.builtin id, .ref x] }
noncomputable def accMro : List Value := [.ref accA, .type "list", .type "object"]
structure SupF (C : Cx) : Prop where
  opq : nsIn C.K cStatics "thirdparty.any" = some none
  cd : ∃ cd, clsIn C.K accA = some cd ∧ cd.mro = accMro
  qual : ∀ cd, clsIn C.K accA = some cd → cd.qualname = "_Accumulator"
  mty : typeIn C.K (.ref accA) = some (.type "type")
  modu : mroIn C.K accA (.type "module") = some false
  self : mroIn C.K accA (.ref accA) = some true
  pop : alongIn C.K "pop" [.type "list", .type "object"] = some (some (.builtin "list.pop"))
  len : alongIn C.K "__len__" [.type "list", .type "object"] = some (some (.builtin "list.__len__"))
  init : alongIn C.K "__init__" [.type "list", .type "object"] = some (some (.builtin "list.__init__"))
theorem forIn_alongW {β : Type} {name : Str} {v : Value} {init : β} {body : Value → β → Sem (ForInStep β)} {k : Option Value → Sem (ForInStep β)} {Q : β → Led → Prop}
    (hb : ∀ c r, body c r = classOwn c name >>= k) (hk : k none = pure (.yield init))
    (hq : WE C A (k (some v)) (fun st N' => match st with | .done b => Q b N' | .yield _ => False) N Φ) : ∀ {l : List Value}, alongIn C.K name l = some (some v) → WE C A (forIn l init body) Q N Φ
  | [], e => by cases e
  | c :: l, e => by
    rw [List.forIn_cons, hb]
    rcases hu : ownIn C.K name c with _ | _ | u <;> unfold alongIn at e <;> rw [hu] at e
    · cases e
    rotate_left
    · cases e
      refine WE.bind (WE.bind (WE.looks (fun s R => looks_ownIn R.inK hu) ?_))
      refine hq.mono fun st N' hs => ?_
      cases st with
      | done b => exact WE.pure hs
      | yield b => exact hs.elim
    · refine WE.bind (WE.bind (WE.looks (fun s R => looks_ownIn R.inK hu) ?_))
      rw [hk]
      exact WE.pure (forIn_alongW hb hk hq e)
structure BndM (id T BT : String) : Prop where
  ty : PySem.typeOf (.builtin id) = Pure.pure (.type T)
  slot : typeLookup (.type T) "__get__" = Pure.pure (some (.builtin (T ++ ".__get__")))
  call : ∀ {C : Cx} {N : Led} {Φ : Frs} {A : Around} {x : Addr} {cl d vs n} {Q : Value → Led → Prop}, AccF C → LsC cl → Has C N x (sq cl d vs n) → (∀ b, New b N → Q (.ref b) ((b, bndO BT id x) :: N)) →
    WE C A (PySem.call (.builtin (T ++ ".__get__")) [.builtin id, .ref x, .ref accA]) Q N Φ
theorem super_ga {so x : Addr} {name : Str} {tk : Tok} {id T BT : String} {d vs n} {Q : Value → Led → Prop} (F : AccF C) (S : SupF C) (B : BndM id T BT) (hso : (so, supO x) ∈ N) (hx : Has C N x (sq (.ref accA) d vs n)) (hxC : x ≠ accA)
    (hf : alongIn C.K name [.type "list", .type "object"] = some (some (.builtin id))) (hn : (name == ("__class__" : Str)) = false) (q : ∀ b, New b N → Q (.ref b) ((b, bndO BT id x) :: N)) :
    FE C A (Builtin.«super.__getattribute__» ⟨[.ref so, .str name tk], []⟩) Q N Φ := by
  refine Classical.byContradiction fun hn => ?_
  obtain ⟨cd, hcd, hmro⟩ := S.cd
  refine hn ?_
  clear hn
  unfold Builtin.«super.__getattribute__»
  refine FE.bind (WE.pure ?_)
  dsimp only [Option.isNone]
  rw [if_neg (by decide)]
  refine FE.bind (WE.pure ?_)
  dsimp only
  refine FE.bind (WE.field (.inr hso) rfl (v := .ref accA) rfl ?_)
  refine FE.bind (WE.field (.inr hso) rfl (v := .ref x) rfl ?_)
  refine FE.bind (WE.field (.inr hso) rfl (v := .ref accA) rfl ?_)
  rw [if_neg (by rw [hn]; decide)]
  refine FE.bind ?_
  unfold notOfAnOpaqueClass
  refine WE.bind (WE.looks (fun s R => looks_opaque R.inK S.opq) ?_)
  refine WE.pure ?_
  rw [if_neg (by decide)]
  have hmr : ∀ s, Rep C N Φ s → Looks C.M s.heap (mroOf (.ref accA)) cd.mro := fun s R => fun A Q E s k q => wpAny_bind ((looks_clsIn R.inK hcd) A _ E s k (wpAny_pure q))
  refine FE.bind (WE.looks hmr ?_)
  rw [hmro]
  have hdw : ((accMro.dropWhile (· != .ref accA)).drop 1) = [.type "list", .type "object"] := by decide +kernel
  rw [hdw]
  refine FE.bind ?_
  refine forIn_alongW (fun _ _ => rfl) rfl ?_ hf
  dsimp only
  refine WE.bind (WE.of_eq B.ty (WE.pure ?_))
  refine WE.bind (WE.of_eq B.slot (WE.pure ?_))
  have hne : ¬ ((Value.ref x == Value.ref accA) = true) := by simp [hxC]
  rw [if_neg hne]
  refine WE.bind (WE.holding (B.call F (.inr rfl) hx fun b hb => ?_))
  refine WE.bind (WE.pure (WE.pure ?_))
  exact FE.ret (q b hb)
theorem WE.attempt {α : Type} {t : Sem α} {Q : Except Value α → Led → Prop} (h : WE C A t (fun v N' => Q (.ok v) N') N Φ) : WE C A t.attempt Q N Φ := fun s E R =>
  wpAny_attempt (wpAny_mono (h s (fun _ _ => False) R) (fun _ _ x => x) fun _ _ x => x.elim)
theorem super_method {so x : Addr} {name : Str} {pl : Sem Bool} {id T BT : String} {d vs n} {Q : Value × List Value → Led → Prop} (F : AccF C) (S : SupF C) (B : BndM id T BT) (hso : (so, supO x) ∈ N) (hx : Has C N x (sq (.ref accA) d vs n)) (hxC : x ≠ accA)
    (hf : alongIn C.K name [.type "list", .type "object"] = some (some (.builtin id))) (hn : (name == ("__class__" : Str)) = false) (q : ∀ b, New b N → Q (.ref b, []) ((b, bndO BT id x) :: N)) : WE C A (getMethod (.ref so) name pl) Q N Φ := by
  have hlk := PySem.F.ks_slot_super_ga.lookup
  have hcan := PySem.F.ks_canon_super_ga
  have tyS : ∀ {N' : Led} {K : Value → Led → Prop}, (so, supO x) ∈ N' → K (.type "super") N' → WE C A (PySem.typeOf (.ref so)) K N' Φ := fun h k => WE.typeOf (.inr h) k
  unfold getMethod
  refine WE.bind ?_
  unfold specialOf
  refine WE.bind (tyS hso (WE.of_eq hlk (WE.pure ?_)))
  show WE _ _ (if (Manifest.canonical "super.__getattribute__" != "object.__getattribute__") = true then _ else _) _ _ _
  rw [if_pos hcan]
  unfold getAttr getAttrBy
  refine WE.bind (WE.bind ?_)
  refine (fun s E R => wpAny_mkText ⟨N, R.tok _, ?_⟩ : WE C A (mkText name) _ N Φ)
  refine WE.holding (WE.bind (tyS hso (WE.bind (WE.of_eq hlk (WE.pure ?_)))))
  show WE _ _ (getAttrByItsOwn (.ref so) (.str name s.toks) (.type "super") (.builtin "super.__getattribute__") true false) _ _ _
  unfold getAttrByItsOwn hookBefore callGetattribute boundAndCalled
  refine WE.bind (WE.of_eq (show (if onTheHeap (.type "super") then typeLookup (.type "super") "__getattr__" else Pure.pure none) = Pure.pure none from rfl) (WE.pure ?_))
  refine WE.bind (WE.attempt (WE.holding ?_))
  refine WE.bind (WE.of_eq (PySem.F.ks_slot_super_ga.bind _) (WE.pure ?_))
  refine WE.call (CE.callB PySem.F.ks_slot_super_ga.plain PySem.F.ks_entry_super_ga ?_ (super_ga F S B hso hx hxC hf hn fun b hb => ?_))
  · exact fun s E R => PySem.F.ks_slot_super_ga.check _ _ _ _ _ _ _ _ ⟨_, R.get hso, rfl⟩ (PySem.F.ks_gaArgs_super _ _) ⟨N, R, rfl⟩
  · exact WE.pure (WE.pure (q b hb))
structure BndC (id BT : String) : Prop where
  cls : BT = "builtin_function_or_method" ∨ BT = "method-wrapper"
  check : ∀ {C : Cx} {N : Led} {Φ : Frs} {A : Around} {x : Addr} {d vs n} {Q : Unit → Led → Prop}, AccF C → SupF C → Has C N x (sq (.ref accA) d vs n) → Q () N → WE C A (checkBoundCall id ⟨[.ref x], []⟩) Q N Φ
  plain : plainId id = true
theorem bound_call {b x : Addr} {id BT : String} {d vs n} {bl : Builtin} {Q : Value → Led → Prop} (F : AccF C) (S : SupF C) (K : BndC id BT) (hb : (b, bndO BT id x) ∈ N) (hx : Has C N x (sq (.ref accA) d vs n)) (he : entryFor table id = some bl)
    (h : FE C A (bl ⟨[.ref x], []⟩) Q N Φ) : WE C A (PySem.call (.ref b) []) Q N Φ := by
  refine WE.call ?_
  intro s r R kk
  refine codeAny_of_tree ?_
  show wpAny _ A.in1 (callAny (.ref b) ⟨[], []⟩) _ _ _
  unfold callAny
  refine wpAny_bind (wpAny_load (R.get hb) ?_)
  have hc := K.check (A := A.in1) (Φ := Φ) (Q := fun _ N' => N' = N) F S hx rfl
  rcases K.cls with rfl | rfl
  all_goals
    show wpAny _ A.in1 (checkBoundCall id ⟨[.ref x], []⟩ >>= _) _ _ s
    refine wpAny_bind (hc.use R fun _ s' N' R' e => ?_)
    subst e
    exact wpAny_bind (wpAny_pure (wpAny_pure ⟨plainId_quiet K.plain _, CE.builtin K.plain he h s' r R' kk⟩))
theorem bound_with {b x : Addr} {id BT : String} {pos : Pos} {Q : Value → Led → Prop} (K : BndC id BT) (hb : (b, bndO BT id x) ∈ N) (h : WE C A (PySem.call (.ref b) []) Q N Φ) : WE C A (callWith pos (.ref b) [] (backTo pos []) []) Q N Φ := by
  unfold callWith
  refine WE.bind (WE.holding (evalArgs_we (Q := fun a N' => a = ⟨[], []⟩ ∧ N' = N) rfl (WE.pure ⟨rfl, rfl⟩) |>.mono fun a N' pz0 => ?_))
  obtain ⟨e1, e2⟩ := pz0
  subst e1; subst e2
  refine WE.bind (WE.standAt ?_)
  unfold keeperOf
  rcases K.cls with rfl | rfl
  all_goals
    refine WE.bind (WE.bind (WE.load (.inr hb) (WE.pure ?_)))
    exact WE.bind (h.mono fun r N' hr => WE.bind (WE.holding (WE.point (WE.pure hr))))
theorem slot_md_get : Slot "method_descriptor" "__get__" "method_descriptor.__get__" := .of (owner := "method_descriptor") (n := "__get__") (by rw [typeLookup_type, builtinLookup_eq_fast]; kernel_rfl) (by decide +kernel) (by decide +kernel) (by decide +kernel) (by decide +kernel) (by rw [isSubtype_type]; kernel_rfl)
theorem slot_wd_get : Slot "wrapper_descriptor" "__get__" "wrapper_descriptor.__get__" := .of (owner := "wrapper_descriptor") (n := "__get__") (by rw [typeLookup_type, builtinLookup_eq_fast]; kernel_rfl) (by decide +kernel) (by decide +kernel) (by decide +kernel) (by decide +kernel) (by rw [isSubtype_type]; kernel_rfl)
theorem entry_md_get : entryFor table "method_descriptor.__get__" = some Builtin.«method_descriptor.__get__» := entryFor_of_tree (by kernel_rfl)
theorem entry_wd_get : entryFor table "wrapper_descriptor.__get__" = some Builtin.«wrapper_descriptor.__get__» := entryFor_of_tree (by kernel_rfl)
theorem args_md_get (a b c : Value) : argsOk "method_descriptor.__get__" ⟨[a, b, c], []⟩ := by unfold argsOk; kernel_rfl
theorem args_wd_get (a b c : Value) : argsOk "wrapper_descriptor.__get__" ⟨[a, b, c], []⟩ := by unfold argsOk; kernel_rfl
theorem bm_pop : BndM "list.pop" "method_descriptor" "builtin_function_or_method" where
  ty := PySem.F.type_list_pop
  slot := slot_md_get.lookup
  call := by
    intro C N Φ A x cl d vs n Q F hc hx q
    refine WE.call (CE.callB slot_md_get.plain entry_md_get ?_ ?_)
    · exact fun s E R => slot_md_get.check _ _ _ _ _ _ _ _ PySem.F.type_list_pop (args_md_get _ _ _) ⟨N, R, rfl⟩
    unfold Builtin.«method_descriptor.__get__»
    refine FE.bind (WE.pure ?_)
    have h1 : (Value.ref x == Value.none) = false := by simp
    have h2 : (Value.ref accA == Value.none) = false := by simp
    simp only [h1, h2, Bool.false_eq_true, if_false]
    rw [if_neg (by decide +kernel)]
    refine FE.bind ?_
    refine WE.bind (WE.pure ?_)
    refine WE.bind (WE.of_eq (t' := isInstance (.ref x) (.type "list")) (by kernel_rfl) (WE.isInstL F hc hx ?_))
    refine WE.pure ?_
    refine FE.bind (WE.newObj (by size_fits) rfl fun b hb => ?_)
    exact FE.ret (q b hb)
theorem ty_l_len : PySem.typeOf (.builtin "list.__len__") = Pure.pure (.type "wrapper_descriptor") := by show builtinType _ = _; rw [builtinType_eq_fast]; kernel_rfl
theorem bm_len : BndM "list.__len__" "wrapper_descriptor" "method-wrapper" where
  ty := ty_l_len
  slot := slot_wd_get.lookup
  call := by
    intro C N Φ A x cl d vs n Q F hc hx q
    refine WE.call (CE.callB slot_wd_get.plain entry_wd_get ?_ ?_)
    · exact fun s E R => slot_wd_get.check _ _ _ _ _ _ _ _ ty_l_len (args_wd_get _ _ _) ⟨N, R, rfl⟩
    unfold Builtin.«wrapper_descriptor.__get__»
    refine FE.bind (WE.pure ?_)
    have h1 : (Value.ref x == Value.none) = false := by simp
    have h2 : (Value.ref accA == Value.none) = false := by simp
    simp only [h1, h2, Bool.false_eq_true, if_false]
    refine FE.bind ?_
    refine WE.bind (WE.pure ?_)
    refine WE.bind (WE.of_eq (t' := isInstance (.ref x) (.type "list")) (by kernel_rfl) (WE.isInstL F hc hx ?_))
    refine WE.pure ?_
    refine FE.bind (WE.newObj (by size_fits) rfl fun b hb => ?_)
    exact FE.ret (q b hb)
theorem ty_l_init : PySem.typeOf (.builtin "list.__init__") = Pure.pure (.type "wrapper_descriptor") := by show builtinType _ = _; rw [builtinType_eq_fast]; kernel_rfl
theorem bm_init : BndM "list.__init__" "wrapper_descriptor" "method-wrapper" where
  ty := ty_l_init
  slot := slot_wd_get.lookup
  call := by
    intro C N Φ A x cl d vs n Q F hc hx q
    refine WE.call (CE.callB slot_wd_get.plain entry_wd_get ?_ ?_)
    · exact fun s E R => slot_wd_get.check _ _ _ _ _ _ _ _ ty_l_init (args_wd_get _ _ _) ⟨N, R, rfl⟩
    unfold Builtin.«wrapper_descriptor.__get__»
    refine FE.bind (WE.pure ?_)
    have h1 : (Value.ref x == Value.none) = false := by simp
    have h2 : (Value.ref accA == Value.none) = false := by simp
    simp only [h1, h2, Bool.false_eq_true, if_false]
    refine FE.bind ?_
    refine WE.bind (WE.pure ?_)
    refine WE.bind (WE.of_eq (t' := isInstance (.ref x) (.type "list")) (by kernel_rfl) (WE.isInstL F hc hx ?_))
    refine WE.pure ?_
    refine FE.bind (WE.newObj (by size_fits) rfl fun b hb => ?_)
    exact FE.ret (q b hb)
theorem bc_slot {id : String} {v : Value} {rest : List Value} {Q : Unit → Led → Prop} (hk : builtinKind id = some .slot) (ha : argsOk id ⟨v :: rest, []⟩) (q : Q () N) : WE C A (checkBoundCall id ⟨v :: rest, []⟩) Q N Φ := by
  unfold checkBoundCall
  cases hsig : Manifest.signature? id with
  | none => exact WE.pure q
  | some sig =>
    rw [hk]
    dsimp only
    rw [if_pos (by decide), args_some hsig ha]
    exact WE.pure q
theorem bc_len : BndC "list.__len__" "method-wrapper" where
  cls := .inr rfl
  plain := sl_len.plain
  check := by
    intro C N Φ A x d vs n Q F S hx q
    have hk : builtinKind "list.__len__" = some .slot := by decide +kernel
    have ha := PySem.F.args_list_len_1 (.ref x)
    exact bc_slot (id := "list.__len__") (v := .ref x) (rest := []) hk ha q
theorem bc_init : BndC "list.__init__" "method-wrapper" where
  cls := .inr rfl
  plain := sl_init.plain
  check := by
    intro C N Φ A x d vs n Q F S hx q
    have hk : builtinKind "list.__init__" = some .slot := by decide +kernel
    have ha := PySem.F.args_list_init_1 (.ref x)
    exact bc_slot (id := "list.__init__") (v := .ref x) (rest := []) hk ha q
noncomputable def fullPop (sig : PySem.Manifest.Signature) : PySem.Manifest.Signature := { sig with full := s!"{("_Accumulator" : Str).toString}.{Bind.lastOf "list.pop"}" }
theorem sig_pop (v : Value) : (match Manifest.signature? "list.pop" with | some sig => Bind.checkArgs "list.pop" (fullPop sig) ⟨[v], []⟩ | none => Pure.pure ()) = Pure.pure () := by
  rw [signature?_of (id := "list.pop") (n := ['p', 'o', 'p']) (o := ['t', 's', 'i', 'l']) (by kernel_rfl) PySem.F.owner_list]
  kernel_rfl
theorem bc_pop : BndC "list.pop" "builtin_function_or_method" where
  cls := .inl rfl
  plain := sl_pop.plain
  check := by
    intro C N Φ A x d vs n Q F S hx q
    have hk : builtinKind "list.pop" = some .method := by decide +kernel
    unfold checkBoundCall
    have ha := PySem.F.args_list_pop_1 (.ref x)
    cases hsig : Manifest.signature? "list.pop" with
    | none => exact WE.pure q
    | some sig =>
      refine Classical.byContradiction fun hn => ?_
      obtain ⟨cd, hcd, hmro⟩ := S.cd
      refine hn ?_
      clear hn
      have hq := S.qual cd hcd
      rw [hk]
      dsimp only
      rw [if_neg (by decide)]
      refine WE.bind ?_
      unfold isInstance
      refine WE.bind (WE.typeOf hx (WE.looks (fun s R => looks_mroIn R.inK S.modu) ?_))
      rw [if_neg (by decide +kernel)]
      refine WE.bind ?_
      unfold isType
      refine WE.bind (WE.loadPart hx (WE.pure ?_))
      dsimp only
      rw [if_neg (by decide)]
      refine WE.bind (WE.typeOf hx ?_)
      dsimp only
      refine WE.bind (WE.looks (fun s R => looks_clsIn R.inK hcd) ?_)
      refine WE.bind (WE.looks (fun s R => looks_typeIn R.inK S.mty) ?_)
      rw [if_pos (by decide)]
      have := sig_pop (.ref x)
      rw [hsig] at this
      rw [hq]
      show WE C A (Bind.checkArgs "list.pop" (fullPop sig) ⟨[.ref x], []⟩) Q N Φ
      rw [show Bind.checkArgs "list.pop" (fullPop sig) ⟨[.ref x], []⟩ = Pure.pure () from this]
      exact WE.pure q
end Mine.Internal
end
section
open PySem PySem.W PyProof.Rows PySem.Calls PySem.Spec PySem.Builtin.List
set_option maxRecDepth 100000
namespace Mine.Internal
variable {C : Cx} {N N' : Led} {Φ : Frs} {A : Around} {mg mb : Lo}
noncomputable def FnC (C : Cx) (j : Nat) (a : Addr) (clo : List (Str × Addr)) (dflt : Value) : Prop := ∃ pm ct, HasFn C [] a (mkFd (clOf j) a (("_Accumulator." : Str) ++ stName (clOf j)) clo dflt pm ct)
noncomputable def CodeFile (C : Cx) (c : Addr) : Prop := ∃ o vs file tf, C.g c = some o ∧ o.data = .fields vs ∧ vs[2]? = some (.str file tf) ∧ ((C.prog.main.file : Str) == file) = true
noncomputable def clsG (c : Value) (d : Option Addr) (sl : Array (Option Value)) (x : Data) : Option ClassData := clsIn [(0, ⟨c, d, x, sl⟩)] 0
theorem clsG_no (c : Value) (d : Option Addr) (sl : Array (Option Value)) (x : Data) : (∃ c, x = .cls c) ∨ clsG c d sl x = none := by cases x <;> first | exact .inl ⟨_, rfl⟩ | exact .inr rfl
theorem clsIn_some {K : Frag} {a : Addr} {cd : ClassData} (h : clsIn K a = some cd) : ∃ c d sl, K.lookup a = some ⟨c, d, .cls cd, sl⟩ := by
  unfold clsIn at h
  cases hk : K.lookup a with
  | none => rw [hk] at h; cases h
  | some o =>
    rw [hk] at h
    obtain ⟨c, d, x, sl⟩ := o
    replace h : clsG c d sl x = some cd := h
    rcases clsG_no c d sl x with ⟨_, rfl⟩ | e
    · cases h; exact ⟨_, _, _, rfl⟩
    · cases e.symm.trans h
structure AccP (C : Cx) (mg mb : Lo) : Prop where
  P : Prg C mg mb
  S : SupF C
  f_init : FnC C 0 59 [("__class__", 46)] (.ref 51)
  f_push : FnC C 1 66 [] .none
  f_pop : FnC C 3 82 [("__class__", 46)] .none
  f_len : FnC C 4 89 [] .none
  f_reset : FnC C 6 104 [] (.ref 97)
  f_pc : FnC C 8 119 [("__class__", 46)] .none
  c_init : CodeFile C 58
  c_pop : CodeFile C 81
  c_pc : CodeFile C 118
  cell : ∃ o, C.g 46 = some o ∧ o.data = .cell (some (.ref accA))
  top : (C.prog.main.scope.names.lookup ("super" : Str)).isSome = false
  n_super : mg "super" = none
  b_super : mb "super" = some (.type "super")
  d_reset : ∃ o n, C.g 97 = some o ∧ o.data = .seq #[.none] n
  d_init : ∃ o n t, C.g 51 = some o ∧ o.data = .seq #[.int 0 t] n
theorem Rep.addN {s : Shared} {h' : Heap} {tk : Nat} {a : Addr} {o : Obj} (R : Rep C N Φ s) (k : ∀ b o, s.heap.get? b = some o → h'.get? b = some o) (e : h'.get? a = some o) (ha : s.heap.objs.size ≤ a) : Rep C ((a, o) :: N) Φ { s with heap := h', toks := tk } ∧ New a N :=
  ⟨⟨let ⟨z, x⟩ := R.z; ⟨z, (x.grow k).add e (x.fresh ha)⟩, R.os, R.gens⟩, let ⟨_, x⟩ := R.z; (x.fresh ha).n⟩
theorem super_base {body : List Stmt} {p0 p1 : Pos} {attr : Str} {whole : Sem Value} {fd : FuncData} {f x L cc : Addr} {ar : Arg} {d vs n} {m : Lo} {s : Shared} {E} {Q : Value → Shared → Prop} (G : AccP C mg mb) (R : Rep C N (.fr ⟨L, []⟩ m :: Φ) s) (hf : HasFn C N f fd) (hclo : fd.closure = [(("__class__" : Str), 46)])
    (hcode : fd.code = .ref cc) (hcf : CodeFile C cc) (hgl : fd.globals = mainGlobals) (hbl : fd.builtins = builtinsNs) (hp : (fd.params.posonlyargs ++ fd.params.args).head? = some ar) (hv : m ar.arg = some (.ref x)) (hx : Has C N x (sq (.ref accA) d vs n))
    (q : ∀ so s', New so N → Rep C ((so, supO x) :: N) (.fr ⟨L, []⟩ m :: Φ) s' → Q (.ref so) s')
    (hk : fd.scope.kind = .function := by rfl) (hks : fd.scope.names.lookup ("super" : Str) = some .globalImplicit := by rfl) (hkc : fd.scope.names.lookup ("__class__" : Str) = some .free := by rfl) (hka : fd.scope.names.lookup ar.arg = some .local := by rfl)
    (hat : (attr == ("__class__" : Str)) = false := by decide) :
    PySem.wpAt C.M A (.func body (callEnv fd L f)) (attributeBase (.Call (.Name "super" p0) [] [] p1) attr (callEnv fd L f) whole) Q E s := by
  obtain ⟨of, hof, hofd⟩ := hf.obj
  obtain ⟨oc, cvs, file, tf, hoc, hcd, hvs, hfile⟩ := hcf
  obtain ⟨ocl, hcl, hcld⟩ := G.cell
  obtain ⟨cd, hcd', hmro⟩ := G.S.cd
  obtain ⟨oD, hD1, hD2⟩ : ∃ oD, s.heap.get? accA = some oD ∧ oD.data = .cls cd := by
    obtain ⟨_, _, _, ho⟩ := clsIn_some hcd'
    exact ⟨_, R.inK _ _ ho, rfl⟩
  refine ks_wpAt_super_base (env := callEnv fd L f) hks hkc hat rfl (R.has hof) hofd hp hcode (R.st hoc) hcd hvs hfile G.top ?_
  refine ks_loadName_global hk hks (loadGlobal_builtin (env := callEnv fd L f) (by rw [show (callEnv fd L f).globals = mainGlobals from hgl]; exact G.P.G.g _ R.stat) G.n_super (by rw [show (callEnv fd L f).builtins = builtinsNs from hbl]; exact G.P.G.b _ R.stat) G.b_super ⟨rfl, ?_⟩)
  refine wpAny_loadName_free (c := 46) hk hkc (by rw [show (callEnv fd L f).cells = fd.closure from rfl, hclo]; rfl) ⟨_, R.st hcl, hcld⟩ ?_ (by decide)
  obtain ⟨⟨ml, hn, he⟩, _⟩ := R.frm (.head _)
  refine wpAny_loadName_local hk hka hn ((he _ rfl).trans hv) ?_
  obtain ⟨hh, g, dr, t, os⟩ := s
  refine ks_wpAny_isType_cls hD1 hD2 ⟨rfl, ?_⟩
  refine ks_wpAny_call_super hD1 hD2 (R.has hx) rfl (fun c e => by cases e) (looks_mroIn R.inK G.S.self) (fun h' e k => ?_)
  have := R.addN (tk := t) k e (Nat.le_refl _)
  exact q _ _ this.2 this.1
theorem b_len {a : Addr} {cl : Value} {d : Option Addr} {vs : List Value} {n : Nat} {Q : Value → Led → Prop} (h : Has C N a (sq cl d vs n)) (q : ∀ t, Q (.int vs.length t) N) : FE C A (Builtin.«list.__len__» ⟨[.ref a], []⟩) Q N Φ := by
  show FE C A (do retInt (← seqSize a)) _ _ _
  unfold seqSize
  refine FE.bind (WE.bind (WE.loadPart h ?_))
  exact WE.pure (FE.retInt fun t => by simpa using q t)
theorem b_pop {a : Addr} {cl : Value} {d : Option Addr} {vs : List Value} {n : Nat} {x : Value} {Q : Value → Led → Prop} (h : (a, sq cl d (vs ++ [x]) n) ∈ N) (hs : vs.length ≤ sizeLine) (q : ∀ k, Q x (updL N a (sq cl d vs k))) : FE C A (Builtin.«list.pop» ⟨[.ref a], []⟩) Q N Φ := by
  unfold Builtin.«list.pop»
  refine FE.bind (WE.pure ?_)
  refine FE.bind (WE.pure ?_)
  dsimp only
  rw [if_neg (by decide)]
  refine FE.bind (WE.listItems (.led h) ?_)
  rw [if_neg (by simp)]
  have e : ((seqIndex? (-1) (vs ++ [x]).toArray.size).bind fun k => ((vs ++ [x]).toArray[k]?).map (k, ·)) = some (vs.length, x) := by
    have e0 : seqIndex? (-1) (vs ++ [x]).toArray.size = some vs.length := by
      have h1 : ((vs ++ [x]).toArray.size : Int) = vs.length + 1 := by simp
      unfold seqIndex?
      rw [h1]
      simp only [show (-1 : Int) < 0 from by decide, if_true]
      have h2 : (-1 : Int) + ((vs.length : Int) + 1) = vs.length := by lia
      have h3 : (vs.length : Int) < (vs.length : Int) + 1 := by lia
      have h4 : (0 : Int) ≤ vs.length := by lia
      simp [h2, h3, h4]
    rw [e0]
    simp
  rw [e]
  dsimp only
  refine FE.bind (WE.listUpdate (ws := vs) h ?_ (by lia) fun k => FE.ret (q k))
  simp [List.eraseIdx_append_of_length_le]
theorem ne_acc {s : Shared} {x : Addr} {cl : Value} {d vs n} (S : SupF C) (R : Rep C N Φ s) (hx : (x, sq cl d vs n) ∈ N) : x ≠ accA := by
  rintro rfl
  obtain ⟨cd, hcd, _⟩ := S.cd
  have h1 := R.get hx
  obtain ⟨_, _, _, ho⟩ := clsIn_some hcd
  have h2 := R.inK _ _ ho
  rw [h1] at h2
  cases h2
theorem super_call {body : List Stmt} {p0 p1 apos pos : Pos} {name : Str} {fd : FuncData} {f x L cc : Addr} {ar : Arg} {d vs n} {m : Lo} {s : Shared} {E} {id T BT : String} {bl : Builtin} {Q : Value → Led → Prop} (G : AccP C mg mb) (R : Rep C N (.fr ⟨L, []⟩ m :: Φ) s)
    (hf : HasFn C N f fd) (hclo : fd.closure = [(("__class__" : Str), 46)])
    (hcode : fd.code = .ref cc) (hcf : CodeFile C cc) (hgl : fd.globals = mainGlobals) (hbl : fd.builtins = builtinsNs) (hp : (fd.params.posonlyargs ++ fd.params.args).head? = some ar) (hv : m ar.arg = some (.ref x)) (hx : (x, sq (.ref accA) d vs n) ∈ N)
    (B : BndM id T BT) (K : BndC id BT) (hal : alongIn C.K name [.type "list", .type "object"] = some (some (.builtin id))) (he : entryFor table id = some bl)
    (h : ∀ N', Ext N N' → FE C A (bl ⟨[.ref x], []⟩) Q N' (.fr ⟨L, []⟩ m :: Φ))
    (hk : fd.scope.kind = .function := by rfl) (hks : fd.scope.names.lookup ("super" : Str) = some .globalImplicit := by rfl) (hkc : fd.scope.names.lookup ("__class__" : Str) = some .free := by rfl) (hka : fd.scope.names.lookup ar.arg = some .local := by rfl)
    (hat : (name == ("__class__" : Str)) = false := by decide)
    (hev : eval (.Call (.Attribute (.Call (.Name "super" p0) [] [] p1) name apos) [] [] pos) (callEnv fd L f) = (do
      let ov ← attributeBase (.Call (.Name "super" p0) [] [] p1) name (callEnv fd L f) (eval (.Call (.Name "super" p0) [] [] p1) (callEnv fd L f))
      standAt apos.atName
      let (g, first) ← holding [ov] (getMethod ov name (do return (← importBound (.Call (.Name "super" p0) [] [] p1) (callEnv fd L f)).getD true))
      callWith pos g first (backTo pos (starEach [] (callEnv fd L f))) []) := by rfl) :
    PySem.wpAt C.M A (.func body (callEnv fd L f)) (eval (.Call (.Attribute (.Call (.Name "super" p0) [] [] p1) name apos) [] [] pos) (callEnv fd L f)) (fun v s' => ∃ N', Rep C N' (.fr ⟨L, []⟩ m :: Φ) s' ∧ Q v N') E s := by
  refine ks_wpAt_MethodCall ?_ hev
  refine super_base (f := f) (x := x) G R hf hclo hcode hcf hgl hbl hp hv (.inr hx) (fun so s' hso R' => ?_) hk hks hkc hka hat
  have hxC := ne_acc G.S R hx
  refine (super_method (Q := fun fx N' => ∃ b, fx = (.ref b, []) ∧ N' = (b, bndO BT id x) :: (so, supO x) :: N) G.P.F G.S B (.head _) (.inr (.tail _ hx)) hxC hal hat fun b hb => ⟨b, rfl, rfl⟩).use R' fun fx s₂ N₂ R₂ pz0 => ?_
  obtain ⟨b, e1, e2⟩ := pz0
  subst e1; subst e2
  refine bound_with K (.head _) (bound_call G.P.F G.S K (.head _) (.inr (.tail _ (.tail _ hx))) he (h _ (Ext.refl _).c2)) s₂ E R₂
theorem CE.fnDefAt {k : Nat} {a : Addr} {fd : FuncData} {body : List Stmt} {vs : List Value} {binds : List (Str × Value)} {Q : Value → Led → Prop} (G : Glo C mg mb) (ho : AOk A (k + 1)) (hf : HasFn C N a fd) (hbody : fd.body = .stmts body)
    (hbind : ∀ s, Rep C N Φ s → BindsTo s fd ⟨vs, []⟩ binds) 
    (h : ∀ L s E, Rep C N (.fr ⟨L, []⟩ (bindM binds fun _ => none) :: Φ) s → PySem.wpAt C.M (A.deeper (callEnv fd L a)) (.func body (callEnv fd L a)) (execs body (callEnv fd L a)) (fun f s' => ∃ N' m', Rep C N' (.fr ⟨L, []⟩ m' :: Φ) s' ∧ Q (retOf f) N') E s)
    (hcellB : fd.scope.names.all (fun x => x.2 != .cell) = true := by rfl) (hlocB : binds.all (fun x => fd.scope.names.lookup x.1 == some .local) = true := by rfl) (hco : fd.scope.isCoroutine = false := by rfl) (hgen : fd.scope.isGenerator = false := by rfl) (hk : fd.scope.kind = .function := by rfl) : CE C A (.call (.ref a) ⟨vs, []⟩) Q N Φ := by
  have hcell : ∀ x ∈ fd.scope.names, x.2 ≠ .cell := fun x hx => by simpa using List.all_eq_true.mp hcellB x hx
  have hloc : ∀ x ∈ binds, fd.scope.names.lookup x.1 = some .local := fun x hx => by simpa using List.all_eq_true.mp hlocB x hx
  intro s r R kk
  obtain ⟨o, hob, hdat⟩ := hf.obj
  refine ks_codeAny_call_defAt (by have := ho.d; lia) (R.has hob) hdat (G.lim _ R.stat) (hf.record R) hbody (hbind s R) hcell hloc (fun h₀ hn hkeep => ?_) hco hgen hk
  have R₂ : Rep C N (.fr ⟨s.heap.objs.size, []⟩ (bindM binds fun _ => none) :: Φ) { s with heap := h₀, toks := s.toks + binds.length } := by
    refine R.pushG hkeep ⟨⟨_, hn, fun x _ => ?_⟩, (fun p (hp : p ∈ ([] : List (Str × Addr))) => nomatch hp), List.nodup_nil⟩ (fun b hb => ?_) ?_
    · rw [bindM_lookup, Option.or_none]
    · rcases List.mem_cons.mp hb with rfl | hb
      · exact Nat.le_refl _
      · cases hb
    · simp [Prv.own]
  exact ks_wpAt_mono (h _ _ _ R₂) (fun f s' ⟨N', m', R', q⟩ => by cases f <;> exact kk _ s' N' R'.popF q) fun _ _ x => x
theorem FnC.cwc {pos} {j : Nat} {a : Addr} {clo : List (Str × Addr)} {dv : Value} {first : List Value} {args : List (Bool × Sem Value)} {Q : Value → Led → Prop} (hf : FnC C j a clo dv) (hs : args.any (·.1) = false) (h : WE C A (spliced args) (fun vs N₁ => WE C A (PySem.call (.ref a) (first ++ vs)) Q N₁ Φ) N Φ) :
    WE C A (callWith pos (.ref a) first args []) Q N Φ := by
  obtain ⟨pm, ct, hf⟩ := hf
  obtain ⟨o, h1, h2⟩ := hf.obj
  exact cw_fn hs h2 (h.mono fun vs N₁ h => ⟨h1.mono (Ext.nil _), h⟩)
theorem FnC.ty {j : Nat} {a : Addr} {clo : List (Str × Addr)} {dv : Value} (hf : FnC C j a clo dv) {K : Value → Led → Prop} (h : ∀ t, (t = .type "function" ∨ t = .type "method_descriptor") → K t N) : WE C A (PySem.typeOf (.ref a)) K N Φ := by
  obtain ⟨pm, ct, hf⟩ := hf
  obtain ⟨o, h1, h2⟩ := hf.cls
  exact WE.typeOf (h1.mono (Ext.nil _)) (by rw [h2]; exact h _ (.inl rfl))
theorem c_pc {row : Addr} {d : Option Addr} {vs : List Value} {n : Nat} {Q : Value → Led → Prop} (G : AccP C mg mb) (ho : AOk A 2) (hr : (row, sq (.ref accA) d vs n) ∈ N)
    (q : ∀ N' t, Ext N N' → Q (.int vs.length t) N') : WE C A (PySem.call (.ref 119) [.ref row]) Q N Φ := by
  obtain ⟨pm, ct, hf⟩ := G.f_pc
  refine WE.call (CE.fnDefAt (binds := [("self", .ref row)]) (k := 1) G.P.G ho hf.any rfl (fun s R => .of_eq rfl) fun L s E R => ?_)
  refine ks_wpAt_execs_cons ?_
  refine ks_wpAt_Return_some ?_
  refine PySem.wpAt_mono (super_call (Q := fun v N' => Q v N') (x := row) (d := d) (vs := vs) (n := n) G R hf.any rfl rfl G.c_pc rfl rfl rfl rfl hr bm_len bc_len G.S.len sl_len.entry fun N' e => ?_) ?_ fun _ _ x => x
  · exact b_len (.inr (e _ hr)) fun t => q N' t e
  · rintro v s' ⟨N', R', hq⟩
    exact ⟨N', _, R', hq⟩
theorem FE.of_fn {t : Sem PySem.Fin} {Q : Value → Led → Prop} (h : (∀ a o o', (a, o) ∈ N → (a, o') ∈ N → o = o') → FE C A t Q N Φ) : FE C A t Q N Φ := fun s R r k => h (fun _ _ _ x y => r.fn x y) s R r k
theorem wpAt_of_wpAny' {α : Type} {M : Model} {c : Code} {E : Value → Shared → Prop} {s : Shared} {t : Sem α} {Q : α → Shared → Prop} (h : wpAny M A t Q E s) : PySem.wpAt M A c t Q E s := PySem.wpAt_of_wpAny h
noncomputable abbrev szO (hsh : Int) (tk : Tok) (v : Value) (ep : Nat) : Obj := { cls := .type "dict", data := .dict #[⟨hsh, .str "_initial_size" tk, v⟩] ep }
theorem find1 {α : Type} (p : α → Bool) (a : α) : [a].find? p = if p a = true then some a else none := by cases h : p a <;> simp [h]
theorem szO_ns (hsh : Int) (tk : Tok) (v : Value) (ep : Nat) : NsO (szO hsh tk v ep) (setLo (fun _ => none) "_initial_size" v) := by
  refine ⟨_, _, rfl, ?_, fun name => ?_⟩
  · intro e he
    have : e = ⟨hsh, .str "_initial_size" tk, v⟩ := by simpa using he
    subst this
    exact ⟨_, _, rfl⟩
  · unfold nsFind findBy
    rw [← Array.find?_toList]
    refine (congrArg _ (find1 _ _)).trans ?_
    show Option.map _ (if (("_initial_size" : Str) == name) = true then _ else _) = if name = "_initial_size" then _ else _
    by_cases h : name = "_initial_size"
    · subst h
      rw [if_pos (beq_self_eq_true _), if_pos rfl]
      rfl
    · rw [if_neg (by simpa using Ne.symm h), if_neg h]
      rfl
structure Row (N : Led) (row D : Addr) (hd : Int) (vs : List Value) (n : Nat) : Prop where
  obj : (row, sq (.ref accA) (some D) vs n) ∈ N
  dict : ∃ hsh tk t ep, (D, szO hsh tk (.int hd t) ep) ∈ N
theorem Row.mono {row D : Addr} {hd : Int} {vs : List Value} {n : Nat} (r : Row N row D hd vs n) (e : Ext N N') : Row N' row D hd vs n := ⟨e _ r.obj, let ⟨a, b, c, d, x⟩ := r.dict; ⟨a, b, c, d, e _ x⟩⟩
theorem Row.ok {row D : Addr} {hd : Int} {vs : List Value} {n : Nat} {name : Str} (r : Row N row D hd vs n) (h : name ≠ "_initial_size") : DictOk C N (some D) name := fun D' e => by
  cases e
  obtain ⟨a, b, c, d, x⟩ := r.dict
  exact ⟨_, _, .inr x, szO_ns _ _ _ _, setLo_ne h⟩
theorem Row.upd {row D : Addr} {hd : Int} {vs ws : List Value} {n k : Nat} (r : Row N row D hd vs n) (U : Upd N N' row (sq (.ref accA) (some D) ws k)) (hne : D ≠ row) : Row N' row D hd ws k := ⟨U.self, let ⟨a, b, c, d, x⟩ := r.dict; ⟨a, b, c, d, U.but _ x hne⟩⟩
theorem Row.ne {row D : Addr} {hd : Int} {vs : List Value} {n : Nat} (r : Row N row D hd vs n) (fn : ∀ a o o', (a, o) ∈ N → (a, o') ∈ N → o = o') : D ≠ row := by
  rintro rfl
  obtain ⟨a, b, c, d, x⟩ := r.dict
  have := fn _ _ _ r.obj x
  cases this
theorem getMethod_R {row D : Addr} {hd : Int} {vs : List Value} {n : Nat} {name : Str} {j : Nat} {f : Addr} {clo : List (Str × Addr)} {dv : Value} {pl : Sem Bool} {Q : Value × List Value → Led → Prop} (F : AccF C) (hf : FnC C j f clo dv) (r : Row N row D hd vs n) (hn : name ≠ "_initial_size")
    (hr : findIn C.K (.ref accA) name = some (some (.ref f))) (q : Q (.ref f, [.ref row]) N) : WE C A (getMethod (.ref row) name pl) Q N Φ :=
  getMethod_L F (.inr rfl) (.inr r.obj) (r.ok hn) (fun e => by cases e) (fun _ => hr) (fun h => hf.ty h) q
theorem c_pop {row D : Addr} {hd : Int} {vs : List Value} {x : Value} {n : Nat} {Q : Value → Led → Prop} (G : AccP C mg mb) (ho : AOk A 4) (hr : Row N row D hd (vs ++ [x]) n) (hs : vs.length + 1 ≤ sizeLine)
    (q : ∀ N₁ N' k, Ext N N₁ → Upd N₁ N' row (sq (.ref accA) (some D) vs k) → Q x N') : WE C A (PySem.call (.ref 82) [.ref row]) Q N Φ := by
  obtain ⟨pm, ct, hf⟩ := G.f_pop
  refine WE.call (CE.fnDefAt (binds := [("self", .ref row)]) (k := 3) G.P.G ho hf.any rfl (fun s R => .of_eq rfl) fun L s E R => ?_)
  refine ks_wpAt_execs_cons (wpAt_of_wpAny' ?_)
  refine (s_if (Q := fun f N' m' => f = .next ∧ Ext N N' ∧ m' = bindM [("self", .ref row)] fun _ => none) ?_).use R fun f s₁ N₁ m₁ R₁ ⟨e1, e2, e3⟩ => ?_
  · refine t_cmp ?_
    refine e_meth ?_
    refine e_local (v := .ref row) rfl ?_
    refine getMethod_R G.P.F G.f_pc hr (by decide) G.P.F.part_count ?_
    refine G.f_pc.cwc rfl ?_
    refine a_nil ?_
    refine c_pc G (ho.deeper.le (by decide)) hr.obj fun N' t e => ?_
    refine e_int fun t2 => ?_
    refine o_eq ?_
    refine o_tBool ?_
    have : (((vs ++ [x]).length : Int) == 0) = false := by simp; lia
    rw [this]
    exact s_nil ⟨rfl, e, rfl⟩
  · subst e1; subst e3
    refine ks_wpAt_execs_cons ?_
    refine ks_wpAt_Return_some ?_
    refine PySem.wpAt_mono (super_call (Q := fun v N' => Q v N') (x := row) (d := some D) (vs := vs ++ [x]) (n := n) G R₁ hf.any rfl rfl G.c_pop rfl rfl rfl rfl (e2 _ hr.obj) bm_pop bc_pop G.S.pop sl_pop.entry fun N' e => ?_) ?_ fun _ _ x => x
    · refine FE.of_fn fun fn => ?_
      exact b_pop (e _ (e2 _ hr.obj)) (by lia) fun k => q _ _ k (e2.trans e) (.of fn (e _ (e2 _ hr.obj)) (by simp))
    · rintro v s' ⟨N', R', hq⟩
      exact ⟨N', _, R', hq⟩
end Mine.Internal
end
section
open PySem PySem.W PyProof.Rows PySem.Calls PySem.Spec PySem.Builtin.List
set_option maxRecDepth 100000
namespace Mine.Internal
variable {C : Cx} {N N' : Led} {Φ : Frs} {A : Around} {mg mb : Lo}
theorem c_push {row D : Addr} {hd : Int} {vs : List Value} {v w : Value} {n : Nat} {Q : Value → Led → Prop} (G : AccP C mg mb) (ho : AOk A 2) (hr : Row N row D hd vs n) (hs : vs.length ≤ sizeLine)
    (q : ∀ t N' k, New t N → Upd ((t, tup [v, w] 0) :: N) N' row (sq (.ref accA) (some D) (vs ++ [.ref t]) k) → Q .none N') : WE C A (PySem.call (.ref 66) [.ref row, v, w]) Q N Φ := by
  refine Classical.byContradiction fun hn => ?_
  obtain ⟨pm, ct, hf⟩ := G.f_push
  refine hn ?_
  clear hn
  refine WE.call (CE.fnCells (binds := [("self", .ref row), ("fws", v), ("string", w)]) (cs := fun _ => []) (k := 1) G.P.G ho hf.any rfl rfl rfl (fun _ => rfl) fun L => ?_)
  refine s_cons ?_
  refine s_expr ?_
  refine e_meth ?_
  refine e_local (v := .ref row) rfl ?_
  refine lm_append.get G.P.F (.inr rfl) (.inr hr.obj) (hr.ok (by decide)) (fun _ => G.P.F.append) ?_
  refine cw_blt rfl ?_
  refine a_cons ?_
  refine e_tuple ?_
  refine a_cons (e_local (v := v) rfl (a_cons (e_local (v := w) rfl (a_nil ⟨sz_ok (by simp), fun t ht => ?_⟩))))
  refine a_nil ?_
  refine m_append' G.P.F (.inr rfl) (.tail _ hr.obj) hs fun N' k U => ?_
  exact ⟨s_nil (q t N' k ht U), fun _ h => nomatch h⟩
end Mine.Internal
end
section
open PySem PySem.W PyProof.Rows PySem.Calls PySem.Spec PySem.Builtin.List Builtin Builtin.ObjectAttr
set_option maxRecDepth 100000
namespace Mine.Internal
variable {C : Cx} {N N' : Led} {Φ : Frs} {A : Around} {mg mb : Lo}
structure AttF (C : Cx) : Prop where
  set : findIn C.K (.ref accA) "__setattr__" = some (some (.builtin "object.__setattr__"))
  obj : mroIn C.K accA (.type "object") = some true
  dict : ∀ cd, clsIn C.K accA = some cd → cd.hasDict = true
theorem passes_l (self : Value) : refuseLoop self "__setattr__" [.type "list", .type "object"] = Pure.pure () := by
  have h := PySem.F.store_object.passes self
  unfold refuseLoop at h ⊢
  kernel_rfl
noncomputable def DOk (od : Obj) : Prop := od = emptyDict ∨ ∃ hsh tk v ep, od = szO hsh tk v ep
theorem put_ok {od : Obj} {h : Int} {k : Tok} {v : Value} (hd : DOk od) : ∃ hsh tk ep, Obj.putName "_initial_size" h (.str "_initial_size" k) v od = szO hsh tk v ep := by
  rcases hd with rfl | ⟨hsh, tk, v', ep, rfl⟩
  · exact ⟨h, k, 1, by rfl⟩
  · exact ⟨hsh, tk, ep, by rfl⟩
theorem ref_ok {es : Array DictEntry} {ep : Nat} {od : Obj} (hd : DOk od) (e : od.data = .dict es ep) : aRefKeyMayBeTheName "_initial_size" es = false := by
  rcases hd with rfl | ⟨hsh, tk, v', ep', rfl⟩
  · cases e; rfl
  · cases e; rfl
theorem WE.nsSetSz {D : Addr} {od : Obj} {v : Value} {Q : Unit → Led → Prop} (hD : (D, od) ∈ N) (hd : DOk od) (q : ∀ hsh tk ep, Q () (updL N D (szO hsh tk v ep))) : WE C A (nsSet D "_initial_size" v) Q N Φ := by
  unfold nsSet
  refine WE.bind ?_
  refine (fun s E R => ?_ : WE C A _ _ N Φ)
  unfold strHash
  refine wpAny_bind (wpAny_askSetting (wpAny_pure ⟨N, R, ?_⟩))
  refine WE.bind ((fun s E R => wpAny_mkText ⟨N, R.tok _, ?_⟩ : WE C A (mkText "_initial_size") _ N Φ))
  refine WE.bind (WE.loadPart (.inr hD) ?_)
  have hdd : ∃ es ep, od.data = .dict es ep := by rcases hd with rfl | ⟨_, _, _, _, rfl⟩ <;> exact ⟨_, _, rfl⟩
  refine Classical.byContradiction fun hn => ?_
  obtain ⟨es, ep, hes⟩ := hdd
  refine hn ?_
  clear hn
  rw [hes]
  dsimp only
  rw [ref_ok hd hes]
  rw [if_neg (by decide)]
  generalize hH : (if (Str.ofString "_initial_size").cps.isEmpty = true then (0 : Int) else reduceHash (C.M.w.params.strHash (Str.ofString "_initial_size").cps)) = H
  refine Classical.byContradiction fun hn => ?_
  obtain ⟨hsh, tk, ep', hput⟩ := put_ok (h := H) (k := s.toks) (v := v) hd
  refine hn ?_
  clear hn
  refine WE.updatePart hD (fun fs e => by rw [hes] at e; cases e) ?_ ?_
  · rw [hput]; rfl
  · rw [hput]; exact q _ _ _
theorem set_size {row D : Addr} {vs : List Value} {n : Nat} {v : Value} {od : Obj} {Q : Unit → Led → Prop} (F : AccF C) (T : AttF C) (S : SupF C) (hrow : (row, sq (.ref accA) (some D) vs n) ∈ N) (hD : (D, od) ∈ N) (hd : DOk od)
    (q : ∀ hsh tk ep, Q () (updL N D (szO hsh tk v ep))) : WE C A (setAttr (.ref row) "_initial_size" v) Q N Φ := by
  refine Classical.byContradiction fun hn => ?_
  obtain ⟨cd, hcd, hmro⟩ := S.cd
  refine hn ?_
  clear hn
  have SF := PySem.F.store_object
  have ty : ∀ {A : Around} {K : Value → Led → Prop}, K (.ref accA) N → WE C A (PySem.typeOf (.ref row)) K N Φ := fun k => WE.typeOf (.inr hrow) k
  unfold setAttr
  refine WE.bind ((fun s E R => wpAny_mkText ⟨N, R.tok _, ?_⟩ : WE C A (mkText "_initial_size") _ N Φ))
  refine WE.bind ?_
  unfold callSpecial? specialOf
  refine WE.bind (WE.bind (ty (WE.find T.set ?_)))
  dsimp only
  refine WE.holding ?_
  rw [SF.slot.bind]
  refine WE.bind (WE.pure ?_)
  refine WE.bind (WE.call (CE.callB SF.slot.plain SF.entry ?_ ?_))
  · unfold checkBuiltinCall
    rw [SF.kind, SF.split]
    refine WE.bind ?_
    unfold isInstance
    refine WE.bind (ty (WE.looks (fun s R => looks_mroIn R.inK T.obj) ?_))
    refine WE.of_eq (if_neg (by decide)) ?_
    have ha := SF.args (.ref row) (.str "_initial_size" s.toks) v
    cases hsig : Manifest.signature? "object.__setattr__" with
    | none => exact WE.pure rfl
    | some sig => exact WE.of_eq (args_some hsig ha) (WE.pure rfl)
  · show FE C A (Builtin.«object.__setattr__» ⟨[.ref row, .str "_initial_size" s.toks, v], []⟩) _ N Φ
    rw [osa_eq, refuse_eq]
    refine FE.bind (WE.bind (ty (WE.bind (WE.looks (r := cd.mro) (fun s R => fun A Q E s k q => wpAny_bind ((looks_clsIn R.inK hcd) A _ E s k (wpAny_pure q))) ?_))))
    rw [hmro]
    show WE _ _ (refuseLoop (.ref row) "__setattr__" [.ref accA, .type "list", .type "object"]) _ _ _
    rw [refuseLoop_ref, passes_l]
    refine WE.pure ?_
    refine FE.bind (ty ?_)
    refine FE.bind (WE.find F.isize ?_)
    refine FE.bind (WE.pure ?_)
    dsimp only
    unfold storeInOwnDict
    refine FE.bind (WE.pure ?_)
    rw [if_neg (by decide)]
    refine FE.bind ?_
    unfold ownDictForStores instanceDict
    refine WE.bind (WE.loadPart (.inr hrow) ?_)
    dsimp only
    refine WE.bind (WE.looks (fun s R => looks_clsIn R.inK hcd) ?_)
    rw [T.dict cd hcd]
    rw [if_neg (by decide)]
    refine WE.pure ?_
    dsimp only
    unfold storeInDict newKeyGuard
    refine FE.bind (WE.pure ?_)
    refine FE.bind (WE.nsSetSz hD hd fun hsh tk ep => ?_)
    refine FE.bind ?_
    unfold lookBehind
    refine WE.bind (WE.loadPart (.inr (updL_self _ _ _)) ?_)
    have hp : (szO hsh tk v ep).data.pastItsLine = none := pastItsLine_dict (by simp [sizeLine_eq])
    rw [hp]
    refine WE.pure (FE.ret ?_)
    exact WE.pure (WE.pure (q _ _ _))
end Mine.Internal
end
section
open PySem PySem.W PyProof.Rows PySem.Calls PySem.Spec PySem.Builtin.List Builtin Builtin.ObjectAttr
set_option maxRecDepth 100000
namespace Mine.Internal
variable {C : Cx} {N N' : Led} {Φ : Frs} {A : Around} {mg mb : Lo}
theorem s_attr {env : Env} {K : Fk} {m : Lo} {o : Expr} {attr : Str} {pos' pos : Pos} {value : Expr} {Q : Flow → Led → Lo → Prop}
    (h : WE C A (eval value env) (fun v N₁ => WE C A (eval o env) (fun ov N₂ => WE C A (setAttr ov attr v) (fun _ N₃ => Q .next N₃ m) N₂ (.fr K m :: Φ)) N₁ (.fr K m :: Φ)) N (.fr K m :: Φ))
    (hs : swapsWithSole [.Attribute o attr pos'] value pos.line env = pure false := by rfl) (hw : swappedStores [.Attribute o attr pos'] value env = pure none := by rfl) :
    WS C A (exec (.Assign [.Attribute o attr pos'] value pos) env) Q N K m Φ := by
  refine WS.of_WE (fun s E R => ?_)
  refine wpAny_Assign_stores (h.use R fun v s₁ N₁ R₁ h₁ => ?_) hs hw
  show wpAny _ _ (assign (.Attribute o attr pos') env v) _ _ _
  show wpAny _ _ (do let ov ← holding [v] (eval o env); standAt pos'.atName; holding [v, ov] (setAttr ov attr v); release [v, ov] []) _ _ _
  refine wpAny_bind (wpAny_holding (h₁.use R₁ fun ov s₂ N₂ R₂ h₂ => ?_))
  refine wpAny_bind (wpAny_standAt (wpAny_bind (wpAny_holding (h₂.use R₂ fun _ s₃ N₃ R₃ h₃ => ?_))))
  exact wpAny_release' ⟨N₃, R₃, h₃⟩
theorem b_init {a : Addr} {cl : Value} {d : Option Addr} {n : Nat} {Q : Value → Led → Prop} (h : (a, sq cl d [] n) ∈ N) (q : ∀ k, Q .none (updL N a (sq cl d [] k))) : FE C A (Builtin.«list.__init__» ⟨[.ref a], []⟩) Q N Φ := by
  unfold Builtin.«list.__init__»
  dsimp only
  rw [if_neg (by decide), if_neg (by decide)]
  refine FE.bind (WE.listItems (.inr h) ?_)
  refine FE.bind (WE.listUpdate (ws := []) h rfl (by simp) fun k => ?_)
  refine FE.bind ?_
  exact (fun s E R => wpAny_letGo ⟨_, R, FE.ret (q k)⟩)
theorem c_init {row D : Addr} {v : Value} {n : Nat} {rest : List Value} {Q : Value → Led → Prop} (G : AccP C mg mb) (T : AttF C) (ho : AOk A 2) (hr : (row, sq (.ref accA) (some D) [] n) ∈ N) (hD : (D, emptyDict) ∈ N)
    (hb : ∀ pm ct s, Rep C N Φ s → BindsTo s (mkFd (clOf 0) 59 (("_Accumulator." : Str) ++ stName (clOf 0)) [("__class__", 46)] (.ref 51) pm ct) ⟨.ref row :: rest, []⟩ [("self", .ref row), ("initial_size", v)])
    (q : ∀ N' hsh tk ep k, (∀ p ∈ N, p.1 ≠ row → p.1 ≠ D → p ∈ N') → (row, sq (.ref accA) (some D) [] k) ∈ N' → (D, szO hsh tk v ep) ∈ N' → Q .none N') : WE C A (PySem.call (.ref 59) (.ref row :: rest)) Q N Φ := by
  refine Classical.byContradiction fun hn => ?_
  obtain ⟨pm, ct, hf⟩ := G.f_init
  refine hn ?_
  clear hn
  refine WE.fn fun fn => ?_
  have hne : D ≠ row := fun e => by
    subst e
    have := fn _ _ _ hr hD
    cases this
  refine WE.call (CE.fnDefAt (binds := [("self", .ref row), ("initial_size", v)]) (k := 1) G.P.G ho hf.any rfl (hb pm ct) fun L s E R => ?_)
  refine ks_wpAt_execs_cons (wpAt_of_wpAny' ?_)
  refine (s_attr (Q := fun f N' m' => f = .next ∧ (∃ hsh tk ep, N' = updL N D (szO hsh tk v ep)) ∧ m' = bindM [("self", .ref row), ("initial_size", v)] fun _ => none) ?_).use R fun f s₁ N₁ m₁ R₁ ⟨e1, ⟨hsh, tk, ep, e2⟩, e3⟩ => ?_
  · refine e_local (v := v) rfl ?_
    refine e_local (v := .ref row) rfl ?_
    exact set_size G.P.F T G.S hr hD (.inl rfl) fun hsh tk ep => ⟨rfl, ⟨hsh, tk, ep, rfl⟩, rfl⟩
  · subst e1; subst e2; subst e3
    have hr' := updL_but N D (szO hsh tk v ep) _ hr (Ne.symm hne)
    refine ks_wpAt_execs_cons ?_
    refine ks_wpAt_Expr_any (PySem.wpAt_mono (super_call (Q := fun v' N' => v' = .none ∧ ∃ N₂ k, Ext (updL N D (szO hsh tk v ep)) N₂ ∧ N' = updL N₂ row (sq (.ref accA) (some D) [] k)) (x := row) (d := some D) (vs := []) (n := n) G R₁ hf.any rfl rfl G.c_init rfl rfl rfl rfl hr' bm_init bc_init G.S.init sl_init.entry fun N' e => ?_) ?_ fun _ _ x => x)
    · exact b_init (e _ hr') fun k => ⟨rfl, N', k, e, rfl⟩
    · rintro v' s' ⟨N', R', rfl, N₂, k, e, rfl⟩
      refine wpAt_of_wpAny' (wpAny_execs_nil ?_)
      refine ⟨_, _, R', q _ hsh tk ep k (fun p hp h1 h2 => ?_) (updL_self _ _ _) (updL_but _ _ _ _ (e _ (updL_self _ _ _)) hne)⟩
      exact updL_but _ _ _ _ (e _ (updL_but _ _ _ _ hp h2)) h1
structure NewF (C : Cx) : Prop where
  cls : ∃ oc od cd sl, C.K.lookup accA = some ⟨oc, od, .cls cd, sl⟩ ∧ cd.abstract = false ∧ cd.hasDel = false ∧ (sl.toList[4]?).join = some (.builtin "list.__new__") ∧ cd.mro = accMro
  call : specialIn C.K (.ref accA) "__call__" = some (some (.builtin "type.__call__"))
  typ : instIn C.K (.ref accA) (.type "type") = some true
theorem sp_call {Q : Option Value → Led → Prop} (W : NewF C) (q : Q (some (.builtin "type.__call__")) N) : WE C A (specialOf (.ref accA) "__call__") Q N Φ := WE.looks (fun s R => looks_specialIn R.inK W.call) q
theorem cw_acc {pos} {args : List (Bool × Sem Value)} {Q : Value → Led → Prop} (W : NewF C) (hs : args.any (·.1) = false) (h : WE C A (spliced args) (kPCall C A Φ (.ref accA) [] Q) N Φ) : WE C A (callWith pos (.ref accA) [] args []) Q N Φ := by
  refine Classical.byContradiction fun hn => ?_
  obtain ⟨oc, od, cd, sl, hc, _⟩ := W.cls
  refine hn ?_
  clear hn
  unfold callWith
  refine WE.bind (WE.holding ((evalArgs_we (f := .ref accA) (Q := fun a N' => a.kw = [] ∧ WE C A (PySem.call (.ref accA) a.pos) Q N' Φ) hs (h.mono fun vs N₁ h₁ => ⟨rfl, h₁⟩)).mono fun a N' pz0 => ?_))
  obtain ⟨e1, h1⟩ := pz0
  refine WE.bind (WE.standAt ?_)
  unfold keeperOf
  refine WE.bind (WE.bind (WE.load (.inl hc) ?_))
  refine WE.bind (sp_call W ?_)
  refine WE.pure ?_
  rw [if_pos (by decide)]
  simp only [hs, List.any_nil, Bool.or_false]
  refine WE.bind ?_
  rw [e1, List.nil_append]
  exact h1.mono fun r N' hr => WE.bind (WE.holding (WE.point (WE.pure hr)))
theorem new_kind : builtinKind "list.__new__" = some .builtinFn := by decide +kernel
theorem new_split : splitId "list.__new__" = some ("list", "__new__") := by decide +kernel
theorem new_args (a : Value) (rest : List Value) : (match Manifest.signature? "list.__new__" with | some sig => Bind.checkArgs "list.__new__" sig ⟨a :: rest, []⟩ | none => Pure.pure ()) = Pure.pure () := by
  rw [signature?_of (id := "list.__new__") (n := ['_', '_', 'w', 'e', 'n', '_', '_']) (o := ['t', 's', 'i', 'l']) (by kernel_rfl) PySem.F.owner_list]
  kernel_rfl
noncomputable def FX (C : Cx) (A A' : Around) (t : Sem PySem.Fin) (Q : Value → Led → Prop) (N : Led) (Φ : Frs) : Prop :=
  ∀ s (R : Result → Shared → Prop), Rep C N Φ s → (∀ v s' N', Rep C N' Φ s' → Q v N' → R (.ok (.ret v)) s') →
    wpAny C.M A' t (fun fin s' => match fin with | .done f => R (.ok f) s' | .again c => c.quiet = true ∧ codeAny C.M A c R s') (fun e s' => R (.error e) s') s
theorem FX.ret {A' : Around} {v : Value} {Q : Value → Led → Prop} (q : Q v N) : FX C A A' (ret v) Q N Φ := fun s R r k => wpAny_pure (k v s N r q)
theorem FX.bind {A' : Around} {α : Type} {t : Sem α} {f : α → Sem PySem.Fin} {Q : Value → Led → Prop} (h : WE C A' t (fun v N' => FX C A A' (f v) Q N' Φ) N Φ) : FX C A A' (t >>= f) Q N Φ :=
  fun s R r k => wpAny_bind (h.use r fun v s' N' r' q => q s' R r' k)
theorem made_l (W : NewF C) : ∀ {A : Around} {Q : Option String → Led → Prop}, Q (some "list.__new__") N → WE C A (Bind.madeBy (.ref accA)) Q N Φ := by
  intro A Q q
  refine Classical.byContradiction fun hn => ?_
  obtain ⟨oc, od, cd, sl, hc, ab, del, hsl, hmro⟩ := W.cls
  refine hn ?_
  clear hn
  have hcd : clsIn C.K accA = some cd := by unfold clsIn; rw [hc]
  unfold Bind.madeBy
  refine WE.bind (WE.looks (r := cd.mro) (fun s R => fun A Q E s k q => wpAny_bind ((looks_clsIn R.inK hcd) A _ E s k (wpAny_pure q))) ?_)
  rw [hmro]
  unfold accMro
  rw [List.forIn_cons]
  refine WE.bind (WE.bind (WE.bind (WE.bind (WE.loadPart (.inl hc) (WE.pure ?_)))))
  dsimp only
  rw [← Array.getElem?_toList, hsl]
  exact WE.pure (WE.pure (WE.pure q))
theorem base_l (W : NewF C) : ∀ {A : Around} {Q : Value → Led → Prop}, Q (.ref accA) N → WE C A (Bind.staticBase (.ref accA)) Q N Φ := by
  intro A Q q
  refine Classical.byContradiction fun hn => ?_
  obtain ⟨oc, od, cd, sl, hc, ab, del, hsl, hmro⟩ := W.cls
  refine hn ?_
  clear hn
  have hcd : clsIn C.K accA = some cd := by unfold clsIn; rw [hc]
  unfold Bind.staticBase
  refine WE.bind (WE.looks (r := cd.mro) (fun s R => fun A Q E s k q => wpAny_bind ((looks_clsIn R.inK hcd) A _ E s k (wpAny_pure q))) ?_)
  rw [hmro]
  unfold accMro
  rw [List.forIn_cons]
  refine WE.bind (WE.bind (WE.bind (made_l W ?_)))
  exact WE.pure (WE.pure (WE.pure q))
theorem AOk.under {k : Nat} {c : Code} (ho : AOk A (k + 1)) (hw : c.weight ≤ 1) (hu : c.cUnits ≤ 5) : AOk (A.under c) k := ⟨by have := ho.d; show A.depth + c.weight + k < _; lia, by have := ho.u; show A.units + c.cUnits + _ + _ < _; lia, ho.h⟩
set_option maxHeartbeats 4000000 in
theorem c_new {rest : List Value} {Q : Value → Led → Prop} (G : AccP C mg mb) (W : NewF C) (ho : AOk A 3)
    (h : ∀ row D, New row N → New D N → row ≠ D → ∀ {A' : Around}, AOk A' 2 → WE C A' (PySem.call (.ref 59) (.ref row :: rest)) (fun v N' => v = .none ∧ (∃ d vs n, (row, sq (.ref accA) d vs n) ∈ N') ∧ Q (.ref row) N') ((row, sq (.ref accA) (some D) [] 0) :: (D, emptyDict) :: N) Φ) :
    WE C A (PySem.call (.ref accA) rest) Q N Φ := by
  refine Classical.byContradiction fun hn => ?_
  obtain ⟨oc, od, cd, sl, hc, ab, del, hsl, hmro⟩ := W.cls
  refine hn ?_
  clear hn
  have hcd : clsIn C.K accA = some cd := by unfold clsIn; rw [hc]
  have isT : ∀ {N : Led} {A : Around} {Q : Bool → Led → Prop}, Q true N → WE C A (isType (.ref accA)) Q N Φ := fun q => by
    unfold isType
    exact WE.bind (WE.loadPart (.inl hc) (WE.pure q))
  refine WE.call ?_
  intro s r R kk
  refine codeAny_of_tree ?_
  show wpAny _ A.in1 (callAny (.ref accA) ⟨rest, []⟩) _ _ _
  refine wpAny_bind (wpAny_load (R.st hc) ?_)
  show wpAny _ _ (callAny.viaDunder (.ref accA) _) _ _ _
  unfold callAny.viaDunder
  refine wpAny_bind ((sp_call W (Q := fun v N' => v = some (.builtin "type.__call__") ∧ N' = N) ⟨rfl, rfl⟩).use R fun v s₁ N₁ R₁ pz0 => ?_)
  obtain ⟨e1, e2⟩ := pz0
  subst e1; subst e2
  dsimp only
  rw [tc_bind]
  refine wpAny_bind (wpAny_pure (wpAny_bind (wpAny_pure ?_)))
  refine wpAny_pure (a := PySem.Fin.again (.call (.builtin "type.__call__") ⟨.ref accA :: rest, []⟩)) (And.intro rfl ?_)
  have typ : Looks C.M s₁.heap (isInstance (.ref accA) (.type "type")) true := looks_instIn R₁.inK W.typ
  refine codeAny_call_builtin_at (Code.quiet_builtin _ (by decide +kernel)) entry_typeCall (check_slot tc_kind tc_split typ (tc_args _ _ _) ?_)
  have ho2 : AOk (A.under (.builtin "type.__call__" ⟨.ref accA :: rest, []⟩)) 2 := ho.under (Nat.le_of_eq rfl) (by show 1 ≤ 5; decide)
  generalize A.under (.builtin "type.__call__" ⟨.ref accA :: rest, []⟩) = A₂ at ho2
  refine (?_ : FX C A A₂ (Builtin.«type.__call__» ⟨.ref accA :: rest, []⟩) Q N₁ Φ) s₁ r R₁ kk
  unfold Builtin.«type.__call__»
  dsimp only
  rw [if_neg (by decide)]
  refine FX.bind (WE.looks (r := cd.mro) (fun s R => fun A Q E s k q => wpAny_bind ((looks_clsIn R.inK hcd) A _ E s k (wpAny_pure q))) ?_)
  rw [hmro]
  rw [if_neg (by decide)]
  refine FX.bind (made_l W ?_)
  refine FX.bind (WE.pure ?_)
  refine FX.bind (WE.holding ?_)
  refine (fun s E R => wpAny_call (codeAny_of_tree ?_) : WE C A₂ _ _ N₁ Φ)
  show wpAny _ A₂.in1 (do checkBuiltinCall "list.__new__" ⟨.ref accA :: rest, []⟩; again (.builtin "list.__new__" ⟨.ref accA :: rest, []⟩)) _ _ s
  have hck : WE C A₂.in1 (checkBuiltinCall "list.__new__" ⟨.ref accA :: rest, []⟩) (fun _ N' => N' = N₁) N₁ Φ := by
    unfold checkBuiltinCall
    rw [new_kind, new_split]
    refine WE.of_eq (if_pos (by decide)) ?_
    refine WE.bind (isT ?_)
    try dsimp only [Bool.not_true]
    rw [if_neg (by decide)]
    refine WE.bind (WE.looks (fun s R => looks_mroIn R.inK G.P.F.sub) ?_)
    try dsimp only [Bool.not_true]
    rw [if_neg (by decide)]
    refine WE.bind (base_l W ?_)
    refine WE.bind (made_l W ?_)
    dsimp only
    rw [if_neg (by decide)]
    cases hsig : Manifest.signature? "list.__new__" with
    | none => exact WE.pure rfl
    | some sig => exact WE.of_eq (args_some hsig (new_args (.ref accA) rest)) (WE.pure rfl)
  refine wpAny_bind (hck.use R fun _ s₂ N₂ R₂ e => ?_)
  subst e
  refine wpAny_pure ⟨plainId_quiet PySem.F.plain_list_new _, codeAny_builtin_stack PySem.F.entry_list_new rfl fun p st => ?_⟩
  rw [Around.under_plainId PySem.F.plain_list_new _]
  dsimp only
  rw [owner_list_new]
  refine wpAny_bind ((isT (Q := fun v N' => v = true ∧ N' = N₂) ⟨rfl, rfl⟩).use R₂ fun v s₃ N₃ R₃ pz0 => ?_)
  obtain ⟨e1, e2⟩ := pz0
  subst e1; subst e2
  try dsimp only [Bool.not_true]
  rw [if_neg (by decide)]
  refine wpAny_bind ((WE.looks (Q := fun v N' => v = true ∧ N' = N₃) (fun s R => looks_mroIn R.inK G.P.F.sub) ⟨rfl, rfl⟩).use R₃ fun v s₄ N₄ R₄ pz0 => ?_)
  obtain ⟨e1, e2⟩ := pz0
  subst e1; subst e2
  try dsimp only [Bool.not_true]
  rw [if_neg (by decide)]
  refine wpAny_bind (wpAny_pure ?_)
  show wpAny _ _ (newDict >>= _) _ _ _
  refine wpAny_bind ((WE.newObj (T := "dict") (d := .dict #[]) (Q := fun v N' => ∃ D, v = .ref D ∧ New D N₄ ∧ N' = (D, emptyDict) :: N₄) (by size_fits) rfl fun D hD => ⟨D, rfl, hD, rfl⟩).use R₄ fun v s₅ N₅ R₅ pz0 => ?_)
  refine Classical.byContradiction fun hn => ?_
  obtain ⟨D, e1, hD, e2⟩ := pz0
  refine hn ?_
  clear hn
  subst e1; subst e2
  dsimp only
  refine wpAny_bind ?_
  have hnew : WE C A₂.in1 (PySem.newObj (.ref accA) (.seq #[]) (some D)) (fun v N' => ∃ row, v = .ref row ∧ New row ((D, emptyDict) :: N₄) ∧ N' = (row, sq (.ref accA) (some D) [] 0) :: (D, emptyDict) :: N₄) ((D, emptyDict) :: N₄) Φ := by
    unfold PySem.newObj
    dsimp only
    rw [if_neg (by simp)]
    unfold newObjAsIs classHasDel
    refine WE.bind (WE.alloc rfl fun row hrow => ?_)
    refine WE.bind (WE.bind (WE.load (.inl hc) ?_))
    dsimp only
    rw [del]
    exact WE.pure (WE.pure ⟨row, rfl, hrow, rfl⟩)
  refine (hnew.use R₅ fun v s₆ N₆ R₆ pz0 => ?_)
  refine Classical.byContradiction fun hn => ?_
  obtain ⟨row, e1, hrow, e2⟩ := pz0
  refine hn ?_
  clear hn
  subst e1; subst e2
  refine wpAny_pure ?_
  have hro : New row N₄ := fun p hp e => hrow p (.tail _ hp) e
  have hrD : row ≠ D := fun e => hrow _ (.head _) e.symm
  refine ⟨_, R₆, ?_⟩
  have hS : mroIn C.K accA (.ref accA) = some true := G.S.self
  refine FX.bind ?_
  unfold isInstance
  refine WE.bind (WE.typeOf (.inr (.head _)) (WE.looks (fun s R => looks_mroIn R.inK hS) ?_))
  try dsimp only [Bool.not_true]
  rw [if_neg (by decide)]
  refine FX.bind (WE.holding ?_)
  unfold callSpecial? specialOf
  refine WE.bind (WE.bind (WE.typeOf (.inr (.head _)) (WE.find G.P.F.init ?_)))
  dsimp only
  have tyf : typeIn C.K (.ref 59) = some (.type "function") := by
    refine Classical.byContradiction fun hn => ?_
    obtain ⟨pm, ct, hf⟩ := G.f_init
    obtain ⟨o, h1, h2⟩ := hf.cls
    refine hn ?_
    clear hn
    rcases h1 with h1 | h1
    · show (C.K.lookup 59).map (·.cls) = _
      rw [show C.K.lookup 59 = some o from h1]; exact congrArg some h2
    · cases h1
  refine WE.holding (WE.bind (WE.looks (fun s R => bind_fn R.inK _ tyf) ?_))
  refine WE.bind ((h row D hro hD hrD ho2).mono fun v N' pz0 => ?_)
  refine Classical.byContradiction fun hn => ?_
  obtain ⟨e1, e2, hq⟩ := pz0
  refine hn ?_
  clear hn
  subst e1
  refine WE.pure ?_
  dsimp only
  rw [if_neg (by decide)]
  exact FX.ret hq
end Mine.Internal
end
section
open PySem PySem.W PyProof.Rows PySem.Calls PySem.Spec PySem.Builtin.List
set_option maxRecDepth 100000
namespace Mine.Internal
variable {C : Cx} {N N' : Led} {Φ : Frs} {A : Around} {mg mb : Lo}
structure All (C : Cx) (mg mb : Lo) : Prop where
  G : AccP C mg mb
  T : AttF C
  W : NewF C
theorem init_binds2 (G : AccP C mg mb) (row : Addr) (v : Value) (pm ct : Value) (s : Shared) (R : Rep C N Φ s) : BindsTo s (mkFd (clOf 0) 59 (("_Accumulator." : Str) ++ stName (clOf 0)) [("__class__", 46)] (.ref 51) pm ct) ⟨[.ref row, v], []⟩ [("self", .ref row), ("initial_size", v)] := by
  refine Classical.byContradiction fun hn => ?_
  obtain ⟨o, n, t, ho, hd⟩ := G.d_init
  refine hn ?_
  clear hn
  exact .of_defaults (T := 51) rfl (R.st ho) hd rfl rfl
theorem new_acc {hd : Int} {t : Tok} {Q : Value → Led → Prop} (H : All C mg mb) (ho : AOk A 3) (q : ∀ N' row D n, Ext N N' → New row N → New D N → row ≠ D → Row N' row D hd [] n → Q (.ref row) N') : WE C A (PySem.call (.ref accA) [.int hd t]) Q N Φ := by
  refine c_new H.G H.W ho fun row D hr hD hne A' ho' => ?_
  refine c_init H.G H.T ho' (.head _) (.tail _ (.head _)) (fun pm ct s R => init_binds2 H.G row _ pm ct s R) fun N' hsh tk ep k hk h1 h2 => ?_
  refine ⟨rfl, ⟨_, _, _, h1⟩, q N' row D k (fun p hp => hk p (.tail _ (.tail _ hp)) (hr p hp) (hD p hp)) hr hD hne ⟨h1, _, _, _, _, h2⟩⟩
theorem new_acc0 {Q : Value → Led → Prop} (H : All C mg mb) (ho : AOk A 3) (q : ∀ N' row D n, Ext N N' → New row N → New D N → row ≠ D → Row N' row D 0 [] n → Q (.ref row) N') : WE C A (PySem.call (.ref accA) []) Q N Φ := by
  refine c_new H.G H.W ho fun row D hr hD hne A' ho' => ?_
  refine Classical.byContradiction fun hn => ?_
  obtain ⟨o, n, t, ho, hd⟩ := H.G.d_init
  refine hn ?_
  clear hn
  refine c_init (v := .int 0 t) H.G H.T ho' (.head _) (.tail _ (.head _)) (fun pm ct s R => .of_defaults (T := 51) rfl (R.st ho) hd rfl rfl) fun N' hsh tk ep k hk h1 h2 => ?_
  refine ⟨rfl, ⟨_, _, _, h1⟩, q N' row D k (fun p hp => hk p (.tail _ (.tail _ hp)) (hr p hp) (hD p hp)) hr hD hne ⟨h1, _, _, _, _, h2⟩⟩
theorem c_row {v : Value} {ps : List Pc} {hd : Int} {t : Tok} {Q : Value → Led → Prop} (H : All C mg mb) (ho : AOk A 4) (hv : IsPL N v ps) (hs : ps.length ≤ 2 ^ 16)
    (q : ∀ N' row D vs n, Ext N N' → New row N → New D N → Row N' row D hd vs n → PcL N' vs ps → Q (.ref row) N') : WE C A (PySem.call (.ref 154) [v, .int hd t]) Q N Φ := by
  have G := H.G.P
  obtain ⟨a, us, n, rfl, ha, hp⟩ := hv
  have hl := hp.length
  obtain ⟨pm, hf⟩ := G.f_row
  refine WE.call (CE.fnCells (binds := [("bag", .ref a), ("head", .int hd t)]) (cs := fun L => []) (k := 3) G.G ho hf.any rfl rfl rfl (fun _ => rfl) fun L => ?_)
  refine s_cons ?_
  refine s_assign (.inl ⟨rfl, rfl, rfl⟩) ?_
  refine e_call rfl ?_
  refine e_glob G.G G.g_acc ?_
  refine cw_acc H.W rfl ?_
  refine a_cons (e_local (v := .int hd t) rfl (a_nil ?_))
  refine new_acc H ho.deeper fun N₁ row D k e1 hr hD hne hrow => ?_
  refine s_cons ?_
  refine s_for_list G.F ho.h ?_
  refine e_local (v := .ref a) rfl ?_
  refine ⟨a, _, none, us, n, fun i N' m' => Ext N N' ∧ (∃ vs n, Row N' row D hd vs n ∧ PcL N' vs (ps.take i)) ∧ m' "row" = some (.ref row), rfl, .inl rfl, .inr (e1 _ ha), ⟨e1, ⟨[], k, hrow, trivial⟩, setLo_self ..⟩, ?_, ?_, ?_⟩
  · rintro i N' m' ⟨e, _⟩
    exact ⟨n, .inr (e _ ha)⟩
  · rintro i N' m' x I hi ⟨e, ⟨vs, k', r, hpv⟩, mr⟩ hx
    refine Classical.byContradiction fun hn => ?_
    obtain ⟨p, hpi, hxp⟩ := hp.get' hx
    refine hn ?_
    clear hn
    obtain ⟨b, nb, t1, t2, rfl, hb⟩ := hxp.mono e
    have hvl := hpv.length
    rw [List.length_take] at hvl
    refine as_pair (v := .str (S1 p) t1) (w := .str (S2 p) t2) (n := nb) ho.h rfl (.inl ⟨rfl, rfl, rfl⟩) (.inl ⟨rfl, rfl, rfl⟩) (.inr hb) ?_
    refine s_cons ?_
    refine s_expr ?_
    refine e_meth ?_
    refine e_local (v := .ref row) (by rw [setLo_ne (by decide), setLo_ne (by decide)]; exact mr) ?_
    refine getMethod_R G.F H.G.f_push r (by decide) G.F.push ?_
    refine H.G.f_push.cwc rfl ?_
    refine a_cons (e_local (v := .str (S1 p) t1) (by rw [setLo_ne (by decide)]; exact setLo_self ..) (a_cons (e_local (v := .str (S2 p) t2) (setLo_self ..) (a_nil ?_))))
    refine c_push H.G (ho.deeper.le (by decide)) r (by rw [sizeLine_eq]; lia) fun tt N₂ k₂ ht U => ?_
    refine ⟨s_nil ⟨.inl rfl, U.ext e.c1 fun p hp he => hr p hp he, ⟨_, k₂, (r.mono (Ext.cons _ _)).upd U (Ne.symm hne), ?_⟩, ?_⟩, fun _ h => nomatch h⟩
    · rw [List.take_add_one, hpi]
      exact (U.pcl (hpv.mono (Ext.cons _ _))).append ⟨U.pc _ _ ⟨tt, 0, t1, t2, rfl, .head _⟩, trivial⟩
    · rw [setLo_ne (by decide), setLo_ne (by decide)]; exact mr
  · rintro N' m' ⟨e, ⟨vs, k', r, hpv⟩, mr⟩
    rw [hl, List.take_length] at hpv
    refine s_cons ?_
    refine s_ret ?_
    refine e_local (v := .ref row) mr ?_
    exact q N' row D vs k' e hr hD r hpv
end Mine.Internal
end
section
open PySem PySem.W PyProof.Rows PySem.Calls PySem.Spec PySem.Builtin.List
set_option maxRecDepth 100000
namespace Mine.Internal
variable {C : Cx} {N N' : Led} {Φ : Frs} {A : Around} {mg mb : Lo}
theorem same_none {a : Addr} {Q : Bool → Led → Prop} (q : Q false N) : WE C A (isSame (.ref a) .none) Q N Φ := by
  unfold isSame
  exact WE.pure q
theorem same_refs {a b : Addr} {oa ob : Obj} {Q : Bool → Led → Prop} (ha : Has C N a oa) (hb : Has C N b ob) (hc : oa.cls = .ref accA ∨ oa.cls = .type "list") (q : Q (a == b) N) : WE C A (isSame (.ref a) (.ref b)) Q N Φ := by
  unfold isSame
  dsimp only
  cases h : a == b with
  | true => rw [if_pos rfl]; rw [h] at q; exact WE.pure q
  | false =>
    rw [if_neg (by decide)]
    rw [h] at q
    refine WE.bind (WE.load ha (WE.bind (WE.load hb ?_)))
    obtain ⟨c, _, d, _⟩ := oa
    rcases hc with e | e <;> cases e <;> exact WE.pure q
theorem o_is {v w : Value} {Q : Value → Led → Prop} (h : WE C A (isSame v w) (fun b N' => Q (.bool b) N') N Φ) : WE C A (compareOp .Is v w) Q N Φ := WE.bind (h.mono fun b N' q => WE.pure q)
theorem o_isNot {v w : Value} {Q : Value → Led → Prop} (h : WE C A (isSame v w) (fun b N' => Q (.bool (!b)) N') N Φ) : WE C A (compareOp .IsNot v w) Q N Φ := WE.bind (h.mono fun b N' q => WE.pure q)
theorem s_setsub {env : Env} {K : Fk} {m : Lo} {o i : Expr} {pos' pos : Pos} {value : Expr} {Q : Flow → Led → Lo → Prop}
    (h : WE C A (eval value env) (fun v N₁ => WE C A (eval o env) (fun ov N₂ => WE C A (eval i env) (fun iv N₃ => WE C A (setItem ov iv v) (fun _ N₄ => Q .next N₄ m) N₃ (.fr K m :: Φ)) N₂ (.fr K m :: Φ)) N₁ (.fr K m :: Φ)) N (.fr K m :: Φ))
    (hs : swapsWithSole [.Subscript o i pos'] value pos.line env = pure false := by rfl) (hw : swappedStores [.Subscript o i pos'] value env = pure none := by rfl) :
    WS C A (exec (.Assign [.Subscript o i pos'] value pos) env) Q N K m Φ := by
  refine WS.of_WE (fun s E R => ?_)
  refine wpAny_Assign_stores (h.use R fun v s₁ N₁ R₁ h₁ => ?_) hs hw
  show wpAny _ _ (assign (.Subscript o i pos') env v) _ _ _
  obtain ⟨l, e⟩ : ∃ l, assign (.Subscript o i pos') env v = (do
    let ov ← holding [v] (eval o env)
    let iv ← holding [v, ov] (eval i env)
    standAt pos'
    holding [v, ov, iv] (setItem ov iv v)
    release (l iv ov) []) := ⟨fun iv ov => _, rfl⟩
  rw [e]
  refine wpAny_bind (wpAny_holding (h₁.use R₁ fun ov s₂ N₂ R₂ h₂ => ?_))
  refine wpAny_bind (wpAny_holding (h₂.use R₂ fun iv s₃ N₃ R₃ h₃ => ?_))
  refine wpAny_bind (wpAny_standAt (wpAny_bind (wpAny_holding (h₃.use R₃ fun _ s₄ N₄ R₄ h₄ => ?_))))
  exact wpAny_release' ⟨N₄, R₄, h₄⟩
theorem args_set (a b c : Value) : argsOk "list.__setitem__" ⟨[a, b, c], []⟩ := by
  unfold argsOk; rw [signature?_of (id := "list.__setitem__") (n := ['_', '_', 'm', 'e', 't', 'i', 't', 'e', 's', '_', '_']) (o := ['t', 's', 'i', 'l']) (by kernel_rfl) PySem.F.owner_list]; kernel_rfl
section sset
variable {a : Addr} {cl : Value} {d : Option Addr} {n : Nat} {ws : List Value} {k : Nat}
theorem setItem_all {sl b : Addr} {Q : Unit → Led → Prop} (F : AccF C) (hc : LsC cl) (h : (a, sq cl d [] n) ∈ N) (hsl : Has C N sl (slc .none .none .none)) (hb : Has C N b (lst ws k)) (hne : a ≠ b) (hs : ws.length ≤ sizeLine)
    (q : ∀ k', Q () (updL N a (sq cl d ws k'))) : WE C A (setItem (.ref a) (.ref sl) (.ref b)) Q N Φ := by
  unfold setItem
  refine WE.holding (WE.bind (WE.seqKey F hc (.inr h) ?_))
  refine WE.bind (WE.callSpecialL sl_setitem F.setitem hc (.inr h) (sl_setitem.call F hc (.inr h) (args_set _ _ _) ?_))
  unfold Builtin.«list.__setitem__»
  refine FE.bind (WE.pure ?_)
  dsimp only
  refine FE.bind ?_
  unfold listSubscript?
  refine WE.bind (WE.bind (WE.typeOf hsl (WE.of_eq slice_no_index (WE.pure ?_))))
  refine WE.of_eq (if_pos rfl) (WE.pure ?_)
  dsimp only
  refine FE.bind (WE.typeOf hsl ?_)
  rw [if_neg (show ¬ ((Value.type "slice" != Value.type "slice") = true) from by decide)]
  rw [listSliceParts_eq]
  refine FE.bind (WE.bind (WE.field hsl rfl (v := .none) rfl (WE.bind (WE.listPart .none ?_))))
  rw [if_neg (by decide)]
  refine WE.bind (WE.field hsl rfl (v := .none) rfl (WE.bind (WE.listPart .none ?_)))
  refine WE.bind (WE.field hsl rfl (v := .none) rfl (WE.bind (WE.listPart .none (WE.pure ?_))))
  dsimp only
  have hsm : listSameRef (.ref a) (.ref b) = false := by simp [listSameRef, hne]
  rw [hsm]
  rw [if_neg (by decide)]
  refine FE.bind ?_
  unfold listAllItems
  refine WE.bind (WE.typeOf hb ?_)
  rw [if_pos (by show ((Value.type "list" == Value.type "list") || _) = true; rfl)]
  refine WE.listItems hb ?_
  refine FE.bind (WE.listItems (.inr h) ?_)
  refine FE.bind (WE.of_eq (sliceIndices_raw none none none ([] : List Value).toArray.size (by decide)) (WE.pure ?_))
  have hb0 : sliceBounds none none none (([] : List Value).toArray.size) = (0, 0, 1) := by decide +kernel
  rw [hb0]
  dsimp only
  rw [if_pos (by decide)]
  refine FE.bind (WE.rule ?_)
  have hl : listTooLong (([] : List Value).toArray.size + ws.toArray.size) = false := by simp [listTooLong]; lia
  rw [hl, if_neg (by decide)]
  refine FE.bind (WE.listUpdate (ws := ws) h (by simp) (by lia) fun k' => ?_)
  refine FE.bind ?_
  exact (fun s E R => wpAny_letGo ⟨_, R, FE.ret (WE.pure (q k'))⟩)
end sset
theorem c_reset {row D b : Addr} {hd : Int} {n k : Nat} {ws : List Value} {Q : Value → Led → Prop} (H : All C mg mb) (ho : AOk A 2) (hr : Row N row D hd [] n) (hb : (b, lst ws k) ∈ N) (hs : ws.length ≤ sizeLine)
    (q : ∀ N' n', (∀ p ∈ N, p.1 ≠ row → p.1 ≠ D → p ∈ N') → Row N' row D 0 ws n' → Q .none N') : WE C A (PySem.call (.ref 104) [.ref row, .ref b]) Q N Φ := by
  refine Classical.byContradiction fun hn => ?_
  obtain ⟨pm, ct, hf⟩ := H.G.f_reset
  refine hn ?_
  clear hn
  refine WE.fn fun fn => ?_
  have hDr := hr.ne fn
  have hrb : row ≠ b := fun e => by
    subst e
    have := fn _ _ _ hr.obj hb
    cases this
  refine WE.call (CE.fnDef (binds := [("self", .ref row), ("startval", .ref b)]) (k := 1) H.G.P.G ho hf.any rfl ?_ fun L => ?_)
  · intro s R
    refine Classical.byContradiction fun hn => ?_
    obtain ⟨o, n0, ho0, hd0⟩ := H.G.d_reset
    refine hn ?_
    clear hn
    exact .of_defaults (T := 97) rfl (R.st ho0) hd0 rfl rfl
  refine Classical.byContradiction fun hn => ?_
  obtain ⟨hsh, tk, t, ep, hD⟩ := hr.dict
  refine hn ?_
  clear hn
  refine s_cons ?_
  refine s_if ?_
  refine t_cmp ?_
  refine e_local (v := .ref b) rfl ?_
  refine e_none ?_
  refine o_is (same_none ?_)
  refine o_tBool ?_
  refine ite_n (by decide) ?_
  refine s_nil ?_
  refine s_cons ?_
  refine s_setsub ?_
  refine e_local (v := .ref b) rfl ?_
  refine e_local (v := .ref row) rfl ?_
  refine e_slice (e_part0 (e_part0 (e_part0 fun sl hsl => ?_)))
  refine setItem_all H.G.P.F (.inr rfl) (.tail _ hr.obj) (.inr (.head _)) (.inr (.tail _ hb)) hrb hs fun k' => ?_
  refine s_cons ?_
  refine s_attr ?_
  refine e_int fun t2 => ?_
  refine e_local (v := .ref row) rfl ?_
  refine set_size H.G.P.F H.T H.G.S (updL_self _ _ _) (updL_but _ _ _ _ (.tail _ hD) hDr) (.inr ⟨_, _, _, _, rfl⟩) fun hsh' tk' ep' => ?_
  refine s_nil ?_
  refine q _ k' (fun p hp h1 h2 => updL_but _ _ _ _ (updL_but _ _ _ _ (.tail _ hp) h1) h2) ⟨updL_but _ _ _ _ (updL_self _ _ _) (Ne.symm hDr), _, _, _, _, updL_self _ _ _⟩
end Mine.Internal
end
section
open PySem PySem.W PyProof.Rows PySem.Calls PySem.Spec PySem.Builtin.List Builtin Builtin.ObjectAttr
set_option maxRecDepth 100000
namespace Mine.Internal
variable {C : Cx} {N N' : Led} {Φ : Frs} {A : Around} {mg mb : Lo}
theorem entry_ga : entryFor table "list.__getattribute__" = some Builtin.«object.__getattribute__» := PySem.am_entry_list_getattribute
theorem sl_ga : LSlot "__getattribute__" "list.__getattribute__" Builtin.«object.__getattribute__» := ⟨list_getattribute, .inl (by decide +kernel), ⟨"__getattribute__", by decide +kernel⟩, fun self => by kernel_rfl, by decide +kernel, entry_ga⟩
theorem ga_args (a b : Value) : argsOk "list.__getattribute__" ⟨[a, b], []⟩ := by unfold argsOk; kernel_rfl
end Mine.Internal
end
section
open PySem PySem.W PyProof.Rows PySem.Calls PySem.Spec PySem.Builtin.List
set_option maxRecDepth 100000
namespace Mine.Internal
variable {C : Cx} {N N' : Led} {Φ : Frs} {A : Around} {mg mb : Lo}
theorem accWalks {prog : Program} {w : World} {l I : Addr} {cl : Value} {d : Option Addr} {vs : List Value} {k : Nat} (hne : l ≠ I) (Ts : Nat → Addr) (vals : Nat → Array Value) (hT : ∀ i, i < vs.length → vs[i]? = some (.ref (Ts i)) ∧ Ts i ≠ I)
    (A' : Around) (hh : A'.handled = none) : WalksU prog w A' I ([I, l] ++ (List.range vs.length).map Ts) [I] vs.length (fun i a => i < vs.length ∧ a = vals i)
      (fun i h => h.get? I = some (itO l i) ∧ h.get? l = some (sq cl d vs k) ∧ ∀ j, j < vs.length → h.IsTuple (Ts j) (vals j))
      (fun i T h => T = Ts i ∧ T ≠ I ∧ h.get? I = some (itO l (i + 1)) ∧ h.get? l = some (sq cl d vs k) ∧ ∀ j, j < vs.length → h.IsTuple (Ts j) (vals j)) where
  sub := fun b hb => by simp at hb; simp [hb]
  frame := fun i h h' st hk => ⟨hk I (by simp) _ st.1, hk l (by simp) _ st.2.1, fun j hj => let ⟨o, e, r⟩ := st.2.2 j hj; ⟨o, hk _ (by simp; exact .inr (.inr ⟨j, hj, rfl⟩)) _ e, r⟩⟩
  item := fun i s Q E hi st hQ => by
    refine next_item st.1 st.2.1 (hT i hi).1 fun h' h1 h2 => ?_
    have st' : ∀ j, j < vs.length → h'.IsTuple (Ts j) (vals j) := fun j hj => let ⟨o, e, r⟩ := st.2.2 j hj; ⟨o, h2.extBut _ _ (hT j hj).2 e, r⟩
    exact hQ _ (vals i) h' s.toks ⟨hi, rfl⟩ (st' i hi) ⟨rfl, (hT i hi).2, h1, h2.extBut _ _ hne st.2.1, st'⟩ fun b o hb e => h2.extBut b o (fun q => hb (by simp [q])) e
  go := fun elts kk pos i T s Q E st hQ => wpAny_letOwnedTupleGo_listiter ⟨_, st.2.2.1, rfl, rfl⟩ (hQ s.heap ⟨st.2.2.1, st.2.2.2.1, st.2.2.2.2⟩ fun _ _ _ e => e)
  apart := fun i T h st hm => st.2.1 (by simpa using hm)
  done := fun s Q E st hQ => next_end hh st.1 st.2.1 fun h' he => hQ h' s.toks fun b o hb e => he b o (fun q => hb (by simp [q])) e
  self := fun i s Q E st hQ => wpAny_pyIter_listiter (l := l) (i := i) ⟨_, st.1, rfl, rfl⟩ hQ
theorem WalksS.ahead {prog : Program} {w : World} {I : Addr} {fp wr : List Addr} {Gn : Array GenState → Array GenState → Prop} {n : Nat} {P : Nat → Value → Prop} {St : Nat → Shared → Prop} (W : WalksS prog w A I fp wr Gn n P St) :
    WalksS prog w A I fp wr Gn (n + 1) (fun i v => match i with | 0 => False | i + 1 => P i v) (fun i s => match i with | 0 => False | i + 1 => St i s) where
  sub := W.sub
  grefl := W.grefl
  gtrans := W.gtrans
  frame := fun i s h' tk st => match i, st with | i + 1, st => W.frame i s h' tk st
  item := fun i s Q E hi st hQ => match i, hi, st, hQ with | i + 1, hi, st, hQ => W.item i s Q E (Nat.lt_of_succ_lt_succ hi) st hQ
  done := fun s Q E st hQ => W.done s Q E st hQ
  self := fun i s Q E st hQ => match i, st with | i + 1, st => W.self i s Q E st hQ
end Mine.Internal
end
section
open PySem PySem.W PyProof.Rows PySem.Calls PySem.Spec PySem.Builtin.List
set_option maxRecDepth 100000
namespace Mine.Internal
variable {C : Cx} {N N' : Led} {Φ : Frs} {A : Around} {mg mb : Lo}
structure TabF (C : Cx) (mg mb : Lo) : Prop where
  bmain : ∃ bm o, mg "__builtins__" = some (.ref bm) ∧ bm ≠ builtinsNs ∧ bm ≠ mainGlobals ∧ C.g bm = some o ∧ o.cls = .type "module" ∧ o.dict = some builtinsNs ∧ o.data = .plain
  cst : ∃ o, C.g cStatics = some o
  t84 : 84 ∈ C.tabs
  h84 : codeHdIn C.K 88 84 = true
  q84 : C.qual 84 = "_Accumulator.__len__.<locals>.<genexpr>"
theorem bfor {s : Shared} {E} {Q : Addr → Shared → Prop} {r : Addr} (T : TabF C mg mb) (G : Glo C mg mb) (R : Rep C N Φ s) (q : Q builtinsNs s) : wpAny C.M A (builtinsFor mainGlobals r) Q E s := by
  refine Classical.byContradiction fun hn => ?_
  obtain ⟨bm, o, h1, h2, h3, h4, h5, h6, h7⟩ := T.bmain
  refine hn ?_
  clear hn
  exact wpAny_builtinsFor (G.g _ R.stat) h1 h2 (R.st h4) h5 h6 h7 q
theorem gcode {s : Shared} {E} {Q : Value → Shared → Prop} {env : Env} {pos : Pos} {scope : Scope} {c P : Addr} {q : Str} (hc : env.code = .ref c) (hP : P ∈ C.tabs) (hd : codeHdIn C.K c P = true) (hq : C.qual P = q) (R : Rep C N Φ s)
    (k : ∀ cv s', (∃ h' tk, s' = { s with heap := h', toks := tk } ∧ s.heap.objs.size ≤ h'.objs.size ∧ Heap.ExtBut P s.heap h') → Rep C N Φ s' → Q cv s') : wpAny C.M A (genexprCode env pos q scope) Q E s := by
  refine Classical.byContradiction fun hn => ?_
  obtain ⟨ps, h1, h2, h3⟩ := R.tabAt hP
  refine hn ?_
  clear hn
  have CH := codeHd_of_K R.inK hd
  cases hf : codeAmong pos ps.toList with
  | some cv => exact wpAny_genexprCode_hit hc (CH.code h1 h2) hf (k cv s ⟨s.heap, s.toks, rfl, Nat.le_refl _, fun _ _ _ e => e⟩ R)
  | none =>
    refine wpAny_genexprCodeX hc (CH.code h1 h2) (CH.tab h1) hf fun c' h' tk hx hge hlt hok hrec htab _ => ?_
    refine Classical.byContradiction fun hn => ?_
    obtain ⟨c₂, oc, vs, t, e2, hoc, hdd, hv⟩ := hrec
    refine hn ?_
    clear hn
    cases e2
    refine k _ _ ⟨h', tk, rfl, ?_, hx⟩ ?_
    · exact Nat.le_of_lt (Nat.lt_of_le_of_lt hge hlt)
    · refine (R.tabAdd hP h1 hx hge hoc ⟨vs, t, hdd, by rw [hq]; exact hv⟩ htab.2 ?_).drop (Ext.cons _ _)
      rw [Array.toList_append]; exact TriplesOk_snoc _ _ _ _ h2
theorem len_elt {s : Shared} {E} {env : Env} {L bi : Addr} {p : Pc} {t u : Tok} {m : Lo} {e : Expr} (G : Prg C mg mb) (hst : ∀ b o, C.g b = some o → s.heap.get? b = some o) (hn : s.heap.Ns env.locals m) (h1 : m "fws" = some (.str (S1 p) t)) (h2 : m "part" = some (.str (S2 p) u))
    {p1 p2 p3 p4 p5 p6 p7 : Pos}
    (hg : env.globals = mainGlobals) (hb : env.builtins = builtinsNs) (hk : env.scope.kind = .function) (hl : env.kindOf "len" = some .globalImplicit) (hf : env.kindOf "fws" = some .local) (hp : env.kindOf "part" = some .local) :
    wpAny C.M A (eval (.BinOp (.Call (.Name "len" p1) [.Name "fws" p2] [] p3) .Add (.Call (.Name "len" p4) [.Name "part" p5] [] p6) p7) env) (fun y s₃ => (∃ t, y = .int (sg p : Nat) t) ∧ Keeps s s₃) E s := by
  have ln : ∀ {s : Shared} {E} {Q : Value → Shared → Prop} {p1 p2 p3 : Pos} {x : Str} {v : Str} {t : Tok}, (∀ b o, C.g b = some o → s.heap.get? b = some o) → s.heap.Ns env.locals m → m x = some (.str v t) → env.kindOf x = some .local → (x == ("__debug__" : Str)) = false → v.length < 2 →
      (∀ t', Q (.int v.length t') { s with toks := s.toks + 1 + 1 }) → wpAny C.M A (eval (.Call (.Name "len" p1) [.Name x p2] [] p3) env) Q E s := by
    intro s E Q p1 p2 p3 x v t hst hn hx hkx hd hv hQ
    refine wpAny_Call_Name_kw ?_
    refine Name_function_global hk hl (loadGlobal_builtin (by rw [hg]; exact G.G.g _ hst) G.n_len (by rw [hb]; exact G.G.b _ hst) G.b_len ?_) (by decide)
    refine callWith_builtin rfl ?_
    refine evalArgs_plain (x := eval (.Name x p2) env) (rest := []) ?_
    refine wpAny_items_cons (e := .Name x p2) (rest := []) (env := env) (pos := p3) ?_ rfl
    refine wpAny_Name (wpAny_loadName_local hk hkx hn hx ?_) hd
    refine wpAny_pure ?_
    exact PySem.P.len_str (by lia) (hQ _)
  refine wpAny_BinOp ?_
  refine ln hst hn h1 hf (by decide) (s1_len p) fun t1 => ?_
  refine ln hst hn h2 hp (by decide) (s2_len p) fun t2 => ?_
  refine add_int ?_
  have e : ((S1 p).length : Int) + ((S2 p).length : Int) = ((sg p : Nat) : Int) := by rw [← s_len p]; simp
  exact ⟨⟨_, congrArg (fun i => Value.int i _) e⟩, _, _, rfl, fun _ _ e => e⟩
theorem passing_all (n : Nat) : ∀ k i, i + k = n → passing (fun _ => true) n i = (List.range n).drop i := by
  intro k
  induction k with
  | zero => intro i h; rw [show i = n by lia, passing_end, List.drop_eq_nil_of_le (by simp)]
  | succ k ih =>
    intro i h
    rw [passing_true (by lia) rfl, ih (i + 1) (by lia), ← range_drop (by lia)]
theorem preSum_ahead (val : Nat → Int) (h : Int) : ∀ n, preSum (fun i => match i with | 0 => h | i + 1 => val i) (n + 1) = h + preSum val n
  | 0 => by simp [preSum]
  | n + 1 => by
    rw [preSum, preSum_ahead val h n]
    show h + preSum val n + val n = h + (preSum val n + val n)
    lia
theorem gen_rest {env : Env} {scope : Scope} {cv : Value} {row I : Addr} {d : Option Addr} {vs : List Value} {n : Nat} {ps : List Pc} {s₃ : Shared} {Ts : Nat → Addr} {Tt : Nat → Tok × Tok} {Kont : Nat → Heap → Nat → GenState → Prop} {p1 p2 p3 p4 p5 p6 p7 : Pos} {D0 U0 : Nat} (G : Prg C mg mb)
    (R : Rep C N (.ob I (itO row 0) :: Φ) s₃) (hr : (row, sq (.ref accA) d vs n) ∈ N) (hT : ∀ i, i < vs.length → vs[i]? = some (.ref (Ts i)) ∧ ∃ nb, (Ts i, tup [.str (S1 (ps.getD i default)) (Tt i).1, .str (S2 (ps.getD i default)) (Tt i).2] nb) ∈ N)
    (hg : env.globals = mainGlobals) (hkd : scope.kind = .function) (hl : scope.names.lookup ("len" : Str) = some .globalImplicit) (hf : scope.names.lookup ("fws" : Str) = some .local) (hp : scope.names.lookup ("part" : Str) = some .local) (hcs : ∃ o, C.g cStatics = some o)
    (hK : ∀ a h₅ tk gs, gs.bare = true → s₃.heap.objs.size < a → h₅.objs.size = a + 1 → (∀ b o, s₃.heap.get? b = some o → h₅.get? b = some o) →
      (∃ P St, WalksS C.prog C.w A.in4 a (a :: s₃.heap.objs.size :: List.range s₃.heap.objs.size) (s₃.heap.objs.size :: [I]) (GenOnlyQ s₃.gens.size) vs.length P St ∧ (∀ j y, P j y → ∃ t, y = .int (sg (ps.getD j default) : Nat) t) ∧
        St 0 { s₃ with heap := h₅, gens := s₃.gens.push gs, toks := tk }) → Kont a h₅ tk gs) :
    ∃ I_1 fp wr n₀ Pt St₀ Mid pz F, Value.ref I = Value.ref I_1 ∧ (∀ A' : Around, A'.handled = none → WalksU C.prog C.w A' I_1 fp wr n₀ Pt St₀ Mid) ∧ (∀ (i : Nat) (vals : Array Value), Pt i vals → ∃ va vb, vals = #[va, vb]) ∧ St₀ 0 s₃.heap ∧ (∀ b ∈ fp, b < s₃.heap.objs.size) ∧ s₃.heap.NoLimit ∧ cStatics ∉ wr ∧
      (∀ href : Heap, (∀ b o, s₃.heap.get? b = some o → href.get? b = some o) →
        QuietGenTD C.prog C.w (genEnv scope [] s₃.heap.objs.size cv builtinsNs env) "fws" "part" [] (.BinOp (.Call (.Name "len" p1) [.Name "fws" p2] [] p3) .Add (.Call (.Name "len" p4) [.Name "part" p5] [] p6) p7) (List.range s₃.heap.objs.size) wr Pt pz F href D0 U0) ∧
      (∀ (a : Nat) (h₅ : Heap) (tk : Nat) (gs : GenState), gs.bare = true → s₃.heap.objs.size < a → h₅.objs.size = a + 1 → (∀ b o, s₃.heap.get? b = some o → h₅.get? b = some o) →
        WalksS C.prog C.w A.in4 a (a :: s₃.heap.objs.size :: List.range s₃.heap.objs.size) (s₃.heap.objs.size :: wr) (GenOnlyQ s₃.gens.size) (passing pz n₀ 0).length (fun j y => ∃ i, (passing pz n₀ 0)[j]? = some i ∧ F i y) (GenAt C.prog C.w A.in4 a s₃.gens.size s₃.heap.objs.size (List.range s₃.heap.objs.size) wr pz n₀ F) →
        GenAt C.prog C.w A.in4 a s₃.gens.size s₃.heap.objs.size (List.range s₃.heap.objs.size) wr pz n₀ F 0 { s₃ with heap := h₅, gens := s₃.gens.push gs, toks := tk } → Kont a h₅ tk gs) := by
  obtain ⟨z, rz⟩ := R.z
  have zI : z I = none := rz.frz I (mem_own (.head _) (.head _))
  have hI : s₃.heap.get? I = some (itO row 0) := R.frm (.head _)
  have hrow := R.get hr
  have apI : ∀ {a : Addr} {o : Obj}, (a, o) ∈ N → a ≠ I := fun h => rz.apart I (mem_own (.head _) (.head _)) _ h
  have hstI : ∀ b o, C.g b = some o → b ≠ I := fun b o e q => by rw [q] at e; have := rz.st _ _ e; rw [zI] at this; cases this
  have hT' : ∀ i, i < vs.length → vs[i]? = some (.ref (Ts i)) ∧ Ts i ≠ I := fun i hi => ⟨(hT i hi).1, let ⟨_, nb, h⟩ := hT i hi; apI h⟩
  have pall := passing_all vs.length vs.length 0 (Nat.zero_add _)
  rw [List.drop_zero] at pall
  refine ⟨I, _, _, vs.length, _, _, _, fun _ => true, fun i y => ∃ t, y = .int (sg (ps.getD i default) : Nat) t, rfl,
    fun A' hh => accWalks (k := n) (cl := .ref accA) (d := d) (apI hr) Ts (fun i => #[.str (S1 (ps.getD i default)) (Tt i).1, .str (S2 (ps.getD i default)) (Tt i).2]) hT' A' hh, ?_, ?_, ?_, G.G.lim _ R.stat, ?_, ?_, ?_⟩
  · rintro i vals ⟨_, rfl⟩; exact ⟨_, _, rfl⟩
  · refine ⟨hI, hrow, fun j hj => ?_⟩
    refine Classical.byContradiction fun hn => ?_
    obtain ⟨_, nb, h⟩ := hT j hj
    refine hn ?_
    clear hn
    exact ⟨_, R.get h, rfl, nb, rfl⟩
  · intro b hb
    simp only [List.cons_append, List.nil_append, List.mem_cons, List.mem_map, List.mem_range] at hb
    rcases hb with rfl | rfl | ⟨j, hj, rfl⟩
    · exact Heap.lt_size hI
    · exact Heap.lt_size hrow
    · obtain ⟨_, nb, h⟩ := hT j hj
      exact Heap.lt_size (R.get h)
  · obtain ⟨o, ho⟩ := hcs
    simpa using hstI _ _ ho
  · intro href hk
    refine ⟨fun A' E' i va vb s₂ m₂ _ _ _ _ _ _ _ _ => wpAny_pure ⟨rfl, _, _, rfl, fun _ _ e => e⟩, fun A' E' i va vb s₂ m₂ _ _ _ hP _ hn h1 h2 hk2 => ?_⟩
    obtain ⟨hi, e⟩ := hP
    cases e
    refine len_elt (bi := 0) (e := .Name "x" default) (L := 0) G (fun b o e => ?_) hn h1 h2 hg rfl hkd hl hf hp
    have e1 := R.st e
    exact hk2 b (List.mem_range.mpr (Heap.lt_size e1)) (by simpa using hstI b o e) o (hk b o e1)
  · intro a h₅ tk gs hb hlt hsz hk W St
    rw [pall, List.length_range] at W
    refine hK a h₅ tk gs hb hlt hsz hk ⟨_, _, W, ?_, St⟩
    rintro j y ⟨i, hi, t, rfl⟩
    have : i = j := by
      rw [List.getElem?_eq_some_iff] at hi
      obtain ⟨hj, e⟩ := hi
      rw [← e]; simp
    exact ⟨t, by rw [this]⟩
end Mine.Internal
end
section
open PySem PySem.W PyProof.Rows PySem.Calls PySem.Spec PySem.Builtin.List
set_option maxRecDepth 100000
namespace Mine.Internal
variable {C : Cx} {N N' : Led} {Φ : Frs} {A : Around} {mg mb : Lo}
theorem args_sum2 (a b : Value) : argsOk "sum" ⟨[a, b], []⟩ := by unfold argsOk; kernel_rfl
noncomputable def valH (h : Int) (val : Nat → Int) : Nat → Int := fun i => match i with | 0 => h | i + 1 => val i
theorem call_sum2 {prog : Program} {w : World} {s : Shared} {E} {a : Addr} {hd : Int} {t : Tok} {Q : Value → Shared → Prop} {fp wr : List Addr} {Gn : Array GenState → Array GenState → Prop} {n : Nat} {P : Nat → Value → Prop} {St : Nat → Shared → Prop} {val : Nat → Int}
    (W : WalksS prog w A.in1 a fp wr Gn n P St) (hst : St 0 s) (hfp : ∀ b ∈ fp, b < s.heap.objs.size) (hval : ∀ i v, P i v → ∃ t, v = .int (val i) t) (h0 : 0 ≤ hd) (h1 : hd < 2 ^ 20)
    (hQ : ∀ s' t', Moved wr Gn s s' → Q (.int (hd + preSum val n) t') s') : wpAny (model prog w) A (call (.builtin "sum") [.ref a, .int hd t]) Q E s := by
  refine call_function_tree PySem.F.kind_sum PySem.F.plain_sum PySem.F.entry_sum (args_sum2 _ _) ?_
  unfold Builtin.«sum»
  dsimp only [List.length_cons, List.length_nil]
  rw [if_neg (by decide)]
  refine wpAny_bind (wpAny_of_eq (show Builtin.Builtins.bindParams "sum" ["start"] 0 ⟨[.int hd t], []⟩ = pure [some (.int hd t)] from rfl) ?_)
  refine wpAny_bind (W.self 0 s _ _ hst ?_)
  dsimp only
  have hfit : (decide (-(2 ^ 63) ≤ hd) && decide (hd < 2 ^ 63)) = true := by simp only [Bool.and_eq_true, decide_eq_true_eq]; lia
  rw [if_pos (by exact hfit)]
  refine wpAny_bind (wpAny_rule (wpAny_bind (wpAny_mkInt (wpAny_bind (wpAny_pure ?_)))))
  rw [List.forIn_cons]
  refine wpAny_bind (wpAny_bind (wpAny_bind (wpAny_isInstance (T := "int") (b := false) (typeIs_int _ _ _) PySem.sub_int_str ?_)))
  refine wpAny_pure ?_
  dsimp only
  rw [List.forIn_cons]
  refine (wpAny_bind (wpAny_bind (wpAny_isInstance (T := "int") (b := false) (typeIs_int _ _ _) PySem.sub_int_bytes ?_)))
  refine wpAny_pure ?_
  dsimp only
  rw [List.forIn_cons]
  refine (wpAny_bind (wpAny_bind (wpAny_isInstance (T := "int") (b := false) (typeIs_int _ _ _) PySem.sub_int_bytearray ?_)))
  refine wpAny_pure (wpAny_pure ?_)
  refine wpAny_bind (wpAny_newObj_type ?_)
  have hSf : s.heap.objs.size ∉ fp := fun hm => Nat.lt_irrefl _ (hfp _ hm)
  refine wpAny_pure ⟨plainId_quiet PySem.F.plain_sum_loop _, codeAny_sum_loopAnyS (n := n + 1) (WalksS.ahead W) (valH hd val) (fun i v h => by cases i with | zero => exact h.elim | succ i => exact hval i v h) s.heap.objs.size hSf n 1 _ s.toks 0 0 (.inl rfl) (by lia) (by lia)
    (W.frame 0 s _ _ hst (by first | exact Nat.le_refl _ | exact Nat.le_succ _ | lia) fun b _ o e => Heap.get?_push_of_some _ e) ?_ fun s' t' hm => ?_⟩
  · have : preSum (valH hd val) 1 = hd := by simp [preSum, valH]
    rw [this]
    exact Heap.get?_push_size _ rfl
  · have e : preSum (valH hd val) (n + 1) = hd + preSum val n := preSum_ahead val hd n
    rw [e]
    exact hQ s' t' (hm.drop_new (by first | exact Nat.le_refl _ | exact Nat.le_succ _ | lia))
noncomputable def QE {α : Type} (C : Cx) (A : Around) (t : Sem α) (Q : α → Prop) (N : Led) (Φ : Frs) : Prop :=
  ∀ s E (K : α → Shared → Prop), Rep C N Φ s → (∀ v tk, s.toks ≤ tk → Q v → K v { s with toks := tk }) → wpAny C.M A t K E s
section qe
variable {α β : Type}
theorem QE.pure {a : α} {Q : α → Prop} (h : Q a) : QE C A (Pure.pure a) Q N Φ := fun s E K R k => wpAny_pure (k a s.toks (Nat.le_refl _) h)
theorem QE.bind {t : Sem α} {f : α → Sem β} {Q : β → Prop} (h : QE C A t (fun v => QE C A (f v) Q N Φ) N Φ) : QE C A (t >>= f) Q N Φ := fun s E K R k =>
  wpAny_bind (h s E _ R fun v tk h1 q => q _ E K (R.tok tk) fun v' tk' h2 q' => k v' tk' (Nat.le_trans h1 h2) q')
theorem QE.of_eq {t t' : Sem α} {Q : α → Prop} (e : t = t') (h : QE C A t' Q N Φ) : QE C A t Q N Φ := e ▸ h
theorem QE.holding {vs : List Value} {t : Sem α} {Q : α → Prop} (h : QE C A t Q N Φ) : QE C A (holding vs t) Q N Φ := fun s E K R k => wpAny_holding (h s E K R k)
theorem QE.standAt {p : Pos} {Q : Unit → Prop} (q : Q ()) : QE C A (standAt p) Q N Φ := fun s E K R k => wpAny_standAt (k _ s.toks (Nat.le_refl _) q)
theorem QE.looks {t : Sem α} {r : α} {Q : α → Prop} (h : ∀ s, Rep C N Φ s → Looks C.M s.heap t r) (q : Q r) : QE C A t Q N Φ := fun s E K R k => (h s R).here (k r s.toks (Nat.le_refl _) q)
theorem QE.find {t : Value} {name : Str} {r : Option Value} {Q : Option Value → Prop} (e : findIn C.K t name = some r) (q : Q r) : QE C A (typeLookup t name) Q N Φ := QE.looks (fun s R => looks_findIn R.inK e) q
theorem QE.loadPart {a : Addr} {pt : Option Value} {o : Obj} {Q : Obj → Prop} (h : Has C N a o) (q : Q o) : QE C A (loadPart a pt) Q N Φ := fun s E K R k => wpAny_loadPart (R.has h) (k o s.toks (Nat.le_refl _) q)
theorem QE.typeOf {a : Addr} {o : Obj} {Q : Value → Prop} (h : Has C N a o) (q : Q o.cls) : QE C A (PySem.typeOf (.ref a)) Q N Φ := QE.bind (QE.loadPart h (QE.pure q))
theorem QE.mkText {x : Str} {Q : Value → Prop} (q : ∀ t, Q (.str x t)) : QE C A (mkText x) Q N Φ := fun s E K R k => wpAny_mkText (k _ (s.toks + 1) (Nat.le_succ _) (q _))
theorem QE.attempt {t : Sem α} {Q : Except Value α → Prop} (h : QE C A t (fun v => Q (.ok v)) N Φ) : QE C A t.attempt Q N Φ := fun s E K R k =>
  wpAny_attempt (h s _ _ R fun v tk h1 q => k _ tk h1 q)
end qe
theorem QE.isInstL {a : Addr} {d : Option Addr} {vs : List Value} {n : Nat} {Q : Bool → Prop} (F : AccF C) (h : Has C N a (sq (.ref accA) d vs n)) (q : Q true) : QE C A (isInstance (.ref a) (.type "list")) Q N Φ := by
  unfold isInstance
  exact QE.bind (QE.typeOf h (QE.looks (fun s R => looks_mroIn R.inK F.sub) q))
theorem get_sizeQ {row D : Addr} {hd : Int} {vs : List Value} {n : Nat} {Q : Value → Prop} (H : All C mg mb) (r : Row N row D hd vs n) (q : ∀ t, Q (.int hd t)) : QE C A (getAttr (.ref row) "_initial_size" true) Q N Φ := by
  refine Classical.byContradiction fun hn => ?_
  obtain ⟨cd, hcd, hmro⟩ := H.G.S.cd
  obtain ⟨hsh, tk, t, ep, hD⟩ := r.dict
  refine hn ?_
  clear hn
  have F := H.G.P.F
  have ty : ∀ {A : Around} {K : Value → Prop}, K (.ref accA) → QE C A (PySem.typeOf (.ref row)) K N Φ := fun k => QE.typeOf (.inr r.obj) k
  have hfind : findObj C.K accA (some (szO hsh tk (.int hd t) ep)) "_initial_size" = some (.value (.int hd t)) := by
    unfold findObj
    rw [hcd, Option.bind_some, show findIn C.K (.ref accA) (Str.ofString "_initial_size") = some none from F.isize]
    rw [Option.bind_some]
    unfold PySem.W.ownOf
    rw [H.T.dict cd hcd]
    rfl
  have hl : ∀ s, Rep C N Φ s → Looks C.M s.heap (PySem.Builtin.ObjectAttr.find (.ref row) (.ref accA) "_initial_size") (.value (.int hd t)) := fun s R => looks_find R.inK (ox := sq (.ref accA) (some D) vs n) (od := some (szO hsh tk (.int hd t) ep)) ⟨R.get r.obj, rfl, rfl, R.get hD⟩ hfind
  unfold getAttr getAttrBy
  refine QE.bind (QE.mkText fun tx => ?_)
  refine QE.holding (QE.bind (ty (QE.bind (QE.find F.gattr ?_))))
  dsimp only
  rw [if_neg (by decide)]
  unfold getAttrByItsOwn hookBefore callGetattribute boundAndCalled
  refine QE.bind ?_
  rw [if_pos (by rfl)]
  refine QE.find F.gattrN ?_
  refine QE.bind (QE.attempt (QE.holding ?_))
  refine QE.bind (QE.of_eq (sl_ga.bind _) (QE.pure ?_))
  have hck : QE C A.in1 (checkBuiltinCall "list.__getattribute__" ⟨[.ref row, .str "_initial_size" tx], []⟩) (fun _ => True) N Φ := by
    have ha := ga_args (.ref row) (.str "_initial_size" tx)
    have hk : builtinKind "list.__getattribute__" = some .slot := by decide +kernel
    have hs : splitId "list.__getattribute__" = some ("list", "__getattribute__") := by decide +kernel
    unfold checkBuiltinCall
    rw [hk, hs]
    refine QE.bind (QE.isInstL F (.inr r.obj) ?_)
    rw [if_neg (by decide)]
    cases hsig : Manifest.signature? "list.__getattribute__" with
    | none => exact QE.pure trivial
    | some sig => exact QE.of_eq (args_some hsig ha) (QE.pure trivial)
  have hfi : QE C A.in1 (Builtin.«object.__getattribute__» ⟨[.ref row, .str "_initial_size" tx], []⟩) (fun fin => fin = .done (.ret (.int hd t))) N Φ := by
    unfold Builtin.«object.__getattribute__»
    refine QE.bind (QE.pure ?_)
    refine QE.bind (QE.pure ?_)
    refine QE.bind (ty ?_)
    refine QE.bind (QE.looks hl ?_)
    exact QE.pure rfl
  intro s E K R k
  refine wpAny_call (codeAny_call_builtin sl_ga.plain sl_ga.entry (hck s _ _ R fun _ tk1 h1 _ => ?_))
  refine hfi _ _ _ (R.tok tk1) fun fin tk2 h2 e => ?_
  subst e
  refine k _ tk2 (Nat.le_trans h1 h2) ?_
  dsimp only
  rw [handedOut_of (by rfl)]
  exact QE.pure (q t)
end Mine.Internal
end
section
open PySem PySem.W PyProof.Rows PySem.Calls PySem.Spec PySem.Builtin.List
set_option maxRecDepth 100000
namespace Mine.Internal
variable {C : Cx} {N N' : Led} {Φ : Frs} {A : Around} {mg mb : Lo}
theorem self_attr {row D : Addr} {hd : Int} {vs : List Value} {n : Nat} {env : Env} {cs : List (Str × Addr)} {m : Lo} {p1 p2 : Pos} (H : All C mg mb) (r : Row N row D hd vs n) (hf : .fr ⟨env.locals, cs⟩ m ∈ Φ) (hm : m "self" = some (.ref row))
    (hk : env.scope.kind = .function := by rfl) (hl : env.kindOf "self" = some .local := by rfl) (hc : cs.lookup ("self" : Str) = none := by rfl) : QE C A (eval (.Attribute (.Name "self" p1) "_initial_size" p2) env) (fun v => ∃ t, v = .int hd t) N Φ := by
  rw [arm_eval_Attribute]
  refine QE.bind (QE.of_eq (t' := eval (.Name "self" p1) env) (by rfl) ?_)
  intro s E K R k
  obtain ⟨⟨ml, hn, he⟩, _⟩ := R.frm hf
  refine wpAny_Name (wpAny_loadName_local hk hl hn ((he "self" hc).trans hm) (k _ s.toks (Nat.le_refl _) ?_)) (by decide)
  refine QE.bind (QE.standAt ?_)
  refine QE.bind (QE.holding (get_sizeQ H r fun t => ?_))
  exact QE.bind (QE.pure (QE.pure ⟨t, rfl⟩))
theorem preSum_sg : ∀ (ps : List Pc), preSum (fun j => ((sg (ps.getD j default) : Nat) : Int)) ps.length = (sgL ps : Nat) := by
  intro ps
  have gen : ∀ (ps qs : List Pc), preSum (fun j => ((sg ((qs ++ ps).getD j default) : Nat) : Int)) (qs.length + ps.length) = preSum (fun j => ((sg ((qs ++ ps).getD j default) : Nat) : Int)) qs.length + (sgL ps : Nat) := by
    intro ps
    induction ps with
    | nil => intro qs; simp [sgL]
    | cons p ps ih =>
      intro qs
      have := ih (qs ++ [p])
      rw [List.append_assoc, List.singleton_append] at this
      rw [show qs.length + (p :: ps).length = (qs ++ [p]).length + ps.length by simp; lia, this]
      rw [show (qs ++ [p]).length = qs.length + 1 by simp, preSum]
      have e : (qs ++ p :: ps).getD qs.length default = p := by simp [List.getD_eq_getElem?_getD]
      rw [e]
      simp only [sgL, List.map_cons, List.sum_cons]
      lia
  have := gen ps []
  simpa [preSum] using this
theorem Rep.walked {I : Addr} {oi : Obj} {s₃ s' : Shared} {h₅ : Heap} {gs : GenState} {tk : Nat} (R : Rep C N (.ob I oi :: Φ) s₃) (hk : ∀ b o, s₃.heap.get? b = some o → h₅.get? b = some o) (hb : gs.bare = true)
    (hm : Moved [s₃.heap.objs.size, I] (GenOnlyQ s₃.gens.size) { s₃ with heap := h₅, gens := s₃.gens.push gs, toks := tk } s') : Rep C N Φ s' := by
  have x := R.lose (h' := s'.heap) (tk := s'.toks) fun b o hn e => hm.heap b o (fun hmem => ?_) (hk b o e)
  · exact ⟨x.z, hm.os.trans R.os, (R.gens.push hb).moved hm.gens⟩
  · rcases List.mem_cons.mp hmem with rfl | hmem
    · exact Nat.lt_irrefl _ (Heap.lt_size e)
    · rcases List.mem_cons.mp hmem with rfl | hmem
      · exact hn (.head _)
      · cases hmem
end Mine.Internal
end
section
open PySem PySem.W PyProof.Rows PySem.Calls PySem.Spec PySem.Builtin.List
set_option maxRecDepth 100000
namespace Mine.Internal
variable {C : Cx} {N N' : Led} {Φ : Frs} {A : Around} {mg mb : Lo}
set_option maxHeartbeats 4000000 in
theorem c_len {row D : Addr} {hd : Int} {vs : List Value} {n : Nat} {ps : List Pc} {Q : Value → Led → Prop} (H : All C mg mb) (T : TabF C mg mb) (ho : AOk A 6) (r : Row N row D hd vs n) (hp : PcL N vs ps) (h0 : 0 ≤ hd) (h1 : hd < 2 ^ 20) (hl : ps.length ≤ 2 ^ 16)
    (q : ∀ N' t, Ext N N' → Q (.int (hd + (sgL ps : Nat)) t) N') : WE C A (PySem.call (.ref 89) [.ref row]) Q N Φ := by
  have G := H.G.P
  refine Classical.byContradiction fun hn => ?_
  obtain ⟨pm, ct, hf⟩ := H.G.f_len
  refine hn ?_
  clear hn
  have hvl := hp.length
  refine WE.call (CE.fnCells (binds := [("self", .ref row)]) (cs := fun _ => []) (k := 5) G.G ho hf.any rfl rfl rfl (fun _ => rfl) fun L => ?_)
  refine s_cons ?_
  have ho' : AOk (A.deeper (callEnvC (mkFd (clOf 4) 89 (Str.ofString "_Accumulator." ++ stName (clOf 4)) [] Value.none pm ct) L 89)) 5 := ho.deeper
  generalize hA : A.deeper (callEnvC (mkFd (clOf 4) 89 (Str.ofString "_Accumulator." ++ stName (clOf 4)) [] Value.none pm ct) L 89) = A' at ho'
  intro s E R
  refine PySem.wpAny_Return_some ?_
  refine wpAny_Call_Name_kw ?_
  refine Name_function_global rfl rfl (loadGlobal_builtin (G.G.g _ R.stat) G.n_sum (G.G.b _ R.stat) G.b_sum ?_) (by decide)
  refine callWith_builtin rfl ?_
  refine evalArgs_plain ?_
  refine Calls.spliced_cons ?_
  rw [if_neg (by decide)]
  -- the pieces by place
  have hpc : ∀ i, i < vs.length → ∃ b nb t u, vs[i]? = some (.ref b) ∧ (b, tup [.str (S1 (ps.getD i default)) t, .str (S2 (ps.getD i default)) u] nb) ∈ N := by
    intro i hi
    obtain ⟨x, hx⟩ : ∃ x, vs[i]? = some x := ⟨_, List.getElem?_eq_getElem hi⟩
    obtain ⟨p, hpi, b, nb, t, u, rfl, hb⟩ := hp.get' hx
    refine ⟨b, nb, t, u, hx, ?_⟩
    rw [List.getD_eq_getElem?_getD, hpi]; exact hb
  have hpc' : ∀ i, ∃ (b : Addr) (tt : Tok × Tok), i < vs.length → vs[i]? = some (.ref b) ∧ ∃ nb, (b, tup [.str (S1 (ps.getD i default)) tt.1, .str (S2 (ps.getD i default)) tt.2] nb) ∈ N := by
    intro i
    by_cases hi : i < vs.length
    · obtain ⟨b, nb, t, u, a, c⟩ := hpc i hi
      exact ⟨b, (t, u), fun _ => ⟨a, nb, c⟩⟩
    · exact ⟨0, (0, 0), fun h => absurd h hi⟩
  refine Classical.byContradiction fun hn => ?_
  obtain ⟨Ts, hTs⟩ := Classical.axiomOfChoice hpc'
  obtain ⟨Tt, hT⟩ := Classical.axiomOfChoice hTs
  refine hn ?_
  clear hn
  refine wpAny_GeneratorExp_walksQTD (cl := []) ho'.h rfl rfl (by decide) rfl rfl rfl (by decide) rfl (by have := ho'.d; lia) ?_ (by intro _; rfl)
  refine (e_local (A := A') (env := callEnvC (mkFd (clOf 4) 89 (Str.ofString "_Accumulator." ++ stName (clOf 4)) [] Value.none pm ct) L 89) (cs := []) (v := .ref row) (Q := fun v N' => v = .ref row ∧ N' = N) rfl ⟨rfl, rfl⟩).use R fun v s₁ N₁ R₁ pz0 => ?_
  obtain ⟨e1, e2⟩ := pz0
  subst e1; subst e2
  refine ItOf.list G.F (.inr rfl) (l := row) (d := some D) (vs := vs) R₁ ⟨n, .inr r.obj⟩ fun I s₂ R₂ => ?_
  refine ⟨G.G.lim _ R₂.stat, ?_⟩
  refine gcode rfl T.t84 T.h84 T.q84 R₂ fun cv s₃ hs₃ R₃ => ?_
  refine bfor T G.G R₃ ?_
  obtain ⟨h₃, tk₃, rfl, hsz₃, hx₃⟩ := hs₃
  refine gen_rest G R₃ r.obj (fun i hi => hT i hi) rfl rfl rfl rfl rfl T.cst fun a h₅ tk gs hb hlt hsz hk hW => ?_
  refine Classical.byContradiction fun hn => ?_
  obtain ⟨P, St, W, hval, hst⟩ := hW
  refine hn ?_
  clear hn
  have R₅ : Rep C N₁ (.ob I (itO row 0) :: .fr ⟨L, []⟩ (bindM [("self", .ref row)] fun _ => none) :: Φ) { s₂ with heap := h₅, gens := s₂.gens.push gs, toks := tk } := by
    have := R₃.grow (tk := tk) hk
    exact ⟨this.z, this.os, this.gens.push hb⟩
  refine Calls.spliced_cons ?_
  rw [if_neg (by decide)]
  refine (self_attr (A := A') (cs := []) (m := bindM [("self", .ref row)] fun _ => none) (env := callEnvC (mkFd (clOf 4) 89 (Str.ofString "_Accumulator." ++ stName (clOf 4)) [] Value.none pm ct) L 89) (N := N₁) (Φ := .ob I (itO row 0) :: .fr ⟨L, []⟩ (bindM [("self", .ref row)] fun _ => none) :: Φ) H r (by exact .tail _ (.head _)) rfl) _ _ _ R₅ fun v tk6 htk pz0 => ?_
  obtain ⟨t6, e1⟩ := pz0
  subst e1
  refine Calls.spliced_nil ?_
  refine call_sum2 (A := A') W.of_in1.of_in1.of_in1 (W.frame 0 _ _ _ hst htk fun b _ o e => e) ?_ hval h0 h1 fun s' t' hm => ?_
  · intro b hb5
    show b < h₅.objs.size
    rw [hsz]
    rcases List.mem_cons.mp hb5 with rfl | hb5
    · exact Nat.lt_succ_self _
    rcases List.mem_cons.mp hb5 with rfl | hb5
    · exact Nat.lt_succ_of_lt hlt
    · exact Nat.lt_succ_of_lt (Nat.lt_trans (List.mem_range.mp hb5) hlt)
  · have hm' := hm
    refine ⟨N₁, _, R₃.walked (tk := tk6) hk hb hm', ?_⟩
    have e : preSum (fun j => ((sg (ps.getD j default) : Nat) : Int)) vs.length = (sgL ps : Nat) := by rw [hvl]; exact preSum_sg ps
    rw [e]
    exact q _ _ (Ext.refl _)
end Mine.Internal
end
section
open PySem PySem.W PyProof.Rows PySem.Calls PySem.Spec PySem.Builtin.List
namespace Mine.Internal
variable {C : Cx} {N N' : Led} {Φ : Frs} {A : Around} {mg mb : Lo}
theorem c_cmpI {x y : Int} {t u : Tok} {Q : Value → Led → Prop} (G : Prg C mg mb) (ho : AOk A 2) (q : ∀ t, Q (.int (b2i (decide (y < x)) - b2i (decide (x < y))) t) N) : WE C A (PySem.call (.ref 42) [.int x t, .int y u]) Q N Φ := by
  obtain ⟨pm, hf⟩ := G.f_cmp
  refine WE.call (CE.fnCells (binds := [("x", .int x t), ("y", .int y u)]) (cs := fun _ => []) (k := 1) G.G ho hf.any rfl rfl rfl (fun _ => rfl) fun L => ?_)
  refine s_cons ?_
  refine s_ret ?_
  refine e_bin ?_
  refine e_cmp ?_
  refine e_local (v := .int x t) rfl ?_
  refine e_local (v := .int y u) rfl ?_
  refine o_gt ?_
  refine e_cmp ?_
  refine e_local (v := .int x t) rfl ?_
  refine e_local (v := .int y u) rfl ?_
  refine o_lt ?_
  exact o_subB q
theorem c_cmpL {a b : Addr} {vs ws : List Value} {n n' : Nat} {ps qs : List Pc} {Q : Value → Led → Prop} (G : Prg C mg mb) (ho : AOk A 4) (ha : (a, lst vs n) ∈ N) (hb : (b, lst ws n') ∈ N) (hv : PcL N vs ps) (hw : PcL N ws qs)
    (q : ∀ t, Q (.int (b2i (plLt qs ps) - b2i (plLt ps qs)) t) N) : WE C A (PySem.call (.ref 42) [.ref a, .ref b]) Q N Φ := by
  obtain ⟨pm, hf⟩ := G.f_cmp
  refine WE.call (CE.fnCells (binds := [("x", .ref a), ("y", .ref b)]) (cs := fun _ => []) (k := 3) G.G ho hf.any rfl rfl rfl (fun _ => rfl) fun L => ?_)
  refine s_cons ?_
  refine s_ret ?_
  refine e_bin ?_
  refine e_cmp ?_
  refine e_local (v := .ref a) rfl ?_
  refine e_local (v := .ref b) rfl ?_
  refine o_gtL (k := 1) ho.deeper (.inr ha) (.inr hb) hv hw ?_
  refine e_cmp ?_
  refine e_local (v := .ref a) rfl ?_
  refine e_local (v := .ref b) rfl ?_
  refine o_ltL (k := 1) ho.deeper (.inr ha) (.inr hb) hv hw ?_
  exact o_subB q
end Mine.Internal
end
section
open PySem PySem.W PyProof.Rows PySem.Calls PySem.Spec PySem.Builtin.List
set_option maxRecDepth 100000
namespace Mine.Internal
variable {C : Cx} {N N' : Led} {Φ : Frs} {A : Around} {mg mb : Lo}
section
variable {row D : Addr} {hd : Int} {vs : List Value} {n : Nat} {ps : List Pc}
theorem WE.special_len {Q : Option Value → Led → Prop} (H : All C mg mb) (T : TabF C mg mb) (ho : AOk A 6) (r : Row N row D hd vs n) (hp : PcL N vs ps) (h0 : 0 ≤ hd) (h1 : hd < 2 ^ 20) (hl : ps.length ≤ 2 ^ 16)
    (q : ∀ N' t, Ext N N' → Q (some (.int (hd + (sgL ps : Nat)) t)) N') : WE C A (callSpecial? (.ref row) "__len__") Q N Φ := by
  have F := H.G.P.F
  refine Classical.byContradiction fun hn => ?_
  obtain ⟨pm, ct, hf⟩ := H.G.f_len
  refine hn ?_
  clear hn
  unfold callSpecial? specialOf
  refine WE.bind (WE.bind (WE.typeOf (.inr r.obj) (WE.find F.len ?_)))
  dsimp only
  refine WE.holding (WE.bind ?_)
  unfold bindSpecial
  refine WE.bind (H.G.f_len.ty fun t htt => ?_)
  rw [if_pos (by rcases htt with rfl | rfl <;> rfl)]
  refine WE.pure ?_
  exact WE.bind (c_len H T ho r hp h0 h1 hl fun N' t e => WE.pure (q N' t e))
theorem FE.len_R {Q : Value → Led → Prop} (H : All C mg mb) (T : TabF C mg mb) (ho : AOk A.in1 6) (r : Row N row D hd vs n) (hp : PcL N vs ps) (h0 : 0 ≤ hd) (h1 : hd < 2 ^ 20) (hl : ps.length ≤ 2 ^ 16) (hb : sgL ps < 2 ^ 32)
    (q : ∀ N' t, Ext N N' → Q (.int (hd + (sgL ps : Nat)) t) N') : FE C A (Builtin.«len» ⟨[.ref row], []⟩) Q N Φ := by
  unfold Builtin.«len»
  refine FE.bind (WE.pure ?_)
  refine FE.bind (WE.special_len H T ho r hp h0 h1 hl fun N' t e => ?_)
  dsimp only
  refine FE.bind (WE.holding (WE.pure ?_))
  refine FE.bind (fun s E R => wpAny_letGo ⟨_, R, ?_⟩)
  show FE C A (if hd + (sgL ps : Nat) < 0 then _ else _) _ _ _
  rw [if_neg (by lia)]
  show FE C A (if hd + (sgL ps : Nat) ≥ 2 ^ 63 then _ else _) _ _ _
  rw [if_neg (by lia)]
  exact FE.retInt fun t => q _ _ e
theorem len_R {Q : Value → Led → Prop} (H : All C mg mb) (T : TabF C mg mb) (ho : AOk A 7) (r : Row N row D hd vs n) (hp : PcL N vs ps) (h0 : 0 ≤ hd) (h1 : hd < 2 ^ 20) (hl : ps.length ≤ 2 ^ 16) (hb : sgL ps < 2 ^ 32)
    (q : ∀ N' t, Ext N N' → Q (.int (hd + (sgL ps : Nat)) t) N') : WE C A (PySem.call (.builtin "len") [.ref row]) Q N Φ :=
  WE.callFn kind_len plain_len entry_len (args_len1 _) (FE.len_R H T ho.in1 r hp h0 h1 hl hb q)
theorem truthy_R {Q : Bool → Led → Prop} (H : All C mg mb) (T : TabF C mg mb) (ho : AOk A 7) (r : Row N row D hd vs n) (hp : PcL N vs ps) (h0 : 0 ≤ hd) (h1 : hd < 2 ^ 20) (hl : ps.length ≤ 2 ^ 16) (hb : sgL ps < 2 ^ 32)
    (q : ∀ N', Ext N N' → Q (hd + (sgL ps : Nat) != 0) N') : WE C A (truthy (.ref row)) Q N Φ := by
  have F := H.G.P.F
  unfold truthy
  refine WE.bind ?_
  unfold callSpecial? specialOf
  refine WE.bind (WE.bind (WE.typeOf (.inr r.obj) (WE.find F.boolN ?_)))
  dsimp only
  refine WE.pure ?_
  refine WE.bind (WE.bind (WE.typeOf (.inr r.obj) (WE.find F.len ?_)))
  rw [if_neg (by decide)]
  have hc : CE C A (.builtin "len" ⟨[.ref row], []⟩) (fun v N' => ∃ t, v = .int (hd + (sgL ps : Nat)) t ∧ Ext N N') N Φ := CE.builtin plain_len entry_len (FE.len_R H T ho.in1 r hp h0 h1 hl hb fun N' t e => ⟨t, rfl, e⟩)
  refine WE.bind ?_
  intro s E R
  refine wpAny_runValue (hc s _ R fun v s' N' r' pz0 => ?_)
  refine Classical.byContradiction fun hn => ?_
  obtain ⟨t, e1, e⟩ := pz0
  refine hn ?_
  clear hn
  subst e1
  exact ⟨N', r', WE.pure (q N' e)⟩
end
end Mine.Internal
end
section
open PySem PySem.W PyProof.Rows PySem.Calls PySem.Spec PySem.Builtin.List
set_option maxRecDepth 100000
namespace Mine.Internal
variable {C : Cx} {N N' : Led} {Φ : Frs} {A : Around} {mg mb : Lo} {s : Shared}
theorem own_disj {Φ : Frs} (nd : (own Φ).Nodup) {f g : Prv} (hf : f ∈ Φ) (hg : g ∈ Φ) {a : Addr} (ha : a ∈ f.own) (hb : a ∈ g.own) : f = g := by
  induction Φ with
  | nil => cases hf
  | cons p Φ ih =>
    rw [own_cons, List.nodup_append] at nd
    obtain ⟨_, n2, n3⟩ := nd
    rcases List.mem_cons.mp hf with e1 | h1 <;> rcases List.mem_cons.mp hg with e2 | h2
    · rw [e1, e2]
    · exact absurd rfl (n3 a (e1 ▸ ha) a (mem_own h2 hb))
    · exact absurd rfl (n3 a (e2 ▸ hb) a (mem_own h1 ha))
    · exact ih n2 h1 h2
theorem Rep.slots {F : List Addr} {h' : Heap} {tk : Nat} (R : Rep C N Φ s) (hF : ∀ L ∈ F, ∃ k m, .fr k m ∈ Φ ∧ k.L = L) (x : Heap.SlotsOnly F s.heap h') : Rep C N Φ { s with heap := h', toks := tk } := by
  obtain ⟨⟨z, r⟩, os, g⟩ := R
  have hown : ∀ L ∈ F, L ∈ own Φ := fun L h => let ⟨k, m, hf, e⟩ := hF L h; mem_own hf (by rw [← e]; exact .head _)
  have keep : ∀ b, b ∉ own Φ → h'.get? b = s.heap.get? b := fun b hb => x.2.1 b fun h => hb (hown b h)
  refine ⟨⟨z, ⟨r.st, fun b o hb => ?_, fun p hp => ?_, r.ledz, fun f hf => ?_, r.frz, r.apart, r.nd, fun P hP => ?_⟩⟩, os, g⟩
  · rw [keep b fun h => by rw [r.frz b h] at hb; cases hb]; exact r.fz b o hb
  · rw [keep p.1 fun h => r.apart _ h p hp rfl]; exact r.led p hp
  · cases f with
    | ob a o =>
      have : a ∉ F := fun h => by
        obtain ⟨k, m, hk, e⟩ := hF a h
        have := own_disj r.nd hf hk (a := a) (.head _) (by rw [← e]; exact .head _)
        cases this
      show h'.get? a = some o
      rw [x.2.1 a this]; exact r.frm _ hf
    | fr k m =>
      obtain ⟨⟨ml, hn, he⟩, hc, nd⟩ := r.frm _ hf
      refine ⟨⟨ml, ?_, he⟩, fun p hp => ?_, nd⟩
      · obtain ⟨o, es, ep, ho, hd, hk⟩ := hn
        obtain ⟨sl, h2⟩ := x.2.2 _ o ho
        exact ⟨_, es, ep, h2, hd, hk⟩
      · obtain ⟨o, ho, hd⟩ := hc p hp
        obtain ⟨sl, h2⟩ := x.2.2 _ o ho
        exact ⟨_, h2, hd⟩
  · obtain ⟨t1, t2, t3, t4⟩ := r.tab P hP
    obtain ⟨ps, g1, g2, g3⟩ := t4
    exact ⟨t1, t2, t3, ps, by rw [keep P t3]; exact g1, g2, g3⟩
noncomputable def FrOk (A : Around) (Φ : Frs) : Prop := ∃ l, A.frames = some l ∧ ∀ env ∈ l, env.scope.kind ≠ .module ∧ ∃ k m, .fr k m ∈ Φ ∧ env.frame = some k.L
theorem funFrames {l : List Env} {h : Heap} (hl : ∀ env ∈ l, env.scope.kind ≠ .module ∧ ∃ k m, .fr k m ∈ Φ ∧ env.frame = some k.L) (hf : ∀ f ∈ Φ, f.At h) : h.FunFrames { objs := #[] } l := by
  induction l with
  | nil => trivial
  | cons env l ih =>
    obtain ⟨h1, k, m, hk, e⟩ := hl env (.head _)
    obtain ⟨⟨ml, ⟨o, es, ep, ho, hd, _⟩, _⟩, _⟩ := hf _ hk
    exact ⟨h1, ⟨k.L, o, e, by simp [Heap.get?], ho, fun vs q => by rw [hd] at q; cases q⟩, ih fun env h => hl env (.tail _ h)⟩
theorem frames_mem {l : List Env} (hl : ∀ env ∈ l, env.scope.kind ≠ .module ∧ ∃ k m, .fr k m ∈ Φ ∧ env.frame = some k.L) : ∀ L ∈ l.filterMap (·.frame), ∃ k m, .fr k m ∈ Φ ∧ k.L = L := by
  intro L h
  obtain ⟨env, he, e⟩ := List.mem_filterMap.mp h
  obtain ⟨_, k, m, hk, e2⟩ := hl env he
  rw [e2] at e
  exact ⟨k, m, hk, Option.some.inj e⟩
noncomputable def excO (T : String) (vs : Array Value) (o : Obj) : Prop := o.cls = .type T ∧ o.data = .fields vs
theorem noteFrame_first {env : Env} {outer : List Env} {L e : Addr} {T : String} {oe : Obj} {vs : Array Value} {Q : Unit → Shared → Prop} {E} (hfr : A.frames = some (env :: outer)) (hl : ∀ env' ∈ env :: outer, env'.scope.kind ≠ .module ∧ ∃ k m, .fr k m ∈ Φ ∧ env'.frame = some k.L)
    (hf : env.frame = some L) (R : Rep C N (.ob e oe :: Φ) s) (ho : excO T vs oe) (h1 : vs[1]? = some .none)
    (h : ∀ h' tb otb ts, Rep C N (.ob tb otb :: .ob e (oe.mapFields (·.setIfInBounds 1 (.ref tb))) :: Φ) { s with heap := h' } → otb.data = .fields ts → ts[3]? = some (rawInt L) → Q () { s with heap := h' }) : wpAny C.M A (noteFrame (.ref e) env) Q E s := by
  have hl' : ∀ env' ∈ env :: outer, env'.scope.kind ≠ .module ∧ ∃ k m, Prv.fr k m ∈ (.ob e oe :: Φ : Frs) ∧ env'.frame = some k.L := fun env' he => let ⟨a, k, m, b, c⟩ := hl env' he; ⟨a, k, m, .tail _ b, c⟩
  have FF := funFrames hl' (fun f hf => R.frm hf)
  have he : s.heap.get? e = some oe := R.frm (.head _)
  have hsz : 1 < vs.size := (Array.getElem?_eq_some_iff.mp h1).1
  unfold noteFrame
  simp only [hf]
  refine wpAny_bind (wpAny_field he ho.2 h1 ?_)
  rw [if_neg (by decide)]
  refine wpAny_bind (wpAny_frameOf_fun hfr FF hf fun h₁ hs₁ => ?_)
  have R₁ := R.slots (tk := s.toks) (frames_mem hl') hs₁
  refine wpAny_bind (wpAny_entryPlaceOf fun pl hpl => ?_)
  unfold EntryCells.newEntry newFields
  refine wpAny_bind (wpAny_newObj_type ?_ (hpl.sizeOk5 _ _ _ _ _))
  generalize hot : ({ cls := .type "traceback", dict := none, data := .fields ([Value.none, .ref L, .none, rawInt L, .none] ++ (if pl.isEmpty then List.replicate 6 Value.none else pl)).toArray } : Obj) = otb
  have hot' : otb.isFreed = false := by rw [← hot]; rfl
  have he₁ : h₁.get? e = some oe := R₁.frm (.head _)
  have R₂ : Rep C N (.ob h₁.objs.size otb :: .ob e oe :: Φ) { s with heap := h₁.push otb } :=
    R₁.pushG (tk := s.toks) (f := .ob h₁.objs.size otb) (fun b o hb => Heap.get?_push_of_some _ hb) (Heap.get?_push_size _ hot') (fun a ha => Nat.le_of_eq (List.mem_singleton.mp ha).symm) (by simp [Prv.own])
  have he₂ : (h₁.push otb).get? e = some oe := Heap.get?_push_of_some _ he₁
  refine wpAny_setField he₂ ho.2 hsz ?_
  have hd₃ := Obj.data_mapFields ho.2 (·.setIfInBounds 1 (Value.ref h₁.objs.size))
  have R₃ := (R₂.perm (.swap ..)).top (f' := .ob e (oe.mapFields (·.setIfInBounds 1 (.ref h₁.objs.size)))) (h' := (h₁.push otb).update e (Obj.mapFields (·.setIfInBounds 1 (Value.ref h₁.objs.size)))) (tk := s.toks) rfl
    (fun b o hb e1 => by rw [Heap.get?_update_other _ _ (fun q => hb (by rw [← q]; exact .head _))]; exact e1)
    (Heap.get?_update_self _ he₂ (Obj.isFreed_of_fields hd₃))
  refine h _ _ otb _ (R₃.perm (.swap ..)) (by rw [← hot]) ?_
  rcases hpl with rfl | ⟨_, _, _, _, _, _, _, rfl⟩ <;> simp
theorem flight_off {e tb : Addr} {T : String} {oe otb : Obj} {vs ts : Array Value} {Q : Unit → Shared → Prop} {E} (R : Rep C N (.ob tb otb :: .ob e oe :: Φ) s) (ho : excO T vs oe) (h1 : vs[1]? = some (.ref tb)) (ht : otb.data = .fields ts) (hsz : 3 < ts.size)
    (h : ∀ h', Rep C N (.ob tb (otb.mapFields (·.setIfInBounds 3 .none)) :: .ob e oe :: Φ) { s with heap := h' } → Q () { s with heap := h' }) : wpAny C.M A (setFlight (.ref e) none) Q E s := by
  have htb : s.heap.get? tb = some otb := R.frm (.head _)
  refine wpAny_setFlight_none (R.frm (f := .ob e oe) (.tail _ (.head _))) ho.2 h1 htb ht hsz ?_
  refine h _ (R.top (f' := .ob tb (otb.mapFields (·.setIfInBounds 3 .none))) (tk := s.toks) rfl (fun b o hb e1 => ?_) (Heap.get?_update_self _ htb (Obj.isFreed_of_fields (Obj.data_mapFields ht _))))
  rw [Heap.get?_update_other _ _ (fun q => hb (by rw [← q]; exact .head _))]; exact e1
end Mine.Internal
end
section
open PySem PySem.W PyProof.Rows PySem.Calls PySem.Spec PySem.Builtin.List
set_option maxRecDepth 100000
namespace Mine.Internal
variable {C : Cx} {N N' : Led} {Φ : Frs} {A : Around} {mg mb : Lo} {s : Shared}
theorem RepZ.fresh' {z} {h : Heap} (R : RepZ C z N Φ h) {a : Addr} (ha : h.get? a = none) : Fresh C z N Φ a := by
  refine ⟨fun p hp e => ?_, ?_, fun hf => ?_, fun P hP e => ?_⟩
  · have := R.led p hp; rw [e, ha] at this; cases this
  · cases hz : z a with
    | none => rfl
    | some o => have := R.fz _ _ hz; rw [ha] at this; cases this
  · obtain ⟨f, hf, h'⟩ := List.mem_flatMap.mp hf
    have := R.frm f hf
    cases f with
    | ob b o => 
      have e : a = b := by simpa [Prv.own] using h'
      subst e
      have : h.get? a = some o := this
      rw [ha] at this; cases this
    | fr k m =>
      refine Classical.byContradiction fun hn => ?_
      obtain ⟨⟨ml, ⟨o, es, ep, ho, _⟩, _⟩, hc, _⟩ := this
      refine hn ?_
      clear hn
      rcases List.mem_cons.mp h' with rfl | h'
      · rw [ha] at ho; cases ho
      · obtain ⟨p, hp, e⟩ := List.mem_map.mp h'
        refine Classical.byContradiction fun hn => ?_
        obtain ⟨o, ho, _⟩ := hc p hp
        refine hn ?_
        clear hn
        rw [e, ha] at ho; cases ho
  · obtain ⟨_, _, _, ps, hps, _⟩ := R.tab P hP
    rw [e, ha] at hps; cases hps
noncomputable def Thrown (C : Cx) (N : Led) (Φ : Frs) (T : String) (x : Value) (s : Shared) : Prop := ∃ e oe vs, x = .ref e ∧ Rep C N (.ob e oe :: Φ) s ∧ excO T vs oe ∧ vs[1]? = some .none
theorem Rep.thrown {h' : Heap} {tk : Nat} {e : Addr} {T : String} (R : Rep C N Φ s) (x : Heap.NewExc s.heap h' e T) : Thrown C N Φ T (.ref e) { s with heap := h', toks := tk } := by
  refine Classical.byContradiction fun hn => ?_
  obtain ⟨ob, t, ho, hc, hd⟩ := x.there
  refine hn ?_
  clear hn
  refine ⟨e, ob, _, rfl, ?_, ⟨hc, hd⟩, rfl⟩
  refine Classical.byContradiction fun hn => ?_
  obtain ⟨⟨z, r⟩, os, g⟩ := R
  refine hn ?_
  clear hn
  have F : ∀ a ∈ (Prv.ob e ob).own, Fresh C z N Φ a := fun a ha => by
    have ea : a = e := by simpa [Prv.own] using ha
    rw [ea]; exact r.fresh' x.new
  exact ⟨⟨z, RepZ.pushF (f := .ob e ob) (r.grow x.keeps) ho F (by simp [Prv.own])⟩, os, g⟩
section rem
variable {a : Addr} {cl : Value} {d : Option Addr} {vs : List Value} {n k : Nat} {ps : List Pc} {v : Value} {p : Pc}
theorem rem_miss {R : Result → Shared → Prop} (ho : AOk A (k + 1)) (h : (a, sq cl d vs n) ∈ N) (hv : PcL N vs ps) (hp : IsPc N v p) (hm : p ∉ ps) (z : ∀ x s', Thrown C N Φ "ValueError" x s' → R (.error x) s') :
    ∀ (j i : Nat), i + j = vs.length → ∀ s, Rep C N Φ s → codeAny C.M A (.builtin "list.remove.loop" ⟨[.ref a, v, rawInt i], []⟩) R s := by
  intro j
  induction j with
  | zero =>
    intro i hi s Rp
    refine codeAny_builtin entry_rem_loop ?_
    rw [Around.under_plainId plain_rem_loop _]
    show wpAny C.M A.in1 (PySem.Builtin.List.listItems (.ref a) >>= _) _ _ s
    refine wpAny_bind ((WE.listItems (A := A.in1) (cl := cl) (d := d) (vs := vs) (n := n) (Q := fun v N' => v = vs.toArray ∧ N' = N) (.inr h) ⟨rfl, rfl⟩).use Rp fun v1 s1 N1 R1 pz0 => ?_)
    obtain ⟨e1, e2⟩ := pz0
    subst e1; subst e2
    have ex : vs.toArray[((i : Nat) : Int).toNat]? = none := by simp; lia
    rw [ex]
    refine wpAny_bind (wpAny_rule ?_)
    refine wpAny_raiseErrorWords plainExc_ValueError (by exact ho.h) fun h' tk e x => ?_
    exact z _ _ (R1.thrown x)
  | succ j ih =>
    intro i hi s Rp
    refine codeAny_builtin entry_rem_loop ?_
    rw [Around.under_plainId plain_rem_loop _]
    show wpAny C.M A.in1 (PySem.Builtin.List.listItems (.ref a) >>= _) _ _ s
    refine wpAny_bind ((WE.listItems (A := A.in1) (cl := cl) (d := d) (vs := vs) (n := n) (Q := fun v N' => v = vs.toArray ∧ N' = N) (.inr h) ⟨rfl, rfl⟩).use Rp fun v1 s1 N1 R1 pz0 => ?_)
    obtain ⟨e1, e2⟩ := pz0
    subst e1; subst e2
    obtain ⟨x, hx⟩ : ∃ x, vs[i]? = some x := ⟨_, List.getElem?_eq_getElem (by lia)⟩
    have ex : vs.toArray[((i : Nat) : Int).toNat]? = some x := by simpa using hx
    rw [ex]
    refine Classical.byContradiction fun hn => ?_
    obtain ⟨p', hp', hx'⟩ := hv.get' hx
    refine hn ?_
    clear hn
    have e : p' ≠ p := fun e => hm (e ▸ List.mem_of_getElem? hp')
    show wpAny C.M A.in1 (eqBool x v >>= _) _ _ s1
    refine wpAny_bind ((WE.eqPc (A := A.in1) ho.in1 hx' hp (Q := fun b N' => b = false ∧ N' = N1) ⟨by simp [e], rfl⟩).use R1 fun b s2 N2 R2 pz0 => ?_)
    obtain ⟨e3, e4⟩ := pz0
    subst e3; subst e4
    exact wpAny_pure ⟨plainId_quiet plain_rem_loop _, ih (i + 1) (by lia) s2 R2⟩
theorem m_remove_miss {E : Value → Shared → Prop} {Q : Value → Shared → Prop} (F : AccF C) (hc : LsC cl) (ho : AOk A (k + 1)) (h : (a, sq cl d vs n) ∈ N) (hv : PcL N vs ps) (hp : IsPc N v p) (hm : p ∉ ps) (Rp : Rep C N Φ s) (z : ∀ x s', Thrown C N Φ "ValueError" x s' → E x s') :
    wpAny C.M A (PySem.call (.builtin "list.remove") [.ref a, v]) Q E s := by
  refine wpAny_call ?_
  refine codeAny_call_builtin sl_remove.plain sl_remove.entry ?_
  refine (sl_remove.check (A := A.in1) (Q := fun _ N' => N' = N) F hc (.inr h) (PySem.F.args_list_remove_2 _ _) rfl).use Rp fun _ s1 N1 R1 e => ?_
  subst e
  refine wpAny_pure ⟨plainId_quiet plain_rem_loop _, ?_⟩
  exact rem_miss ho h hv hp hm (fun x s' t => z x s' t) vs.length 0 (Nat.zero_add _) s1 R1
end rem
end Mine.Internal
end
section
open PySem PySem.W PyProof.Rows PySem.Calls PySem.Spec PySem.Builtin.List
set_option maxRecDepth 100000
namespace Mine.Internal
variable {C : Cx} {N N' : Led} {Φ : Frs} {A : Around} {mg mb : Lo} {s : Shared} {env : Env} {K : Fk} {m : Lo}
noncomputable def WX {α : Type} (C : Cx) (A : Around) (t : Sem α) (Q : α → Led → Prop) (X : Value → Shared → Prop) (N : Led) (Φ : Frs) : Prop := ∀ s, Rep C N Φ s → wpAny C.M A t (WEQ C Q Φ) X s
noncomputable def WSX {α : Type} (C : Cx) (A : Around) (t : Sem α) (Q : α → Led → Lo → Prop) (X : Value → Shared → Prop) (N : Led) (k : Fk) (m : Lo) (Φ : Frs) : Prop :=
  ∀ s, Rep C N (.fr k m :: Φ) s → wpAny C.M A t (WSQ C Q k Φ) X s
section
variable {α β : Type} {X : Value → Shared → Prop}
theorem WX.of {t : Sem α} {Q : α → Led → Prop} (h : WE C A t Q N Φ) : WX C A t Q X N Φ := fun s R => h s X R
theorem WSX.of {t : Sem α} {Q : α → Led → Lo → Prop} (h : WS C A t Q N K m Φ) : WSX C A t Q X N K m Φ := fun s R => h s X R
theorem WX.mono {t : Sem α} {Q Q' : α → Led → Prop} (h : WX C A t Q X N Φ) (k : ∀ v N', Q v N' → Q' v N') : WX C A t Q' X N Φ := fun s R => wpAny_mono (h s R) (fun v _ ⟨N', R', q⟩ => ⟨N', R', k v N' q⟩) fun _ _ x => x
theorem WX.bind {t : Sem α} {f : α → Sem β} {Q : β → Led → Prop} (h : WX C A t (fun v N' => WX C A (f v) Q X N' Φ) X N Φ) : WX C A (t >>= f) Q X N Φ := fun s R => wpAny_bind (wpAny_mono (h s R) (fun _ s' ⟨_, R', q⟩ => q s' R') fun _ _ x => x)
theorem WX.holding {vs : List Value} {t : Sem α} {Q : α → Led → Prop} (h : WX C A t Q X N Φ) : WX C A (holding vs t) Q X N Φ := fun s R => wpAny_holding (h s R)
theorem WSX.bind {t : Sem α} {f : α → Sem β} {Q : β → Led → Lo → Prop} (h : WSX C A t (fun v N' m' => WSX C A (f v) Q X N' K m' Φ) X N K m Φ) : WSX C A (t >>= f) Q X N K m Φ := fun s R => wpAny_bind (wpAny_mono (h s R) (fun _ s' ⟨_, _, R', q⟩ => q s' R') fun _ _ x => x)
theorem WSX.mono {t : Sem α} {Q Q' : α → Led → Lo → Prop} (h : WSX C A t Q X N K m Φ) (k : ∀ v N' m', Q v N' m' → Q' v N' m') : WSX C A t Q' X N K m Φ := fun s R => wpAny_mono (h s R) (fun v _ ⟨N', m', R', q⟩ => ⟨N', m', R', k v N' m' q⟩) fun _ _ x => x
end
section
variable {X : Value → Shared → Prop}
theorem sx_nil {Q : Flow → Led → Lo → Prop} (h : Q .next N m) : WSX C A (execs [] env) Q X N K m Φ := .of (s_nil h)
@[reducible] noncomputable def kSeqX (C : Cx) (A : Around) (Φ : Frs) (X : Value → Shared → Prop) (K : Fk) (env : Env) (rest : List Stmt) (Q : Flow → Led → Lo → Prop) : Flow → Led → Lo → Prop := fun f N m => match f with | .next => WSX C A (execs rest env) Q X N K m Φ | f => Q f N m
@[reducible] noncomputable def kMetX2 (C : Cx) (A : Around) (Φ : Frs) (X : Value → Shared → Prop) (env : Env) (pos : Pos) (args : List Expr) (Q : Value → Led → Prop) : Value × List Value → Led → Prop := fun fx N => WX C A (callWith pos fx.1 fx.2 (backTo pos (starEach args env)) []) Q X N Φ
@[reducible] noncomputable def kMetX (C : Cx) (A : Around) (Φ : Frs) (X : Value → Shared → Prop) (env : Env) (pos : Pos) (o : Expr) (name : Str) (args : List Expr) (Q : Value → Led → Prop) : Value → Led → Prop := fun ov N => WE C A (getMethod ov name (do return (← importBound o env).getD true)) (kMetX2 C A Φ X env pos args Q) N Φ
@[reducible] noncomputable def kPCallX (C : Cx) (A : Around) (Φ : Frs) (X : Value → Shared → Prop) (f : Value) (first : List Value) (Q : Value → Led → Prop) : List Value → Led → Prop := fun vs N => WX C A (PySem.call f (first ++ vs)) Q X N Φ
@[reducible] noncomputable def kNxt (Q : Flow → Led → Lo → Prop) : Flow → Led → Lo → Prop := fun f N m => f = .next ∧ Q .next N m
@[reducible] noncomputable def kCatch (C : Cx) (A : Around) (Φ : Frs) (K : Fk) (T : String) (env : Env) (suite : List Stmt) (Q : Flow → Led → Lo → Prop) : Value → Shared → Prop := fun e s' => ∃ N' m', Thrown C N' (.fr K m' :: Φ) T e s' ∧ ∀ a, WS C (A.mark (some (.ref a))) (execs suite env) Q N' K m' Φ
theorem sx_cons {st : Stmt} {rest : List Stmt} {Q : Flow → Led → Lo → Prop} (h : WSX C A (exec st env) (kSeqX C A Φ X K env rest Q) X N K m Φ) :
    WSX C A (execs (st :: rest) env) Q X N K m Φ := by
  rw [execs_cons]
  refine WSX.bind (h.mono fun f N₁ m₁ h₁ => ?_)
  cases f with
  | next => exact h₁
  | brk => exact .of (WS.pure h₁)
  | cont => exact .of (WS.pure h₁)
  | ret v => exact .of (WS.pure h₁)
theorem sx_expr {e : Expr} {pos} {Q : Flow → Led → Lo → Prop} (h : WX C A (eval e env) (kExpr m Q) X N (.fr K m :: Φ)) (hi : interactive env = false := by rfl) (hs : swapsWith e none pos.line env = pure false := by rfl) :
    WSX C A (exec (.Expr e pos) env) Q X N K m Φ := by
  intro s R
  refine wpAny_Expr (wpAny_mono (h s R) (fun v s' ⟨N', R', q⟩ => ?_) fun _ _ x => x) hi hs
  cases v with
  | ref a => exact q.2 a rfl
  | _ => exact ⟨N', m, R', q.1⟩
theorem ex_meth {o : Expr} {name : Str} {apos pos : Pos} {args : List Expr} {env : Env} {Q : Value → Led → Prop}
    (h : WE C A (eval o env) (kMetX C A Φ X env pos o name args Q) N Φ)
    (hb : ∀ whole, attributeBase o name env whole = whole := by intro _; rfl) (hf : methodCallForm (args.length + ([] : List Keyword).length) (backTo pos (starEach args env)) (backToKw pos (keywordEach [] env)) = true := by rfl)
    (hl : (apos.endLine == pos.line) = true := by rfl) : WX C A (eval (.Call (.Attribute o name apos) args [] pos) env) Q X N Φ := by
  rw [arm_eval_Call, hb]
  refine WX.bind (WX.of (h.mono fun ov N₁ h₁ => ?_))
  refine WX.bind (WX.of (WE.standAt ?_))
  unfold methodCall
  rw [hf]
  refine WX.bind (WX.holding ?_)
  unfold calleeOf
  rw [if_pos rfl]
  refine WX.of (h₁.mono fun fx N₂ h₂ => ?_)
  have : methodCallPos true o env apos pos = Pure.pure pos := by
    unfold methodCallPos
    rw [hl]; rfl
  show WX C A (methodCallPos true o env apos pos >>= _) Q X N₂ Φ
  rw [this]
  exact WX.bind (WX.of (WE.pure h₂))
theorem cx_blt {pos} {id : String} {first : List Value} {args : List (Bool × Sem Value)} {Q : Value → Led → Prop} (hs : args.any (·.1) = false)
    (h : WE C A (spliced args) (kPCallX C A Φ X (.builtin id) first Q) N Φ) : WX C A (callWith pos (.builtin id) first args []) Q X N Φ :=
  fun s R => callWith_builtin hs (wpAny_mono (evalArgs_we (Q := fun x N₁ => x.kw = [] ∧ WX C A (call (.builtin id) (first ++ x.pos)) Q X N₁ Φ) hs (h.mono fun vs N₁ h₁ => ⟨rfl, h₁⟩) s X R)
    (fun x s₁ ⟨N₁, R₁, h2, h3⟩ => by rw [h2]; exact h3 s₁ R₁) fun _ _ x => x)
theorem s_try {T : String} {body suite : List Stmt} {b₀ : Stmt} {x : Str} {np hp pos : Pos} {Q : Flow → Led → Lo → Prop} (G : Glo C mg mb) (hg : mg x = none) (hb : mb x = some (.type T))
    (hexc : isSubtype (.type T) (.type "BaseException") = pure true) (hnt : isSubtype (.type ((Manifest.find? T).elim "type" fun x => x.metatype)) (.type "tuple") = pure false) (hself : isSubtype (.type T) (.type T) = pure true)
    (fr : FrOk A (.fr K m :: Φ)) (hef : env.frame = some K.L) (henv : ∃ outer, A.frames = some (env :: outer)) (hgl : env.globals = mainGlobals) (hbl : env.builtins = builtinsNs) (hk : env.scope.kind = .function) (hx : env.kindOf x = some .globalImplicit) (hd : (x == ("__debug__" : Str)) = false)
    (h : WSX C A (execs body env) (kNxt Q) (kCatch C A Φ K T env (b₀ :: suite) Q) N K m Φ) :
    WS C A (exec (.Try body [.ExceptHandler (some (.Name x np)) none (b₀ :: suite) hp] [] [] pos) env) Q N K m Φ := by
  intro s E R
  refine wpAny_Try_except (wpAny_mono (h s R) (fun f s' ⟨N', m', R', q⟩ => ?_) fun e s' hE => ?_)
  · obtain ⟨rfl, q⟩ := q
    exact wpAny_pure ⟨N', m', R', q⟩
  · obtain ⟨N', m', ⟨ea, oe, vs, rfl, R', ho, h1⟩, hh⟩ := hE
    obtain ⟨outer, hfr⟩ := henv
    have hl : ∀ env' ∈ env :: outer, env'.scope.kind ≠ .module ∧ ∃ k mm, .fr k mm ∈ (.fr K m' :: Φ : Frs) ∧ env'.frame = some k.L := by
      refine Classical.byContradiction fun hn => ?_
      obtain ⟨l, e1, e2⟩ := fr
      refine hn ?_
      clear hn
      rw [hfr] at e1; cases e1
      intro env' h'
      refine Classical.byContradiction fun hn => ?_
      obtain ⟨h3, k, mm, h4, h5⟩ := e2 env' h'
      refine hn ?_
      clear hn
      rcases List.mem_cons.mp h4 with h4 | h4
      · cases h4; exact ⟨h3, _, _, .head _, h5⟩
      · exact ⟨h3, k, mm, .tail _ h4, h5⟩
    refine noteFrame_first hfr hl hef R' ho h1 fun h' tb otb ts R₂ ht h3 => ?_
    have ho₂ : excO T (vs.setIfInBounds 1 (.ref tb)) (oe.mapFields (·.setIfInBounds 1 (.ref tb))) := ⟨(Obj.cls_mapFields _ _).trans ho.1, Obj.data_mapFields ho.2 _⟩
    have h12 : (vs.setIfInBounds 1 (.ref tb))[1]? = some (.ref tb) := by
      have : 1 < vs.size := (Array.getElem?_eq_some_iff.mp h1).1
      simp [this]
    refine flight_off R₂ ho₂ h12 ht (Array.getElem?_eq_some_iff.mp h3).1 fun h'' R₃ => ?_
    refine wpAny_handleBy_builtin (X := T) (b := true) hexc hnt hself ?_
    refine Name_function_global hk hx (loadGlobal_builtin (by rw [hgl]; exact G.g _ R₃.stat) hg (by rw [hbl]; exact G.b _ R₃.stat) hb ?_) hd
    refine ⟨rfl, ⟨_, R₃.frm (.tail _ (.head _)), ho₂.1⟩, ?_⟩
    rw [if_pos rfl]
    refine flight_off R₃ ho₂ h12 (Obj.data_mapFields ht _) (by have := (Array.getElem?_eq_some_iff.mp h3).1; simpa using this) fun h3' R₄ => ?_
    have R₅ := R₄.popF.popF
    exact hh ea _ _ R₅
end
end Mine.Internal
end
section
open PySem PySem.W PyProof.Rows PySem.Calls PySem.Spec PySem.Builtin.List
set_option maxRecDepth 100000
namespace Mine.Internal
variable {C : Cx} {N N' : Led} {Φ : Frs} {A : Around} {mg mb : Lo} {s : Shared} {env : Env} {K : Fk} {m : Lo}
@[reducible] noncomputable def kLessW (n : Nat) (I : Nat → Led → Lo → Prop) : Flow → Led → Lo → Prop := fun f N m => (f = .next ∨ f = .cont) ∧ ∃ k, k < n ∧ I k N m
@[reducible] noncomputable def kWhl (C : Cx) (A : Around) (Φ : Frs) (K : Fk) (m : Lo) (env : Env) (body : List Stmt) (QB Q : Flow → Led → Lo → Prop) : Bool → Led → Prop := fun b N => if b then WS C A (execs body env) QB N K m Φ else Q .next N m
theorem s_while {test : Expr} {body : List Stmt} {pos} {Q : Flow → Led → Lo → Prop} (I : Nat → Led → Lo → Prop) (n : Nat) (h0 : I n N m)
    (turn : ∀ n N m, I n N m → WE C A (isTrue test env (eval test env)) (kWhl C A Φ K m env body (kLessW n I) Q) N (.fr K m :: Φ)) :
    WS C A (exec (.While test body [] pos) env) Q N K m Φ := by
  intro s E R
  refine wpAny_While ?_
  refine codeAny_whileLoop (fun k s' => ∃ N' m', Rep C N' (.fr K m' :: Φ) s' ∧ I k N' m') (fun k s' ⟨N', m', R', hI⟩ => ?_) n ⟨N, m, R, h0⟩
  refine (turn k N' m' hI).use R' fun b s₂ N₂ R₂ q => ?_
  cases b with
  | true =>
    show wpAny C.M A (execs body env) _ _ s₂
    replace q : WS C A (execs body env) (kLessW k I) N₂ K m' Φ := q
    refine q.use R₂ fun f s₃ N₃ m₃ R₃ pz0 => ?_
    refine Classical.byContradiction fun hn => ?_
    obtain ⟨hf, j, hj, hI⟩ := pz0
    refine hn ?_
    clear hn
    rcases hf with rfl | rfl <;> exact ⟨j, hj, N₃, m₃, R₃, hI⟩
  | false =>
    exact wpAny_pure ⟨N₂, m', R₂, q⟩
noncomputable def uldL : List Pc → List Pc → List Pc → List Pc × List Pc × List Pc
  | [], st, mi => ([], st, mi)
  | p :: r, st, mi => if sgL (p :: r) = 0 then (p :: r, st, mi) else if p ∈ st then uldL r (st.erase p) mi else uldL r st (mi ++ [p])
theorem uldL_c {p : Pc} {r st mi : List Pc} : uldL (p :: r) st mi = if sgL (p :: r) = 0 then (p :: r, st, mi) else if p ∈ st then uldL r (st.erase p) mi else uldL r st (mi ++ [p]) := rfl
theorem All2.eraseIdx {α : Type} {F : Value → α → Prop} : ∀ {vs : List Value} {ps : List α} (i : Nat), All2 F vs ps → All2 F (vs.eraseIdx i) (ps.eraseIdx i)
  | [], [], _, _ => trivial
  | _ :: _, _ :: _, 0, h => h.2
  | _ :: _, _ :: _, i + 1, h => ⟨h.1, All2.eraseIdx i h.2⟩
theorem sgL_append (ps qs : List Pc) : sgL (ps ++ qs) = sgL ps + sgL qs := by simp [sgL]
theorem sgL_reverse (ps : List Pc) : sgL ps.reverse = sgL ps := by
  induction ps with
  | nil => rfl
  | cons p ps ih => rw [List.reverse_cons, sgL_append, ih]; simp [sgL]; lia
theorem sgL_le (ps : List Pc) : sgL ps ≤ 2 * ps.length := by
  induction ps with
  | nil => simp [sgL]
  | cons p ps ih =>
    have h1 : sg p ≤ 2 := by
      have := s_len p; have h1 := s1_len p; have h2 := s2_len p
      lia
    simp only [sgL, List.map_cons, List.sum_cons, List.length_cons] at ih ⊢
    lia
theorem FrOk.deeper {fd : FuncData} {L a : Addr} {k : List (Str × Addr)} {m : Lo} (h : FrOk A Φ) (hk : fd.scope.kind ≠ .module) : FrOk (A.deeper (callEnvC fd L a)) (.fr ⟨L, k⟩ m :: Φ) := by
  refine Classical.byContradiction fun hn => ?_
  obtain ⟨l, e1, e2⟩ := h
  refine hn ?_
  clear hn
  refine ⟨callEnvC fd L a :: l, by show A.frames.map _ = _; rw [e1]; rfl, fun env he => ?_⟩
  rcases List.mem_cons.mp he with rfl | he
  · exact ⟨hk, _, _, .head _, rfl⟩
  · obtain ⟨h1, k, m, h2, h3⟩ := e2 env he
    exact ⟨h1, k, m, .tail _ h2, h3⟩
end Mine.Internal
end
section
open PySem PySem.W PyProof.Rows PySem.Calls PySem.Spec PySem.Builtin.List
set_option maxRecDepth 100000
namespace Mine.Internal
variable {C : Cx} {N N' : Led} {Φ : Frs} {A : Around} {mg mb : Lo} {s : Shared} {env : Env} {K : Fk} {m : Lo}
theorem exc_VE : isSubtype (.type "ValueError") (.type "BaseException") = pure true := by rw [isSubtype_type]; kernel_rfl
theorem notTup_VE : isSubtype (.type ((Manifest.find? "ValueError").elim "type" fun x => x.metatype)) (.type "tuple") = pure false := by
  rw [show ((Manifest.find? "ValueError").elim "type" fun x => x.metatype) = "type" from by kernel_rfl, isSubtype_type]; kernel_rfl
theorem self_VE : isSubtype (.type "ValueError") (.type "ValueError") = pure true := by rw [isSubtype_type]; kernel_rfl
structure ValE (mg mb : Lo) : Prop where
  n : mg "ValueError" = none
  b : mb "ValueError" = some (.type "ValueError")
structure UldI (N₀ : Led) (ex De st Ds M : Addr) (hd : Int) (r q mi : List Pc) (N : Led) (m : Lo) : Prop where
  keep : ∀ p ∈ N₀, p.1 ≠ ex → p.1 ≠ st → p ∈ N
  hex : ∃ vs n, Row N ex De 0 vs n ∧ PcL N vs r.reverse
  hst : ∃ vs n, Row N st Ds hd vs n ∧ PcL N vs q
  hmi : ∃ vs n, (M, lst vs n) ∈ N ∧ PcL N vs mi
  m1 : m "expected" = some (.ref ex)
  m2 : m "actual" = some (.ref st)
  m3 : m "missing" = some (.ref M)
theorem Row.but {row D a : Addr} {hd : Int} {vs : List Value} {n : Nat} {o' : Obj} (r : Row N row D hd vs n) (U : Upd N N' a o') (h1 : row ≠ a) (h2 : D ≠ a) : Row N' row D hd vs n := ⟨U.but _ r.obj h1, let ⟨a, b, c, d, x⟩ := r.dict; ⟨a, b, c, d, U.but _ x h2⟩⟩
set_option maxHeartbeats 4000000 in
theorem c_uld {ex De st Ds : Addr} {hd : Int} {vs ws : List Value} {n k : Nat} {ps qs : List Pc} {Q : Value → Led → Prop} (H : All C mg mb) (T : TabF C mg mb) (V : ValE mg mb) (ho : AOk A 8) (fr : FrOk A Φ) (r1 : Row N ex De 0 vs n) (r2 : Row N st Ds hd ws k)
    (hne : ex ≠ st) (hD0 : De ≠ ex) (hD1 : Ds ≠ st) (hD : De ≠ st) (hD' : Ds ≠ ex) (hp : PcL N vs ps) (hq : PcL N ws qs) (hl : ps.length ≤ 2 ^ 10) (hl' : qs.length ≤ 2 ^ 10)
    (q : ∀ N' t M tn, (∀ p ∈ N, p.1 ≠ ex → p.1 ≠ st → p ∈ N') → New M N → (∃ m, UldI N ex De st Ds M hd (uldL ps.reverse qs []).1 (uldL ps.reverse qs []).2.1 (uldL ps.reverse qs []).2.2 N' m) → (t, tup [.ref M, .ref st] tn) ∈ N' → Q (.ref t) N') : WE C A (PySem.call (.ref 35) [.ref ex, .ref st]) Q N Φ := by
  have G := H.G.P
  obtain ⟨pm, hf⟩ := G.f_uld
  refine WE.call (CE.fnCells (binds := [("expected", .ref ex), ("actual", .ref st)]) (cs := fun _ => []) (k := 7) G.G ho hf.any rfl rfl rfl (fun _ => rfl) fun L => ?_)
  have fr' := fr.deeper (fd := mkFd (stOf 3) 35 (stName (stOf 3)) [] .none pm .none) (L := L) (a := 35) (k := []) (m := bindM [("expected", .ref ex), ("actual", .ref st)] fun _ => none) (fun h => nomatch (show ScopeKind.function = ScopeKind.module from h))
  have hfr : ∃ outer, (A.deeper (callEnvC (mkFd (stOf 3) 35 (stName (stOf 3)) [] .none pm .none) L 35)).frames = some (callEnvC (mkFd (stOf 3) 35 (stName (stOf 3)) [] .none pm .none) L 35 :: outer) := by
    refine Classical.byContradiction fun hn => ?_
    obtain ⟨l, e, _⟩ := fr
    refine hn ?_
    clear hn
    exact ⟨l, by show A.frames.map _ = _; rw [e]; rfl⟩
  have ho' := ho.deeper (env := callEnvC (mkFd (stOf 3) 35 (stName (stOf 3)) [] .none pm .none) L 35)
  refine s_cons ?_
  refine s_assign (.inl ⟨rfl, rfl, rfl⟩) ?_
  refine e_list ?_
  refine a_nil ⟨sz_ok (by simp), fun M hM => ?_⟩
  refine s_cons ?_
  refine s_while (fun j N' m' => ∃ r q' mi, j = r.length ∧ uldL r q' mi = uldL ps.reverse qs [] ∧ r.length ≤ 2 ^ 10 ∧ q'.length ≤ 2 ^ 10 ∧ mi.length + r.length ≤ 2 ^ 10 ∧ UldI N ex De st Ds M hd r q' mi N' m') ps.length
    ⟨ps.reverse, qs, [], by simp, rfl, by simpa using hl, hl', by simpa using hl, ⟨fun p hp _ _ => .tail _ hp, ⟨vs, n, r1.mono (Ext.cons _ _), by rw [List.reverse_reverse]; exact hp.mono (Ext.cons _ _)⟩, ⟨ws, k, r2.mono (Ext.cons _ _), hq.mono (Ext.cons _ _)⟩, ⟨[], 0, .head _, trivial⟩, ?_, ?_, setLo_self ..⟩⟩ ?_
  · rw [setLo_ne (by decide)]; rfl
  · rw [setLo_ne (by decide)]; rfl
  rintro j N₁ m₁ ⟨r, q', mi, rfl, hu, g1, g2, g3, I⟩
  refine Classical.byContradiction fun hn => ?_
  obtain ⟨vs₁, n₁, i1, i2⟩ := I.hex
  refine hn ?_
  clear hn
  have hsr := sgL_reverse r
  have hle := sgL_le r
  refine t_plain (fun _ => rfl) ?_
  refine e_local (v := .ref ex) I.m1 ?_
  refine truthy_R H T ho' i1 i2 (by decide) (by decide) (by simp; lia) (by rw [hsr]; lia) fun N₂ e2 => ?_
  rw [hsr, Int.zero_add]
  have I₂ : UldI N ex De st Ds M hd r q' mi N₂ m₁ := ⟨fun p hp a b => e2 _ (I.keep p hp a b), let ⟨a, b, c, d⟩ := I.hex; ⟨a, b, c.mono e2, d.mono e2⟩, let ⟨a, b, c, d⟩ := I.hst; ⟨a, b, c.mono e2, d.mono e2⟩, let ⟨a, b, c, d⟩ := I.hmi; ⟨a, b, e2 _ c, d.mono e2⟩, I.m1, I.m2, I.m3⟩
  by_cases hz : sgL r = 0
  · rw [hz]
    refine ite_n (by decide) ?_
    have hend : uldL r q' mi = (r, q', mi) := by
      cases r with
      | nil => rfl
      | cons p r => rw [uldL_c, if_pos hz]
    refine s_cons ?_
    refine s_ret ?_
    refine e_tuple ?_
    refine a_cons (e_local (v := .ref M) I₂.m3 (a_cons (e_local (v := .ref st) I₂.m2 (a_nil ⟨sz_ok (by simp), fun t ht => ?_⟩))))
    refine q _ t M 0 (fun p hp a b => .tail _ (I₂.keep p hp a b)) hM ⟨m₁, ?_⟩ (.head _)
    rw [← hu, hend]
    exact ⟨fun p hp a b => .tail _ (I₂.keep p hp a b), let ⟨a, b, c, d⟩ := I₂.hex; ⟨a, b, c.mono (Ext.cons _ _), d.mono (Ext.cons _ _)⟩, let ⟨a, b, c, d⟩ := I₂.hst; ⟨a, b, c.mono (Ext.cons _ _), d.mono (Ext.cons _ _)⟩, let ⟨a, b, c, d⟩ := I₂.hmi; ⟨a, b, .tail _ c, d.mono (Ext.cons _ _)⟩, I.m1, I.m2, I.m3⟩
  · have hb : ((sgL r : Nat) : Int) ≠ 0 := by lia
    refine ite_y (by simpa using hb) ?_
    cases r with
    | nil => exact absurd rfl hz
    | cons p r =>
    rw [uldL_c, if_neg hz] at hu
    rw [List.length_cons] at g1 g3
    refine Classical.byContradiction fun hn => ?_
    obtain ⟨vs₂, n₂, j1, j2⟩ := I₂.hex
    refine hn ?_
    clear hn
    rw [List.reverse_cons] at j2
    obtain ⟨us, x, rfl, j3, j4⟩ := j2.snoc
    have hul := j3.length
    rw [List.length_reverse] at hul
    have hMex : M ≠ ex := fun h => hM _ r1.obj h.symm
    have hMst : M ≠ st := fun h => hM _ r2.obj h.symm
    have hMDe : De ≠ M := by obtain ⟨_, _, _, _, x⟩ := r1.dict; exact hM _ x
    have hMDs : Ds ≠ M := by obtain ⟨_, _, _, _, x⟩ := r2.dict; exact hM _ x
    refine s_cons ?_
    refine s_assign (.inl ⟨rfl, rfl, rfl⟩) ?_
    refine e_meth ?_
    refine e_local (v := .ref ex) I.m1 ?_
    refine getMethod_R G.F H.G.f_pop j1 (by decide) G.F.pop ?_
    refine H.G.f_pop.cwc rfl ?_
    refine a_nil ?_
    refine c_pop H.G (ho'.le (by decide)) j1 (by rw [sizeLine_eq]; lia) fun N₃ N₄ k₄ e3 U => ?_
    have q1 := (j1.mono e3).upd U hD0
    refine Classical.byContradiction fun hn => ?_
    obtain ⟨ws₂, w₂, i3, i4⟩ := I₂.hst
    have q2 := (i3.mono e3).but U (Ne.symm hne) hD'
    obtain ⟨ms, mk, i5, i6⟩ := I₂.hmi
    refine hn ?_
    clear hn
    have q3 := U.but _ (e3 _ i5) hMex
    have q4 := U.pcl ((show PcL N₂ us r.reverse from j3).mono e3)
    have q5 := U.pcl (i4.mono e3)
    have q6 := U.pcl (i6.mono e3)
    have q7 := U.pc _ _ (j4.mono e3)
    have keep₄ : ∀ p ∈ N, p.1 ≠ ex → p.1 ≠ st → p ∈ N₄ := fun p hp a b => U.but _ (e3 _ (I₂.keep p hp a b)) a
    have hwl := q5.length
    have hml := q6.length
    refine s_cons ?_
    refine s_try (T := "ValueError") G.G V.n V.b exc_VE notTup_VE self_VE ?_ rfl hfr rfl rfl rfl rfl (by decide) ?_
    · obtain ⟨l, e1, e2⟩ := fr'
      refine ⟨l, e1, fun env he => ?_⟩
      refine Classical.byContradiction fun hn => ?_
      obtain ⟨h1, k, m, h2, h3⟩ := e2 env he
      refine hn ?_
      clear hn
      rcases List.mem_cons.mp h2 with h2 | h2
      · cases h2; exact ⟨h1, _, _, .head _, h3⟩
      · exact ⟨h1, k, m, .tail _ h2, h3⟩
    refine sx_cons ?_
    refine sx_expr ?_
    refine ex_meth ?_
    refine e_local (v := .ref st) (by rw [setLo_ne (by decide)]; exact I.m2) ?_
    refine lm_remove.get G.F (.inr rfl) (.inr q2.obj) (q2.ok (by decide)) (fun _ => G.F.remove) ?_
    refine cx_blt rfl ?_
    refine a_cons ?_
    refine e_local (v := x) (setLo_self ..) ?_
    refine a_nil ?_
    by_cases hm : p ∈ q'
    · rw [if_pos hm] at hu
      refine WX.of (WE.fn fun fn => m_remove (k := 6) G.F (.inr rfl) ho' q2.obj q5 q7 (by rw [sizeLine_eq]; lia) hm fun i k' hi hlt => ?_)
      have U2 : Upd N₄ (updL N₄ st (sq (.ref accA) (some Ds) (ws₂.eraseIdx i) k')) st (sq (.ref accA) (some Ds) (ws₂.eraseIdx i) k') := .of fn q2.obj (by simp)
      refine ⟨sx_nil ⟨rfl, s_nil ⟨.inl rfl, r.length, Nat.lt_succ_self _, r, q'.erase p, mi, rfl, hu, by lia, ?_, by lia, ?_⟩⟩, fun _ h => nomatch h⟩
      · exact Nat.le_trans (List.length_erase_le ..) g2
      · refine ⟨fun p hp a b => U2.but _ (keep₄ p hp a b) b, ⟨us, k₄, q1.but U2 hne hD, U2.pcl q4⟩, ⟨_, k', q2.upd U2 hD1, ?_⟩, ⟨ms, mk, U2.but _ q3 hMst, U2.pcl q6⟩, ?_, ?_, ?_⟩
        · rw [List.erase_eq_eraseIdx_of_idxOf hi]
          exact All2.eraseIdx i (U2.pcl q5)
        · rw [setLo_ne (by decide)]; exact I.m1
        · rw [setLo_ne (by decide)]; exact I.m2
        · rw [setLo_ne (by decide)]; exact I.m3
    · rw [if_neg hm] at hu
      intro s₅ R₅
      refine m_remove_miss (k := 6) G.F (.inr rfl) ho' q2.obj q5 q7 hm R₅ fun e s' hT => ⟨_, _, hT, fun a => ?_⟩
      refine s_cons ?_
      refine s_expr ?_
      refine e_meth ?_
      refine e_local (v := .ref M) (by rw [setLo_ne (by decide)]; exact I.m3) ?_
      refine lm_append.list G.F (.inr q3) ?_
      refine cw_blt rfl ?_
      refine a_cons ?_
      refine e_local (v := x) (setLo_self ..) ?_
      refine a_nil ?_
      refine m_append' G.F (.inl rfl) q3 (by rw [sizeLine_eq]; lia) fun N₅ k₅ U2 => ?_
      refine ⟨s_nil (s_nil ⟨.inl rfl, r.length, Nat.lt_succ_self _, r, q', mi ++ [p], rfl, hu, by lia, g2, by simp; lia, ?_⟩), fun _ h => nomatch h⟩
      refine ⟨fun p hp a b => U2.but _ (keep₄ p hp a b) (hM _ hp), ⟨us, k₄, q1.but U2 (Ne.symm hMex) hMDe, U2.pcl q4⟩, ⟨_, _, q2.but U2 (Ne.symm hMst) hMDs, U2.pcl q5⟩, ⟨_, k₅, U2.self, (U2.pcl q6).append ⟨U2.pc _ _ q7, trivial⟩⟩, ?_, ?_, ?_⟩
      · rw [setLo_ne (by decide)]; exact I.m1
      · rw [setLo_ne (by decide)]; exact I.m2
      · rw [setLo_ne (by decide)]; exact I.m3
end Mine.Internal
end
section
open PySem PySem.W PyProof.Rows PySem.Calls PySem.Spec PySem.Builtin.List
set_option maxRecDepth 100000
namespace Mine.Internal
variable {C : Cx} {N N' : Led} {Φ : Frs} {A : Around} {mg mb : Lo} {s : Shared} {env : Env} {K : Fk} {m : Lo}
noncomputable def Fresh1 (C : Cx) (N : Led) (Φ : Frs) (T : String) (b : Bool) (x : Value) (s : Shared) : Prop :=
  ∃ e oe vs, x = .ref e ∧ Rep C N (.ob e oe :: Φ) s ∧ excO T vs oe ∧ vs[1]? = some .none ∧ (b = true → vs[2]? = some .none)
noncomputable def TbOk (vs ts : Array Value) (tb L : Addr) (otb : Obj) (on : Bool) : Prop := vs[1]? = some (.ref tb) ∧ otb.data = .fields ts ∧ 3 < ts.size ∧ (on = true → ts[3]? = some (rawInt L))
noncomputable def Noted (C : Cx) (N : Led) (Φ : Frs) (T : String) (L : Addr) (on b : Bool) (x : Value) (s : Shared) : Prop :=
  ∃ e oe vs tb otb ts, x = .ref e ∧ Rep C N (.ob tb otb :: .ob e oe :: Φ) s ∧ excO T vs oe ∧ (b = true → vs[2]? = some .none) ∧ TbOk vs ts tb L otb on
noncomputable def Flown (C : Cx) (N : Led) (Φ : Frs) (T : String) (L : Addr) (b : Bool) (x : Value) (s : Shared) : Prop := Fresh1 C N Φ T b x s ∨ Noted C N Φ T L true b x s
structure Fx (A : Around) (env : Env) (K : Fk) (Φ : Frs) : Prop where
  fr : ∀ m, FrOk A (.fr K m :: Φ)
  hef : env.frame = some K.L
  henv : ∃ outer, A.frames = some (env :: outer)
theorem FrOk.more {Φ' : Frs} (h : FrOk A Φ) (k : ∀ f ∈ Φ, f ∈ Φ') : FrOk A Φ' := by
  refine Classical.byContradiction fun hn => ?_
  obtain ⟨l, e1, e2⟩ := h
  refine hn ?_
  clear hn
  exact ⟨l, e1, fun env' h' => let ⟨h3, k', mm, h4, h5⟩ := e2 env' h'; ⟨h3, k', mm, k _ h4, h5⟩⟩
theorem Fx.mark {v : Option Value} (h : Fx A env K Φ) : Fx (A.mark v) env K Φ := by
  refine ⟨fun m => ?_, h.hef, ?_⟩
  · obtain ⟨l, e1, e2⟩ := h.fr m
    exact ⟨l, by cases v <;> exact e1, e2⟩
  · obtain ⟨l, e⟩ := h.henv
    exact ⟨l, by cases v <;> exact e⟩
theorem Fx.more {Φ' : Frs} (h : Fx A env K Φ) (k : ∀ f ∈ Φ, f ∈ Φ') : Fx A env K Φ' := by
  refine ⟨fun m => (h.fr m).more fun f hf => ?_, h.hef, h.henv⟩
  rcases List.mem_cons.mp hf with rfl | hf
  · exact .head _
  · exact .tail _ (k f hf)
theorem noteFlown {T : String} {b : Bool} {x : Value} {Q : Unit → Shared → Prop} {E} (fx : Fx A env K Φ) (h : Flown C N (.fr K m :: Φ) T K.L b x s) (q : ∀ s', Noted C N (.fr K m :: Φ) T K.L true b x s' → Q () s') : wpAny C.M A (noteFrame x env) Q E s := by
  rcases h with ⟨e, oe, vs, rfl, R, ho, h1, h2⟩ | ⟨e, oe, vs, tb, otb, ts, rfl, R, ho, h2, h1, hd, hsz, h3⟩
  · obtain ⟨outer, hfr⟩ := fx.henv
    refine Classical.byContradiction fun hn => ?_
    obtain ⟨l, e1, e2⟩ := fx.fr m
    refine hn ?_
    clear hn
    rw [hfr] at e1; cases e1
    have hsz : 1 < vs.size := (Array.getElem?_eq_some_iff.mp h1).1
    refine noteFrame_first hfr e2 fx.hef R ho h1 fun h' tb otb ts R₂ ht h3 => q _ ?_
    refine ⟨e, _, _, tb, otb, ts, rfl, R₂, ⟨(Obj.cls_mapFields _ _).trans ho.1, Obj.data_mapFields ho.2 _⟩, fun hb => ?_, ?_, ht, (Array.getElem?_eq_some_iff.mp h3).1, fun _ => h3⟩
    · have := h2 hb
      rw [Array.getElem?_setIfInBounds_ne (by decide)]; exact this
    · simp [hsz]
  · exact wpAny_noteFrame_inFlight fx.hef (R.frm (.tail _ (.head _))) ho.2 h1 (R.frm (.head _)) hd (h3 rfl) (q _ ⟨e, oe, vs, tb, otb, ts, rfl, R, ho, h2, h1, hd, hsz, h3⟩)
theorem tb_set {e tb L : Addr} {T : String} {oe otb : Obj} {vs ts : Array Value} {v : Value} {on : Bool} {Q : Unit → Shared → Prop} {E} (R : Rep C N (.ob tb otb :: .ob e oe :: Φ) s) (h : TbOk vs ts tb L otb on)
    (q : ∀ s', Rep C N (.ob tb (otb.mapFields (·.setIfInBounds 3 v)) :: .ob e oe :: Φ) s' → TbOk vs (ts.setIfInBounds 3 v) tb L (otb.mapFields (·.setIfInBounds 3 v)) false → (v = rawInt L → TbOk vs (ts.setIfInBounds 3 v) tb L (otb.mapFields (·.setIfInBounds 3 v)) true) → Q () s') : wpAny C.M A (setField (.ref tb) 3 v) Q E s := by
  refine Classical.byContradiction fun hn => ?_
  obtain ⟨h1, hd, hsz, h3⟩ := h
  refine hn ?_
  clear hn
  have htb : s.heap.get? tb = some otb := R.frm (.head _)
  refine wpAny_setField htb hd hsz ?_
  refine q _ (R.top (f' := .ob tb (otb.mapFields (·.setIfInBounds 3 v))) (tk := s.toks) rfl (fun b o hb e1 => ?_) (Heap.get?_update_self _ htb (Obj.isFreed_of_fields (Obj.data_mapFields hd _)))) ⟨h1, Obj.data_mapFields hd _, by simpa using hsz, fun h => by cases h⟩ fun hv => ⟨h1, Obj.data_mapFields hd _, by simpa using hsz, fun _ => ?_⟩
  · rw [Heap.get?_update_other _ _ (fun q => hb (by rw [← q]; exact .head _))]; exact e1
  · subst hv; simp [hsz]
theorem setFlight_off {T : String} {L : Addr} {b on : Bool} {x : Value} {Q : Unit → Shared → Prop} {E} (h : Noted C N Φ T L on b x s) (q : ∀ s', Noted C N Φ T L false b x s' → Q () s') : wpAny C.M A (setFlight x none) Q E s := by
  obtain ⟨e, oe, vs, tb, otb, ts, rfl, R, ho, h2, h3⟩ := h
  unfold setFlight
  refine wpAny_bind (wpAny_field (R.frm (f := .ob e oe) (.tail _ (.head _))) ho.2 h3.1 ?_)
  rw [if_pos (show (Value.ref tb != Value.none) = true from by simp)]
  exact tb_set (T := T) R h3 fun s' R' h _ => q s' ⟨e, oe, vs, tb, _, _, rfl, R', ho, h2, h⟩
theorem setFlight_on {T : String} {b on : Bool} {x : Value} {Q : Unit → Shared → Prop} {E} (hf : env.frame = some K.L) (h : Noted C N Φ T K.L on b x s) (q : ∀ s', Noted C N Φ T K.L true b x s' → Q () s') : wpAny C.M A (setFlight x env.frame) Q E s := by
  obtain ⟨e, oe, vs, tb, otb, ts, rfl, R, ho, h2, h3⟩ := h
  unfold setFlight
  refine wpAny_bind (wpAny_field (R.frm (f := .ob e oe) (.tail _ (.head _))) ho.2 h3.1 ?_)
  rw [if_pos (show (Value.ref tb != Value.none) = true from by simp), hf]
  exact tb_set (T := T) R h3 fun s' R' _ h => q s' ⟨e, oe, vs, tb, _, _, rfl, R', ho, h2, h rfl⟩
theorem cameBack {T : String} {b : Bool} {x : Value} {E : Value → Shared → Prop} (hf : env.frame = some K.L) (h : Noted C N Φ T K.L true b x s) (q : ∀ s', Noted C N Φ T K.L true b x s' → E x s') : cameBackBy C.M A env E x s := by
  obtain ⟨e, oe, vs, tb, otb, ts, rfl, R, ho, h2, h3⟩ := h
  unfold cameBackBy
  refine wpAny_bind (wpAny_field (R.frm (f := .ob e oe) (.tail _ (.head _))) ho.2 h3.1 ?_)
  rw [if_neg (by simp)]
  exact setFlight_on hf ⟨e, oe, vs, tb, otb, ts, rfl, R, ho, h2, h3⟩ q
theorem passOn_on {α : Type} {what : String} {T : String} {b on : Bool} {x : Value} {Q : α → Shared → Prop} {E : Value → Shared → Prop} (hf : env.frame = some K.L) (h : Noted C N Φ T K.L on b x s) (q : ∀ s', Noted C N Φ T K.L true b x s' → E x s') : wpAny C.M A (PySem.passOn what x env : Sem α) Q E s := by
  obtain ⟨e, oe, vs, tb, otb, ts, rfl, R, ho, h2, h3⟩ := h
  unfold PySem.passOn
  refine wpAny_bind (wpAny_field (R.frm (f := .ob e oe) (.tail _ (.head _))) ho.2 h3.1 ?_)
  rw [if_neg (by simp)]
  refine wpAny_bind (setFlight_on hf ⟨e, oe, vs, tb, otb, ts, rfl, R, ho, h2, h3⟩ fun s' h' => ?_)
  exact wpAny_throw (q s' h')
noncomputable def XP (C : Cx) (K : Fk) (Φ : Frs) (T : String) (P : Bool → Led → Lo → Prop) (x : Value) (s : Shared) : Prop := ∃ N m b, Flown C N (.fr K m :: Φ) T K.L b x s ∧ P b N m
theorem XP.noted {T : String} {P : Bool → Led → Lo → Prop} {x : Value} {E : Value → Shared → Prop} (fx : Fx A env K Φ) (h : XP C K Φ T P x s) (q : ∀ s' N m b, Noted C N (.fr K m :: Φ) T K.L true b x s' → P b N m → E x s') : notedBy C.M A env E x s := by
  refine Classical.byContradiction fun hn => ?_
  obtain ⟨N, m, b, h, p⟩ := h
  refine hn ?_
  clear hn
  exact noteFlown fx h fun s' h' => q s' N m b h' p
noncomputable def HandOk (A : Around) (Φ : Frs) (b : Bool) : Prop := (A.handled = none ∧ b = true) ∨ (b = false ∧ ∃ e o vs, A.handled = some (.ref e) ∧ .ob e o ∈ Φ ∧ o.data = .fields vs ∧ vs[2]? = some .none)
theorem Rep.fresh1 {h' : Heap} {tk : Nat} {e : Addr} {T : String} (R : Rep C N Φ s) (x : Heap.NewExc s.heap h' e T) : Fresh1 C N Φ T true (.ref e) { s with heap := h', toks := tk } := by
  refine Classical.byContradiction fun hn => ?_
  obtain ⟨ob, t, ho, hc, hd⟩ := x.there
  refine hn ?_
  clear hn
  refine ⟨e, ob, _, rfl, ?_, ⟨hc, hd⟩, rfl, fun _ => rfl⟩
  refine Classical.byContradiction fun hn => ?_
  obtain ⟨⟨z, r⟩, os, g⟩ := R
  refine hn ?_
  clear hn
  have F : ∀ a ∈ (Prv.ob e ob).own, Fresh C z N Φ a := fun a ha => by
    have ea : a = e := by simpa [Prv.own] using ha
    rw [ea]; exact r.fresh' x.new
  exact ⟨⟨z, RepZ.pushF (f := .ob e ob) (r.grow x.keeps) ho F (by simp [Prv.own])⟩, os, g⟩
theorem entry_unchain : entryFor table "proto.unchain" = some Builtin.«proto.unchain» := entryFor_of_tree (by kernel_rfl)
theorem plain_unchain : plainId "proto.unchain" = true := by decide +kernel
theorem raise1 {α : Type} {cls msg : String} {b : Bool} {Q : α → Shared → Prop} {E : Value → Shared → Prop} (hp : PlainExc cls) (hh : HandOk A Φ b) (R : Rep C N Φ s) (q : ∀ x s', Fresh1 C N Φ cls b x s' → E x s') : wpAny C.M A (raiseErrorWords cls msg : Sem α) Q E s := by
  rcases hh with ⟨hh, rfl⟩ | ⟨rfl, e, o, vs, hh, hm, hd, h2⟩
  · exact wpAny_raiseErrorWords hp hh fun h' tk e x => q _ _ (R.fresh1 x)
  · unfold raiseErrorWords
    refine wpAny_bind (wpAny_mkText (wpAny_bind ?_))
    unfold newExc newTuple
    refine wpAny_bind (wpAny_newObj_type ?_)
    refine wpAny_bind (m := firstArgMember _ _) (wpAny_of_eq (a := Value.none) (by simp only [firstArgMember, hp.first]; rfl) ?_)
    rw [hp.own]
    refine wpAny_newObj_type ?_
    have x : Heap.NewExc s.heap ((s.heap.push { cls := .type "tuple", data := .seq [Value.str (Str.ofString msg) s.toks].toArray }).push { cls := .type cls, data := .fields (#[.ref s.heap.objs.size, .none, .none, .none, .bool false, .none] ++ #[]) }) (s.heap.push { cls := .type "tuple", data := .seq [Value.str (Str.ofString msg) s.toks].toArray }).objs.size cls :=
      ⟨fun b o hb => Heap.get?_push_of_some _ (Heap.get?_push_of_some _ hb), Heap.get?_none_of_le (by simp), _, .ref s.heap.objs.size, Heap.get?_push_size _ rfl, rfl, by simp⟩
    refine Classical.byContradiction fun hn => ?_
    obtain ⟨e', oe, ws, he', R', ho, h1, h2'⟩ := R.fresh1 (tk := s.toks + 1) x
    refine hn ?_
    clear hn
    cases he'
    have hne : e ≠ (s.heap.push { cls := .type "tuple", data := .seq [Value.str (Str.ofString msg) s.toks].toArray }).objs.size := fun he => by
      obtain ⟨z, r⟩ := R'.z
      have := r.nd
      rw [own_cons, List.nodup_append] at this
      exact this.2.2 _ (.head _) e (mem_own (f := .ob e o) hm (.head _)) he.symm
    unfold raiseNew
    refine wpAny_bind (wpAny_handled ?_)
    rw [hh]
    dsimp only
    rw [if_pos (bne_iff_ne.mpr fun h => hne (Value.ref.inj h))]
    refine wpAny_bind (wpAny_holding (wpAny_runValue (codeAny_builtin entry_unchain ?_)))
    rw [Around.under_plainId plain_unchain _]
    show wpAny _ _ (field (.ref e) 2 >>= _) _ _ _
    refine wpAny_bind (wpAny_field (R'.frm (f := .ob e o) (.tail _ hm)) hd h2 ?_)
    rw [if_pos (by rfl)]
    refine wpAny_pure ?_
    unfold updateField
    refine wpAny_bind (wpAny_bind (wpAny_load (R'.frm (f := .ob _ oe) (.head _)) ?_))
    rw [ho.2]
    dsimp only
    have hsz : 2 < ws.size := (Array.getElem?_eq_some_iff.mp (h2' rfl)).1
    rw [if_pos hsz]
    refine wpAny_update (R'.frm (f := .ob _ oe) (.head _)) ?_
    refine wpAny_throw (q _ _ ⟨_, _, ws.setIfInBounds 2 (.ref e), rfl, R'.top (f' := .ob _ (oe.mapFields (·.setIfInBounds 2 (.ref e)))) (tk := s.toks + 1) rfl (fun b o hb e1 => ?_) (Heap.get?_update_self _ (R'.frm (f := .ob _ oe) (.head _)) (Obj.isFreed_of_fields (Obj.data_mapFields ho.2 _))), ⟨(Obj.cls_mapFields _ _).trans ho.1, Obj.data_mapFields ho.2 _⟩, ?_, fun h => by cases h⟩)
    · rw [Heap.get?_update_other _ _ (fun q => hb (by rw [← q]; exact .head _))]; exact e1
    · rw [Array.getElem?_setIfInBounds_ne (by decide)]; exact h1
end Mine.Internal
end
section
open PySem PySem.W PyProof.Rows PySem.Calls PySem.Spec PySem.Builtin.List
set_option maxRecDepth 100000
namespace Mine.Internal
variable {C : Cx} {N N' : Led} {Φ : Frs} {A : Around} {mg mb : Lo} {s : Shared} {env : Env} {K : Fk} {m : Lo}
section
variable {X : Value → Shared → Prop}
theorem WX.operate {vs : List Value} {t : Sem Value} {Q : Value → Led → Prop} (h : WX C A t Q X N Φ) : WX C A (PySem.operate vs t) Q X N Φ := fun s R => wpAny_operate' (h s R)
theorem WX.standAt {p : Pos} {Q : Unit → Led → Prop} (q : Q () N) : WX C A (PySem.standAt p) Q X N Φ := .of (WE.standAt q)
@[reducible] noncomputable def kIfX (C : Cx) (A : Around) (Φ : Frs) (X : Value → Shared → Prop) (K : Fk) (m : Lo) (env : Env) (body orelse : List Stmt) (Q : Flow → Led → Lo → Prop) : Bool → Led → Prop := fun b N => if b then WSX C A (execs body env) Q X N K m Φ else WSX C A (execs orelse env) Q X N K m Φ
@[reducible] noncomputable def kSubX2 (C : Cx) (A : Around) (Φ : Frs) (X : Value → Shared → Prop) (value slice : Expr) (o : Value) (Q : Value → Led → Prop) : Value → Led → Prop := fun i N => WX C A (subT value slice o i) Q X N Φ
@[reducible] noncomputable def kSubX (C : Cx) (A : Around) (Φ : Frs) (X : Value → Shared → Prop) (env : Env) (value slice : Expr) (Q : Value → Led → Prop) : Value → Led → Prop := fun o N => WE C A (eval slice env) (kSubX2 C A Φ X value slice o Q) N Φ
@[reducible] noncomputable def kAug (m : Lo) (x : Str) (a : Int) (Q : Flow → Led → Lo → Prop) : Value → Led → Prop := fun v N => ∃ b u, v = .int b u ∧ ∀ t', Q .next N (setLo m x (.int (a + b) t'))
@[reducible] noncomputable def kWhlX (C : Cx) (A : Around) (Φ : Frs) (X : Value → Shared → Prop) (K : Fk) (m : Lo) (env : Env) (body : List Stmt) (QB Q : Flow → Led → Lo → Prop) : Bool → Led → Prop := fun b N => if b then WSX C A (execs body env) QB X N K m Φ else Q .next N m
@[reducible] noncomputable def kLess (n : Nat) (I : Nat → Led → Lo → Prop) (Q : Flow → Led → Lo → Prop) : Flow → Led → Lo → Prop := fun f N₃ m₃ => match f with
  | .next | .cont => ∃ k, k < n ∧ I k N₃ m₃
  | .brk => Q .next N₃ m₃
  | .ret v => Q (.ret v) N₃ m₃
@[reducible] noncomputable def kHandle (C : Cx) (A : Around) (Φ : Frs) (K : Fk) (env : Env) (suite : List Stmt) (Q : Flow → Led → Lo → Prop) : Bool → Led → Lo → Prop := fun _ N' m' => ∀ a, WS C (A.mark (some (.ref a))) (execs suite env) Q N' K m' Φ
theorem sx_if {test : Expr} {body orelse : List Stmt} {pos} {Q : Flow → Led → Lo → Prop} (h : WX C A (isTrue test env (eval test env)) (kIfX C A Φ X K m env body orelse Q) X N (.fr K m :: Φ)) :
    WSX C A (exec (.If test body orelse pos) env) Q X N K m Φ := by
  intro s R
  refine wpAny_If (wpAny_mono (h s R) (fun b s' ⟨N', R', q⟩ => ?_) fun _ _ x => x)
  cases b
  · exact q s' R'
  · exact q s' R'
theorem sx_assign {x pos' value pos} {Q : Flow → Led → Lo → Prop} (hst : StOk env K x) (h : WX C A (eval value env) (kAsg m x Q) X N (.fr K m :: Φ))
    (hk : env.scope.kind = .function := by rfl) (hs : swapsWith value (some (.Name x pos')) pos.line env = pure false := by rfl) : WSX C A (exec (.Assign [.Name x pos'] value pos) env) Q X N K m Φ := by
  intro s R
  refine wpAny_Assign_Name (wpAny_mono (h s R) (fun v s₁ ⟨N₁, R₁, q⟩ => ?_) fun _ _ x => x) hs
  exact wpAny_mono (WS.store (Q := fun _ N' m' => Q .next N' m') hk hst q s₁ X R₁) (fun _ _ x => x) fun _ _ x => x
theorem s_aug {x : Str} {pos' pos : Pos} {value : Expr} {a : Int} {t : Tok} {cs : List (Str × Addr)} {L : Addr} {Q : Flow → Led → Lo → Prop} (hv : m x = some (.int a t)) (hL : env.locals = L) (hc : cs.lookup x = none) (hl : env.kindOf x = some .local)
    (h : WE C A (eval value env) (kAug m x a Q) N (.fr ⟨L, cs⟩ m :: Φ)) (hk : env.scope.kind = .function := by rfl) :
    WS C A (exec (.AugAssign (.Name x pos') .Add value pos) env) Q N ⟨L, cs⟩ m Φ := by
  intro s E R
  obtain ⟨⟨ml, hn, he⟩, _⟩ := R.frm (.head _)
  refine wpAny_AugAssign_Name ?_
  refine wpAny_loadName_local hk hl (by rw [hL]; exact hn) ((he x hc).trans hv) ?_
  refine h.use R fun v s' N' R' pz0 => ?_
  obtain ⟨b, u, e, q⟩ := pz0
  subst e
  refine wpAny_iadd_int ?_
  exact wpAny_mono (WS.store (Q := fun _ N' m' => Q .next N' m') hk (.inl ⟨hl, hL, hc⟩) (q _) _ E (R'.tok _)) (fun _ _ x => x) fun _ _ x => x
theorem ex_sub {value slice : Expr} {pos} {Q : Value → Led → Prop} (h : WE C A (eval value env) (kSubX C A Φ X env value slice Q) N Φ) :
    WX C A (eval (.Subscript value slice pos) env) Q X N Φ := by
  rw [arm_eval_Subscript]
  exact WX.bind (.of (h.mono fun o N₁ h₁ => WX.bind (WX.holding (.of (h₁.mono fun i N₂ h₂ => WX.bind (WX.standAt h₂))))))
theorem tx_cmp {l r : Expr} {op : CmpOp} {pos whole} {Q : Bool → Led → Prop} (h : WX C A (eval l env) (kTCmp C A Φ env op r Q) X N Φ)
    (hb : behindInMarks op r = false := by rfl) : WX C A (isTrue (.Compare l [op] [r] pos) env whole) Q X N Φ := by
  rw [isTrue_Compare1]
  refine WX.bind (h.mono fun a N₁ h₁ => ?_)
  rw [markedBehindIn_of_false hb]
  exact .of (WE.bind (WE.holding (h₁.mono fun b N₂ h₂ => WE.bind (WE.standAt (WE.bind (WE.operate (h₂.mono fun c N₃ h₃ => WE.holding h₃)))))))
section miss
variable {a : Addr} {cl : Value} {d : Option Addr} {vs : List Value} {n k : Nat} {t : Tok} {b : Bool}
theorem HandOk.in1 (h : HandOk A Φ b) : HandOk A.in1 Φ b := h
theorem getitem_miss {E : Value → Shared → Prop} {Q : Value → Shared → Prop} (F : AccF C) (hc : LsC cl) (h : Has C N a (sq cl d vs n)) (hk : vs.length ≤ k) (hfit : k < 2 ^ 62) (hh : HandOk A Φ b) (Rp : Rep C N Φ s) (z : ∀ x s', Fresh1 C N Φ "IndexError" b x s' → E x s') :
    wpAny C.M A (PySem.call (.builtin "list.__getitem__") [.ref a, .int k t]) Q E s := by
  refine wpAny_call ?_
  refine codeAny_call_builtin sl_getitem.plain sl_getitem.entry ?_
  have hck : WE C A.in1 (checkBuiltinCall "list.__getitem__" ⟨.ref a :: [.int k t], []⟩) (fun _ N' => N' = N) N Φ := sl_getitem.check F hc h (PySem.args_list_getitem _ _) rfl
  refine hck.use Rp fun _ s1 N1 R1 e => ?_
  subst e
  obtain ⟨kk, hkk⟩ : ∃ kk : Int, kk = (k : Int) := ⟨_, rfl⟩
  rw [← hkk]
  unfold Builtin.«list.__getitem__»
  show wpAny C.M A.in1 (listSubscript? (.int kk t) >>= _) _ _ s1
  refine wpAny_bind (wpAny_listSubscript_int (fitsIndex_of (by lia) (by lia)) ?_)
  subst hkk
  show wpAny C.M A.in1 ((seqItemAt a k >>= fun r => Pure.pure (r.map (k, ·))) >>= _) _ _ s1
  have ex : vs.toArray[k]? = none := by simp; lia
  have hi : WE C A.in1 (seqItemAt a k >>= fun r => Pure.pure (r.map (k, ·))) (fun v N' => v = none ∧ N' = N1) N1 Φ := by
    refine WE.bind (WE.bind (WE.loadPart h (WE.pure ?_)))
    show WE C A.in1 (Pure.pure ((vs.toArray[k]?).map (k, ·))) _ _ _
    rw [ex]
    exact WE.pure ⟨rfl, rfl⟩
  refine wpAny_bind (hi.use R1 fun v s2 N2 R2 pz0 => ?_)
  obtain ⟨e1, e2⟩ := pz0
  subst e1; subst e2
  dsimp only
  refine wpAny_bind (wpAny_rule ?_)
  refine wpAny_bind ?_
  exact raise1 plainExc_IndexError hh.in1 R2 z
theorem subX_miss {value slice : Expr} {Q : Value → Led → Prop} (F : AccF C) (hc : LsC cl) (h : Has C N a (sq cl d vs n)) (hk : vs.length ≤ k) (hfit : k < 2 ^ 62) (hh : HandOk A Φ b) (z : ∀ x s', Fresh1 C N Φ "IndexError" b x s' → X x s') :
    WX C A (subT value slice (.ref a) (.int k t)) Q X N Φ := by
  unfold subT
  refine WX.bind (.of (WE.inPy F hc h ?_))
  refine WX.bind ?_
  have g : ∀ {Q : Value → Led → Prop}, WX C A (getItem (.ref a) (.int k t)) Q X N Φ := by
    intro Q
    unfold getItem
    refine WX.holding (WX.bind (.of (WE.seqKey F hc h ?_)))
    refine WX.bind ?_
    unfold callSpecial?
    refine WX.bind (.of (WE.specialL sl_getitem F.getitem hc h ?_))
    dsimp only
    refine WX.holding ?_
    rw [sl_getitem.bind]
    refine WX.bind (.of (WE.pure ?_))
    refine WX.bind fun s R => ?_
    exact getitem_miss F hc h hk hfit hh R z
  rcases subscr slice (.ref a) (.int k t) with e | e <;> rw [e] <;> exact WX.operate g
end miss
end
section loops
variable {T : String} {P : Bool → Led → Lo → Prop}
theorem sx_while {test : Expr} {body : List Stmt} {pos} {Q : Flow → Led → Lo → Prop} (fx : Fx A env K Φ) (I : Nat → Led → Lo → Prop) (n : Nat) (h0 : I n N m)
    (turn : ∀ n N m, I n N m → WX C A (isTrue test env (eval test env)) (kWhlX C A Φ (XP C K Φ T P) K m env body (kLess n I Q) Q) (XP C K Φ T P) N (.fr K m :: Φ)) :
    WSX C A (exec (.While test body [] pos) env) Q (XP C K Φ T P) N K m Φ := by
  have back : ∀ (x : Value) (s : Shared), XP C K Φ T P x s → notedBy C.M A env (fun e s' => cameBackBy C.M A env (XP C K Φ T P) e s') x s := fun x s h =>
    h.noted fx fun s' N m b h' p => cameBack fx.hef h' fun s'' h'' => ⟨N, m, b, .inr h'', p⟩
  intro s R
  refine wpAny_While ?_
  refine codeAny_whileLoop (fun k s' => ∃ N' m', Rep C N' (.fr K m' :: Φ) s' ∧ I k N' m') (fun k s' ⟨N', m', R', hI⟩ => ?_) n ⟨N, m, R, h0⟩
  refine wpAny_mono (turn k N' m' hI s' R') (fun b s₂ ⟨N₂, R₂, q⟩ => ?_) fun x s₂ h => back x s₂ h
  cases b with
  | true =>
    show wpAny C.M A (execs body env) _ _ s₂
    replace q : WSX C A (execs body env) (kLess k I Q) (XP C K Φ T P) N₂ K m' Φ := q
    refine wpAny_mono (q s₂ R₂) (fun f s₃ ⟨N₃, m₃, R₃, q⟩ => ?_) fun x s₂ h => back x s₂ h
    cases f with
    | next => obtain ⟨j, hj, hI⟩ := q; exact ⟨j, hj, N₃, m₃, R₃, hI⟩
    | cont => obtain ⟨j, hj, hI⟩ := q; exact ⟨j, hj, N₃, m₃, R₃, hI⟩
    | brk => exact ⟨N₃, m₃, R₃, q⟩
    | ret v => exact ⟨N₃, m₃, R₃, q⟩
  | false =>
    exact wpAny_pure ⟨N₂, m', R₂, q⟩
theorem s_whileB {test : Expr} {body : List Stmt} {pos} {Q : Flow → Led → Lo → Prop} (I : Nat → Led → Lo → Prop) (n : Nat) (h0 : I n N m)
    (turn : ∀ n N m, I n N m → WE C A (isTrue test env (eval test env)) (kWhl C A Φ K m env body (kLess n I Q) Q) N (.fr K m :: Φ)) :
    WS C A (exec (.While test body [] pos) env) Q N K m Φ := by
  intro s E R
  refine wpAny_While ?_
  refine codeAny_whileLoop (fun k s' => ∃ N' m', Rep C N' (.fr K m' :: Φ) s' ∧ I k N' m') (fun k s' ⟨N', m', R', hI⟩ => ?_) n ⟨N, m, R, h0⟩
  refine (turn k N' m' hI).use R' fun b s₂ N₂ R₂ q => ?_
  cases b with
  | true =>
    show wpAny C.M A (execs body env) _ _ s₂
    replace q : WS C A (execs body env) (kLess k I Q) N₂ K m' Φ := q
    refine q.use R₂ fun f s₃ N₃ m₃ R₃ q => ?_
    cases f with
    | next => obtain ⟨j, hj, hI⟩ := q; exact ⟨j, hj, N₃, m₃, R₃, hI⟩
    | cont => obtain ⟨j, hj, hI⟩ := q; exact ⟨j, hj, N₃, m₃, R₃, hI⟩
    | brk => exact ⟨N₃, m₃, R₃, q⟩
    | ret v => exact ⟨N₃, m₃, R₃, q⟩
  | false =>
    exact wpAny_pure ⟨N₂, m', R₂, q⟩
end loops
section tries
variable {T : String} {P : Bool → Led → Lo → Prop}
noncomputable def Hand (N : Led) (ea tb : Addr) (oe otb : Obj) : Prop := ∃ vs, oe.data = .fields vs ∧ vs[2]? = some .none
theorem sx_finally {body : List Stmt} {f₀ : Stmt} {fs : List Stmt} {pos : Pos} {Q : Flow → Led → Lo → Prop} (fx : Fx A env K Φ)
    (h : WSX C A (execs body env) (kNxt fun _ N₁ m₁ => WSX C A (execs (f₀ :: fs) env) (kNxt Q) (XP C K Φ T P) N₁ K m₁ Φ)
      (XP C K Φ T fun b N₁ m₁ => b = true ∧ ∀ ea tb oe otb, Hand N₁ ea tb oe otb → WSX C (A.mark (some (.ref ea))) (execs (f₀ :: fs) env) (fun g N₂ m₂ => g = .next ∧ P true N₂ m₂) (XP C K (.ob tb otb :: .ob ea oe :: Φ) T P) N₁ K m₁ (.ob tb otb :: .ob ea oe :: Φ)) N K m Φ) :
    WSX C A (exec (.Try body [] [] (f₀ :: fs) pos) env) Q (XP C K Φ T P) N K m Φ := by
  intro s R
  have back : ∀ {A' : Around} (x : Value) (s : Shared), Fx A' env K Φ → XP C K Φ T P x s → notedBy C.M A' env (fun e s' => cameBackBy C.M A env (XP C K Φ T P) e s') x s := fun x s fx' h =>
    h.noted fx' fun s' N m b h' p => cameBack fx.hef h' fun s'' h'' => ⟨N, m, b, .inr h'', p⟩
  have drop : ∀ {ea tb : Addr} {oe otb : Obj} (x : Value) (s : Shared), XP C K (.ob tb otb :: .ob ea oe :: Φ) T P x s → XP C K Φ T P x s := by
    rintro ea tb oe otb x s ⟨N', m', b, hf, p⟩
    have pm : ∀ (a f t e : Prv) (l : Frs), (a :: f :: t :: e :: l).Perm (t :: e :: a :: f :: l) := fun a f t e l => by
      have h1 : (a :: f :: t :: e :: l).Perm (t :: a :: f :: e :: l) := ((List.Perm.swap t f (e :: l)).cons a).trans (List.Perm.swap t a _)
      have h2 : (a :: f :: e :: l).Perm (e :: a :: f :: l) := ((List.Perm.swap e f l).cons a).trans (List.Perm.swap e a _)
      exact h1.trans (h2.cons t)
    refine ⟨N', m', b, ?_, p⟩
    rcases hf with ⟨e, oe', vs, h1, R, h2⟩ | ⟨e, oe', vs, tb', otb', ts, h1, R, h2⟩
    · exact .inl ⟨e, oe', vs, h1, (R.perm (pm _ _ _ _ _)).popF.popF, h2⟩
    · refine .inr ⟨e, oe', vs, tb', otb', ts, h1, ?_, h2⟩
      have pm2 : ∀ (z a f t e : Prv) (l : Frs), (z :: a :: f :: t :: e :: l).Perm (t :: e :: z :: a :: f :: l) := fun z a f t e l => by
        have h1 := (pm a f t e l).cons z
        have h2 : (z :: t :: e :: a :: f :: l).Perm (t :: z :: e :: a :: f :: l) := List.Perm.swap _ _ _
        have h3 : (t :: z :: e :: a :: f :: l).Perm (t :: e :: z :: a :: f :: l) := (List.Perm.swap _ _ _).cons t
        exact h1.trans (h2.trans h3)
      exact (R.perm (pm2 _ _ _ _ _ _)).popF.popF
  have raised : ∀ (x : Value) (s : Shared) (b : Bool) (N₁ : Led) (m₁ : Lo), Noted C N₁ (.fr K m₁ :: Φ) T K.L true b x s → (b = true ∧ ∀ ea tb oe otb, Hand N₁ ea tb oe otb → WSX C (A.mark (some (.ref ea))) (execs (f₀ :: fs) env) (fun g N₂ m₂ => g = .next ∧ P true N₂ m₂) (XP C K (.ob tb otb :: .ob ea oe :: Φ) T P) N₁ K m₁ (.ob tb otb :: .ob ea oe :: Φ)) →
      FinallyRaised C.prog C.w A (XP C K Φ T P) env (f₀ :: fs) (fun v s' => ∃ N' m', Rep C N' (.fr K m' :: Φ) s' ∧ Q v N' m') x s := by
    rintro x s b N₁ m₁ hn ⟨rfl, hh⟩
    refine ⟨by obtain ⟨e, _, _, _, _, _, rfl, _⟩ := hn; exact ref_ne_byPass e, ?_⟩
    refine noteFlown fx (.inr hn) fun s' hn => ?_
    refine setFlight_off hn fun s'' hn => ?_
    obtain ⟨e, oe, vs, tb, otb, ts, rfl, R, ho, h2, h3⟩ := hn
    have R' : Rep C N₁ (.fr K m₁ :: .ob tb otb :: .ob e oe :: Φ) s'' := R.perm (((List.Perm.swap _ _ _).cons _).trans (List.Perm.swap _ _ _))
    refine wpAny_mono (hh e tb oe otb ⟨vs, ho.2, h2 rfl⟩ s'' R') (fun g s₂ ⟨N₂, m₂, R₂, e1, q⟩ => ?_) fun x s h => back x s fx.mark (drop x s h)
    subst e1
    have R₃ : Rep C N₂ (.ob tb otb :: .ob e oe :: .fr K m₂ :: Φ) s₂ := R₂.perm ((List.Perm.swap _ _ _).trans ((List.Perm.swap _ _ _).cons _))
    exact passOn_on fx.hef ⟨e, oe, vs, tb, otb, ts, rfl, R₃, ho, h2, h3⟩ fun s' h' => ⟨N₂, m₂, true, .inr h', q⟩
  refine wpAny_Try_finally (wpAny_mono (h s R) (fun f s₁ ⟨N₁, m₁, R₁, e1, q⟩ => ?_) fun x s₁ hx => ?_)
  · subst e1
    dsimp only
    refine wpAny_execs_nil ?_
    refine wpAny_mono (q s₁ R₁) (fun g s₂ ⟨N₂, m₂, R₂, e2, q⟩ => ?_) fun x s h => back x s fx h
    subst e2
    exact ⟨N₂, m₂, R₂, q⟩
  · obtain ⟨N₁, m₁, b, hf, p⟩ := hx
    exact noteFlown fx hf fun s' h' => raised x s' b N₁ m₁ h' p
theorem s_try2 {body suite : List Stmt} {b₀ : Stmt} {x : Str} {np hp pos : Pos} {Q : Flow → Led → Lo → Prop} (G : Glo C mg mb) (hg : mg x = none) (hb : mb x = some (.type T))
    (hexc : isSubtype (.type T) (.type "BaseException") = pure true) (hnt : isSubtype (.type ((Manifest.find? T).elim "type" fun x => x.metatype)) (.type "tuple") = pure false) (hself : isSubtype (.type T) (.type T) = pure true)
    (fx : Fx A env K Φ) (hgl : env.globals = mainGlobals) (hbl : env.builtins = builtinsNs) (hk : env.scope.kind = .function) (hx : env.kindOf x = some .globalImplicit) (hd : (x == ("__debug__" : Str)) = false)
    (h : WSX C A (execs body env) Q (XP C K Φ T (kHandle C A Φ K env (b₀ :: suite) Q)) N K m Φ) :
    WS C A (exec (.Try body [.ExceptHandler (some (.Name x np)) none (b₀ :: suite) hp] [] [] pos) env) Q N K m Φ := by
  intro s E R
  refine wpAny_Try_except (wpAny_mono (h s R) (fun f s' ⟨N', m', R', q⟩ => ?_) fun e s' hE => ?_)
  · cases f with
    | next => exact wpAny_execs_nil ⟨N', m', R', q⟩
    | brk => exact ⟨N', m', R', q⟩
    | cont => exact ⟨N', m', R', q⟩
    | ret v => exact ⟨N', m', R', q⟩
  · obtain ⟨N', m', b, hf, hh⟩ := hE
    refine noteFlown fx hf fun s₁ hn => ?_
    refine setFlight_off hn fun s₂ hn => ?_
    obtain ⟨ea, oe, vs, tb, otb, ts, rfl, R₃, ho, h2, h3⟩ := hn
    refine wpAny_handleBy_builtin (X := T) (b := true) hexc hnt hself ?_
    refine Name_function_global hk hx (loadGlobal_builtin (by rw [hgl]; exact G.g _ R₃.stat) hg (by rw [hbl]; exact G.b _ R₃.stat) hb ?_) hd
    refine ⟨rfl, ⟨_, R₃.frm (.tail _ (.head _)), ho.1⟩, ?_⟩
    rw [if_pos rfl]
    refine setFlight_off ⟨ea, oe, vs, tb, otb, ts, rfl, R₃, ho, h2, h3⟩ fun s₄ hn => ?_
    obtain ⟨ea', oe', vs', tb', otb', ts', he, R₅, _⟩ := hn
    exact hh ea _ _ R₅.popF.popF
end tries
end Mine.Internal
end
section
open PySem PySem.W PyProof.Rows PySem.Calls PySem.Spec PySem.Builtin.List
set_option maxRecDepth 100000
namespace Mine.Internal
variable {C : Cx} {N N' : Led} {Φ : Frs} {A : Around} {mg mb : Lo} {s : Shared} {env : Env} {K : Fk} {m : Lo}
theorem o_eqPc {v w : Value} {p q : Pc} {Q : Value → Led → Prop} (hu : A.units + 64 < cLine) (hv : IsPc N v p) (hw : IsPc N w q) (z : Q (.bool (decide (p = q))) N) : WE C A (compareOp .Eq v w) Q N Φ := fun s E R => by
  refine Classical.byContradiction fun hn => ?_
  obtain ⟨as, ra⟩ := R.rd hv.rd
  obtain ⟨bs, rb⟩ := R.rd hw.rd
  refine hn ?_
  clear hn
  have hd := pcD_depth p
  have he := pcD_depth q
  refine eq_dataH ra rb ?_ ?_ hu ⟨N, R, by rw [pcD_eqv]; exact z⟩
  · unfold SeqAt.shaped; rw [pcD_lay, Bool.true_and]; exact decide_eq_true (Nat.le_trans hd (by decide))
  · unfold SeqAt.shaped; rw [pcD_lay, Bool.true_and]; exact decide_eq_true (Nat.le_trans he (by decide))
noncomputable def skp (p : Pc) (l : List Pc) : List Pc := l.dropWhile fun q => decide (q = p)
structure Skp (ix : Str) (p : Pc) (ps : List Pc) (i : Nat) (m m' : Lo) (j : Nat) : Prop where
  le : j ≤ ps.length
  ge : i ≤ j
  eq : ps.drop j = skp p (ps.drop i)
  val : ∃ t, m' ix = some (.int j t)
  but : ∀ y, y ≠ ix → m' y = m y
theorem skip {nm ix el : Str} {p1 p2 p3 p4 p5 p6 p7 p8 p9 : Pos} {k7 : Nat} {a : Addr} {cl : Value} {d : Option Addr} {vs : List Value} {n i : Nat} {t : Tok} {ps : List Pc} {p : Pc} {x : Value} {b : Bool} {L : Addr}
    (F : AccF C) (fx : Fx A env ⟨L, []⟩ Φ) (hu : A.units + 64 < cLine) (hh : ∀ m, HandOk A (.fr ⟨L, []⟩ m :: Φ) b) (hc : LsC cl) (ha : Has C N a (sq cl d vs n)) (hp : PcL N vs ps) (hl : ps.length ≤ 2 ^ 10) (hx : IsPc N x p)
    (hi : i ≤ ps.length) (m1 : m nm = some (.ref a)) (m2 : m ix = some (.int i t)) (m3 : m el = some x) (n1 : nm ≠ ix) (n2 : el ≠ ix) (hL : env.locals = L) (k1 : env.kindOf nm = some .local) (k2 : env.kindOf ix = some .local) (k3 : env.kindOf el = some .local) (hk : env.scope.kind = .function)
    (d1 : (nm == ("__debug__" : Str)) = false) (d2 : (ix == ("__debug__" : Str)) = false) (d3 : (el == ("__debug__" : Str)) = false) :
    WSX C A (exec (.While (.Compare (.Subscript (.Name nm p1) (.Name ix p2) p3) [.Eq] [.Name el p4] p5) [.AugAssign (.Name ix p6) .Add (.Constant (.int 1) k7 p7) p8] [] p9) env)
      (fun f N' m' => f = .next ∧ N' = N ∧ ∃ j, Skp ix p ps i m m' j) (XP C ⟨L, []⟩ Φ "IndexError" fun b' N' m' => b' = b ∧ N' = N ∧ ∃ j, Skp ix p ps i m m' j ∧ ps.drop j = []) N ⟨L, []⟩ m Φ := by
  subst hL
  have hlen := hp.length
  refine sx_while fx (fun r N' m' => N' = N ∧ ∃ j t', r = ps.length - j ∧ j ≤ ps.length ∧ i ≤ j ∧ skp p (ps.drop j) = skp p (ps.drop i) ∧ m' ix = some (.int j t') ∧ ∀ y, y ≠ ix → m' y = m y) (ps.length - i) ⟨rfl, i, t, rfl, hi, Nat.le_refl _, rfl, m2, fun _ _ => rfl⟩ ?_
  rintro r N₁ m₁ ⟨rfl, j, t', rfl, hj, hij, hs, g1, g2⟩
  refine tx_cmp ?_
  refine ex_sub ?_
  refine e_local (v := .ref a) ((g2 _ n1).trans m1) ?_ hk k1 rfl d1
  refine e_local g1 ?_ hk k2 rfl d2
  by_cases hlt : j < ps.length
  · obtain ⟨q, hq⟩ : ∃ q, ps[j]? = some q := ⟨_, List.getElem?_eq_getElem hlt⟩
    refine Classical.byContradiction fun hn => ?_
    obtain ⟨y, hy, hyq⟩ := hp.get hq
    refine hn ?_
    clear hn
    have hdrop : ps.drop j = q :: ps.drop (j + 1) := by
      rw [List.drop_eq_getElem_cons hlt]
      congr 1
      rw [List.getElem?_eq_getElem hlt] at hq
      exact Option.some.inj hq
    refine .of (subT_int F hc ha (Int.natCast_nonneg _) (x := y) (by simpa using hy) (by rw [sizeLine_eq]; lia) ?_)
    refine e_local (v := x) ((g2 _ n2).trans m3) ?_ hk k3 rfl d3
    refine o_eqPc hu hyq hx ?_
    refine o_tBool ?_
    by_cases e : q = p
    · refine ite_y (decide_eq_true e) ?_
      refine sx_cons (.of (s_aug g1 rfl rfl k2 ?_ hk))
      refine e_int fun u => ⟨1, u, rfl, fun t2 => ?_⟩
      refine sx_nil ⟨ps.length - (j + 1), Nat.sub_succ_lt_self _ _ hlt, rfl, j + 1, t2, rfl, hlt, Nat.le_succ_of_le hij, ?_, ?_, fun y hy => ?_⟩
      · rw [← hs, hdrop]
        unfold skp
        rw [List.dropWhile_cons_of_pos (by simpa using e)]
      · rw [setLo_self]; rfl
      · rw [setLo_ne hy]; exact g2 y hy
    · refine ite_n (fun h => e (of_decide_eq_true h)) ?_
      refine ⟨rfl, rfl, j, hj, hij, ?_, ⟨t', g1⟩, g2⟩
      rw [← hs, hdrop]
      unfold skp
      rw [List.dropWhile_cons_of_neg (by simpa using e)]
  · have hje : j = ps.length := by lia
    have hnil : ps.drop j = [] := List.drop_eq_nil_of_le (by lia)
    refine subX_miss F hc ha (by lia) (by lia) (hh _) fun e s' hf => ⟨_, _, b, .inl hf, rfl, rfl, j, ⟨hj, hij, ?_, ⟨t', g1⟩, g2⟩, hnil⟩
    rw [← hs, hnil]; rfl
noncomputable def sldL : Nat → List Pc → List Pc → List Pc → List Pc → List Pc × List Pc
  | 0, xs, ys, mi, un => (mi ++ xs, un ++ ys)
  | _ + 1, [], ys, mi, un => (mi, un ++ ys)
  | _ + 1, x :: xs, [], mi, un => (mi ++ x :: xs, un)
  | n + 1, x :: xs, y :: ys, mi, un =>
    if pcLt x y = true then sldL n (skp x xs) (y :: ys) (mi ++ [x]) un
    else if pcLt y x = true then sldL n (x :: xs) (skp y ys) mi (un ++ [y])
    else sldL n (skp x xs) (skp y ys) mi un
theorem sldL_c {n : Nat} {x y : Pc} {xs ys mi un : List Pc} : sldL (n + 1) (x :: xs) (y :: ys) mi un = if pcLt x y = true then sldL n (skp x xs) (y :: ys) (mi ++ [x]) un
    else if pcLt y x = true then sldL n (x :: xs) (skp y ys) mi (un ++ [y]) else sldL n (skp x xs) (skp y ys) mi un := rfl
theorem sldL_nilL (n : Nat) (ys mi un : List Pc) : sldL n [] ys mi un = (mi ++ [], un ++ ys) := by cases n <;> simp [sldL]
theorem sldL_nilR (n : Nat) (xs mi un : List Pc) : sldL n xs [] mi un = (mi ++ xs, un ++ []) := by cases n <;> cases xs <;> simp [sldL]
structure SldI (N₀ : Led) (ex ac M U : Addr) (mi un : List Pc) (i j : Nat) (N : Led) (m : Lo) : Prop where
  ext : Ext N₀ N
  hM : ∃ vs k, (M, lst vs k) ∈ N ∧ PcL N vs mi
  hU : ∃ vs k, (U, lst vs k) ∈ N ∧ PcL N vs un
  m1 : m "expected" = some (.ref ex)
  m2 : m "actual" = some (.ref ac)
  m3 : m "missing" = some (.ref M)
  m4 : m "unexpected" = some (.ref U)
  mi : ∃ t, m "i" = some (.int i t)
  mj : ∃ t, m "j" = some (.int j t)
theorem SldI.set {N₀ : Led} {ex ac M U : Addr} {mi un : List Pc} {i j : Nat} {m m' : Lo} (I : SldI N₀ ex ac M U mi un i j N m) (e : Ext N N') (h : ∀ y, y = "expected" ∨ y = "actual" ∨ y = "missing" ∨ y = "unexpected" ∨ y = "i" ∨ y = "j" → m' y = m y) : SldI N₀ ex ac M U mi un i j N' m' :=
  ⟨I.ext.trans e, let ⟨a, b, c, d⟩ := I.hM; ⟨a, b, e _ c, d.mono e⟩, let ⟨a, b, c, d⟩ := I.hU; ⟨a, b, e _ c, d.mono e⟩, (h _ (by simp)).trans I.m1, (h _ (by simp)).trans I.m2, (h _ (by simp)).trans I.m3, (h _ (by simp)).trans I.m4, let ⟨t, x⟩ := I.mi; ⟨t, (h _ (by simp)).trans x⟩, let ⟨t, x⟩ := I.mj; ⟨t, (h _ (by simp)).trans x⟩⟩
theorem SldI.stepI {N₀ : Led} {ex ac M U : Addr} {mi un : List Pc} {i j i' i₁ : Nat} {p : Pc} {ps : List Pc} {m m' : Lo} (I : SldI N₀ ex ac M U mi un i j N m) (S : Skp "i" p ps i₁ m m' i') : SldI N₀ ex ac M U mi un i' j N m' :=
  ⟨I.ext, I.hM, I.hU, (S.but _ (by decide)).trans I.m1, (S.but _ (by decide)).trans I.m2, (S.but _ (by decide)).trans I.m3, (S.but _ (by decide)).trans I.m4, S.val, let ⟨t, x⟩ := I.mj; ⟨t, (S.but _ (by decide)).trans x⟩⟩
theorem SldI.stepJ {N₀ : Led} {ex ac M U : Addr} {mi un : List Pc} {i j i' i₁ : Nat} {p : Pc} {ps : List Pc} {m m' : Lo} (I : SldI N₀ ex ac M U mi un i j N m) (S : Skp "j" p ps i₁ m m' i') : SldI N₀ ex ac M U mi un i i' N m' :=
  ⟨I.ext, I.hM, I.hU, (S.but _ (by decide)).trans I.m1, (S.but _ (by decide)).trans I.m2, (S.but _ (by decide)).trans I.m3, (S.but _ (by decide)).trans I.m4, let ⟨t, x⟩ := I.mi; ⟨t, (S.but _ (by decide)).trans x⟩, S.val⟩
theorem SldI.setI {N₀ : Led} {ex ac M U : Addr} {mi un : List Pc} {i j : Nat} {t : Tok} {i' : Int} {k : Nat} (I : SldI N₀ ex ac M U mi un i j N m) (e : i' = k) : SldI N₀ ex ac M U mi un k j N (setLo m "i" (.int i' t)) :=
  ⟨I.ext, I.hM, I.hU, (setLo_ne (by decide)).trans I.m1, (setLo_ne (by decide)).trans I.m2, (setLo_ne (by decide)).trans I.m3, (setLo_ne (by decide)).trans I.m4, ⟨t, by rw [setLo_self, e]⟩, let ⟨t, x⟩ := I.mj; ⟨t, (setLo_ne (by decide)).trans x⟩⟩
theorem SldI.setJ {N₀ : Led} {ex ac M U : Addr} {mi un : List Pc} {i j : Nat} {t : Tok} {i' : Int} {k : Nat} (I : SldI N₀ ex ac M U mi un i j N m) (e : i' = k) : SldI N₀ ex ac M U mi un i k N (setLo m "j" (.int i' t)) :=
  ⟨I.ext, I.hM, I.hU, (setLo_ne (by decide)).trans I.m1, (setLo_ne (by decide)).trans I.m2, (setLo_ne (by decide)).trans I.m3, (setLo_ne (by decide)).trans I.m4, let ⟨t, x⟩ := I.mi; ⟨t, (setLo_ne (by decide)).trans x⟩, ⟨t, by rw [setLo_self, e]⟩⟩
theorem SldI.upM {N₀ : Led} {ex ac M U : Addr} {mi un mi' : List Pc} {i j k : Nat} {vs : List Value} (I : SldI N₀ ex ac M U mi un i j N m) (W : Upd N N' M (lst vs k)) (h : PcL N' vs mi') (hn : New M N₀) (hne : M ≠ U) : SldI N₀ ex ac M U mi' un i j N' m :=
  ⟨W.ext I.ext hn, ⟨vs, k, W.self, h⟩, let ⟨a, b, c, d⟩ := I.hU; ⟨a, b, W.but _ c (Ne.symm hne), W.pcl d⟩, I.m1, I.m2, I.m3, I.m4, I.mi, I.mj⟩
theorem SldI.upU {N₀ : Led} {ex ac M U : Addr} {mi un un' : List Pc} {i j k : Nat} {vs : List Value} (I : SldI N₀ ex ac M U mi un i j N m) (W : Upd N N' U (lst vs k)) (h : PcL N' vs un') (hn : New U N₀) (hne : M ≠ U) : SldI N₀ ex ac M U mi un' i j N' m :=
  ⟨W.ext I.ext hn, let ⟨a, b, c, d⟩ := I.hM; ⟨a, b, W.but _ c hne, W.pcl d⟩, ⟨vs, k, W.self, h⟩, I.m1, I.m2, I.m3, I.m4, I.mi, I.mj⟩
theorem XP.imp {T : String} {P P' : Bool → Led → Lo → Prop} {x : Value} (h : XP C K Φ T P x s) (k : ∀ b N m, P b N m → P' b N m) : XP C K Φ T P' x s := let ⟨N, m, b, f, p⟩ := h; ⟨N, m, b, f, k b N m p⟩
theorem WSX.imp {α : Type} {t : Sem α} {Q : α → Led → Lo → Prop} {X X' : Value → Shared → Prop} (h : WSX C A t Q X N K m Φ) (k : ∀ x s, X x s → X' x s) : WSX C A t Q X' N K m Φ := fun s R => wpAny_mono (h s R) (fun _ _ q => q) k
theorem WSX.both {α : Type} {t : Sem α} {Q Q' : α → Led → Lo → Prop} {X X' : Value → Shared → Prop} (h : WSX C A t Q X N K m Φ) (q : ∀ v N' m', Q v N' m' → Q' v N' m') (k : ∀ x s, X x s → X' x s) : WSX C A t Q' X' N K m Φ := (h.mono q).imp k
theorem exc_IE : isSubtype (.type "IndexError") (.type "BaseException") = pure true := by rw [isSubtype_type]; kernel_rfl
theorem notTup_IE : isSubtype (.type ((Manifest.find? "IndexError").elim "type" fun x => x.metatype)) (.type "tuple") = pure false := by
  rw [show ((Manifest.find? "IndexError").elim "type" fun x => x.metatype) = "type" from by kernel_rfl, isSubtype_type]; kernel_rfl
theorem self_IE : isSubtype (.type "IndexError") (.type "IndexError") = pure true := by rw [isSubtype_type]; kernel_rfl
theorem s_break {pos} {Q : Flow → Led → Lo → Prop} (h : Q .brk N m) : WS C A (exec (.Break pos) env) Q N K m Φ := by
  rw [arm_exec_Break]
  exact WS.of_WE (WE.bind (WE.standAt (WE.pure h)))
@[reducible] noncomputable def kAsg2 (m : Lo) (x y : Str) (Q : Flow → Led → Lo → Prop) : Value → Led → Prop := fun v N => Q .next N (setLo (setLo m x v) y v)
theorem s_two {x y : Str} {p₁ p₂ pos : Pos} {value : Expr} {Q : Flow → Led → Lo → Prop} (hx : StOk env K x) (hy : StOk env K y) (h : WE C A (eval value env) (kAsg2 m x y Q) N (.fr K m :: Φ))
    (hk : env.scope.kind = .function := by rfl) (he : (assignEach [.Name x p₁, .Name y p₂] env).map (·.2) = [assign (.Name x p₁) env, assign (.Name y p₂) env] := by rfl) (hw : swappedStores [.Name x p₁, .Name y p₂] value env = pure none := by rfl) :
    WS C A (exec (.Assign [.Name x p₁, .Name y p₂] value pos) env) Q N K m Φ := by
  intro s E R
  refine wpAny_Assign_two (h.use R fun v s₁ N₁ R₁ q => ?_) he hw
  refine (as_name (v := v) (Q := fun _ N' m' => N' = N₁ ∧ m' = setLo m x v) hk hx ⟨rfl, rfl⟩).use R₁ fun _ s₂ N₂ m₂ R₂ pz0 => ?_
  obtain ⟨e1, e2⟩ := pz0
  subst e1; subst e2
  exact wpAny_mono (as_name (v := v) (Q := fun _ N' m' => Q .next N' m') hk hy q s₂ E R₂) (fun _ _ x => x) fun _ _ x => x
end Mine.Internal
end
section
open PySem PySem.W PyProof.Rows PySem.Calls PySem.Spec PySem.Builtin.List
set_option maxRecDepth 100000
namespace Mine.Internal
variable {C : Cx} {N N' : Led} {Φ : Frs} {A : Around} {mg mb : Lo} {s : Shared} {env : Env} {K : Fk} {m : Lo}
structure IdxE (mg mb : Lo) : Prop where
  n : mg "IndexError" = none
  b : mb "IndexError" = some (.type "IndexError")
theorem m_extend' {a b : Addr} {vs ws : List Value} {n n' : Nat} {d' : Option Addr} {Q : Value → Led → Prop} (F : AccF C) (h : (a, lst vs n) ∈ N) (hb : Has C N b (sq (.type "list") d' ws n')) (hs : vs.length + ws.length ≤ sizeLine) (q : ∀ N' k, Upd N N' a (lst (vs ++ ws) k) → Q .none N') :
    WE C A (PySem.call (.builtin "list.extend") [.ref a, .ref b]) Q N Φ :=
  WE.fn fun fn => m_extend (cl' := .type "list") F (.inl rfl) h hb hs fun k => q _ k (.of fn h (by simp))
theorem Fx.of {fd : FuncData} {L a : Addr} {k : List (Str × Addr)} (h : FrOk A Φ) (hk : fd.scope.kind ≠ .module) : Fx (A.deeper (callEnvC fd L a)) (callEnvC fd L a) ⟨L, k⟩ Φ := by
  refine ⟨fun m => h.deeper hk, rfl, ?_⟩
  refine Classical.byContradiction fun hn => ?_
  obtain ⟨l, e, _⟩ := h
  refine hn ?_
  clear hn
  exact ⟨l, by show A.frames.map _ = _; rw [e]; rfl⟩
theorem drop_cons {l : List Pc} {i : Nat} {q : Pc} (h : l[i]? = some q) : l.drop i = q :: l.drop (i + 1) := by
  obtain ⟨hlt, e⟩ := List.getElem?_eq_some_iff.mp h
  rw [List.drop_eq_getElem_cons hlt, e]
theorem pcLt_eq {x y : Pc} (h1 : ¬ pcLt x y = true) (h2 : ¬ pcLt y x = true) : x = y := by
  obtain ⟨_ | _, _ | _⟩ := x <;> obtain ⟨_ | _, _ | _⟩ := y <;> first | rfl | (exfalso; revert h1 h2; decide)
section
variable {ex ac M U : Addr} {cl cl' : Value} {d d' : Option Addr} {vs ws : List Value} {n k : Nat} {ps qs : List Pc} {fin : List Pc × List Pc}
noncomputable def SldH (N₀ : Led) (ex ac M U : Addr) (ps qs : List Pc) (fin : List Pc × List Pc) (N : Led) (m : Lo) : Prop :=
  ∃ i j mi un, SldI N₀ ex ac M U mi un i j N m ∧ fin = (mi ++ ps.drop i, un ++ qs.drop j) ∧ mi.length ≤ i ∧ un.length ≤ j ∧ i ≤ ps.length ∧ j ≤ qs.length
noncomputable def SldN (N₀ : Led) (ex ac M U : Addr) (ps qs : List Pc) (fin : List Pc × List Pc) (f : Nat) (N : Led) (m : Lo) : Prop :=
  ∃ i j mi un, SldI N₀ ex ac M U mi un i j N m ∧ sldL f (ps.drop i) (qs.drop j) mi un = fin ∧ mi.length ≤ i ∧ un.length ≤ j ∧ i ≤ ps.length ∧ j ≤ qs.length ∧ (ps.length - i) + (qs.length - j) ≤ f
theorem SldN.hL {N₀ : Led} {mi un : List Pc} {i j f : Nat} (I : SldI N₀ ex ac M U mi un i j N m) (e : sldL f (ps.drop i) (qs.drop j) mi un = fin) (h : ps.drop i = []) (a : mi.length ≤ i) (b : un.length ≤ j) (c : i ≤ ps.length) (d : j ≤ qs.length) : SldH N₀ ex ac M U ps qs fin N m :=
  ⟨i, j, mi, un, I, by rw [← e, h, sldL_nilL], a, b, c, d⟩
theorem SldN.hR {N₀ : Led} {mi un : List Pc} {i j f : Nat} (I : SldI N₀ ex ac M U mi un i j N m) (e : sldL f (ps.drop i) (qs.drop j) mi un = fin) (h : qs.drop j = []) (a : mi.length ≤ i) (b : un.length ≤ j) (c : i ≤ ps.length) (d : j ≤ qs.length) : SldH N₀ ex ac M U ps qs fin N m :=
  ⟨i, j, mi, un, I, by rw [← e, h, sldL_nilR], a, b, c, d⟩
set_option maxHeartbeats 4000000 in
theorem c_sld {Q : Value → Led → Prop} (G : Prg C mg mb) (V : IdxE mg mb) (ho : AOk A 8) (fr : FrOk A Φ) (hc : LsC cl) (hc' : LsC cl') (r1 : (ex, sq cl d vs n) ∈ N) (r2 : (ac, sq cl' d' ws k) ∈ N) (hp : PcL N vs ps) (hq : PcL N ws qs) (hl : ps.length ≤ 2 ^ 10) (hl' : qs.length ≤ 2 ^ 10)
    (q : ∀ N' t tn v1 v2, Ext N N' → New t N → (t, tup [v1, v2] tn) ∈ N' → IsPL N' v1 (sldL (ps.length + qs.length) ps qs [] []).1 → IsPL N' v2 (sldL (ps.length + qs.length) ps qs [] []).2 → Q (.ref t) N') : WE C A (PySem.call (.ref 28) [.ref ex, .ref ac]) Q N Φ := by
  obtain ⟨pm, hf⟩ := G.f_sld
  refine WE.call (CE.fnCells (binds := [("expected", .ref ex), ("actual", .ref ac)]) (cs := fun _ => []) (k := 7) G.G ho hf.any rfl rfl rfl (fun _ => rfl) fun L => ?_)
  have fx : Fx (A.deeper (callEnvC (mkFd (stOf 2) 28 (stName (stOf 2)) [] .none pm .none) L 28)) (callEnvC (mkFd (stOf 2) 28 (stName (stOf 2)) [] .none pm .none) L 28) ⟨L, []⟩ Φ := Fx.of fr (fun h => nomatch (show ScopeKind.function = ScopeKind.module from h))
  have ho' := ho.deeper (env := callEnvC (mkFd (stOf 2) 28 (stName (stOf 2)) [] .none pm .none) L 28)
  generalize hA' : A.deeper (callEnvC (mkFd (stOf 2) 28 (stName (stOf 2)) [] .none pm .none) L 28) = A' at fx ho'
  have hu : A'.units + 64 < cLine := ho'.u0
  generalize hfin : sldL (ps.length + qs.length) ps qs [] [] = fin at q
  refine s_cons ?_
  refine s_two (.inl ⟨rfl, rfl, rfl⟩) (.inl ⟨rfl, rfl, rfl⟩) ?_
  refine e_int fun t0 => ?_
  refine s_cons ?_
  refine s_assign (.inl ⟨rfl, rfl, rfl⟩) ?_
  refine e_list ?_
  refine a_nil ⟨sz_ok (by simp), fun M hM => ?_⟩
  refine s_cons ?_
  refine s_assign (.inl ⟨rfl, rfl, rfl⟩) ?_
  refine e_list ?_
  refine a_nil ⟨sz_ok (by simp), fun U hU => ?_⟩
  have hMU : M ≠ U := fun e => hU _ (.head _) (by rw [e])
  have hU0 : New U N := fun p hp e => hU p (.tail _ hp) e
  have hpl := hp.length
  have hql := hq.length
  refine s_cons ?_
  refine s_whileB (fun f N' m' => SldN N ex ac M U ps qs fin f N' m') (ps.length + qs.length) ⟨0, 0, [], [], ⟨(Ext.refl _).c2, ⟨[], 0, .tail _ (.head _), trivial⟩, ⟨[], 0, .head _, trivial⟩, ?_, ?_, ?_, ?_, ⟨t0, ?_⟩, ⟨t0, ?_⟩⟩, hfin, Nat.le_refl _, Nat.le_refl _, Nat.zero_le _, Nat.zero_le _, Nat.le_refl _⟩ ?_
  · rfl
  · rfl
  · rfl
  · rfl
  · rfl
  · rfl
  rintro f N₁ m₁ ⟨i, j, mi, un, I, hf, g1, g2, g3, g4, g5⟩
  refine t_plain (fun _ => rfl) (e_bool (o_tBool ?_))
  refine ite_y rfl ?_
  refine s_cons ?_
  refine s_try2 (T := "IndexError") G.G V.n V.b exc_IE notTup_IE self_IE fx rfl rfl rfl rfl (by decide) ?_
  refine WSX.imp (X := XP C ⟨L, []⟩ Φ "IndexError" fun _ N' m' => SldH N ex ac M U ps qs fin N' m') ?_ fun x s h => h.imp fun _ N' m' hH a => ?_
  rotate_left
  · -- the handler
    clear I hf g1 g2 g3 g4 g5
    refine Classical.byContradiction fun hn => ?_
    obtain ⟨i, j, mi, un, I, hf, g1, g2, g3, g4⟩ := hH
    obtain ⟨ms, mk, i1, i2⟩ := I.hM
    obtain ⟨ti, i3⟩ := I.mi
    refine hn ?_
    clear hn
    have hml := i2.length
    refine s_cons ?_
    refine s_expr ?_
    refine e_meth ?_
    refine e_local (v := .ref M) I.m3 ?_
    refine lm_extend.list G.F (.inr i1) ?_
    refine cw_blt rfl ?_
    refine a_cons ?_
    refine e_sub ?_
    refine e_local (v := .ref ex) I.m1 ?_
    refine e_slice ?_
    refine e_part1 ?_
    refine e_local i3 ?_
    refine e_part0 ?_
    refine e_part0 ?_
    intro sl hsl
    refine subT_slice G.F hc (.inr (.tail _ (I.ext _ r1))) (.inr (.head _)) (.int _ _) .none .none (by decide) (by rw [sizeLine_eq]; lia) (pick_from _) fun r2' hr2 => ?_
    refine a_nil ?_
    refine m_extend' G.F (.tail _ (.tail _ i1)) (.inr (.head _)) (by rw [List.length_drop, sizeLine_eq, hml]; exact Nat.le_trans (Nat.add_le_add (Nat.le_trans g1 (Nat.le_trans g3 hl)) (Nat.le_trans (Nat.sub_le _ _) (hpl ▸ hl))) (by decide)) fun N₂ k₂ W => ?_
    refine ⟨?_, fun _ h => nomatch h⟩
    have I₂ : SldI N ex ac M U (mi ++ ps.drop i) un i j N₂ m' :=
      (I.set (Ext.refl _).c2 fun _ _ => rfl).upM W ((W.pcl (i2.mono (Ext.refl _).c2)).append (W.pcl ((hp.mono (I.ext.c2)).drop i))) hM hMU
    refine Classical.byContradiction fun hn => ?_
    obtain ⟨us, uk, i4, i5⟩ := I₂.hU
    obtain ⟨tj, i6⟩ := I₂.mj
    refine hn ?_
    clear hn
    have hul := i5.length
    refine s_cons ?_
    refine s_expr ?_
    refine e_meth ?_
    refine e_local (v := .ref U) I₂.m4 ?_
    refine lm_extend.list G.F (.inr i4) ?_
    refine cw_blt rfl ?_
    refine a_cons ?_
    refine e_sub ?_
    refine e_local (v := .ref ac) I₂.m2 ?_
    refine e_slice ?_
    refine e_part1 ?_
    refine e_local i6 ?_
    refine e_part0 ?_
    refine e_part0 ?_
    intro sl hsl
    refine subT_slice G.F hc' (.inr (.tail _ (I₂.ext _ r2))) (.inr (.head _)) (.int _ _) .none .none (by decide) (by rw [sizeLine_eq]; lia) (pick_from _) fun r3 hr3 => ?_
    refine a_nil ?_
    refine m_extend' G.F (.tail _ (.tail _ i4)) (.inr (.head _)) (by rw [List.length_drop, sizeLine_eq, hul]; exact Nat.le_trans (Nat.add_le_add (Nat.le_trans g2 (Nat.le_trans g4 hl')) (Nat.le_trans (Nat.sub_le _ _) (hql ▸ hl'))) (by decide)) fun N₃ k₃ W₂ => ?_
    refine ⟨?_, fun _ h => nomatch h⟩
    have I₃ : SldI N ex ac M U (mi ++ ps.drop i) (un ++ qs.drop j) i j N₃ m' :=
      (I₂.set (Ext.refl _).c2 fun _ _ => rfl).upU W₂ ((W₂.pcl (i5.mono (Ext.refl _).c2)).append (W₂.pcl ((hq.mono (I₂.ext.c2)).drop j))) hU0 hMU
    refine s_cons ?_
    refine s_break ?_
    show WS C _ (execs _ _) _ _ _ _ _
    refine s_cons ?_
    refine s_ret ?_
    refine e_tuple ?_
    refine a_cons (e_local (v := .ref M) I₃.m3 (a_cons (e_local (v := .ref U) I₃.m4 (a_nil ⟨sz_ok (by simp), fun t ht => ?_⟩))))
    refine Classical.byContradiction fun hn => ?_
    obtain ⟨x1, x2, x3, x4⟩ := I₃.hM
    obtain ⟨y1, y2, y3, y4⟩ := I₃.hU
    refine hn ?_
    clear hn
    subst hf
    exact q _ t 0 _ _ I₃.ext.c1 (fun p hp e => ht _ (I₃.ext _ hp) e) (.head _) ⟨M, x1, x2, rfl, .tail _ x3, x4.mono (Ext.cons _ _)⟩ ⟨U, y1, y2, rfl, .tail _ y3, y4.mono (Ext.cons _ _)⟩
  · -- the body
    refine Classical.byContradiction fun hn => ?_
    obtain ⟨ti, i3⟩ := I.mi
    obtain ⟨tj, i4⟩ := I.mj
    refine hn ?_
    clear hn
    have hh : ∀ m, HandOk A' (.fr ⟨L, []⟩ m :: Φ) true := fun m => .inl ⟨ho'.h, rfl⟩
    refine sx_cons ?_
    refine sx_assign (.inl ⟨rfl, rfl, rfl⟩) ?_
    refine ex_sub ?_
    refine e_local (v := .ref ex) I.m1 ?_
    refine e_local i3 ?_
    rcases Nat.lt_or_ge i ps.length with hi | hi
    rotate_left
    · exact subX_miss G.F hc (.inr (I.ext _ r1)) (by lia) (by lia) (hh _) fun e s' hF => ⟨_, _, true, .inl hF, SldN.hL I hf (List.drop_eq_nil_of_le (by lia)) g1 g2 g3 g4⟩
    obtain ⟨x, hx⟩ : ∃ x, ps[i]? = some x := ⟨_, List.getElem?_eq_getElem hi⟩
    refine Classical.byContradiction fun hn => ?_
    obtain ⟨xv, hxv, hxp⟩ := hp.get hx
    refine hn ?_
    clear hn
    refine .of (subT_int G.F hc (.inr (I.ext _ r1)) (Int.natCast_nonneg _) (x := xv) (by simpa using hxv) (by rw [sizeLine_eq]; lia) ?_)
    have I₁ := I.set (Ext.refl N₁) (m' := setLo m₁ "e" xv) (fun y hy => setLo_ne (by rcases hy with rfl | rfl | rfl | rfl | rfl | rfl <;> decide))
    obtain ⟨tj, i4⟩ := I₁.mj
    refine sx_cons ?_
    refine sx_assign (.inl ⟨rfl, rfl, rfl⟩) ?_
    refine ex_sub ?_
    refine e_local (v := .ref ac) I₁.m2 ?_
    refine e_local i4 ?_
    rcases Nat.lt_or_ge j qs.length with hj | hj
    rotate_left
    · exact subX_miss G.F hc' (.inr (I₁.ext _ r2)) (by lia) (by lia) (hh _) fun e s' hF => ⟨_, _, true, .inl hF, SldN.hR I₁ hf (List.drop_eq_nil_of_le (by lia)) g1 g2 g3 g4⟩
    obtain ⟨y, hy⟩ : ∃ y, qs[j]? = some y := ⟨_, List.getElem?_eq_getElem hj⟩
    refine Classical.byContradiction fun hn => ?_
    obtain ⟨yv, hyv, hyp⟩ := hq.get hy
    refine hn ?_
    clear hn
    refine .of (subT_int G.F hc' (.inr (I₁.ext _ r2)) (Int.natCast_nonneg _) (x := yv) (by simpa using hyv) (by rw [sizeLine_eq]; lia) ?_)
    have I₂ := I₁.set (Ext.refl N₁) (m' := setLo (setLo m₁ "e" xv) "a" yv) (fun y hy => setLo_ne (by rcases hy with rfl | rfl | rfl | rfl | rfl | rfl <;> decide))
    have me : setLo (setLo m₁ "e" xv) "a" yv "e" = some xv := by rw [setLo_ne (by decide), setLo_self]
    have ma : setLo (setLo m₁ "e" xv) "a" yv "a" = some yv := setLo_self ..
    show WSX C _ (execs _ _) _ _ _ _ _ _
    generalize setLo (setLo m₁ "e" xv) "a" yv = m₂ at I₂ me ma
    clear I₁ I
    cases f with
    | zero => exact absurd (Nat.sub_pos_of_lt hi) (Nat.not_lt.mpr (Nat.le_trans (Nat.le_add_right _ _) g5))
    | succ f =>
    rw [drop_cons hx, drop_cons hy, sldL_c] at hf
    have hxN := hxp.mono I₂.ext
    have hyN := hyp.mono I₂.ext
    refine sx_cons ?_
    refine sx_if ?_
    refine .of (t_cmp ?_)
    refine e_local me ?_
    refine e_local ma ?_
    refine o_ltPc (k := 6) ho' hxN hyN ?_
    refine o_tBool ?_
    by_cases hxy : pcLt x y = true
    · refine ite_y hxy ?_
      rw [if_pos hxy] at hf
      refine Classical.byContradiction fun hn => ?_
      obtain ⟨ms, mk, b1, b2⟩ := I₂.hM
      refine hn ?_
      clear hn
      have hml := b2.length
      refine sx_cons (.of ?_)
      refine s_expr ?_
      refine e_meth ?_
      refine e_local (v := .ref M) I₂.m3 ?_
      refine lm_append.list G.F (.inr b1) ?_
      refine cw_blt rfl ?_
      refine a_cons ?_
      refine e_local me ?_
      refine a_nil ?_
      refine m_append' G.F (.inl rfl) b1 (by rw [sizeLine_eq]; lia) fun N₂ k₂ W => ?_
      refine ⟨?_, fun _ h => nomatch h⟩
      have I₃ := I₂.upM W ((W.pcl b2).append (show PcL N₂ [xv] [x] from ⟨W.pc _ _ hxN, trivial⟩)) hM hMU
      obtain ⟨ti, c1⟩ := I₃.mi
      refine sx_cons (.of (s_aug c1 rfl rfl rfl ?_))
      refine e_int fun u => ⟨1, u, rfl, fun t2 => ?_⟩
      have I₄ := I₃.setI (t := t2) (i' := (i : Int) + 1) (k := i + 1) (by lia)
      have me₄ : setLo m₂ "i" (.int ((i : Int) + 1) t2) "e" = some xv := by rw [setLo_ne (by decide)]; exact me
      show WSX C _ (execs _ _) _ _ _ _ _ _
      generalize setLo m₂ "i" (.int ((i : Int) + 1) t2) = m₄ at I₄ me₄
      obtain ⟨t4, c4⟩ := I₄.mi
      refine sx_cons ?_
      refine WSX.both (skip G.F fx hu hh hc (.inr (I₄.ext _ r1)) (hp.mono I₄.ext) hl (W.pc _ _ hxN) hi I₄.m1 c4 me₄ (by decide) (by decide) rfl rfl rfl rfl rfl (by decide) (by decide) (by decide)) ?_ ?_
      · rintro fl N₅ m₅ ⟨rfl, rfl, i', S⟩
        refine sx_nil (sx_nil (s_nil ?_))
        refine ⟨f, Nat.lt_succ_self _, i', j, _, _, I₄.stepI S, ?_, ?_, g2, S.le, g4, ?_⟩
        · rw [S.eq, drop_cons hy]; exact hf
        · rw [List.length_append]; exact Nat.le_trans (Nat.succ_le_succ g1) S.ge
        · exact left_ij g5 (Nat.le_of_succ_le S.ge) (Nat.le_refl _) (.inl ⟨S.ge, hi⟩)
      · rintro e s' hE
        refine hE.imp fun b N₅ m₅ => ?_
        rintro ⟨rfl, rfl, i', S, hnil⟩
        refine SldN.hL (f := f) (I₄.stepI S) ?_ hnil ?_ g2 S.le g4
        · rw [S.eq, drop_cons hy]; exact hf
        · rw [List.length_append]; exact Nat.le_trans (Nat.succ_le_succ g1) S.ge
    · rw [Bool.not_eq_true] at hxy
      refine ite_n (by rw [hxy]; decide) ?_
      rw [if_neg (by rw [hxy]; decide)] at hf
      refine sx_cons ?_
      refine sx_if ?_
      refine .of (t_cmp ?_)
      refine e_local me ?_
      refine e_local ma ?_
      refine o_gtPc (k := 6) ho' hxN hyN ?_
      refine o_tBool ?_
      by_cases hyx : pcLt y x = true
      · refine ite_y hyx ?_
        rw [if_pos hyx] at hf
        refine Classical.byContradiction fun hn => ?_
        obtain ⟨us, uk, b1, b2⟩ := I₂.hU
        refine hn ?_
        clear hn
        have hul := b2.length
        refine sx_cons (.of ?_)
        refine s_expr ?_
        refine e_meth ?_
        refine e_local (v := .ref U) I₂.m4 ?_
        refine lm_append.list G.F (.inr b1) ?_
        refine cw_blt rfl ?_
        refine a_cons ?_
        refine e_local ma ?_
        refine a_nil ?_
        refine m_append' G.F (.inl rfl) b1 (by rw [sizeLine_eq]; lia) fun N₂ k₂ W => ?_
        refine ⟨?_, fun _ h => nomatch h⟩
        have I₃ := I₂.upU W ((W.pcl b2).append (show PcL N₂ [yv] [y] from ⟨W.pc _ _ hyN, trivial⟩)) hU0 hMU
        obtain ⟨tj, c1⟩ := I₃.mj
        refine sx_cons (.of (s_aug c1 rfl rfl rfl ?_))
        refine e_int fun u => ⟨1, u, rfl, fun t2 => ?_⟩
        have I₄ := I₃.setJ (t := t2) (i' := (j : Int) + 1) (k := j + 1) (by lia)
        have me₄ : setLo m₂ "j" (.int ((j : Int) + 1) t2) "a" = some yv := by rw [setLo_ne (by decide)]; exact ma
        show WSX C _ (execs _ _) _ _ _ _ _ _
        generalize setLo m₂ "j" (.int ((j : Int) + 1) t2) = m₄ at I₄ me₄
        obtain ⟨t4, c4⟩ := I₄.mj
        refine sx_cons ?_
        refine WSX.both (skip G.F fx hu hh hc' (.inr (I₄.ext _ r2)) (hq.mono I₄.ext) hl' (W.pc _ _ hyN) hj I₄.m2 c4 me₄ (by decide) (by decide) rfl rfl rfl rfl rfl (by decide) (by decide) (by decide)) ?_ ?_
        · rintro fl N₅ m₅ ⟨rfl, rfl, j', S⟩
          refine sx_nil (sx_nil (sx_nil (s_nil ?_)))
          refine ⟨f, Nat.lt_succ_self _, i, j', _, _, I₄.stepJ S, ?_, g1, ?_, g3, S.le, ?_⟩
          · rw [S.eq, drop_cons hx]; exact hf
          · rw [List.length_append]; exact Nat.le_trans (Nat.succ_le_succ g2) S.ge
          · exact left_ij g5 (Nat.le_refl _) (Nat.le_of_succ_le S.ge) (.inr ⟨S.ge, hj⟩)
        · rintro e s' hE
          refine hE.imp fun b N₅ m₅ => ?_
          rintro ⟨rfl, rfl, j', S, hnil⟩
          refine SldN.hR (f := f) (I₄.stepJ S) ?_ hnil g1 ?_ g3 S.le
          · rw [S.eq, drop_cons hx]; exact hf
          · rw [List.length_append]; exact Nat.le_trans (Nat.succ_le_succ g2) S.ge
      · rw [Bool.not_eq_true] at hyx
        refine ite_n (by rw [hyx]; decide) ?_
        rw [if_neg (by rw [hyx]; decide)] at hf
        obtain ⟨ti, c1⟩ := I₂.mi
        refine sx_cons (.of (s_aug c1 rfl rfl rfl ?_))
        refine e_int fun u => ⟨1, u, rfl, fun t2 => ?_⟩
        have I₄ := I₂.setI (t := t2) (i' := (i : Int) + 1) (k := i + 1) (by lia)
        have me₄ : setLo m₂ "i" (.int ((i : Int) + 1) t2) "e" = some xv := by rw [setLo_ne (by decide)]; exact me
        have ma₄ : setLo m₂ "i" (.int ((i : Int) + 1) t2) "a" = some yv := by rw [setLo_ne (by decide)]; exact ma
        show WSX C _ (execs _ _) _ _ _ _ _ _
        generalize setLo m₂ "i" (.int ((i : Int) + 1) t2) = m₄ at I₄ me₄ ma₄
        obtain ⟨t4, c4⟩ := I₄.mi
        -- the finally's suite
        have fin2 : ∀ (A₂ : Around) (Ψ : Frs) (b : Bool) (m₅ : Lo) (i' : Nat), Fx A₂ (callEnvC (mkFd (stOf 2) 28 (stName (stOf 2)) [] .none pm .none) L 28) ⟨L, []⟩ Ψ → A₂.units + 64 < cLine → (∀ m, HandOk A₂ (.fr ⟨L, []⟩ m :: Ψ) b) → Skp "i" x ps (i + 1) m₄ m₅ i' →
            ∀ {p1 p2 p3 p4 p5 p6 p7 p8 p9 q1 q2 q3 : Pos},
            WSX C A₂ (execs [.AugAssign (.Name "j" q1) .Add (.Constant (.int 1) 0 q2) q3, .While (.Compare (.Subscript (.Name "actual" p1) (.Name "j" p2) p3) [.Eq] [.Name "a" p4] p5) [.AugAssign (.Name "j" p6) .Add (.Constant (.int 1) 0 p7) p8] [] p9] (callEnvC (mkFd (stOf 2) 28 (stName (stOf 2)) [] .none pm .none) L 28))
              (fun g N₆ m₆ => g = .next ∧ ∃ j', SldI N ex ac M U mi un i' j' N₆ m₆ ∧ j + 1 ≤ j' ∧ j' ≤ qs.length ∧ qs.drop j' = skp y (qs.drop (j + 1)))
              (XP C ⟨L, []⟩ Ψ "IndexError" fun _ N₆ m₆ => ∃ j', SldI N ex ac M U mi un i' j' N₆ m₆ ∧ j + 1 ≤ j' ∧ j' ≤ qs.length ∧ qs.drop j' = skp y (qs.drop (j + 1)) ∧ qs.drop j' = []) N₁ ⟨L, []⟩ m₅ Ψ := by
          intro A₂ Ψ b m₅ i' fx₂ hu₂ hh₂ S p1 p2 p3 p4 p5 p6 p7 p8 p9 q1 q2 q3
          have I₅ := I₄.stepI S
          obtain ⟨tj, c5⟩ := I₅.mj
          have ma₅ : m₅ "a" = some yv := (S.but _ (by decide)).trans ma₄
          refine sx_cons (.of (s_aug c5 rfl rfl rfl ?_))
          refine e_int fun u => ⟨1, u, rfl, fun t6 => ?_⟩
          have I₆ := I₅.setJ (t := t6) (i' := (j : Int) + 1) (k := j + 1) (by lia)
          have ma₆ : setLo m₅ "j" (.int ((j : Int) + 1) t6) "a" = some yv := by rw [setLo_ne (by decide)]; exact ma₅
          show WSX C _ (execs _ _) _ _ _ _ _ _
          generalize setLo m₅ "j" (.int ((j : Int) + 1) t6) = m₆ at I₆ ma₆
          obtain ⟨t7, c7⟩ := I₆.mj
          refine sx_cons ?_
          refine WSX.both (skip G.F fx₂ hu₂ hh₂ hc' (.inr (I₆.ext _ r2)) (hq.mono I₆.ext) hl' hyN hj I₆.m2 c7 ma₆ (by decide) (by decide) rfl rfl rfl rfl rfl (by decide) (by decide) (by decide)) ?_ ?_
          · rintro fl N₅ m₅ ⟨rfl, rfl, j', S'⟩
            exact sx_nil ⟨rfl, j', I₆.stepJ S', S'.ge, S'.le, S'.eq⟩
          · rintro e s' hE
            refine hE.imp fun b N₅ m₅ => ?_
            rintro ⟨rfl, rfl, j', S', hnil⟩
            exact ⟨j', I₆.stepJ S', S'.ge, S'.le, S'.eq, hnil⟩
        refine sx_cons ?_
        refine sx_finally fx ?_
        refine sx_cons ?_
        refine WSX.both (skip G.F fx hu hh hc (.inr (I₄.ext _ r1)) (hp.mono I₄.ext) hl hxN hi I₄.m1 c4 me₄ (by decide) (by decide) rfl rfl rfl rfl rfl (by decide) (by decide) (by decide)) ?_ ?_
        · rintro fl N₅ m₅ ⟨rfl, rfl, i', S⟩
          refine sx_nil ⟨rfl, ?_⟩
          refine WSX.both (fin2 A' Φ true m₅ i' fx hu hh S) ?_ ?_
          · rintro g N₆ m₆ ⟨rfl, j', I₆, h1, h2, h3⟩
            refine ⟨rfl, sx_nil (sx_nil (sx_nil (s_nil ?_)))⟩
            refine ⟨f, Nat.lt_succ_self _, i', j', _, _, I₆, ?_, ?_, ?_, S.le, h2, ?_⟩
            · rw [S.eq, h3]; exact hf
            · exact Nat.le_trans g1 (Nat.le_of_succ_le S.ge)
            · exact Nat.le_trans g2 (Nat.le_of_succ_le h1)
            · exact left_ij g5 (Nat.le_of_succ_le S.ge) (Nat.le_of_succ_le h1) (.inl ⟨S.ge, hi⟩)
          · rintro e s' hE
            refine hE.imp fun b N₆ m₆ => ?_
            rintro ⟨j', I₆, h1, h2, h3, h4⟩
            refine SldN.hR (f := f) I₆ ?_ h4 ?_ ?_ S.le h2
            · rw [S.eq, h3]; exact hf
            · exact Nat.le_trans g1 (Nat.le_of_succ_le S.ge)
            · exact Nat.le_trans g2 (Nat.le_of_succ_le h1)
        · rintro e s' hE
          refine hE.imp fun b N₅ m₅ => ?_
          rintro ⟨rfl, rfl, i', S, hnil⟩
          refine ⟨rfl, fun ea tb oe otb hH => ?_⟩
          refine WSX.both (fin2 (A'.mark (some (.ref ea))) (.ob tb otb :: .ob ea oe :: Φ) false m₅ i' ((fx.more fun _ h => .tail _ (.tail _ h)).mark) hu (fun m => .inr ⟨rfl, ea, oe, let ⟨vs, h1, h2⟩ := hH; ⟨vs, rfl, .tail _ (.tail _ (.head _)), h1, h2⟩⟩) S) ?_ ?_
          · rintro g N₆ m₆ ⟨rfl, j', I₆, h1, h2, h3⟩
            refine ⟨rfl, SldN.hL (f := f) I₆ ?_ hnil ?_ ?_ S.le h2⟩
            · rw [S.eq, h3]; exact hf
            · exact Nat.le_trans g1 (Nat.le_of_succ_le S.ge)
            · exact Nat.le_trans g2 (Nat.le_of_succ_le h1)
          · rintro e s' hE
            refine hE.imp fun b N₆ m₆ => ?_
            rintro ⟨j', I₆, h1, h2, h3, h4⟩
            refine SldN.hL (f := f) I₆ ?_ hnil ?_ ?_ S.le h2
            · rw [S.eq, h3]; exact hf
            · exact Nat.le_trans g1 (Nat.le_of_succ_le S.ge)
            · exact Nat.le_trans g2 (Nat.le_of_succ_le h1)
end
end Mine.Internal
end
section
open PySem PySem.W PyProof.Rows PySem.Calls PySem.Spec PySem.Builtin.List
set_option maxRecDepth 100000
namespace Mine.Internal
variable {C : Cx} {N N' : Led} {Φ : Frs} {A : Around} {mg mb : Lo} {s : Shared} {env : Env} {K : Fk} {m : Lo}
@[reducible] noncomputable def WFQ {α : Type} (C : Cx) (Q : α → Led → Frs → Prop) : α → Shared → Prop := fun v s' => ∃ N' Φ', Rep C N' Φ' s' ∧ Q v N' Φ'
noncomputable def WF {α : Type} (C : Cx) (A : Around) (t : Sem α) (Q : α → Led → Frs → Prop) (N : Led) (Φ : Frs) : Prop :=
  ∀ s E, Rep C N Φ s → wpAny C.M A t (WFQ C Q) E s
section
variable {α β : Type}
theorem WF.pure {a : α} {Q : α → Led → Frs → Prop} (h : Q a N Φ) : WF C A (pure a) Q N Φ := fun _ _ R => wpAny_pure ⟨N, Φ, R, h⟩
theorem WF.bind {t : Sem α} {f : α → Sem β} {Q : β → Led → Frs → Prop} (h : WF C A t (fun v N' Φ' => WF C A (f v) Q N' Φ') N Φ) : WF C A (t >>= f) Q N Φ :=
  fun s E R => wpAny_bind (wpAny_mono (h s E R) (fun _ s' ⟨_, _, R', q⟩ => q s' E R') fun _ _ x => x)
theorem WF.mono {t : Sem α} {Q Q' : α → Led → Frs → Prop} (h : WF C A t Q N Φ) (k : ∀ v N' Φ', Q v N' Φ' → Q' v N' Φ') : WF C A t Q' N Φ :=
  fun s E R => wpAny_mono (h s E R) (fun v _ ⟨N', Φ', R', q⟩ => ⟨N', Φ', R', k v N' Φ' q⟩) fun _ _ x => x
theorem WF.of {t : Sem α} {Q : α → Led → Frs → Prop} (h : WE C A t (fun v N' => Q v N' Φ) N Φ) : WF C A t Q N Φ :=
  fun s E R => wpAny_mono (h s E R) (fun v _ ⟨N', R', q⟩ => ⟨N', Φ, R', q⟩) fun _ _ x => x
theorem WF.eqv {t : Sem α} {r : α} {Q : α → Led → Frs → Prop} (e : t = Pure.pure r) (h : Q r N Φ) : WF C A t Q N Φ := e ▸ WF.pure h
theorem WF.use {t : Sem α} {Q : α → Led → Frs → Prop} {s : Shared} {K : α → Shared → Prop} {E : Value → Shared → Prop} (h : WF C A t Q N Φ) (R : Rep C N Φ s) (k : ∀ v s' N' Φ', Rep C N' Φ' s' → Q v N' Φ' → K v s') : wpAny C.M A t K E s :=
  wpAny_mono (h s E R) (fun v s' ⟨N', Φ', R', q⟩ => k v s' N' Φ' R' q) fun _ _ x => x
theorem WF.holding {vs : List Value} {t : Sem α} {Q : α → Led → Frs → Prop} (h : WF C A t Q N Φ) : WF C A (holding vs t) Q N Φ := fun s E R => wpAny_holding (h s E R)
theorem WF.standAt {p : Pos} {Q : Unit → Led → Frs → Prop} (q : Q () N Φ) : WF C A (standAt p) Q N Φ := .of (WE.standAt q)
theorem WF.mkText {x : Str} {Q : Value → Led → Frs → Prop} (q : ∀ t, Q (.str x t) N Φ) : WF C A (mkText x) Q N Φ := fun s E R => wpAny_mkText ⟨N, Φ, R.tok _, q _⟩
theorem WF.perm {t : Sem α} {Q : α → Led → Frs → Prop} {Ψ : Frs} (p : Φ.Perm Ψ) (h : WF C A t Q N Ψ) : WF C A t Q N Φ := fun s E R => h s E (R.perm p)
end
theorem perm_at {α : Type} {l : List α} {i : Nat} {a : α} (h : l[i]? = some a) : l.Perm (a :: l.eraseIdx i) := by
  obtain ⟨hlt, e⟩ := List.getElem?_eq_some_iff.mp h
  have e1 : l = l.take i ++ a :: l.drop (i + 1) := by rw [← e, ← List.drop_eq_getElem_cons hlt, List.take_append_drop]
  rw [List.eraseIdx_eq_take_drop_succ]
  conv => lhs; rw [e1]
  exact List.perm_middle
theorem perm_set {α : Type} {l : List α} {i : Nat} {a b : α} (h : l[i]? = some b) : (l.set i a).Perm (a :: l.eraseIdx i) := by
  obtain ⟨hlt, e⟩ := List.getElem?_eq_some_iff.mp h
  rw [List.eraseIdx_eq_take_drop_succ, List.set_eq_take_append_cons_drop, if_pos hlt]
  exact List.perm_middle
section prv
variable {a : Addr} {o o' : Obj} {i : Nat}
theorem Rep.getP (R : Rep C N Φ s) (hi : Φ[i]? = some (.ob a o)) : s.heap.get? a = some o := R.frm (List.mem_of_getElem? hi)
theorem Rep.setP {h' : Heap} {tk : Nat} (R : Rep C N Φ s) (hi : Φ[i]? = some (.ob a o)) (hx : Heap.ExtBut a s.heap h') (e : h'.get? a = some o') : Rep C N (Φ.set i (.ob a o')) { s with heap := h', toks := tk } := by
  have p1 : Φ.Perm (.ob a o :: Φ.eraseIdx i) := perm_at hi
  have p2 : (Φ.set i (.ob a o')).Perm (.ob a o' :: Φ.eraseIdx i) := perm_set hi
  refine ((R.perm p1).top (f' := .ob a o') (h' := h') (tk := tk) rfl (fun b ob hb e' => hx b ob (fun q => hb (by rw [q]; exact .head _)) e') e).perm p2.symm
theorem Rep.neP {j : Nat} {b : Addr} {ob : Obj} (R : Rep C N Φ s) (hi : Φ[i]? = some (.ob a o)) (hj : Φ[j]? = some (.ob b ob)) (hij : i ≠ j) : a ≠ b := by
  intro e
  subst e
  obtain ⟨z, r⟩ := R.z
  have p1 : Φ.Perm (.ob a o :: Φ.eraseIdx i) := perm_at hi
  have nd := (r.perm p1).nd
  rw [own_cons, List.nodup_append] at nd
  have hm : Prv.ob a ob ∈ Φ.eraseIdx i := by
    rw [List.mem_eraseIdx_iff_getElem?]
    exact ⟨j, Ne.symm hij, hj⟩
  exact nd.2.2 a (.head _) a (mem_own hm (.head _)) rfl
theorem WF.loadP {pt : Option Value} {Q : Obj → Led → Frs → Prop} (i : Nat) (hi : Φ[i]? = some (.ob a o)) (q : Q o N Φ) : WF C A (loadPart a pt) Q N Φ := fun _ _ R => wpAny_loadPart (R.getP hi) ⟨N, Φ, R, q⟩
theorem WF.loadP' {Q : Obj → Led → Frs → Prop} (i : Nat) (hi : Φ[i]? = some (.ob a o)) (q : Q o N Φ) : WF C A (load a) Q N Φ := fun _ _ R => wpAny_load (R.getP hi) ⟨N, Φ, R, q⟩
theorem WF.updP {pt : Option Value} {f : Obj → Obj} {Q : Unit → Led → Frs → Prop} (i : Nat) (hi : Φ[i]? = some (.ob a o)) (hf : (f o).isFreed = false) (q : Q () N (Φ.set i (.ob a (f o)))) : WF C A (updatePart a pt f) Q N Φ :=
  fun s _ R => wpAny_updatePart (R.getP hi) ⟨N, _, R.setP (tk := s.toks) hi (Heap.SameBut.update ..).extBut (Heap.get?_update_self f (R.getP hi) hf), q⟩
theorem WF.allocP {Q : Addr → Led → Frs → Prop} (hf : o.isFreed = false) (q : ∀ a, New a N → Q a N (.ob a o :: Φ)) : WF C A (alloc o) Q N Φ :=
  fun s _ R => wpAny_alloc ⟨N, _, R.pushG (tk := s.toks) (f := .ob s.heap.objs.size o) (fun _ _ e => Heap.get?_push_of_some _ e) (Heap.get?_push_size _ hf) (fun b hb => by simp [Prv.own] at hb; rw [hb]; exact Nat.le_refl _) (by simp [Prv.own]), q _ R.new⟩
theorem WF.typeP {Q : Value → Led → Frs → Prop} (i : Nat) (hi : Φ[i]? = some (.ob a o)) (q : Q o.cls N Φ) : WF C A (PySem.typeOf (.ref a)) Q N Φ := WF.bind (WF.loadP i hi (WF.pure q))
end prv
noncomputable def Kv : List DictEntry → List (Str × Value) → Prop
  | [], [] => True
  | e :: es, p :: ps => (∃ t, e.key = .str p.1 t) ∧ e.val = p.2 ∧ Kv es ps
  | _, _ => False
noncomputable def dO (es : List DictEntry) (n : Nat) : Obj := { cls := .type "dict", data := .dict es.toArray n }
theorem isStrCps (x y : Str) (t : Tok) : (Value.str x t).isStrByCps y.cps.size y.cps.toList = (y == x) := by
  rw [Value.isStrByCps_eq]
  show (x == y) = (y == x)
  rw [Bool.eq_iff_iff, beq_iff_eq, beq_iff_eq]; exact eq_comm
theorem Kv.nameIn (x : Str) : ∀ {es : List DictEntry} {ps : List (Str × Value)}, Kv es ps → ∀ b, ((nsNameIn x.cps.size x.cps.toList es b).1.map (·.val) = ps.lookup x) ∧ (b = false → (nsNameIn x.cps.size x.cps.toList es b).2 = false)
  | [], [], _, b => ⟨rfl, id⟩
  | e :: es, p :: ps, ⟨⟨t, hk⟩, hv, h⟩, b => by
    unfold nsNameIn
    rw [hk, isStrCps, List.lookup_cons]
    cases hx : x == p.1 with
    | true => rw [if_pos rfl]; exact ⟨congrArg some hv, id⟩
    | false =>
      rw [if_neg (by decide)]
      have hr : e.refKey = false := by unfold DictEntry.refKey; rw [hk]
      rw [hr, Bool.or_false]
      exact Kv.nameIn x h b
theorem Kv.noRef {x : Str} {es : List DictEntry} {ps : List (Str × Value)} (h : Kv es ps) : aRefKeyMayBeTheName x es.toArray = false := by
  have h2 := (h.nameIn x false).2 rfl
  unfold aRefKeyMayBeTheName
  generalize nsNameIn x.cps.size x.cps.toList es.toArray.toList false = y at h2 ⊢
  obtain ⟨y1, y2⟩ := y
  simp only at h2; subst h2
  cases y1 <;> rfl
noncomputable def kvPut (x : Str) (v : Value) : List (Str × Value) → List (Str × Value)
  | [] => [(x, v)]
  | p :: ps => if x == p.1 then (p.1, v) :: ps else p :: kvPut x v ps
theorem kvPut_c {x : Str} {v : Value} {p : Str × Value} {ps : List (Str × Value)} : kvPut x v (p :: ps) = if x == p.1 then (p.1, v) :: ps else p :: kvPut x v ps := rfl
theorem Kv.put (x : Str) (hh : Int) (t : Tok) (v : Value) : ∀ {es : List DictEntry} {ps : List (Str × Value)}, Kv es ps → Kv (nsPutIn x.cps.size x.cps.toList (fun | some e => { e with val := v } | none => ⟨hh, .str x t, v⟩) es).1 (kvPut x v ps)
  | [], [], _ => ⟨⟨t, rfl⟩, rfl, trivial⟩
  | e :: es, p :: ps, ⟨⟨u, hk⟩, hv, h⟩ => by
    unfold nsPutIn
    rw [kvPut_c, hk, isStrCps]
    cases hx : x == p.1 with
    | true => rw [if_pos rfl, if_pos rfl]; exact ⟨⟨u, hk⟩, rfl, h⟩
    | false =>
      rw [if_neg (by decide), if_neg (by decide)]
      exact ⟨⟨u, hk⟩, hv, Kv.put x hh t v h⟩
theorem Kv.putName (x : Str) (hh : Int) (t : Tok) (v : Value) {es : List DictEntry} {ps : List (Str × Value)} {n : Nat} (h : Kv es ps) : ∃ es' n', Obj.putName x hh (.str x t) v (dO es n) = dO es' n' ∧ Kv es' (kvPut x v ps) := by
  have hp := h.put x hh t v
  unfold dO Obj.putName
  dsimp only
  generalize nsPutIn x.cps.size x.cps.toList (fun | some e => { e with val := v } | none => ⟨hh, .str x t, v⟩) es = y at hp ⊢
  obtain ⟨y1, y2⟩ := y
  cases y2 <;> exact ⟨_, _, rfl, hp⟩
end Mine.Internal
end
section
open PySem PySem.W PyProof.Rows PySem.Calls PySem.Spec PySem.Builtin.List
set_option maxRecDepth 100000
namespace Mine.Internal
variable {C : Cx} {N N' : Led} {Φ : Frs} {A : Around} {mg mb : Lo} {s : Shared} {env : Env} {K : Fk} {m : Lo}
section ns
variable {D : Addr} {es : List DictEntry} {n : Nat} {kvs : List (Str × Value)} {x : Str} {v : Value}
theorem WF.nsSetP {Q : Unit → Led → Frs → Prop} (i : Nat) (hi : Φ[i]? = some (.ob D (dO es n))) (k : Kv es kvs) (q : ∀ es' n', Kv es' (kvPut x v kvs) → Q () N (Φ.set i (.ob D (dO es' n')))) : WF C A (nsSet D x v) Q N Φ := by
  unfold nsSet
  refine WF.bind (fun s E R => ?_)
  unfold strHash
  refine wpAny_bind (wpAny_askSetting (wpAny_pure ⟨N, Φ, R, ?_⟩))
  refine WF.bind (WF.mkText fun t => ?_)
  refine WF.bind (WF.loadP i hi ?_)
  show WF C A (if aRefKeyMayBeTheName x es.toArray = true then _ else _) Q N Φ
  rw [k.noRef, if_neg (by decide)]
  generalize (if x.cps.isEmpty = true then (0 : Int) else reduceHash (C.M.w.params.strHash x.cps)) = H
  refine Classical.byContradiction fun hn => ?_
  obtain ⟨es', n', e, k'⟩ := k.putName x H t v (n := n)
  refine hn ?_
  clear hn
  refine WF.updP i hi (by rw [e]; rfl) ?_
  rw [e]
  exact q es' n' k'
theorem WF.storeC {Q : Unit → Led → Frs → Prop} (i : Nat) (hD : env.locals = D) (hs : storeName env x v = localSet env x v) (hi : Φ[i]? = some (.ob D (dO es n))) (k : Kv es kvs) (q : ∀ es' n', Kv es' (kvPut x v kvs) → Q () N (Φ.set i (.ob D (dO es' n')))) : WF C A (storeName env x v) Q N Φ := by
  rw [hs]
  unfold localSet
  rw [hD]
  refine WF.bind (WF.loadP' i hi ?_)
  rw [if_pos (show ((dO es n).cls == Value.type "dict") = true from rfl)]
  exact WF.nsSetP i hi k q
end ns
section
variable {a : Addr} {o o' : Obj} {i : Nat} {z : Addr → Option Obj} {h h' : Heap}
theorem RepZ.setP (r : RepZ C z N Φ h) (hi : Φ[i]? = some (.ob a o)) (hx : Heap.ExtBut a h h') (e : h'.get? a = some o') : RepZ C z N (Φ.set i (.ob a o')) h' :=
  ((r.perm (perm_at hi)).top (f' := .ob a o') rfl (fun b ob hb e' => hx b ob (fun q => hb (by rw [q]; exact .head _)) e') e).perm (perm_set hi).symm
theorem Fresh.setP {b : Addr} (f : Fresh C z N Φ b) (hi : Φ[i]? = some (.ob a o)) : Fresh C z N (Φ.set i (.ob a o')) b := by
  refine ⟨f.n, f.z, fun hb => f.f ?_, f.t⟩
  have p1 : (own Φ).Perm (own (.ob a o :: Φ.eraseIdx i)) := (perm_at hi).flatMap_right _
  have p2 : (own (Φ.set i (.ob a o'))).Perm (own (.ob a o' :: Φ.eraseIdx i)) := (perm_set hi).flatMap_right _
  exact p1.mem_iff.mpr (p2.mem_iff.mp hb)
end
section stmts
theorem wf_nil {Q : Flow → Led → Frs → Prop} (h : Q .next N Φ) : WF C A (execs [] env) Q N Φ := WF.pure h
theorem wf_cons {st : Stmt} {rest : List Stmt} {Q : Flow → Led → Frs → Prop} (h : WF C A (exec st env) (fun f N₁ Φ₁ => f = .next ∧ WF C A (execs rest env) Q N₁ Φ₁) N Φ) : WF C A (execs (st :: rest) env) Q N Φ := by
  rw [execs_cons]
  refine WF.bind (h.mono fun f N₁ Φ₁ pz0 => ?_)
  obtain ⟨e, h₁⟩ := pz0
  subst e
  exact h₁
theorem wf_assign {x pos' value pos} {Q : Flow → Led → Frs → Prop} (h : WF C A (eval value env) (fun v N' Φ' => WF C A (storeName env x v) (fun _ N₂ Φ₂ => Q .next N₂ Φ₂) N' Φ') N Φ)
    (hs : swapsWith value (some (.Name x pos')) pos.line env = Pure.pure false := by rfl) : WF C A (exec (.Assign [.Name x pos'] value pos) env) Q N Φ := by
  intro s E R
  refine wpAny_Assign_Name (h.use R fun v s₁ N₁ Φ₁ R₁ q => ?_) hs
  exact q s₁ E R₁
theorem WF.bindName {x : Str} {v : Value} {Q : Unit → Led → Frs → Prop} (h : WF C A (storeName env x v) Q N Φ) : WF C A (bindName env x v) Q N Φ := fun s E R => wpAny_bindName (h s E R)
structure MkF (C : Cx) (mg : Lo) : Prop where
  g : ∀ h : Heap, (∀ b o, C.g b = some o → h.get? b = some o) → h.Ns mainGlobals mg
  bm : ∃ bm o, mg "__builtins__" = some (.ref bm) ∧ bm ≠ builtinsNs ∧ bm ≠ mainGlobals ∧ C.g bm = some o ∧ o.cls = .type "module" ∧ o.dict = some builtinsNs ∧ o.data = .plain
  gm : ∃ o, C.g mainGlobals = some o
theorem Rep.stNe {z : Addr} {o : Obj} {i : Nat} {a : Addr} {oa : Obj} (R : Rep C N Φ s) (h : C.g z = some o) (hi : Φ[i]? = some (.ob a oa)) : z ≠ a := by
  intro e
  subst e
  obtain ⟨y, r⟩ := R.z
  have := r.st _ _ h
  rw [r.frz z (mem_own (List.mem_of_getElem? hi) (.head _))] at this
  cases this
theorem wf_make {name qual : Str} {params : Arguments} {body : List Stmt} {scope : Scope} {pos : Pos} {firstLine : Nat} {clos : List (Str × Addr)} {c P : Addr} {ps : Array Value} {Q : Value → Led → Frs → Prop} (F : MkF C mg) (i : Nat)
    (hcl : closureFor scope env = Pure.pure clos) (hge0 : env.globals = mainGlobals) (hcode : env.code = .ref c) (hC : ∀ s, Rep C N Φ s → CodeHd s.heap c P) (hi : Φ[i]? = some (.ob P (tabObj ps))) (ht : TriplesOk ps.toList) (hnf : codeAmong pos ps.toList = none)
    (q : ∀ f c' oc ctv doc, IsCode oc qual → New f N → New c' N → Q (.ref f) ((f, fnMade name qual params body scope clos doc ((mg "__name__").getD .none) c' ctv) :: (c', oc) :: N) (Φ.set i (.ob P (tabObj (ps ++ #[rawInt pos.line, rawInt pos.col, .ref c']))))) :
    WF C A (makeFunction name qual params (.stmts body) scope env [] [] [] pos firstLine) Q N Φ := by
  intro s E R
  refine Classical.byContradiction fun hn => ?_
  obtain ⟨bm, ob, b1, b2, b3, b4, b5, b6, b7⟩ := F.bm
  obtain ⟨og, hog⟩ := F.gm
  refine hn ?_
  clear hn
  refine makeFunction_K hcl hge0 (F.g _ R.stat) hcode (hC s R) (R.getP hi) ht hnf (R.stNe hog hi) ⟨bm, ob, b1, b2, b3, R.stNe b4 hi, R.st b4, b5, b6, b7⟩ fun c' ctv doc h' tk hx hge hlt hrec htb => ?_
  refine Classical.byContradiction fun hn => ?_
  obtain ⟨c₂, oc, vs, t, e2, ho, hd, h1⟩ := hrec
  refine hn ?_
  clear hn
  cases e2
  refine Classical.byContradiction fun hn => ?_
  obtain ⟨⟨z, r⟩, os, g⟩ := R
  refine hn ?_
  clear hn
  have Fc := (r.fresh hge).setP (o' := tabObj (ps ++ #[rawInt pos.line, rawInt pos.col, .ref c'])) hi
  have r₁ := (r.setP hi hx htb).add ho Fc
  have Ff : Fresh C z ((c', oc) :: N) (Φ.set i (.ob P (tabObj (ps ++ #[rawInt pos.line, rawInt pos.col, .ref c'])))) h'.objs.size := r₁.fresh (Nat.le_refl _)
  have r₂ := (r₁.push (fnMade name qual params body scope clos doc ((mg "__name__").getD .none) c' ctv)).add (a := h'.objs.size) (Heap.get?_push_size _ rfl) Ff
  exact ⟨_, _, ⟨⟨z, r₂⟩, os, g⟩, q _ c' oc ctv doc ⟨vs, t, hd, h1⟩ (fun p hp => Ff.n p (.tail _ hp)) Fc.n⟩
end stmts
end Mine.Internal
end
section
open PySem PySem.W PyProof.Rows PySem.Calls PySem.Spec PySem.Builtin.List
set_option maxRecDepth 100000
namespace Mine.Internal
variable {C : Cx} {N N' : Led} {Φ : Frs} {A : Around} {mg mb : Lo} {s : Shared} {env : Env} {K : Fk} {m : Lo}
section steps
variable {α : Type} {Q : α → Led → Frs → Prop} {a : Addr} {o : Obj} {pt : Option Value}
theorem k_pure {v : α} (q : Q v N Φ) : WF C A (Sem.pure v) Q N Φ := WF.pure q
theorem k_rule {t : String} {k : Unit → Sem α} (q : WF C A (k ()) Q N Φ) : WF C A (Sem.rule t k) Q N Φ := fun s E R => X.x_rule (q s E R)
theorem k_at {p : Pos} {k : Unit → Sem α} (q : WF C A (k ()) Q N Φ) : WF C A (Sem.at p k) Q N Φ := fun s E R => X.x_at (q s E R)
theorem k_point {l : List Value} {k : Unit → Sem α} (q : WF C A (k ()) Q N Φ) : WF C A (Sem.point l k) Q N Φ := fun s E R => X.x_point (q s E R)
theorem k_ask {k : Setting → Sem α} (q : WF C A (k ⟨C.prog, C.w.params⟩) Q N Φ) : WF C A (Sem.ask k) Q N Φ := fun s E R => X.x_ask (q s E R)
theorem k_fresh {k : Tok → Sem α} (q : ∀ t, WF C A (k t) Q N Φ) : WF C A (Sem.fresh k) Q N Φ := fun s E R => X.x_fresh (q _ _ E (R.tok _))
theorem k_load {k : Obj → Sem α} (h : Has C N a o) (q : WF C A (k o) Q N Φ) : WF C A (Sem.load a pt k) Q N Φ := fun s E R => X.x_load (R.has h) (q s E R)
theorem k_loadP {k : Obj → Sem α} (i : Nat) (hi : Φ[i]? = some (.ob a o)) (q : WF C A (k o) Q N Φ) : WF C A (Sem.load a pt k) Q N Φ := fun s E R => X.x_load (R.getP hi) (q s E R)
theorem k_updP {f : Obj → Obj} {k : Unit → Sem α} (i : Nat) (hi : Φ[i]? = some (.ob a o)) (hf : (f o).isFreed = false) (q : WF C A (k ()) Q N (Φ.set i (.ob a (f o)))) : WF C A (Sem.update a pt f k) Q N Φ :=
  (WF.bind (t := updatePart a pt f) (f := k) (WF.updP i hi hf q) : WF C A (updatePart a pt f >>= k) Q N Φ)
theorem k_updL {f : Obj → Obj} {k : Unit → Sem α} (h : (a, o) ∈ N) (hd : NoFields o) (hf : (f o).isFreed = false) (q : WF C A (k ()) Q (updL N a (f o)) Φ) : WF C A (Sem.update a pt f k) Q N Φ :=
  (WF.bind (t := updatePart a pt f) (f := k) (WF.of (WE.updatePart h hd hf q)) : WF C A (updatePart a pt f >>= k) Q N Φ)
theorem k_alloc {k : Addr → Sem α} (hf : o.isFreed = false) (q : ∀ a, New a N → WF C A (k a) Q N (.ob a o :: Φ)) : WF C A (Sem.alloc o k) Q N Φ :=
  (WF.bind (t := alloc o) (f := k) (WF.allocP hf q) : WF C A (alloc o >>= k) Q N Φ)
noncomputable def CFF (C : Cx) (A : Around) (c : Code) (Q : Value → Led → Frs → Prop) (N : Led) (Φ : Frs) : Prop :=
  ∀ s (R : Result → Shared → Prop), Rep C N Φ s → (∀ v s' N' Φ', Rep C N' Φ' s' → Q v N' Φ' → R (.ok (.ret v)) s') → codeAny C.M A c R s
noncomputable def FinQ (C : Cx) (A : Around) (Q : Value → Led → Frs → Prop) (f : PySem.Fin) (N : Led) (Φ : Frs) : Prop :=
  match f with
  | .done (.ret v) => Q v N Φ
  | .done _ => False
  | .again c => c.quiet = true ∧ CFF C A c Q N Φ
theorem k_call {c : Code} {g : Bool} {l : List Value} {k : Result → Sem α} (h : CFF C A c (fun v N' Φ' => WF C A (k (.ok (.ret v))) Q N' Φ') N Φ) : WF C A (Sem.call c none g l k) Q N Φ := fun s E R =>
  X.x_call (by rw [Around.mark_none]; exact h s _ R fun v s' N' Φ' R' q => q s' E R') (by intro x; cases x)
end steps
section ns
variable {α : Type} {Q : α → Led → Frs → Prop} {D : Addr} {pt : Option Value}
theorem ns_look {h : Heap} {m : Lo} {o : Obj} (hn : h.Ns D m) (ho : h.get? D = some o) (x : Str) : nsLook x o = Pure.pure (m x) := by
  obtain ⟨o', es, ep, ho', hd, hk, hf⟩ := hn
  rw [ho] at ho'; cases ho'
  have hno : es.any (·.refKey) = false := by
    rw [Array.any_eq_false]
    intro i hi
    obtain ⟨n, t, e⟩ := hk es[i] (Array.getElem_mem hi)
    unfold DictEntry.refKey
    rw [e]; simp
  rw [nsLook_eq]
  unfold nsLookByArray
  rw [hd]
  dsimp only
  have hx := hf x
  unfold nsFind findBy at hx
  rw [← hx]
  cases es.find? (fun e => e.key.isStr x) with
  | some e => rfl
  | none => rw [hno]; rfl
theorem k_loadNs {m : Lo} {k : Obj → Sem α} (hn : ∀ s, Rep C N Φ s → s.heap.Ns D m) (q : ∀ o, (∀ x, nsLook x o = Pure.pure (m x)) → WF C A (k o) Q N Φ) : WF C A (Sem.load D pt k) Q N Φ := fun s E R => by
  obtain ⟨o, es, ep, ho, hd, hk, hf⟩ := hn s R
  exact X.x_load ho (q o (fun x => ns_look ⟨o, es, ep, ho, hd, hk, hf⟩ ho x) s E R)
end ns
section codes
variable {Q : Value → Led → Frs → Prop}
theorem CFF.tree {c : Code} (h : WF C (A.under c) (denote table c) (FinQ C A Q) N Φ) : CFF C A c Q N Φ := fun s R r k =>
  codeAny_of_tree (wpAny_mono (h s (fun e s' => R (.error e) s') r) (fun fin s' ⟨N', Φ', R', q⟩ => by
    match fin, q with
    | .done (.ret v), q => exact k v s' N' Φ' R' q
    | .again c, q => exact ⟨q.1, q.2 s' R R' k⟩) fun _ _ x => x)
theorem CFF.call {f : Value} {args : Args} (h : WF C A.in1 (callAny f args) (FinQ C A Q) N Φ) : CFF C A (.call f args) Q N Φ := CFF.tree h
theorem CFF.builtin {id : String} {args : Args} {b : Builtin} (hb : entryFor table id = some b) (h : WF C (A.under (.builtin id args)) (b args) (FinQ C A Q) N Φ) : CFF C A (.builtin id args) Q N Φ := by
  refine CFF.tree ?_
  show WF C _ (match entryFor table id with | some b => b args | none => unsupported ((withoutEnding? id "#data").getD id)) _ N Φ
  rw [hb]; exact h
theorem fin_again {id : String} {args : Args} {A' : Around} (id' : String) (b : Builtin) (hid : id = id') (hq : id'.startsWith "lifetime." = false) (hb : entryFor table id' = some b) (h : WF C (A.under (.builtin id' args)) (b args) (FinQ C A Q) N Φ) :
    WF C A' (Sem.pure (.again (.builtin id args))) (FinQ C A Q) N Φ := by
  subst hid
  exact k_pure ⟨Code.quiet_builtin _ hq, CFF.builtin hb h⟩
theorem CFF.ofCE {c : Code} (h : CE C A c (fun v N' => Q v N' Φ) N Φ) : CFF C A c Q N Φ := fun s R r k => h s R r fun v s' N' r' q => k v s' N' Φ r' q
theorem WF.call {f : Value} {vs : List Value} (h : CFF C A (.call f ⟨vs, []⟩) Q N Φ) : WF C A (PySem.call f vs) Q N Φ := fun s E R => wpAny_call (h s _ R fun v s' N' Φ' R' q => ⟨N', Φ', R', q⟩)
end codes
end Mine.Internal
end
section
open PySem PySem.W PyProof.Rows PySem.Calls PySem.Spec PySem.Builtin PySem.Builtin.List
set_option maxRecDepth 100000
namespace Mine.Internal
variable {C : Cx} {N N' : Led} {Φ : Frs} {A A' : Around} {mg mb : Lo} {s : Shared} {env : Env} {K : Fk} {m : Lo}
theorem WF.ne {α : Type} {t : Sem α} {Q : α → Led → Frs → Prop} {z : Addr} {o oa : Obj} {a : Addr} (h : C.g z = some o) (i : Nat) (hi : Φ[i]? = some (.ob a oa)) (q : z ≠ a → WF C A t Q N Φ) : WF C A t Q N Φ := fun s E R => q (R.stNe h hi) s E R
theorem WF.onRaise {α : Type} {t : Sem α} {h : Value → Sem Unit} {Q : α → Led → Frs → Prop} (q : WF C A t Q N Φ) : WF C A (t.onRaise h) Q N Φ := fun s E R => wpAny_onRaise (wpAny_mono (q s (fun _ _ => False) R) (fun _ _ x => x) fun _ _ x => x.elim)
theorem WF.enterFrame {Q : Unit → Led → Frs → Prop} (hl : ∀ h : Heap, (∀ b o, C.g b = some o → h.get? b = some o) → h.NoLimit) (hd : A.depth < recursionLimit) (q : Q () N Φ) : WF C A enterFrame Q N Φ := fun s E R => wpAny_enterFrame (hl _ R.stat) hd ⟨N, Φ, R, q⟩
theorem WF.builtinsFor {r : Addr} {Q : Addr → Led → Frs → Prop} (F : MkF C mg) (q : Q builtinsNs N Φ) : WF C A (builtinsFor mainGlobals r) Q N Φ := fun s E R => by
  refine Classical.byContradiction fun hn => ?_
  obtain ⟨bm, o, h1, h2, h3, h4, h5, h6, h7⟩ := F.bm
  refine hn ?_
  clear hn
  exact wpAny_builtinsFor (F.g _ R.stat) h1 h2 (R.st h4) h5 h6 h7 ⟨N, Φ, R, q⟩
theorem WF.nsGlob {x : Str} {Q : Option Value → Led → Frs → Prop} (F : MkF C mg) (q : Q (mg x) N Φ) : WF C A (nsGet mainGlobals x) Q N Φ := fun s E R => wpAny_nsGet (F.g _ R.stat) ⟨N, Φ, R, q⟩
noncomputable def ClsCd (P : Addr) (o : Obj) : Prop := ∃ vs file tf flags tg inF text tt, o.cls = .type "code" ∧ o.data = .fields vs ∧ vs[11]? = some (.ref P) ∧ vs.getD 11 .none = .ref P ∧ vs.getD 18 .none = .str file tf ∧
    vs.getD 7 .none = .int flags tg ∧ vs.getD 9 .none = .bool inF ∧ vs.getD 10 .none = .int text tt
theorem ClsCd.hd {P c : Addr} {oc : Obj} {i j : Nat} {oP : Obj} (h : ClsCd P oc) (hi : Φ[i]? = some (.ob c oc)) (hj : Φ[j]? = some (.ob P oP)) (hij : i ≠ j) : ∀ s, Rep C N Φ s → CodeHd s.heap c P := fun s R => by
  refine Classical.byContradiction fun hn => ?_
  obtain ⟨vs, file, tf, flags, tg, inF, text, tt, h1, h2, h3, h4, h5, h6, h7, h8⟩ := h
  refine hn ?_
  clear hn
  exact ⟨oc, vs, file, tf, flags, tg, inF, text, tt, R.getP hi, h1, h2, h3, h4, h5, h6, h7, h8, R.neP hi hj hij⟩
theorem tab_noF {ps : Array Value} (h : ∀ t q, ps[1]? ≠ some (Value.str q t)) : NoFields (tabObj ps) := fun vs e t q => by
  cases e; exact h t q
theorem wf_classCode {name qual : Str} {scope : Scope} {pos : Pos} {firstLine : Nat} {c P : Addr} {Q : Value → Led → Frs → Prop} (hcode : env.code = .ref c) (hC : ∀ s, Rep C N Φ s → CodeHd s.heap c P) (hP : (P, tabObj #[]) ∈ N)
    (q : ∀ c' P' oc, ClsCd P' oc → Q (.ref c') (updL N P (tabObj #[rawInt pos.line, rawInt pos.col, .ref c'])) (.ob P' (tabObj #[]) :: .ob c' oc :: Φ)) : WF C A (classCode env pos firstLine name qual scope) Q N Φ := by
  intro s E R
  refine Classical.byContradiction fun hn => ?_
  obtain ⟨o, vs, file, tf, flags, tg, inF, text, tt, ho, hcls, hd, _, h11, h18, h7, h9, h10, hne⟩ := hC s R
  refine hn ?_
  clear hn
  have hPg := R.get hP
  unfold classCode codeAt
  rw [hcode, if_neg (show ¬ ((Value.ref c == Value.none) = true) from Bool.false_ne_true)]
  refine wpAny_bind (wpAny_fieldsOf ho hd ?_)
  rw [h11]
  refine wpAny_bind (wpAny_fieldsOf hPg rfl ?_)
  rw [show codeAmong pos (#[] : Array Value).toList = none from rfl, h18, h7, h9, h10]
  refine wpAny_bind (wpAny_newCodeX fun c' P' h₁ tk hk hc' hP' hcd htb hrec => ?_)
  have hd' := CodeHd.of hcd htb
  refine Classical.byContradiction fun hn => ?_
  obtain ⟨oc, vc, fc, tfc, flc, tgc, inc, txc, ttc, g1, g2, g3, g4, g5, g6, g7, g8, g9, g10⟩ := hd'
  refine hn ?_
  clear hn
  refine wpAny_bind (wpAny_updateFieldsOfTheText (hk _ _ hPg) rfl ?_)
  have e1 : (Obj.mapFields (fun vs => if (codeAmong pos vs.toList).isSome = true then vs else vs ++ #[rawInt pos.line, rawInt pos.col, .ref c']) (tabObj #[])) = tabObj #[rawInt pos.line, rawInt pos.col, .ref c'] := rfl
  have hget := Heap.get?_update_self (h := h₁) (fun o => Obj.mapFields (fun vs => if (codeAmong pos vs.toList).isSome = true then vs else vs ++ #[rawInt pos.line, rawInt pos.col, .ref c']) o) (hk _ _ hPg) (by rw [e1]; rfl)
  rw [e1] at hget
  refine wpAny_bind (wpAny_fieldsOf hget rfl ?_)
  have e2 : codeAmong pos (#[rawInt pos.line, rawInt pos.col, Value.ref c'] : Array Value).toList = some (.ref c') := by
    show (if _ then _ else _) = _
    rw [if_pos (by simp)]
  rw [e2]
  refine wpAny_pure ⟨_, _, ?_, q c' P' oc ⟨vc, fc, tfc, flc, tgc, inc, txc, ttc, g2, g3, g4, g5, g6, g7, g8, g9⟩⟩
  refine Classical.byContradiction fun hn => ?_
  obtain ⟨⟨z, r⟩, os, gg⟩ := R
  refine hn ?_
  clear hn
  have F1 : ∀ b, s.heap.objs.size ≤ b → Fresh C z N Φ b := fun b hb => r.fresh hb
  have r₁ := (r.grow hk).pushF (f := .ob c' oc) g1 (fun b hb => by
    have : b = c' := by simpa [Prv.own] using hb
    rw [this]; exact F1 _ hc') (by simp [Prv.own])
  have r₂ := r₁.pushF (f := .ob P' (tabObj #[])) htb.2 (fun b hb => by
    have : b = P' := by simpa [Prv.own] using hb
    subst this
    have f := F1 _ hP'
    refine ⟨f.n, f.z, ?_, f.t⟩
    rw [own_cons, List.mem_append]
    rintro (h | h)
    · exact g10 (Eq.symm (by simpa [Prv.own] using h))
    · exact f.f h) (by simp [Prv.own])
  exact ⟨⟨z, r₂.upd hP (tab_noF (ps := #[]) (fun t q h => by simp at h)) (Heap.SameBut.update ..).extBut hget⟩, os, gg⟩
end Mine.Internal
end
section
open PySem PySem.W PyProof.Rows PySem.Calls PySem.Spec PySem.Builtin PySem.Builtin.List
set_option maxRecDepth 100000
namespace Mine.Internal
variable {C : Cx} {N N' : Led} {Φ : Frs} {A A' : Around} {mg mb : Lo} {s : Shared} {env : Env} {K : Fk} {m : Lo}
noncomputable def kCls : Stmt := (stBody (stOf 9)).getD 0 (.Pass default)
noncomputable def kBdy : List Stmt := stBody kCls
noncomputable def stClsScope : Stmt → Scope
  | .ClassDef _ _ _ _ _ _ s _ _ _ _ => s
  | _ => default
noncomputable def kScope : Scope := stClsScope kCls
theorem wf_prepare {Q : Option Value → Led → Frs → Prop} (q : ∀ b, New b N → Q (some (.ref b)) N (.ob b { cls := .type "builtin_function_or_method", data := .fields #[.builtin "type.__prepare__", .type "type"] } :: Φ)) : WF C A (getAttr? (.type "type") "__prepare__") Q N Φ := by
  refine k_fresh fun t => ?_
  refine k_call (CFF.call ?_)
  refine fin_again "type.__getattribute__" Builtin.«type.__getattribute__» (by decide) (by decide +kernel) (entryFor_of_tree (by kernel_rfl)) ?_
  refine k_call (CFF.call ?_)
  refine fin_again "classmethod_descriptor.__get__" Builtin.«classmethod_descriptor.__get__» (by decide) (by decide +kernel) (entryFor_of_tree (by kernel_rfl)) ?_
  refine k_alloc rfl fun b hb => ?_
  refine k_pure ?_
  show WF C _ _ _ _ _
  refine k_pure ?_
  show WF C _ _ _ _ _
  conv => arg 3; whnf
  exact k_pure (q b hb)
theorem WF.runBody {stmts : List Stmt} {Q : Flow → Led → Frs → Prop} (hann : hasAnns stmts = false) (hdoc : docOf stmts = none) (h : WF C (A.deeper env) (execs stmts env) Q N Φ) : WF C A (run (.body stmts env)) Q N Φ := fun s E R => by
  refine wpAny_run ?_ (by intro x; cases x)
  rw [Around.mark_none]
  exact codeAny_body hann hdoc (wpAny_mono (h s (fun _ _ => False) R) (fun f s' q => q) fun _ _ x => x.elim)
theorem wf_def {name bind : Str} {args : Arguments} {body : List Stmt} {scope : Scope} {pos : Pos} {Q : Flow → Led → Frs → Prop} (hdef : defaultsOf args env = ([], [])) (hko : args.kwonlyargs = [])
    (hn : ∀ e, annotationsOf (args.args ++ args.posonlyargs ++ args.vararg.toList ++ args.kwonlyargs ++ args.kwarg.toList) e = [])
    (h : WF C A (makeFunction name (qualnameIn env name bind) args (.stmts body) scope env [] [] [] pos pos.line) (fun f N' Φ' => WF C A (storeName env bind f) (fun _ N₂ Φ₂ => Q .next N₂ Φ₂) N' Φ') N Φ) :
    WF C A (exec (.FunctionDef name args body [] none [] scope none bind pos) env) Q N Φ := by
  rw [arm_exec_FunctionDef]
  unfold defStmt
  dsimp only [List.map_nil, List.isEmpty_nil]
  rw [if_neg (by decide)]
  refine WF.bind (WF.eqv (r := []) rfl (WF.bind (WF.standAt ?_)))
  refine WF.bind (WF.holding ?_)
  rw [hdef]
  refine WF.bind (WF.eqv (r := []) rfl ?_)
  refine WF.bind (WF.holding (WF.eqv (r := []) rfl (WF.holding ?_)))
  refine WF.bind (WF.eqv (r := []) ?_ ?_)
  · obtain ⟨po, a, va, ko, kd, kwa, df⟩ := args
    have := hn env
    dsimp only at this ⊢
    rw [this]; rfl
  refine h.mono fun f N' Φ' q => ?_
  refine WF.bind (WF.eqv (r := f) rfl (WF.bind (WF.standAt ?_)))
  exact WF.bind (WF.bindName (q.mono fun _ N₂ Φ₂ q => WF.pure q))
noncomputable def TabLt (ps : Array Value) (n : Nat) : Prop := TriplesOk ps.toList ∧ ∀ pos : Pos, n ≤ pos.line → codeAmong pos ps.toList = none
theorem codeAmong_lt (pos : Pos) (a b : Int) (t u : Tok) (c : Value) (hne : (a == (pos.line : Int) && b == (pos.col : Int)) = false) : ∀ (l : List Value), TriplesOk l → codeAmong pos l = none → codeAmong pos (l ++ [.int a t, .int b u, c]) = none := by
  intro l
  fun_induction TriplesOk l with
  | case1 =>
    intro _ _
    show (if _ then _ else _) = _
    rw [if_neg (by rw [hne]; decide)]
    rfl
  | case2 i t' j u' x rest ih =>
    intro h e
    simp only [List.cons_append, codeAmong] at e ⊢
    split at e
    · cases e
    · rename_i hc; rw [if_neg hc]; exact ih h e
  | case3 => intro h; exact h.elim
theorem TabLt.add {ps : Array Value} {n : Nat} {pos : Pos} {c : Value} (h : TabLt ps n) (hl : n ≤ pos.line) : TabLt (ps ++ #[rawInt pos.line, rawInt pos.col, c]) (pos.line + 1) := by
  refine ⟨?_, fun p hp => ?_⟩
  · rw [Array.toList_append]; exact TriplesOk_snoc _ _ _ _ h.1
  · rw [Array.toList_append]
    refine codeAmong_lt p _ _ _ _ c ?_ _ h.1 (h.2 p (by lia))
    have : ((pos.line : Int) == (p.line : Int)) = false := beq_false_of_ne (by lia)
    rw [this]; rfl
theorem wf_fn {name qual : Str} {params : Arguments} {body : List Stmt} {scope : Scope} {pos : Pos} {firstLine : Nat} {clos : List (Str × Addr)} {c P : Addr} {ps : Array Value} {n : Nat} {Q : Value → Led → Frs → Prop} (F : MkF C mg) (i : Nat)
    (hcl : closureFor scope env = Pure.pure clos) (hge0 : env.globals = mainGlobals) (hcode : env.code = .ref c) (hC : ∀ s, Rep C N Φ s → CodeHd s.heap c P) (hi : Φ[i]? = some (.ob P (tabObj ps))) (ht : TabLt ps n) (hn : n ≤ pos.line)
    (q : ∀ f fo c' oc ps', TabLt ps' (pos.line + 1) → (∃ doc pm ctv, HasFn C ((f, fo) :: (c', oc) :: N) f (fnX name qual params body scope clos .none .none doc pm none (.ref c') ctv)) → Q (.ref f) ((f, fo) :: (c', oc) :: N) (Φ.set i (.ob P (tabObj ps')))) :
    WF C A (makeFunction name qual params (.stmts body) scope env [] [] [] pos firstLine) Q N Φ :=
  wf_make F i hcl hge0 hcode hC hi ht.1 (ht.2 _ hn) fun f c' oc ctv doc hq _ _ => q f _ c' oc _ (ht.add hn) ⟨doc, _, ctv, ⟨_, .inr (.head _), rfl⟩, ⟨_, .inr (.head _), rfl⟩, ⟨c', oc, rfl, .inr (.tail _ (.head _)), hq⟩⟩
noncomputable def kDef (j : Nat) : Stmt := kBdy.getD j (.Pass default)
noncomputable abbrev kEnv (D c fr cM : Addr) : Env := { scope := kScope, locals := D, globals := mainGlobals, qual := "cmp_to_key.<locals>.K.", code := .ref c, frame := some fr, builtins := builtinsNs, cells := [("mycmp", cM)] }
noncomputable def kFd (j : Nat) (q : Str) (clos : List (Str × Addr)) (doc pm : Value) (c : Addr) (ctv : Value) : FuncData := fnX (stName (kDef j)) q (stArgs (kDef j)) (stBody (kDef j)) (stScope (kDef j)) clos .none .none doc pm none (.ref c) ctv
noncomputable def FnO (C : Cx) (N : Led) (f : Addr) : Prop := ∃ d n s, Has C N f ⟨.type "function", d, n, s⟩
theorem HasFn.o {f : Addr} {fd : FuncData} (h : HasFn C N f fd) : FnO C N f := by
  obtain ⟨⟨c, d, n, s⟩, h1, h2⟩ := h.cls
  cases h2
  exact ⟨d, n, s, h1⟩
theorem FnO.mono {f : Addr} (h : FnO C N f) (e : Ext N N') : FnO C N' f := let ⟨d, n, s, x⟩ := h; ⟨d, n, s, x.mono e⟩
structure KFns (C : Cx) (N : Led) (cM : Addr) (f0 f1 : Addr) : Prop where
  init : ∃ doc pm c ctv, HasFn C N f0 (kFd 2 (("cmp_to_key.<locals>.K." : Str) ++ ("__init__" : Str)) [] doc pm c ctv)
  lt : ∃ doc pm c ctv, HasFn C N f1 (kFd 3 (("cmp_to_key.<locals>.K." : Str) ++ ("__lt__" : Str)) [("mycmp", cM)] doc pm c ctv)
set_option maxHeartbeats 4000000 in
theorem wf_kbody {D c P fr cM : Addr} {oc ofr : Obj} {es : List DictEntry} {n : Nat} {kvs : List (Str × Value)} {Ψ : Frs} {Q : Flow → Led → Frs → Prop} (F : MkF C mg) (hcd : ClsCd P oc) (k : Kv es kvs)
    (q : ∀ N' t0 S ts f0 f1 f2 f3 f4 f5 es' n' ps, Ext N N' → (S, lst [.str "obj" ts] 0) ∈ N' → KFns C N' cM f0 f1 → FnO C N' f0 → FnO C N' f1 → FnO C N' f2 → FnO C N' f3 → FnO C N' f4 → FnO C N' f5 →
      Kv es' (kvPut "__hash__" .none (kvPut "__ge__" (.ref f5) (kvPut "__le__" (.ref f4) (kvPut "__eq__" (.ref f3) (kvPut "__gt__" (.ref f2) (kvPut "__lt__" (.ref f1) (kvPut "__init__" (.ref f0) (kvPut "__slots__" (.ref S) (kvPut "__module__" (.str "cpy313.functools" t0) kvs))))))))) →
      Q .next N' (.ob fr ofr :: .ob P (tabObj ps) :: .ob c oc :: .ob D (dO es' n') :: Ψ)) :
    WF C A (execs kBdy (kEnv D c fr cM)) Q N (.ob fr ofr :: .ob P (tabObj #[]) :: .ob c oc :: .ob D (dO es n) :: Ψ) := by
  refine wf_cons ?_
  refine wf_assign ?_
  refine WF.of (e_str fun t0 => ?_)
  refine WF.storeC 3 rfl rfl rfl k fun es1 n1 k1 => ⟨rfl, ?_⟩
  refine wf_cons ?_
  refine wf_assign ?_
  refine WF.of (e_list (a_cons (e_str fun ts => a_nil ⟨sz_ok (by simp), fun S hS => ?_⟩)))
  refine WF.storeC 3 rfl rfl rfl k1 fun es2 n2 k2 => ⟨rfl, ?_⟩
  have T0 : TabLt #[] 0 := ⟨trivial, fun _ _ => rfl⟩
  refine wf_cons ?_
  refine wf_def rfl rfl (fun _ => rfl) ?_
  refine wf_fn F 1 (clos := []) rfl rfl rfl (hcd.hd (i := 2) (j := 1) rfl rfl (by decide)) rfl T0 (by decide) fun f0 fo0 c0 oc0 ps0 T1 H0 => ?_
  refine WF.storeC 3 rfl rfl rfl k2 fun es3 n3 k3 => ⟨rfl, ?_⟩
  refine wf_cons ?_
  refine wf_def rfl rfl (fun _ => rfl) ?_
  refine wf_fn F 1 (clos := [("mycmp", cM)]) rfl rfl rfl (hcd.hd (i := 2) (j := 1) rfl rfl (by decide)) rfl T1 (by decide) fun f1 fo1 c1 oc1 ps1 T2 H1 => ?_
  refine WF.storeC 3 rfl rfl rfl k3 fun es4 n4 k4 => ⟨rfl, ?_⟩
  refine wf_cons ?_
  refine wf_def rfl rfl (fun _ => rfl) ?_
  refine wf_fn F 1 (clos := [("mycmp", cM)]) rfl rfl rfl (hcd.hd (i := 2) (j := 1) rfl rfl (by decide)) rfl T2 (by decide) fun f2 fo2 c2 oc2 ps2 T3 H2 => ?_
  refine WF.storeC 3 rfl rfl rfl k4 fun es5 n5 k5 => ⟨rfl, ?_⟩
  refine wf_cons ?_
  refine wf_def rfl rfl (fun _ => rfl) ?_
  refine wf_fn F 1 (clos := [("mycmp", cM)]) rfl rfl rfl (hcd.hd (i := 2) (j := 1) rfl rfl (by decide)) rfl T3 (by decide) fun f3 fo3 c3 oc3 ps3 T4 H3 => ?_
  refine WF.storeC 3 rfl rfl rfl k5 fun es6 n6 k6 => ⟨rfl, ?_⟩
  refine wf_cons ?_
  refine wf_def rfl rfl (fun _ => rfl) ?_
  refine wf_fn F 1 (clos := [("mycmp", cM)]) rfl rfl rfl (hcd.hd (i := 2) (j := 1) rfl rfl (by decide)) rfl T4 (by decide) fun f4 fo4 c4 oc4 ps4 T5 H4 => ?_
  refine WF.storeC 3 rfl rfl rfl k6 fun es7 n7 k7 => ⟨rfl, ?_⟩
  refine wf_cons ?_
  refine wf_def rfl rfl (fun _ => rfl) ?_
  refine wf_fn F 1 (clos := [("mycmp", cM)]) rfl rfl rfl (hcd.hd (i := 2) (j := 1) rfl rfl (by decide)) rfl T5 (by decide) fun f5 fo5 c5 oc5 ps5 T6 H5 => ?_
  refine WF.storeC 3 rfl rfl rfl k7 fun es8 n8 k8 => ⟨rfl, ?_⟩
  refine wf_cons ?_
  refine wf_assign ?_
  refine WF.of (e_none ?_)
  refine WF.storeC 3 rfl rfl rfl k8 fun es9 n9 k9 => ⟨rfl, ?_⟩
  refine wf_nil ?_
  refine q _ t0 S ts f0 f1 f2 f3 f4 f5 es9 n9 _ (Ext.refl N).c5.c5.c3 (List.mem_of_getElem? (i := 12) rfl) ⟨?_, ?_⟩ ?_ ?_ ?_ ?_ ?_ ?_ k9
  · obtain ⟨doc, pm, ctv, h⟩ := H0
    exact ⟨doc, pm, _, ctv, h.mono (Ext.refl _).c5.c5⟩
  · obtain ⟨doc, pm, ctv, h⟩ := H1
    exact ⟨doc, pm, _, ctv, h.mono (Ext.refl _).c5.c3⟩
  · obtain ⟨doc, pm, ctv, h⟩ := H0; exact h.o.mono (Ext.refl _).c5.c5
  · obtain ⟨doc, pm, ctv, h⟩ := H1; exact h.o.mono (Ext.refl _).c5.c3
  · obtain ⟨doc, pm, ctv, h⟩ := H2; exact h.o.mono (Ext.refl _).c3.c3
  · obtain ⟨doc, pm, ctv, h⟩ := H3; exact h.o.mono (Ext.refl _).c4
  · obtain ⟨doc, pm, ctv, h⟩ := H4; exact h.o.mono (Ext.refl _).c2
  · obtain ⟨doc, pm, ctv, h⟩ := H5; exact h.o
end Mine.Internal
end
section
open PySem PySem.W PyProof.Rows PySem.Calls PySem.Spec PySem.Builtin PySem.Builtin.List
set_option maxRecDepth 100000
namespace Mine.Internal
variable {C : Cx} {N N' : Led} {Φ : Frs} {A A' : Around} {mg mb : Lo} {s : Shared} {env : Env} {K : Fk} {m : Lo}
theorem k_bF {α : Type} {Q : α → Led → Frs → Prop} {b : Bool} {f : ¬ (b = true) → Sem α} {g : b = true → Sem α} (hb : b = false) (q : ∀ h, WF C A (f h) Q N Φ) : WF C A (Decidable.rec (motive := fun _ => Sem α) f g (instDecidableEqBool b true)) Q N Φ := by
  subst hb; exact q _
theorem k_bT {α : Type} {Q : α → Led → Frs → Prop} {b : Bool} {f : ¬ (b = true) → Sem α} {g : b = true → Sem α} (hb : b = true) (q : ∀ h, WF C A (g h) Q N Φ) : WF C A (Decidable.rec (motive := fun _ => Sem α) f g (instDecidableEqBool b true)) Q N Φ := by
  subst hb; exact q _
theorem k_updE {α : Type} {Q : α → Led → Frs → Prop} {a : Addr} {pt : Option Value} {o : Obj} {f : Obj → Obj} {k : Unit → Sem α} (i : Nat) (o' : Obj) (hi : Φ[i]? = some (.ob a o)) (he : f o = o') (hf : o'.isFreed = false) (q : WF C A (k ()) Q N (Φ.set i (.ob a o'))) : WF C A (Sem.update a pt f k) Q N Φ := by
  subst he; exact k_updP i hi hf q
noncomputable abbrev kCd (E : Addr) (mro : List Value) (hasDict : Bool) (sn : List Str) : ClassData := { name := "K", bases := [.type "object"], mro := mro, ns := E, qualname := "cmp_to_key.<locals>.K", hasDict := hasDict, slotNames := sn }
noncomputable abbrev kOb (cd : ClassData) (sl : Array (Option Value)) : Obj := { cls := .type "type", data := .cls cd, slots := sl }
set_option maxHeartbeats 4000000 in
theorem cff_collect {S : Addr} {vs : List Value} {n : Nat} {Q : Value → Led → Frs → Prop} (h : Has C N S (lst vs n)) (hs : vs.length ≤ 100) (q : ∀ G k, Q (.ref G) N (.ob G (lst vs k) :: Φ)) : CFF C A (.builtin "proto.collect" ⟨[.ref S], []⟩) Q N Φ := by
  refine CFF.builtin (b := Builtin.«proto.collect») (entryFor_of_tree (by kernel_rfl)) ?_
  conv => arg 3; whnf
  refine k_alloc rfl fun G hG => ?_
  conv => arg 3; whnf
  refine fin_again "list.__iadd__" Builtin.«list.__iadd__» rfl (by decide +kernel) (entryFor_of_tree (by kernel_rfl)) ?_
  conv => arg 3; whnf
  refine k_load h ?_
  refine WF.bind (WF.pure ?_)
  show WF C _ (if (listSameRef (.ref G) (.ref S) || (Value.type "list" == Value.type "list") || (Value.type "list" == Value.type "tuple")) = true then _ else _) _ _ _
  rw [if_pos (by simp)]
  conv => arg 3; whnf
  refine k_load h ?_
  conv => arg 3; whnf
  refine k_loadP 0 rfl ?_
  conv => arg 3; whnf
  refine k_loadP 0 rfl ?_
  conv => arg 3; whnf
  refine k_updP 0 rfl rfl ?_
  obtain ⟨k, e⟩ : ∃ k, Obj.mapSeq (fun x => x ++ vs.toArray) { cls := .type "list", data := .seq #[] } = lst vs k := ⟨if vs.toArray.size == 0 then 0 else 1, by
    show (⟨_, _, .seq (#[] ++ vs.toArray) (if (#[] ++ vs.toArray).size == (#[] : Array Value).size then 0 else 0 + 1), #[]⟩ : Obj) = _
    simp⟩
  rw [e]
  show WF C _ _ _ _ (.ob G (lst vs k) :: Φ)
  have hp : (lst vs k).data.pastItsLine = none := by
    have : ¬ (vs.length > sizeLine + 1) := by rw [sizeLine_eq]; lia
    simp [Data.pastItsLine, this]
  conv => arg 3; whnf
  refine k_loadP 0 rfl ?_
  refine WF.bind ?_
  refine WF.bind (t := Sem.pure (lst vs k)) (k_pure ?_)
  rw [hp]
  refine WF.pure ?_
  conv => arg 3; whnf
  exact k_pure (q G k)
end Mine.Internal
end
section
open PySem PySem.W PyProof.Rows PySem.Calls PySem.Spec PySem.Builtin PySem.Builtin.List
set_option maxRecDepth 100000
namespace Mine.Internal
variable {C : Cx} {N N' : Led} {Φ : Frs} {A A' : Around} {mg mb : Lo} {s : Shared} {env : Env} {K : Fk} {m : Lo}
noncomputable def nsG (c : Value) (d : Option Addr) (sl : Array (Option Value)) (x : Str) (y : Data) : Option (Option Value) := nsIn [(0, ⟨c, d, y, sl⟩)] 0 x
theorem nsG_no (c : Value) (d : Option Addr) (sl : Array (Option Value)) (x : Str) (y : Data) : (∃ es n, y = .dict es n) ∨ nsG c d sl x y = none := by cases y <;> first | exact .inl ⟨_, _, rfl⟩ | exact .inr rfl
theorem nsIn_some {K : Frag} {D : Addr} {x : Str} {v : Option Value} (h : nsIn K D x = some v) : ∃ cl d es n sl, K.lookup D = some ⟨cl, d, .dict es n, sl⟩ ∧
    ((∃ e, es.toList.find? (·.key.isStr x) = some e ∧ v = some e.val) ∨ (es.toList.find? (·.key.isStr x) = none ∧ es.toList.any (·.refKey) = false ∧ v = none)) := by
  unfold nsIn at h
  cases hk : K.lookup D with
  | none => rw [hk] at h; cases h
  | some o =>
    rw [hk] at h
    obtain ⟨c, d, y, sl⟩ := o
    replace h : nsG c d sl x y = some v := h
    rcases nsG_no c d sl x y with ⟨es, n, rfl⟩ | e
    rotate_left
    · cases e.symm.trans h
    refine ⟨_, _, es, _, _, rfl, ?_⟩
    replace h : (match es.toList.find? (·.key.isStr x) with | some e => some (some e.val) | none => if es.toList.any (·.refKey) then none else some none) = some v := h
    cases he : es.toList.find? (·.key.isStr x) with
    | some e => rw [he] at h; cases h; exact .inl ⟨e, rfl, rfl⟩
    | none =>
      rw [he] at h
      cases hr : es.toList.any (·.refKey) with
      | true => rw [hr] at h; cases h
      | false => rw [hr] at h; cases h; exact .inr ⟨rfl, rfl, rfl⟩
theorem nsIn_look {D : Addr} {x : Str} {v : Option Value} (h : nsIn C.K D x = some v) : ∃ o, C.g D = some o ∧ nsLook x o = Sem.pure v := by
  obtain ⟨cl, d, es, n, sl, hl, hv⟩ := nsIn_some h
  refine ⟨_, hl, ?_⟩
  rw [nsLook_eq]
  unfold nsLookByArray
  dsimp only
  rw [← Array.find?_toList, ← Array.any_toList]
  rcases hv with ⟨e, he, rfl⟩ | ⟨he, hk, rfl⟩
  · rw [he]; rfl
  · rw [he, hk]; rfl
structure Sys (C : Cx) : Prop where
  sys : ∃ o, C.g sysModules = some o
  opq : nsIn C.K cStatics "thirdparty.any" = some none
theorem cff_id {id : String} {args : Args} {Q : Value → Led → Frs → Prop} (id' : String) (e : id = id') (q : CFF C A (.call (.builtin id') args) Q N Φ) : CFF C A (.call (.builtin id) args) Q N Φ := by
  subst e; exact q
theorem cff_code {c : Code} {Q : Value → Led → Frs → Prop} (c' : Code) (e : c = c') (q : CFF C A c' Q N Φ) : CFF C A c Q N Φ := by
  subst e; exact q
section
variable {x y E : Addr} {oy : Obj} {sl : Array (Option Value)} {Ψ : Frs} {Q : Value → Led → Frs → Prop} {sn : List Str}
set_option maxHeartbeats 8000000 in
theorem cff_super (q : ∀ p, Q (.ref p) N (.ob p { cls := .type "super", data := .fields #[.ref x, .ref x, .ref x] } :: .ob y oy :: .ob x (kOb (kCd E [.ref x, .type "object"] false sn) sl) :: Ψ)) :
  CFF C A (.call (.type "super") ⟨[.ref x, .ref x], []⟩) Q N (.ob y oy :: .ob x (kOb (kCd E [.ref x, .type "object"] false sn) sl) :: Ψ) := by
  refine CFF.call ?_
  refine fin_again "type.__call__" Builtin.«type.__call__» rfl (by decide +kernel) (entryFor_of_tree (by kernel_rfl)) ?_
  repeat
    conv => arg 3; whnf
    first
    | refine k_rule ?_ | refine k_at ?_ | refine k_point ?_ | refine k_ask ?_ | refine k_fresh fun _ => ?_
    | refine k_loadP 0 rfl ?_ | refine k_loadP 1 rfl ?_ | refine k_loadP 2 rfl ?_ | refine k_loadP 3 rfl ?_ | refine k_loadP 4 rfl ?_
    | refine k_bF rfl fun _ => ?_ | refine k_bT rfl fun _ => ?_
  conv => arg 3; whnf
  refine WF.bind (WF.eqv (r := some "super.__new__") (by kernel_rfl) ?_)
  repeat
    conv => arg 3; whnf
    first
    | refine k_rule ?_ | refine k_at ?_ | refine k_point ?_ | refine k_ask ?_ | refine k_fresh fun _ => ?_
    | refine k_loadP 0 rfl ?_ | refine k_loadP 1 rfl ?_ | refine k_loadP 2 rfl ?_ | refine k_loadP 3 rfl ?_ | refine k_loadP 4 rfl ?_
    | refine k_bF rfl fun _ => ?_ | refine k_bT rfl fun _ => ?_
  refine k_call (CFF.call ?_)
  repeat
    conv => arg 3; whnf
    first
    | refine k_rule ?_ | refine k_at ?_ | refine k_point ?_ | refine k_ask ?_ | refine k_fresh fun _ => ?_
    | refine k_loadP 0 rfl ?_ | refine k_loadP 1 rfl ?_ | refine k_loadP 2 rfl ?_ | refine k_loadP 3 rfl ?_ | refine k_loadP 4 rfl ?_
    | refine k_bF rfl fun _ => ?_ | refine k_bT rfl fun _ => ?_
  conv => arg 3; whnf
  refine WF.bind (WF.eqv (r := ()) (by kernel_rfl) ?_)
  refine fin_again "super.__new__" Builtin.«super.__new__» rfl (by decide +kernel) (entryFor_of_tree (by kernel_rfl)) ?_
  repeat
    conv => arg 3; whnf
    first
    | refine k_rule ?_ | refine k_at ?_ | refine k_point ?_ | refine k_ask ?_ | refine k_fresh fun _ => ?_
    | refine k_loadP 0 rfl ?_ | refine k_loadP 1 rfl ?_ | refine k_loadP 2 rfl ?_ | refine k_loadP 3 rfl ?_ | refine k_loadP 4 rfl ?_
    | refine k_bF rfl fun _ => ?_ | refine k_bT rfl fun _ => ?_
  refine k_alloc rfl fun p hp => ?_
  repeat
    conv => arg 3; whnf
    first
    | refine k_rule ?_ | refine k_at ?_ | refine k_point ?_ | refine k_ask ?_ | refine k_fresh fun _ => ?_
    | refine k_loadP 0 rfl ?_ | refine k_loadP 1 rfl ?_ | refine k_loadP 2 rfl ?_ | refine k_loadP 3 rfl ?_ | refine k_loadP 4 rfl ?_
    | refine k_bF rfl fun _ => ?_ | refine k_bT rfl fun _ => ?_
  refine k_pure ?_
  show WF C _ _ _ _ _
  repeat
    conv => arg 3; whnf
    first
    | refine k_rule ?_ | refine k_at ?_ | refine k_point ?_ | refine k_ask ?_ | refine k_fresh fun _ => ?_
    | refine k_loadP 0 rfl ?_ | refine k_loadP 1 rfl ?_ | refine k_loadP 2 rfl ?_ | refine k_loadP 3 rfl ?_ | refine k_loadP 4 rfl ?_
    | refine k_bF rfl fun _ => ?_ | refine k_bT rfl fun _ => ?_
  refine k_call (cff_id "super.__init__" (by kernel_rfl) (CFF.call ?_))
  repeat
    conv => arg 3; whnf
    first
    | refine k_rule ?_ | refine k_at ?_ | refine k_point ?_ | refine k_ask ?_ | refine k_fresh fun _ => ?_
    | refine k_loadP 0 rfl ?_ | refine k_loadP 1 rfl ?_ | refine k_loadP 2 rfl ?_ | refine k_loadP 3 rfl ?_ | refine k_loadP 4 rfl ?_
    | refine k_bF rfl fun _ => ?_ | refine k_bT rfl fun _ => ?_
  refine fin_again "super.__init__" Builtin.«super.__init__» rfl (by decide +kernel) (entryFor_of_tree (by kernel_rfl)) ?_
  repeat
    conv => arg 3; whnf
    first
    | refine k_rule ?_ | refine k_at ?_ | refine k_point ?_ | refine k_ask ?_ | refine k_fresh fun _ => ?_
    | refine k_loadP 0 rfl ?_ | refine k_loadP 1 rfl ?_ | refine k_loadP 2 rfl ?_ | refine k_loadP 3 rfl ?_ | refine k_loadP 4 rfl ?_
    | refine k_bF rfl fun _ => ?_ | refine k_bT rfl fun _ => ?_
  conv => arg 3; whnf
  have hx : List.contains [Value.ref x, Value.type "object"] (Value.ref x) = true := by simp
  refine WF.bind (WF.bind (WF.eqv (r := true) ?_ ?_))
  · exact Eq.trans (b := Sem.pure (List.contains [Value.ref x, Value.type "object"] (Value.ref x))) (by kernel_rfl) (by rw [hx]; rfl)
  repeat
    conv => arg 3; whnf
    first
    | refine k_rule ?_ | refine k_at ?_ | refine k_point ?_ | refine k_ask ?_ | refine k_fresh fun _ => ?_
    | refine k_loadP 0 rfl ?_ | refine k_loadP 1 rfl ?_ | refine k_loadP 2 rfl ?_ | refine k_loadP 3 rfl ?_ | refine k_loadP 4 rfl ?_
    | refine k_bF rfl fun _ => ?_ | refine k_bT rfl fun _ => ?_
  refine k_pure ?_
  show WF C _ _ _ _ _
  repeat
    conv => arg 3; whnf
    first
    | refine k_rule ?_ | refine k_at ?_ | refine k_point ?_ | refine k_ask ?_ | refine k_fresh fun _ => ?_
    | refine k_loadP 0 rfl ?_ | refine k_loadP 1 rfl ?_ | refine k_loadP 2 rfl ?_ | refine k_loadP 3 rfl ?_ | refine k_loadP 4 rfl ?_
    | refine k_bF rfl fun _ => ?_ | refine k_bT rfl fun _ => ?_
  refine k_updE 0 { cls := .type "super", data := .fields #[.ref x, .none, .none] } rfl (by kernel_rfl) rfl ?_
  repeat
    conv => arg 3; whnf
    first
    | refine k_rule ?_ | refine k_at ?_ | refine k_point ?_ | refine k_ask ?_ | refine k_fresh fun _ => ?_
    | refine k_loadP 0 rfl ?_ | refine k_loadP 1 rfl ?_ | refine k_loadP 2 rfl ?_ | refine k_loadP 3 rfl ?_ | refine k_loadP 4 rfl ?_
    | refine k_bF rfl fun _ => ?_ | refine k_bT rfl fun _ => ?_
  refine k_updE 0 { cls := .type "super", data := .fields #[.ref x, .ref x, .none] } rfl (by kernel_rfl) rfl ?_
  repeat
    conv => arg 3; whnf
    first
    | refine k_rule ?_ | refine k_at ?_ | refine k_point ?_ | refine k_ask ?_ | refine k_fresh fun _ => ?_
    | refine k_loadP 0 rfl ?_ | refine k_loadP 1 rfl ?_ | refine k_loadP 2 rfl ?_ | refine k_loadP 3 rfl ?_ | refine k_loadP 4 rfl ?_
    | refine k_bF rfl fun _ => ?_ | refine k_bT rfl fun _ => ?_
  refine k_updE 0 { cls := .type "super", data := .fields #[.ref x, .ref x, .ref x] } rfl (by kernel_rfl) rfl ?_
  repeat
    conv => arg 3; whnf
    first
    | refine k_rule ?_ | refine k_at ?_ | refine k_point ?_ | refine k_ask ?_ | refine k_fresh fun _ => ?_
    | refine k_loadP 0 rfl ?_ | refine k_loadP 1 rfl ?_ | refine k_loadP 2 rfl ?_ | refine k_loadP 3 rfl ?_ | refine k_loadP 4 rfl ?_
    | refine k_bF rfl fun _ => ?_ | refine k_bT rfl fun _ => ?_
  refine k_pure ?_
  show WF C _ _ _ _ _
  repeat
    conv => arg 3; whnf
    first
    | refine k_rule ?_ | refine k_at ?_ | refine k_point ?_ | refine k_ask ?_ | refine k_fresh fun _ => ?_
    | refine k_loadP 0 rfl ?_ | refine k_loadP 1 rfl ?_ | refine k_loadP 2 rfl ?_ | refine k_loadP 3 rfl ?_ | refine k_loadP 4 rfl ?_
    | refine k_bF rfl fun _ => ?_ | refine k_bT rfl fun _ => ?_
  conv => arg 3; whnf
  exact k_pure (q p)
noncomputable abbrev kSup (x : Addr) : Obj := { cls := .type "super", data := .fields #[.ref x, .ref x, .ref x] }
set_option maxHeartbeats 8000000 in
theorem cff_superGet {p : Addr} {tk : Tok} (Y : Sys C) (q : ∀ b, Q (.ref b) N (.ob b { cls := .type "builtin_function_or_method", data := .fields #[.builtin "object.__init_subclass__", .ref x] } :: .ob p (kSup x) :: .ob y oy :: .ob x (kOb (kCd E [.ref x, .type "object"] false sn) sl) :: Ψ)) :
  CFF C A (.call (.builtin "super.__getattribute__") ⟨[.ref p, .str (Str.ofString "__init_subclass__") tk], []⟩) Q N (.ob p (kSup x) :: .ob y oy :: .ob x (kOb (kCd E [.ref x, .type "object"] false sn) sl) :: Ψ) := by
  refine Classical.byContradiction fun hn => ?_
  obtain ⟨oc, hoc, hnl⟩ := nsIn_look Y.opq
  refine hn ?_
  clear hn
  refine CFF.call ?_
  repeat
    conv => arg 3; whnf
    first
    | refine k_rule ?_ | refine k_at ?_ | refine k_point ?_ | refine k_ask ?_ | refine k_fresh fun _ => ?_
    | refine k_loadP 0 rfl ?_ | refine k_loadP 1 rfl ?_ | refine k_loadP 2 rfl ?_ | refine k_loadP 3 rfl ?_ | refine k_loadP 4 rfl ?_
    | refine k_bF rfl fun _ => ?_ | refine k_bT rfl fun _ => ?_
  refine fin_again "super.__getattribute__" Builtin.«super.__getattribute__» rfl (by decide +kernel) (entryFor_of_tree (by kernel_rfl)) ?_
  repeat
    conv => arg 3; whnf
    first
    | refine k_rule ?_ | refine k_at ?_ | refine k_point ?_ | refine k_ask ?_ | refine k_fresh fun _ => ?_
    | refine k_loadP 0 rfl ?_ | refine k_loadP 1 rfl ?_ | refine k_loadP 2 rfl ?_ | refine k_loadP 3 rfl ?_ | refine k_loadP 4 rfl ?_
    | refine k_bF rfl fun _ => ?_ | refine k_bT rfl fun _ => ?_
  refine k_load (.inl hoc) ?_
  refine WF.bind (WF.bind (WF.bind (WF.eqv (r := false) ?_ ?_)))
  · show (nsLook (Str.ofString "thirdparty.any") oc).bind _ = _
    exact (congrArg (fun t => Sem.bind t _) hnl).trans rfl
  repeat
    conv => arg 3; whnf
    first
    | refine k_rule ?_ | refine k_at ?_ | refine k_point ?_ | refine k_ask ?_ | refine k_fresh fun _ => ?_
    | refine k_loadP 0 rfl ?_ | refine k_loadP 1 rfl ?_ | refine k_loadP 2 rfl ?_ | refine k_loadP 3 rfl ?_ | refine k_loadP 4 rfl ?_
    | refine k_bF rfl fun _ => ?_ | refine k_bT rfl fun _ => ?_
  refine k_pure ?_
  refine WF.pure ?_
  refine WF.bind ?_
  repeat
    conv => arg 3; whnf
    first
    | refine k_rule ?_ | refine k_at ?_ | refine k_point ?_ | refine k_ask ?_ | refine k_fresh fun _ => ?_
    | refine k_loadP 0 rfl ?_ | refine k_loadP 1 rfl ?_ | refine k_loadP 2 rfl ?_ | refine k_loadP 3 rfl ?_ | refine k_loadP 4 rfl ?_
    | refine k_bF rfl fun _ => ?_ | refine k_bT rfl fun _ => ?_
  refine k_pure ?_
  dsimp only
  generalize hA : List.drop 1 (List.dropWhile _ _) = after
  obtain rfl : after = [.type "object"] := by rw [← hA]; simp
  generalize hB : (@ite Value (((_ : Value) == _) = true) _ Value.none _) = wn
  obtain rfl : wn = .none := by rw [← hB]; simp
  repeat
    conv => arg 3; whnf
    first
    | refine k_rule ?_ | refine k_at ?_ | refine k_point ?_ | refine k_ask ?_ | refine k_fresh fun _ => ?_
    | refine k_loadP 0 rfl ?_ | refine k_loadP 1 rfl ?_ | refine k_loadP 2 rfl ?_ | refine k_loadP 3 rfl ?_ | refine k_loadP 4 rfl ?_
    | refine k_bF rfl fun _ => ?_ | refine k_bT rfl fun _ => ?_
  refine k_call (cff_code (.call (.builtin "classmethod_descriptor.__get__") ⟨[.builtin "object.__init_subclass__", .none, .ref x], []⟩) (by kernel_rfl) (CFF.call ?_))
  repeat
    conv => arg 3; whnf
    first
    | refine k_rule ?_ | refine k_at ?_ | refine k_point ?_ | refine k_ask ?_ | refine k_fresh fun _ => ?_
    | refine k_loadP 0 rfl ?_ | refine k_loadP 1 rfl ?_ | refine k_loadP 2 rfl ?_ | refine k_loadP 3 rfl ?_ | refine k_loadP 4 rfl ?_
    | refine k_bF rfl fun _ => ?_ | refine k_bT rfl fun _ => ?_
  refine fin_again "classmethod_descriptor.__get__" Builtin.«classmethod_descriptor.__get__» rfl (by decide +kernel) (entryFor_of_tree (by kernel_rfl)) ?_
  repeat
    conv => arg 3; whnf
    first
    | refine k_rule ?_ | refine k_at ?_ | refine k_point ?_ | refine k_ask ?_ | refine k_fresh fun _ => ?_
    | refine k_loadP 0 rfl ?_ | refine k_loadP 1 rfl ?_ | refine k_loadP 2 rfl ?_ | refine k_loadP 3 rfl ?_ | refine k_loadP 4 rfl ?_
    | refine k_bF rfl fun _ => ?_ | refine k_bT rfl fun _ => ?_
  refine k_alloc rfl fun b hb => ?_
  repeat
    conv => arg 3; whnf
    first
    | refine k_rule ?_ | refine k_at ?_ | refine k_point ?_ | refine k_ask ?_ | refine k_fresh fun _ => ?_
    | refine k_loadP 0 rfl ?_ | refine k_loadP 1 rfl ?_ | refine k_loadP 2 rfl ?_ | refine k_loadP 3 rfl ?_ | refine k_loadP 4 rfl ?_
    | refine k_bF rfl fun _ => ?_ | refine k_bT rfl fun _ => ?_
  refine k_pure ?_
  show WF C _ _ _ _ _
  repeat
    conv => arg 3; whnf
    first
    | refine k_rule ?_ | refine k_at ?_ | refine k_point ?_ | refine k_ask ?_ | refine k_fresh fun _ => ?_
    | refine k_loadP 0 rfl ?_ | refine k_loadP 1 rfl ?_ | refine k_loadP 2 rfl ?_ | refine k_loadP 3 rfl ?_ | refine k_loadP 4 rfl ?_
    | refine k_bF rfl fun _ => ?_ | refine k_bT rfl fun _ => ?_
  conv => arg 3; whnf
  exact k_pure (q b)
set_option maxHeartbeats 8000000 in
theorem cff_initSub {b p : Addr} {po : Obj} (q : Q .none N (.ob b { cls := .type "builtin_function_or_method", data := .fields #[.builtin "object.__init_subclass__", .ref x] } :: .ob p po :: .ob y oy :: .ob x (kOb (kCd E [.ref x, .type "object"] false sn) sl) :: Ψ)) :
  CFF C A (.call (.ref b) ⟨[], []⟩) Q N (.ob b { cls := .type "builtin_function_or_method", data := .fields #[.builtin "object.__init_subclass__", .ref x] } :: .ob p po :: .ob y oy :: .ob x (kOb (kCd E [.ref x, .type "object"] false sn) sl) :: Ψ) := by
  refine CFF.call ?_
  repeat
    conv => arg 3; whnf
    first
    | refine k_rule ?_ | refine k_at ?_ | refine k_point ?_ | refine k_ask ?_ | refine k_fresh fun _ => ?_
    | refine k_loadP 0 rfl ?_ | refine k_loadP 1 rfl ?_ | refine k_loadP 2 rfl ?_ | refine k_loadP 3 rfl ?_ | refine k_loadP 4 rfl ?_
    | refine k_bF rfl fun _ => ?_ | refine k_bT rfl fun _ => ?_
  refine fin_again "object.__init_subclass__" Builtin.«object.__init_subclass__» rfl (by decide +kernel) (entryFor_of_tree (by kernel_rfl)) ?_
  repeat
    conv => arg 3; whnf
    first
    | refine k_rule ?_ | refine k_at ?_ | refine k_point ?_ | refine k_ask ?_ | refine k_fresh fun _ => ?_
    | refine k_loadP 0 rfl ?_ | refine k_loadP 1 rfl ?_ | refine k_loadP 2 rfl ?_ | refine k_loadP 3 rfl ?_ | refine k_loadP 4 rfl ?_
    | refine k_bF rfl fun _ => ?_ | refine k_bT rfl fun _ => ?_
  conv => arg 3; whnf
  exact k_pure q
end
end Mine.Internal
end
section
open PySem PySem.W PyProof.Rows PySem.Calls PySem.Spec PySem.Builtin PySem.Builtin.List
set_option maxRecDepth 100000
namespace Mine.Internal
variable {C : Cx} {N N' : Led} {Φ : Frs} {A A' : Around} {mg mb : Lo} {s : Shared} {env : Env} {K : Fk} {m : Lo}
section
variable {D T S f0 f1 f2 f3 f4 f5 st : Addr} {n : Nat} {h0 h1 h2 h3 h4 h5 h6 h7 h8 h9 h10 h11 : Int} {t0 t1 t2 t3 t4 t5 t6 t7 t8 t9 t10 t11 tn u0 u1 u2 ts : Tok} {Ψ : Frs} {Q : Value → Led → Frs → Prop}
set_option maxHeartbeats 8000000 in
theorem wf_type {d0 d1 d2 d3 d4 d5 : Option Addr} {n0 n1 n2 n3 n4 n5 : Data} {s0 s1 s2 s3 s4 s5 : Array (Option Value)} {vst : List Value} {kst : Nat} (Y : Sys C) (hS : (S, lst [.str "obj" ts] 0) ∈ N)
  (hf0 : Has C N f0 ⟨.type "function", d0, n0, s0⟩) (hf1 : Has C N f1 ⟨.type "function", d1, n1, s1⟩) (hf2 : Has C N f2 ⟨.type "function", d2, n2, s2⟩) (hf3 : Has C N f3 ⟨.type "function", d3, n3, s3⟩) (hf4 : Has C N f4 ⟨.type "function", d4, n4, s4⟩) (hf5 : Has C N f5 ⟨.type "function", d5, n5, s5⟩) (hst : Has C N st (tup vst kst))
  (q : ∀ b ob p op y ty x E hE1 tk hE2 td G oG, Q (.ref x) N (.ob b ob :: .ob p op :: .ob y { cls := .type "member_descriptor", data := .fields #[.str "obj" ty, .ref x, .builtin "proto.slot", .builtin "proto.slot#set", rawInt 0] } :: .ob x (kOb (kCd E [.ref x, .type "object"] false ["obj"]) #[some (.ref T), none, some (.str "K" tn), some (.str "cmp_to_key.<locals>.K" u1), some (.builtin "object.__new__"), some (.bool false)]) :: .ob E (dO ([⟨h0, .str "__module__" t0, (.str "cpy313.functools" u0)⟩, ⟨h2, .str "__firstlineno__" t2, (.int 87 u2)⟩, ⟨h3, .str "__slots__" t3, (.ref S)⟩, ⟨h4, .str "__init__" t4, (.ref f0)⟩, ⟨h5, .str "__lt__" t5, (.ref f1)⟩, ⟨h6, .str "__gt__" t6, (.ref f2)⟩, ⟨h7, .str "__eq__" t7, (.ref f3)⟩, ⟨h8, .str "__le__" t8, (.ref f4)⟩, ⟨h9, .str "__ge__" t9, (.ref f5)⟩, ⟨h10, .str "__hash__" t10, .none⟩, ⟨h11, .str "__static_attributes__" t11, (.ref st)⟩, ⟨hE1, .str "obj" tk, .ref y⟩, ⟨hE2, .str "__doc__" td, .none⟩]) 3) :: .ob G oG :: .ob D (dO [⟨h0, .str "__module__" t0, (.str "cpy313.functools" u0)⟩, ⟨h1, .str "__qualname__" t1, (.str "cmp_to_key.<locals>.K" u1)⟩, ⟨h2, .str "__firstlineno__" t2, (.int 87 u2)⟩, ⟨h3, .str "__slots__" t3, (.ref S)⟩, ⟨h4, .str "__init__" t4, (.ref f0)⟩, ⟨h5, .str "__lt__" t5, (.ref f1)⟩, ⟨h6, .str "__gt__" t6, (.ref f2)⟩, ⟨h7, .str "__eq__" t7, (.ref f3)⟩, ⟨h8, .str "__le__" t8, (.ref f4)⟩, ⟨h9, .str "__ge__" t9, (.ref f5)⟩, ⟨h10, .str "__hash__" t10, .none⟩, ⟨h11, .str "__static_attributes__" t11, (.ref st)⟩] n) :: .ob T (tup [.type "object"] 0) :: Ψ)) :
  WF C A (call (.type "type") [.str "K" tn, .ref T, .ref D]) Q N (.ob D (dO [⟨h0, .str "__module__" t0, (.str "cpy313.functools" u0)⟩, ⟨h1, .str "__qualname__" t1, (.str "cmp_to_key.<locals>.K" u1)⟩, ⟨h2, .str "__firstlineno__" t2, (.int 87 u2)⟩, ⟨h3, .str "__slots__" t3, (.ref S)⟩, ⟨h4, .str "__init__" t4, (.ref f0)⟩, ⟨h5, .str "__lt__" t5, (.ref f1)⟩, ⟨h6, .str "__gt__" t6, (.ref f2)⟩, ⟨h7, .str "__eq__" t7, (.ref f3)⟩, ⟨h8, .str "__le__" t8, (.ref f4)⟩, ⟨h9, .str "__ge__" t9, (.ref f5)⟩, ⟨h10, .str "__hash__" t10, .none⟩, ⟨h11, .str "__static_attributes__" t11, (.ref st)⟩] n) :: .ob T (tup [.type "object"] 0) :: Ψ) := by
  obtain ⟨oS, hoS⟩ := Y.sys
  refine WF.ne hoS 0 rfl fun hne => ?_
  have hDs : (D == sysModules) = false := beq_false_of_ne (Ne.symm hne)
  refine WF.call (CFF.call ?_)
  refine fin_again "type.__call__" Builtin.«type.__call__» rfl (by decide +kernel) (entryFor_of_tree (by kernel_rfl)) ?_
  generalize A.under (Code.builtin "type.__call__" _) = A1
  conv => arg 3; whnf
  refine WF.bind (WF.eqv (r := some "type.__new__") (by kernel_rfl) ?_)
  refine k_call (CFF.call ?_)
  conv => arg 3; whnf
  refine WF.bind (WF.eqv (r := ()) (by kernel_rfl) ?_)
  refine fin_again "type.__new__" Builtin.«type.__new__» rfl (by decide +kernel) (entryFor_of_tree (by kernel_rfl)) ?_
  generalize A1.under (Code.builtin "type.__new__" _) = A2
  refine k_loadP 1 rfl ?_
  refine k_loadP 0 rfl ?_
  refine k_loadP 1 rfl ?_
  refine k_bF hDs fun _ => ?_
  refine k_loadP 0 rfl ?_
  refine k_loadP 0 rfl ?_
  refine k_rule ?_
  refine k_load (.inr hS) ?_
  refine k_call (cff_collect (S := S) (.inr hS) (by simp) fun G kG => ?_)
  refine WF.bind ?_
  refine WF.bind ?_
  refine k_loadP 0 rfl ?_
  refine k_pure ?_
  refine WF.eqv (r := ({ names := ["obj"], dict := false, weak := false, inherited := [] } : Slots.Plan)) (by kernel_rfl) ?_
  refine k_alloc (o := dO [⟨h0, .str "__module__" t0, (.str "cpy313.functools" u0)⟩, ⟨h1, .str "__qualname__" t1, (.str "cmp_to_key.<locals>.K" u1)⟩, ⟨h2, .str "__firstlineno__" t2, (.int 87 u2)⟩, ⟨h3, .str "__slots__" t3, (.ref S)⟩, ⟨h4, .str "__init__" t4, (.ref f0)⟩, ⟨h5, .str "__lt__" t5, (.ref f1)⟩, ⟨h6, .str "__gt__" t6, (.ref f2)⟩, ⟨h7, .str "__eq__" t7, (.ref f3)⟩, ⟨h8, .str "__le__" t8, (.ref f4)⟩, ⟨h9, .str "__ge__" t9, (.ref f5)⟩, ⟨h10, .str "__hash__" t10, .none⟩, ⟨h11, .str "__static_attributes__" t11, (.ref st)⟩] 0) rfl fun E hE => ?_
  refine k_bF (by kernel_rfl) fun _ => ?_
  conv => arg 3; whnf
  refine WF.bind (WF.eqv (r := ()) (by kernel_rfl) ?_)
  refine k_bF (by kernel_rfl) fun _ => ?_
  refine k_loadP 0 rfl ?_
  refine k_loadP 0 rfl ?_
  refine k_loadP 0 rfl ?_
  refine k_alloc (o := kOb (kCd E [] true []) #[]) rfl fun x hx => ?_
  refine k_updE 0 (kOb (kCd E [] true []) #[some (.ref T)]) rfl (by kernel_rfl) rfl ?_
  refine k_updE 0 (kOb (kCd E [] true []) #[some (.ref T), none, some (.str "K" tn)]) rfl (by kernel_rfl) rfl ?_
  refine k_updE 0 (kOb (kCd E [] true []) #[some (.ref T), none, some (.str "K" tn), some (.str "cmp_to_key.<locals>.K" u1)]) rfl (by kernel_rfl) rfl ?_
  refine k_loadP 1 rfl ?_
  refine k_updE 1 (dO ([⟨h0, .str "__module__" t0, (.str "cpy313.functools" u0)⟩, ⟨h2, .str "__firstlineno__" t2, (.int 87 u2)⟩, ⟨h3, .str "__slots__" t3, (.ref S)⟩, ⟨h4, .str "__init__" t4, (.ref f0)⟩, ⟨h5, .str "__lt__" t5, (.ref f1)⟩, ⟨h6, .str "__gt__" t6, (.ref f2)⟩, ⟨h7, .str "__eq__" t7, (.ref f3)⟩, ⟨h8, .str "__le__" t8, (.ref f4)⟩, ⟨h9, .str "__ge__" t9, (.ref f5)⟩, ⟨h10, .str "__hash__" t10, .none⟩, ⟨h11, .str "__static_attributes__" t11, (.ref st)⟩]) 1) rfl (by kernel_rfl) rfl ?_
  refine k_loadP 1 rfl ?_
  refine k_loadP 1 rfl ?_
  refine k_loadP 1 rfl ?_
  refine k_loadP 1 rfl ?_
  refine k_loadP 1 rfl ?_
  conv => arg 3; whnf
  refine WF.bind (WF.eqv (r := false) (by
    show List.anyM _ (List.filter (fun y => y != Value.ref x) [Value.ref x, Value.type "object"]) = _
    rw [show (List.filter (fun y => y != Value.ref x) [Value.ref x, Value.type "object"]) = [Value.type "object"] from by simp]
    kernel_rfl) ?_)
  refine k_loadP 0 rfl ?_
  refine k_updE 0 (kOb (kCd E [.ref x, .type "object"] true []) #[some (.ref T), none, some (.str "K" tn), some (.str "cmp_to_key.<locals>.K" u1)]) rfl (by kernel_rfl) rfl ?_
  refine k_loadP 0 rfl ?_
  conv => arg 3; whnf
  refine WF.bind (WF.eqv (r := some "object.__new__") (by kernel_rfl) ?_)
  refine k_updE 0 (kOb (kCd E [.ref x, .type "object"] true []) #[some (.ref T), none, some (.str "K" tn), some (.str "cmp_to_key.<locals>.K" u1), some (.builtin "object.__new__")]) rfl (by kernel_rfl) rfl ?_
  refine k_loadP 0 rfl ?_
  refine k_loadP 0 rfl ?_
  refine k_loadP 0 rfl ?_
  refine k_loadP 1 rfl ?_
  conv => arg 3; whnf
  refine WF.bind (WF.eqv (r := ()) (by kernel_rfl) ?_)
  refine k_loadP 1 rfl ?_
  refine k_fresh fun _ => ?_
  refine k_alloc (o := { cls := .type "member_descriptor", data := .fields #[.str "obj" _, .ref x, .builtin "proto.slot", .builtin "proto.slot#set", rawInt 0] }) rfl fun y hy => ?_
  refine k_loadP 2 rfl ?_
  refine k_ask ?_
  refine k_fresh fun tk => ?_
  refine k_loadP 2 rfl ?_
  refine k_updE 2 (dO ([⟨h0, .str "__module__" t0, (.str "cpy313.functools" u0)⟩, ⟨h2, .str "__firstlineno__" t2, (.int 87 u2)⟩, ⟨h3, .str "__slots__" t3, (.ref S)⟩, ⟨h4, .str "__init__" t4, (.ref f0)⟩, ⟨h5, .str "__lt__" t5, (.ref f1)⟩, ⟨h6, .str "__gt__" t6, (.ref f2)⟩, ⟨h7, .str "__eq__" t7, (.ref f3)⟩, ⟨h8, .str "__le__" t8, (.ref f4)⟩, ⟨h9, .str "__ge__" t9, (.ref f5)⟩, ⟨h10, .str "__hash__" t10, .none⟩, ⟨h11, .str "__static_attributes__" t11, (.ref st)⟩, ⟨if (Str.ofString "obj").cps.isEmpty = true then (0 : Int) else reduceHash (C.w.params.strHash (Str.ofString "obj").cps), .str "obj" tk, .ref y⟩]) 2) rfl (by kernel_rfl) rfl ?_
  refine k_loadP 1 rfl ?_
  refine k_updE 1 (kOb (kCd E [.ref x, .type "object"] false ["obj"]) #[some (.ref T), none, some (.str "K" tn), some (.str "cmp_to_key.<locals>.K" u1), some (.builtin "object.__new__")]) rfl (by kernel_rfl) rfl ?_
  refine k_loadP 1 rfl ?_
  refine k_updE 1 (kOb (kCd E [.ref x, .type "object"] false ["obj"]) #[some (.ref T), none, some (.str "K" tn), some (.str "cmp_to_key.<locals>.K" u1), some (.builtin "object.__new__"), some (.bool false)]) rfl (by kernel_rfl) rfl ?_
  refine k_loadP 2 rfl ?_
  refine k_ask ?_
  refine k_fresh fun td => ?_
  refine k_loadP 2 rfl ?_
  refine k_updE 2 (dO ([⟨h0, .str "__module__" t0, (.str "cpy313.functools" u0)⟩, ⟨h2, .str "__firstlineno__" t2, (.int 87 u2)⟩, ⟨h3, .str "__slots__" t3, (.ref S)⟩, ⟨h4, .str "__init__" t4, (.ref f0)⟩, ⟨h5, .str "__lt__" t5, (.ref f1)⟩, ⟨h6, .str "__gt__" t6, (.ref f2)⟩, ⟨h7, .str "__eq__" t7, (.ref f3)⟩, ⟨h8, .str "__le__" t8, (.ref f4)⟩, ⟨h9, .str "__ge__" t9, (.ref f5)⟩, ⟨h10, .str "__hash__" t10, .none⟩, ⟨h11, .str "__static_attributes__" t11, (.ref st)⟩, ⟨if (Str.ofString "obj").cps.isEmpty = true then (0 : Int) else reduceHash (C.w.params.strHash (Str.ofString "obj").cps), .str "obj" tk, .ref y⟩, ⟨if (Str.ofString "__doc__").cps.isEmpty = true then (0 : Int) else reduceHash (C.w.params.strHash (Str.ofString "__doc__").cps), .str "__doc__" td, .none⟩]) 3) rfl (by kernel_rfl) rfl ?_
  refine k_loadP 2 rfl ?_
  refine k_loadP 2 rfl ?_
  refine k_loadP 2 rfl ?_
  refine k_loadP 2 rfl ?_
  refine k_load (.inr hS) ?_
  refine k_load hf0 ?_
  refine k_load hf1 ?_
  refine k_load hf2 ?_
  refine k_load hf3 ?_
  refine k_load hf4 ?_
  refine k_load hf5 ?_
  refine k_load hst ?_
  refine k_loadP 0 rfl ?_
  refine k_call (cff_super fun p => ?_)
  show WF C _ _ _ _ _
  refine k_fresh fun _ => ?_
  refine k_loadP 0 rfl ?_
  conv => arg 3; whnf
  rename_i tq
  refine k_call (cff_code (.call (.builtin "super.__getattribute__") ⟨[.ref p, .str (Str.ofString "__init_subclass__") tq], []⟩) (by kernel_rfl) (cff_superGet Y fun b => ?_))
  show WF C _ _ _ _ _
  conv => arg 3; whnf
  refine k_call (cff_initSub ?_)
  show WF C _ _ _ _ _
  refine k_pure ?_
  show WF C _ _ _ _ _
  refine k_loadP 3 rfl ?_
  refine k_loadP 3 rfl ?_
  refine k_call (cff_code (.call (.builtin "type.__init__") ⟨[.ref x, .str "K" tn, .ref T, .ref D], []⟩) (by kernel_rfl) (CFF.call ?_))
  refine k_loadP 3 rfl ?_
  refine fin_again "type.__init__" Builtin.«type.__init__» rfl (by decide +kernel) (entryFor_of_tree (by kernel_rfl)) ?_
  refine k_pure ?_
  show WF C _ _ _ _ _
  conv => arg 3; whnf
  exact k_pure (q _ _ _ _ _ _ _ _ _ _ _ _ _ _)
end
end Mine.Internal
end
section
open PySem PySem.W PyProof.Rows PySem.Calls PySem.Spec PySem.Builtin PySem.Builtin.List
set_option maxRecDepth 100000
namespace Mine.Internal
variable {C : Cx} {N N' : Led} {Φ : Frs} {A A' : Around} {Q : Value → Led → Frs → Prop} {mg mb : Lo}
theorem Kv.uncons {es : List DictEntry} {x : Str} {v : Value} {kvs : List (Str × Value)} (h : Kv es ((x, v) :: kvs)) : ∃ hh t es', es = ⟨hh, .str x t, v⟩ :: es' ∧ Kv es' kvs := by
  match es, h with
  | ⟨hh, ky, vv⟩ :: es', ⟨⟨t, h1⟩, h2, h3⟩ =>
    refine ⟨hh, t, es', ?_, h3⟩
    have h1' : ky = .str x t := h1
    have h2' : vv = v := h2
    rw [h1', h2']
theorem Kv.nil' {es : List DictEntry} (h : Kv es []) : es = [] := by
  cases es with
  | nil => rfl
  | cons _ _ => exact h.elim
noncomputable def entsF (h : Nat → Int) (w : Nat → Tok) : Nat → List (Str × Value) → List DictEntry
  | _, [] => []
  | i, (x, v) :: r => ⟨h i, .str x (w i), v⟩ :: entsF h w (i + 1) r
theorem entsF_c {h : Nat → Int} {w : Nat → Tok} {i : Nat} {x : Str} {v : Value} {r : List (Str × Value)} : entsF h w i ((x, v) :: r) = ⟨h i, .str x (w i), v⟩ :: entsF h w (i + 1) r := rfl
theorem entsF_congr {h h' : Nat → Int} {w w' : Nat → Tok} : ∀ {kvs : List (Str × Value)} {i : Nat}, (∀ n, i ≤ n → h n = h' n ∧ w n = w' n) → entsF h w i kvs = entsF h' w' i kvs
  | [], _, _ => rfl
  | (x, v) :: r, i, e => by
    rw [entsF_c, entsF_c, (e i (Nat.le_refl _)).1, (e i (Nat.le_refl _)).2, entsF_congr fun n hn => e n (Nat.le_of_succ_le hn)]
theorem Kv.entsF : ∀ {kvs : List (Str × Value)} {es : List DictEntry} (_ : Kv es kvs) (i : Nat), ∃ h w, es = entsF h w i kvs
  | [], _, k, _ => ⟨fun _ => 0, fun _ => default, Kv.nil' k⟩
  | (x, v) :: r, _, k, i => by
    obtain ⟨h0, w0, es, e, k'⟩ := Kv.uncons k
    subst e
    obtain ⟨h, w, e⟩ := Kv.entsF k' (i + 1)
    refine ⟨fun n => if n = i then h0 else h n, fun n => if n = i then w0 else w n, ?_⟩
    rw [entsF_c, if_pos rfl, if_pos rfl, e]
    congr 1
    refine entsF_congr fun n hn => ?_
    have : n ≠ i := Nat.ne_of_gt hn
    rw [if_neg this, if_neg this]
    exact ⟨rfl, rfl⟩
@[reducible] noncomputable def entsK (h : Nat → Int) (t : Nat → Tok) (u0 u1 u2 : Tok) (S f0 f1 f2 f3 f4 f5 st : Addr) : List DictEntry := [⟨h 0, .str "__module__" (t 0), (.str "cpy313.functools" u0)⟩, ⟨h 1, .str "__qualname__" (t 1), (.str "cmp_to_key.<locals>.K" u1)⟩, ⟨h 2, .str "__firstlineno__" (t 2), (.int 87 u2)⟩, ⟨h 3, .str "__slots__" (t 3), (.ref S)⟩, ⟨h 4, .str "__init__" (t 4), (.ref f0)⟩, ⟨h 5, .str "__lt__" (t 5), (.ref f1)⟩, ⟨h 6, .str "__gt__" (t 6), (.ref f2)⟩, ⟨h 7, .str "__eq__" (t 7), (.ref f3)⟩, ⟨h 8, .str "__le__" (t 8), (.ref f4)⟩, ⟨h 9, .str "__ge__" (t 9), (.ref f5)⟩, ⟨h 10, .str "__hash__" (t 10), .none⟩, ⟨h 11, .str "__static_attributes__" (t 11), (.ref st)⟩]
@[reducible] noncomputable def kvK (u0 u1 u2 : Tok) (S f0 f1 f2 f3 f4 f5 st : Addr) : List (Str × Value) := [(("__module__" : Str), ((.str "cpy313.functools" u0) : Value)), (("__qualname__" : Str), ((.str "cmp_to_key.<locals>.K" u1) : Value)), (("__firstlineno__" : Str), ((.int 87 u2) : Value)), (("__slots__" : Str), ((.ref S) : Value)), (("__init__" : Str), ((.ref f0) : Value)), (("__lt__" : Str), ((.ref f1) : Value)), (("__gt__" : Str), ((.ref f2) : Value)), (("__eq__" : Str), ((.ref f3) : Value)), (("__le__" : Str), ((.ref f4) : Value)), (("__ge__" : Str), ((.ref f5) : Value)), (("__hash__" : Str), (.none : Value)), (("__static_attributes__" : Str), ((.ref st) : Value))]
theorem Kv.entsK {u0 u1 u2 : Tok} {S f0 f1 f2 f3 f4 f5 st : Addr} {es : List DictEntry} (k : Kv es (kvK u0 u1 u2 S f0 f1 f2 f3 f4 f5 st)) : ∃ h t, es = entsK h t u0 u1 u2 S f0 f1 f2 f3 f4 f5 st := Kv.entsF k 0
theorem WF.re {α : Type} {t : Sem α} {Q : α → Led → Frs → Prop} {Φ' : Frs} (k : ∀ s, Rep C N Φ s → Rep C N' Φ' s) (h : WF C A t Q N' Φ') : WF C A t Q N Φ := fun s E R => h s E (k s R)
noncomputable abbrev mdO (x : Addr) (ty : Tok) : Obj := { cls := .type "member_descriptor", data := .fields #[.str "obj" ty, .ref x, .builtin "proto.slot", .builtin "proto.slot#set", rawInt 0] }
noncomputable abbrev kSl (T : Addr) (tn u1 : Tok) : Array (Option Value) := #[some (.ref T), none, some (.str "K" tn), some (.str "cmp_to_key.<locals>.K" u1), some (.builtin "object.__new__"), some (.bool false)]
@[reducible] noncomputable def kvE (t0 u2 : Tok) (S f0 f1 f2 f3 f4 f5 st y : Addr) : List (Str × Value) := [(("__module__" : Str), ((.str "cpy313.functools" t0) : Value)), (("__firstlineno__" : Str), ((.int 87 u2) : Value)), (("__slots__" : Str), ((.ref S) : Value)), (("__init__" : Str), ((.ref f0) : Value)), (("__lt__" : Str), ((.ref f1) : Value)), (("__gt__" : Str), ((.ref f2) : Value)), (("__eq__" : Str), ((.ref f3) : Value)), (("__le__" : Str), ((.ref f4) : Value)), (("__ge__" : Str), ((.ref f5) : Value)), (("__hash__" : Str), (.none : Value)), (("__static_attributes__" : Str), ((.ref st) : Value)), (("obj" : Str), ((.ref y) : Value)), (("__doc__" : Str), (.none : Value))]
@[reducible] noncomputable def entsE (h : Nat → Int) (w : Nat → Tok) (t0 u2 : Tok) (S f0 f1 f2 f3 f4 f5 st y : Addr) : List DictEntry := [⟨h 0, .str "__module__" (w 0), (.str "cpy313.functools" t0)⟩, ⟨h 1, .str "__firstlineno__" (w 1), (.int 87 u2)⟩, ⟨h 2, .str "__slots__" (w 2), (.ref S)⟩, ⟨h 3, .str "__init__" (w 3), (.ref f0)⟩, ⟨h 4, .str "__lt__" (w 4), (.ref f1)⟩, ⟨h 5, .str "__gt__" (w 5), (.ref f2)⟩, ⟨h 6, .str "__eq__" (w 6), (.ref f3)⟩, ⟨h 7, .str "__le__" (w 7), (.ref f4)⟩, ⟨h 8, .str "__ge__" (w 8), (.ref f5)⟩, ⟨h 9, .str "__hash__" (w 9), .none⟩, ⟨h 10, .str "__static_attributes__" (w 10), (.ref st)⟩, ⟨h 11, .str "obj" (w 11), (.ref y)⟩, ⟨h 12, .str "__doc__" (w 12), .none⟩]
theorem Kv.entsE {t0 u2 : Tok} {S f0 f1 f2 f3 f4 f5 st y : Addr} {es : List DictEntry} (k : Kv es (kvE t0 u2 S f0 f1 f2 f3 f4 f5 st y)) : ∃ h w, es = entsE h w t0 u2 S f0 f1 f2 f3 f4 f5 st y := Kv.entsF k 0
structure KCls (C : Cx) (N : Led) (cM x : Addr) (S f0 f1 f2 f3 f4 f5 y E : Addr) : Prop where
  cls : ∃ T tn u1, (x, kOb (kCd E [.ref x, .type "object"] false ["obj"]) (kSl T tn u1)) ∈ N
  ns : ∃ es n t0 u2 st, (E, dO es n) ∈ N ∧ Kv es (kvE t0 u2 S f0 f1 f2 f3 f4 f5 st y)
  md : ∃ ty, (y, mdO x ty) ∈ N
  fns : KFns C N cM f0 f1
theorem wf_nameOf {D c fr cM : Addr} {n : Nat} {v : Value} (F : MkF C mg) (hv : mg ("__name__" : Str) = some v) (i : Nat) (hi : Φ[i]? = some (.ob D (dO [] n))) (q : Q v N Φ) : WF C A (loadName (kEnv D c fr cM) "__name__") Q N Φ := by
  refine k_loadP i hi ?_
  refine k_loadP i hi ?_
  refine k_loadNs (fun s R => F.g _ R.stat) fun o ho => ?_
  refine WF.bind (WF.eqv (r := some v) ((show _ = _ from ho _).trans (by rw [hv])) ?_)
  exact WF.pure q
set_option maxHeartbeats 8000000 in
theorem wf_build {env : Env} {pos : Pos} {c0 P0 cM : Addr} (Y : Sys C) (F : MkF C mg) (hge : env.globals = mainGlobals) (hcode : env.code = .ref c0) (hC : ∀ Φ s, Rep C N Φ s → CodeHd s.heap c0 P0) (hP : (P0, tabObj #[]) ∈ N)
    (hl : ∀ h : Heap, (∀ b o, C.g b = some o → h.get? b = some o) → h.NoLimit) (hd : A.depth < recursionLimit) {vn : Value} (hvn : mg ("__name__" : Str) = some vn)
    (hcl : closureFor kScope env = Pure.pure [(("mycmp" : Str), cM)])
    (q : ∀ tb x S f0 f1 f2 f3 f4 f5 y E N', Ext (updL N P0 (tabObj tb)) N' → KCls C N' cM x S f0 f1 f2 f3 f4 f5 y E → Q (.ref x) N' Φ) :
    WF C A (buildClass "K" "cmp_to_key.<locals>.K" [.type "object"] [] kBdy kScope ["obj"] 87 env pos none) Q N Φ := by
  obtain ⟨oS, hoS⟩ := Y.sys
  unfold buildClass
  refine WF.bind ?_
  refine k_alloc rfl fun T hT => ?_
  refine k_pure ?_
  refine WF.bind ?_
  refine k_pure ?_
  dsimp only
  refine WF.bind (t := PySem.typeOf (.type "object")) (WF.eqv (r := .type "type") (by kernel_rfl) ?_)
  refine WF.bind (t := PySem.isType _) (WF.eqv (r := true) (by kernel_rfl) ?_)
  rw [if_pos rfl]
  refine WF.bind (WF.eqv (r := .type "type") (by kernel_rfl) ?_)
  refine WF.bind (WF.mkText fun tn => ?_)
  rw [if_neg (by decide)]
  refine WF.bind (WF.pure ?_)
  refine WF.holding ?_
  refine WF.bind (wf_prepare fun b hb => ?_)
  dsimp only
  refine WF.bind ?_
  refine k_call (CFF.call ?_)
  refine k_loadP 0 rfl ?_
  refine fin_again "type.__prepare__" Builtin.«type.__prepare__» (by decide) (by decide +kernel) (entryFor_of_tree (by kernel_rfl)) ?_
  refine k_alloc rfl fun D hD => ?_
  refine k_pure ?_
  show WF C _ _ _ _ _
  refine k_pure ?_
  dsimp only
  refine WF.ne hoS 0 rfl fun hne => ?_
  have hDs : (D == sysModules) = false := beq_false_of_ne (Ne.symm hne)
  refine WF.bind ?_
  unfold notTheModulesDict
  rw [hDs, if_neg Bool.false_ne_true]
  refine WF.pure ?_
  refine WF.bind ?_
  unfold specialOf
  refine WF.bind (WF.typeP 0 rfl ?_)
  refine WF.eqv (r := some (.builtin "dict.__getitem__")) (by kernel_rfl) ?_
  rw [if_neg (by decide)]
  refine WF.holding ?_
  have e1 : (List.lookup ("__class__" : Str) kScope.names == some NameKind.cell) = false := by kernel_rfl
  have e2 : (List.lookup ("__classdict__" : Str) kScope.names == some NameKind.cell) = false := by kernel_rfl
  rw [e1, e2, if_neg Bool.false_ne_true]
  refine WF.bind (WF.pure ?_)
  rw [if_neg Bool.false_ne_true]
  refine WF.bind (WF.pure ?_)
  refine WF.bind (wf_classCode hcode (fun s R => hC _ s R) hP fun c P oc hcd => ?_)
  rw [hge]
  refine WF.bind (WF.builtinsFor F ?_)
  refine WF.bind ?_
  unfold newBodyFrame
  refine WF.bind (WF.nsGlob F ?_)
  refine WF.allocP rfl fun fr hfr => ?_
  rw [hcl]
  refine WF.bind (WF.pure ?_)
  refine WF.holding ?_
  refine WF.bind (WF.enterFrame hl hd ?_)
  have eq : (Str.ofString "cmp_to_key.<locals>.K" ++ Str.ofString ".") = Str.ofString "cmp_to_key.<locals>.K." := by kernel_rfl
  rw [eq]
  have hke : ({ scope := kScope, locals := D, globals := mainGlobals, cells := (Option.map (fun x => (Str.ofString "__class__", x)) (none : Option Addr)).toList ++ (Option.map (fun x => (Str.ofString "__classdict__", x)) (none : Option Addr)).toList ++ [(("mycmp" : Str), cM)], qual := Str.ofString "cmp_to_key.<locals>.K.", code := .ref c, frame := some fr, builtins := builtinsNs } : Env) = kEnv D c fr cM := rfl
  rw [hke]
  refine WF.bind (WF.onRaise ?_)
  refine WF.bind (wf_nameOf F hvn 3 rfl ?_)
  refine WF.bind (WF.storeC 3 rfl rfl rfl (kvs := []) trivial fun es1 n1 k1 => ?_)
  refine WF.bind (WF.mkText fun u1 => ?_)
  refine WF.bind (WF.storeC 3 rfl rfl rfl k1 fun es2 n2 k2 => ?_)
  refine WF.bind (k_fresh fun u2 => WF.pure ?_)
  refine WF.bind (WF.storeC 3 rfl rfl rfl k2 fun es3 n3 k3 => ?_)
  refine WF.pure ?_
  dsimp only
  refine WF.bind ?_
  show WF C _ _ _ _ (.ob fr _ :: .ob P (tabObj #[]) :: .ob c oc :: .ob D (dO es3 n3) :: _)
  refine WF.runBody rfl rfl (wf_kbody F hcd k3 fun N1 t0 S ts f0 f1 f2 f3 f4 f5 es4 n4 ps e4 hS hK g0 g1 g2 g3 g4 g5 k4 => ?_)
  refine WF.bind (WF.onRaise ?_)
  refine WF.bind ?_
  refine k_fresh fun ks => ?_
  refine k_pure ?_
  refine WF.bind (WF.bind (WF.of (WE.alloc rfl fun st hst => ?_)))
  refine WF.pure ?_
  refine WF.bind (WF.storeC 3 rfl rfl rfl k4 fun es5 n5 k5 => ?_)
  refine WF.pure ?_
  rw [if_neg Bool.false_ne_true]
  have ek : (kvPut "__static_attributes__" (.ref st) (kvPut "__hash__" .none (kvPut "__ge__" (.ref f5) (kvPut "__le__" (.ref f4) (kvPut "__eq__" (.ref f3) (kvPut "__gt__" (.ref f2) (kvPut "__lt__" (.ref f1) (kvPut "__init__" (.ref f0) (kvPut "__slots__" (.ref S) (kvPut "__module__" (.str "cpy313.functools" t0) (kvPut "__firstlineno__" (.int 87 u2) (kvPut "__qualname__" (.str "cmp_to_key.<locals>.K" u1) (kvPut "__module__" vn []))))))))))))) = kvK t0 u1 u2 S f0 f1 f2 f3 f4 f5 st := by kernel_rfl
  refine Classical.byContradiction fun hn => ?_
  obtain ⟨hh, ww, hes⟩ := Kv.entsK (ek ▸ k5)
  refine hn ?_
  clear hn
  subst hes
  refine WF.perm ((perm_at (i := 3) rfl).trans (List.Perm.cons _ (perm_at (i := 4) rfl))) ?_
  show WF C A _ _ _ (_ :: .ob T (tup [.type "object"] 0) :: .ob fr _ :: .ob P _ :: .ob c _ :: .ob b _ :: Φ)
  show WF C A _ _ ((st, tup [.str "obj" ks] 0) :: N1) _
  refine Classical.byContradiction fun hn => ?_
  refine Classical.byContradiction fun hn => ?_
  obtain ⟨_, _, _, G0⟩ := g0
  obtain ⟨_, _, _, G1⟩ := g1
  obtain ⟨_, _, _, G2⟩ := g2
  obtain ⟨_, _, _, G3⟩ := g3
  obtain ⟨_, _, _, G4⟩ := g4
  obtain ⟨_, _, _, G5⟩ := g5
  refine hn ?_
  clear hn
  refine hn ?_
  clear hn
  have c1 : Ext N1 ((st, tup [.str "obj" ks] 0) :: N1) := Ext.cons _ _
  refine WF.bind (wf_type Y (.tail _ hS) (G0.mono c1) (G1.mono c1) (G2.mono c1) (G3.mono c1) (G4.mono c1) (G5.mono c1) (.inr (.head _)) fun b2 ob p op y ty x E hE1 tk hE2 td G oG => ?_)
  refine WF.re (fun s R => R.popF.popF.give.give.give.popF.popF.popF.popF.popF.popF.popF) ?_
  refine Classical.byContradiction fun hn => ?_
  obtain ⟨⟨i1, i2, i3, i4, i5⟩, ⟨l1, l2, l3, l4, l5⟩⟩ := hK
  refine hn ?_
  clear hn
  refine WF.pure (q _ x S f0 f1 f2 f3 f4 f5 y E _ (e4.trans (Ext.refl _).c4) ⟨⟨T, tn, u1, .tail _ (.head _)⟩, ⟨_, _, t0, u2, st, .head _, ?_⟩, ⟨ty, .tail _ (.tail _ (.head _))⟩, ⟨⟨i1, i2, i3, i4, i5.mono (Ext.refl _).c4⟩, ⟨l1, l2, l3, l4, l5.mono (Ext.refl _).c4⟩⟩⟩)
  exact ⟨⟨_, rfl⟩, rfl, ⟨_, rfl⟩, rfl, ⟨_, rfl⟩, rfl, ⟨_, rfl⟩, rfl, ⟨_, rfl⟩, rfl, ⟨_, rfl⟩, rfl, ⟨_, rfl⟩, rfl, ⟨_, rfl⟩, rfl, ⟨_, rfl⟩, rfl, ⟨_, rfl⟩, rfl, ⟨_, rfl⟩, rfl, ⟨_, rfl⟩, rfl, ⟨_, rfl⟩, rfl, trivial⟩
end Mine.Internal
end
section
open PySem PySem.W PyProof.Rows PySem.Calls PySem.Spec PySem.Builtin PySem.Builtin.List
set_option maxRecDepth 100000
namespace Mine.Internal
variable {C : Cx} {N N' : Led} {Φ : Frs} {A A' : Around} {mg mb : Lo} {s : Shared} {env : Env} {K : Fk} {m : Lo}
theorem RepZ.swap {z} {h : Heap} {f f' : Prv} (R : RepZ C z N (f :: Φ) h) (e : f'.At h) (hs : ∀ a ∈ f'.own, a ∈ f.own) (hn : f'.own.Nodup) : RepZ C z N (f' :: Φ) h :=
  R.popF.pushF e (fun a ha => by
    have h' : a ∈ own (f :: Φ) := mem_own (.head _) (hs a ha)
    refine ⟨R.apart a h', R.frz a h', fun q => ?_, fun P hP e => (R.tab P hP).2.2.1 (by rw [e]; exact h')⟩
    have := R.nd
    rw [own_cons, List.nodup_append] at this
    exact this.2.2 a (hs a ha) a q rfl) hn
theorem Rep.giveCell {k : Fk} {x : Str} {c : Addr} (R : Rep C N (.fr k m :: Φ) s) (hc : (x, c) ∈ k.cs) : ∃ o, o.data = .cell (m x) ∧ Rep C ((c, o) :: N) Φ s := by
  refine Classical.byContradiction fun hn => ?_
  obtain ⟨⟨z, r⟩, os, gg⟩ := R
  obtain ⟨_, hcs, _⟩ := r.frm _ (.head _)
  obtain ⟨o, ho, hd⟩ := hcs _ hc
  refine hn ?_
  clear hn
  exact ⟨o, hd, ⟨z, (r.swap (f' := .ob c o) ho (fun a ha => by
    rw [show a = c from by simpa [Prv.own] using ha]
    exact .tail _ (List.mem_map.mpr ⟨_, hc, rfl⟩)) (by simp [Prv.own])).give⟩, os, gg⟩
theorem WF.toWS {α : Type} {t : Sem α} {Q : α → Led → Lo → Prop} (h : WF C A t (fun v N' Φ' => ∃ m', Φ' = .fr K m' :: Φ ∧ Q v N' m') N (.fr K m :: Φ)) : WS C A t Q N K m Φ :=
  fun s E R => wpAny_mono (h s E R) (fun v s' ⟨N', Φ', R', m', e, q⟩ => ⟨N', m', e ▸ R', q⟩) fun _ _ x => x
theorem evalArgs_f {f : Value} {args : List (Bool × Sem Value)} {Q : Args → Led → Prop} (h : WE C A (spliced args) (fun vs N₁ => Q ⟨vs, []⟩ N₁) N Φ) : WE C A (evalArgs f false args []) Q N Φ := by
  intro s E R
  unfold evalArgs
  show wpAny _ _ (spliced args >>= _) _ _ s
  exact wpAny_bind (wpAny_mono (h s E R) (fun vs s₁ h₁ => wpAny_bind (wpAny_pure (wpAny_holding (wpAny_bind (wpAny_pure (wpAny_bind (wpAny_pure (wpAny_pure h₁)))))))) fun _ _ x => x)
theorem CE.fnRaw {k : Nat} {a : Addr} {fd : FuncData} {body : List Stmt} {vs : List Value} {binds : List (Str × Value)} {cs : Addr → List (Str × Addr)} {Q : Value → Led → Prop} (G : Glo C mg mb) (ho : AOk A (k + 1)) (hf : HasFn C N a fd) (hbody : fd.body = .stmts body)
    (hbind : bindArgs fd ⟨vs, []⟩ = pure binds) (hclo : fd.closure = [])
    (hcs : ∀ L, cellsFrom (L + 1) fd.scope.names [] = cs L)
    (h : ∀ L, WS C (A.deeper (callEnvC fd L a)) (execs body (callEnvC fd L a)) (fun f N' m' => ∀ s', Rep C N' (.fr ⟨L, cs L⟩ m' :: Φ) s' → ∃ N'', Rep C N'' Φ s' ∧ Q (retOf f) N'') N ⟨L, cs L⟩ (bindM binds fun _ => none) Φ)
    (hkinds : bindsOk fd.scope.names binds = true := by rfl) (hndB : nodupB fd.scope.names = true := by rfl)
    (hco : fd.scope.isCoroutine = false := by rfl) (hgen : fd.scope.isGenerator = false := by rfl) (hk : fd.scope.kind = .function := by rfl) : CE C A (.call (.ref a) ⟨vs, []⟩) Q N Φ := by
  intro s r R kk
  refine Classical.byContradiction fun hn => ?_
  obtain ⟨o, hob, hdat⟩ := hf.obj
  refine hn ?_
  clear hn
  have hkind : ∀ x ∈ binds, fd.scope.names.lookup x.1 = some .local ∨ fd.scope.names.lookup x.1 = some .cell := fun x hx => by
    have := List.all_eq_true.mp hkinds x hx
    simpa using this
  have hnd := nodupB_ok hndB
  have hnm : ∀ L, ((cs L).map (·.1)).Nodup := fun L => by rw [← hcs]; exact cells_nodup _ _ _ hnd List.nodup_nil (by simp)
  have hck : ∀ L x, (cs L).lookup x = none → fd.scope.names.lookup x ≠ some .cell := fun L x hx e => by
    have := lookup_none hx
    rw [← hcs, cells_keys] at this
    exact this (.inr (lookup_mem e))
  have hck' : ∀ L, ∀ p ∈ cs L, fd.scope.names.lookup p.1 = some .cell := fun L p hp => by
    have : p.1 ∈ (cs L).map (·.1) := List.mem_map.mpr ⟨p, hp, rfl⟩
    rw [← hcs, cells_keys] at this
    rcases this with h | h
    · simp at h
    · exact lookup_of_mem hnd h
  have hkey : ∀ (n : Str) (l : List (Str × Addr)), (l.map (·.1)).Nodup → ∀ p ∈ l, l.lookup p.1 = some p.2 := by
    intro n l
    induction l with
    | nil => intro _ p hp; cases hp
    | cons q l ih =>
      intro hn p hp
      rw [List.map_cons, List.nodup_cons] at hn
      rcases List.mem_cons.mp hp with rfl | hp
      · simp [List.lookup]
      · have : (p.1 == q.1) = false := by
          refine beq_false_of_ne fun e => hn.1 ?_
          rw [← e]; exact List.mem_map.mpr ⟨p, hp, rfl⟩
        rw [List.lookup_cons, this]
        exact ih hn.2 p hp
  have key : ∀ L, ∀ p ∈ cs L, (cs L).lookup p.1 = some p.2 := fun L => hkey "" _ (hnm L)
  have isSomeOf : ∀ x, fd.scope.names.lookup x = some .cell → ((cellsFrom (s.heap.objs.size + 1) fd.scope.names []).lookup x).isSome = true := fun x hx => by
    rw [hcs]
    cases e : (cs s.heap.objs.size).lookup x with
    | some _ => rfl
    | none => exact absurd hx (hck _ _ e)
  refine codeAny_call_cells (by have := ho.d; lia) (R.has hob) hdat (G.lim _ R.stat) (hf.record R) hbody hbind hclo (fun x hx => (hkind x hx).imp id fun e => ⟨e, isSomeOf _ e⟩) (fun s₁ X => ?_) hco hgen hk
  refine Classical.byContradiction fun hn => ?_
  obtain ⟨h₁, tk, e, hkeep⟩ := X.done
  refine hn ?_
  clear hn
  have hcs' : (callEnvC fd s.heap.objs.size a).cells = cs s.heap.objs.size := hcs _
  have hap := X.apart
  rw [hcs'] at hap
  have hge : ∀ p ∈ cs s.heap.objs.size, s.heap.objs.size + 1 ≤ p.2 := fun p hp => by
    have hp' : p ∈ cellsFrom (s.heap.objs.size + 1) fd.scope.names [] := by rw [hcs]; exact hp
    rcases cells_above _ _ _ _ hp' with h | h
    · cases h
    · exact h
  have R₂ : Rep C N (.fr ⟨s.heap.objs.size, cs s.heap.objs.size⟩ (bindM binds fun _ => none) :: Φ) s₁ := by
    rw [e]
    refine R.pushG hkeep ?_ (fun b hb => ?_) ?_
    · rw [e] at X
      refine ⟨⟨_, X.toInCall.ns, fun x hx => ?_⟩, fun p hp => ?_, hnm _⟩
      · have hx' := hck _ _ hx
        by_cases hl : (callEnvC fd s.heap.objs.size a).kindOf x = some .local
        · exact bindL_eq _ _ _ _ _ (fun _ => rfl) hl
        · rw [bindL_no _ _ _ _ hl, bindM_none]
          intro y hy e
          rcases hkind y hy with h1 | h1
          · exact hl (by rw [← e]; exact h1)
          · exact hx' (by rw [← e]; exact h1)
      · have := X.cell p.1 p.2 (by rw [hcs']; exact key _ _ hp)
        rw [bindC_eq (callEnvC fd s.heap.objs.size a).kindOf binds _ (fun _ => none) p.1 rfl (by show fd.scope.names.lookup p.1 ≠ _; rw [hck' _ _ hp]; decide)] at this
        exact this
    · rcases List.mem_cons.mp hb with rfl | hb
      · exact Nat.le_refl _
      · obtain ⟨p, hp, rfl⟩ := List.mem_map.mp hb
        exact Nat.le_of_succ_le (hge p hp)
    · rw [show (Prv.fr ⟨s.heap.objs.size, cs s.heap.objs.size⟩ (bindM binds fun _ => none)).own = s.heap.objs.size :: (cs s.heap.objs.size).map (·.2) from rfl, List.nodup_cons]
      refine ⟨fun hm => ?_, ?_⟩
      · obtain ⟨p, hp, e⟩ := List.mem_map.mp hm
        have := hge p hp
        rw [e] at this
        exact absurd this (Nat.not_succ_le_self _)
      · exact List.pairwise_map.mpr hap
  exact wpAny_mono (h _ s₁ _ R₂) (fun f s' ⟨N', m', R', q⟩ => by
    refine Classical.byContradiction fun hn => ?_
    obtain ⟨N'', R'', q'⟩ := q s' R'
    refine hn ?_
    clear hn
    cases f <;> exact kk _ s' N'' R'' q') fun _ _ x => x
noncomputable def clsPos : Stmt → Pos
  | .ClassDef _ _ _ _ _ _ _ _ _ _ p => p
  | _ => default
noncomputable def clsBases : Stmt → List Expr
  | .ClassDef _ b _ _ _ _ _ _ _ _ _ => b
  | _ => []
theorem kCls_eq : kCls = .ClassDef "K" [.Name "object" (clsBases kCls).head!.pos] [] kBdy [] [] kScope none "K" ["obj"] (clsPos kCls) := by kernel_rfl
theorem key_body : stBody (stOf 9) = [kCls, (stBody (stOf 9)).getD 1 (.Pass default)] := by kernel_rfl
noncomputable def retPos : Stmt → Pos × Pos
  | .Return (some (.Name _ p)) q => (p, q)
  | _ => default
theorem key_ret : (stBody (stOf 9)).getD 1 (.Pass default) = .Return (some (.Name "K" (retPos ((stBody (stOf 9)).getD 1 (.Pass default))).1)) (retPos ((stBody (stOf 9)).getD 1 (.Pass default))).2 := by kernel_rfl
theorem KFns.mono {cM f0 f1 : Addr} (h : KFns C N cM f0 f1) (e : Ext N N') : KFns C N' cM f0 f1 := by
  refine Classical.byContradiction fun hn => ?_
  obtain ⟨⟨i1, i2, i3, i4, i5⟩, ⟨l1, l2, l3, l4, l5⟩⟩ := h
  refine hn ?_
  clear hn
  exact ⟨⟨i1, i2, i3, i4, i5.mono e⟩, ⟨l1, l2, l3, l4, l5.mono e⟩⟩
theorem KCls.mono {cM x S f0 f1 f2 f3 f4 f5 y E : Addr} (h : KCls C N cM x S f0 f1 f2 f3 f4 f5 y E) (e : Ext N N') : KCls C N' cM x S f0 f1 f2 f3 f4 f5 y E := by
  refine Classical.byContradiction fun hn => ?_
  obtain ⟨⟨sl, sm, sn, h1⟩, ⟨es, n, t0, u2, st, h2, h3⟩, ⟨ty, h4⟩, h5⟩ := h
  refine hn ?_
  clear hn
  exact ⟨⟨sl, sm, sn, e _ h1⟩, ⟨es, n, t0, u2, st, e _ h2, h3⟩, ⟨ty, e _ h4⟩, h5.mono e⟩
set_option maxHeartbeats 4000000 in
theorem c_key {P0 : Addr} {v vn : Value} {Q : Value → Led → Prop} (G : Glo C mg mb) (Y : Sys C) (F : MkF C mg) (ho : AOk A 3) (hf : FnS C 9 133 .none) (hvn : mg ("__name__" : Str) = some vn) (hob : mg ("object" : Str) = none) (hob' : mb ("object" : Str) = some (.type "object"))
    (hbc : mb ("__build_class__" : Str) = some (.builtin "__build_class__")) (hcd : ∀ N Φ s, (P0, tabObj #[]) ∈ N → Rep C N Φ s → CodeHd s.heap 132 P0) (hP : (P0, tabObj #[]) ∈ N)
    (q : ∀ cM o tb x S f0 f1 f2 f3 f4 f5 y E N', o.data = .cell (some v) → (cM, o) ∈ N' → Ext (updL N P0 (tabObj tb)) N' → KCls C N' cM x S f0 f1 f2 f3 f4 f5 y E → Q (.ref x) N') :
    WE C A (PySem.call (.ref 133) [v]) Q N Φ := by
  obtain ⟨pm, hf⟩ := hf
  refine WE.call (CE.fnRaw (binds := [("mycmp", v)]) (cs := fun L => [("mycmp", L + 1)]) (k := 2) G ho hf.any rfl rfl rfl (fun _ => rfl) fun L => ?_)
  rw [key_body]
  have ho' := ho.deeper (env := callEnvC (mkFd (stOf 9) 133 (stName (stOf 9)) [] .none pm .none) L 133)
  refine s_cons ?_
  rw [kCls_eq, arm_exec_ClassDef]
  refine WS.bind (WS.of_WE (WE.pure ?_))
  refine WS.bind (WS.of_WE (WE.standAt ?_))
  refine WS.bind (WS.of_WE ?_)
  unfold buildClassGuard
  refine WE.bind (fun s E R => wpAny_nsGet (G.b _ R.stat) ⟨N, R, ?_⟩)
  rw [hbc]
  refine WE.pure ?_
  refine WS.bind (WF.toWS ?_)
  refine WF.holding ?_
  refine WF.bind (WF.of (evalArgs_f ?_))
  refine a_cons (e_blt G hob hob' (a_nil ?_))
  refine WF.bind (WF.standAt ?_)
  refine WF.holding ?_
  have eqq : qualnameIn (callEnvC (mkFd (stOf 9) 133 (stName (stOf 9)) [] Value.none pm Value.none) L 133) (Str.ofString "K") (Str.ofString "K") = Str.ofString "cmp_to_key.<locals>.K" := by kernel_rfl
  rw [eqq]
  show WF C _ (buildClass "K" "cmp_to_key.<locals>.K" [.type "object"] [] kBdy kScope ["obj"] 87 _ (clsPos kCls) none) _ _ _
  refine wf_build (c0 := 132) (P0 := P0) (cM := L + 1) Y F rfl rfl (fun Φ s R => hcd _ Φ s hP R) hP G.lim (by have := ho'.d; lia) hvn rfl fun tb x S f0 f1 f2 f3 f4 f5 y E N' e hK => ?_
  refine ⟨_, rfl, ?_⟩
  refine WS.bind (WS.of_WE (WE.pure ?_))
  refine WS.bind (WS.of_WE (WE.standAt ?_))
  refine WS.bind (WS.bindName rfl (.inl ⟨rfl, rfl, rfl⟩) ?_)
  refine WS.of_WE (WE.pure ?_)
  refine s_cons ?_
  rw [key_ret]
  refine s_ret (e_local (v := .ref x) rfl ?_)
  intro s' R'
  refine Classical.byContradiction fun hn => ?_
  obtain ⟨o, ho1, R2⟩ := R'.giveCell (x := "mycmp") (c := L + 1) (.head _)
  refine hn ?_
  clear hn
  exact ⟨_, R2, q (L + 1) o tb x S f0 f1 f2 f3 f4 f5 y E _ ho1 (.head _) (e.trans (Ext.cons _ _)) (hK.mono (Ext.cons _ _))⟩
end Mine.Internal
end
section
open PySem PySem.W PyProof.Rows PySem.Calls PySem.Spec PySem.Builtin PySem.Builtin.List
set_option maxRecDepth 100000
namespace Mine.Internal
variable {C : Cx} {N N' : Led} {Φ : Frs} {A A' : Around} {mg mb : Lo} {s : Shared} {env : Env} {K : Fk} {m : Lo}
noncomputable abbrev kIns (x dd : Addr) (sl : Array (Option Value)) : Obj := { cls := .ref x, dict := some dd, data := .plain, slots := sl }
theorem k_updLE {α : Type} {Q : α → Led → Frs → Prop} {a : Addr} {pt : Option Value} {o : Obj} {f : Obj → Obj} {k : Unit → Sem α} (o' : Obj) (h : (a, o) ∈ N) (hd : NoFields o) (he : f o = o') (hf : o'.isFreed = false) (q : WF C A (k ()) Q (updL N a o') Φ) : WF C A (Sem.update a pt f k) Q N Φ := by
  subst he; exact k_updL h hd hf q
theorem WF.toWE {α : Type} {t : Sem α} {Q : α → Led → Prop} (h : WF C A t (fun v N' Φ' => Φ' = Φ ∧ Q v N') N Φ) : WE C A t Q N Φ :=
  fun s E R => wpAny_mono (h s E R) (fun v s' ⟨N', Φ', R', e, q⟩ => ⟨N', e ▸ R', q⟩) fun _ _ x => x
set_option maxHeartbeats 8000000 in
theorem wf_setobj {cM x S f0 f1 f2 f3 f4 f5 y E b dd : Addr} {v : Value} {Q : Unit → Led → Frs → Prop} (HK : KCls C N cM x S f0 f1 f2 f3 f4 f5 y E) (hb : (b, kIns x dd #[]) ∈ N) (q : Q () (updL N b (kIns x dd #[some v])) Φ) : WF C A (setAttr (.ref b) "obj" v) Q N Φ := by
  refine Classical.byContradiction fun hn => ?_
  obtain ⟨⟨T, tn, u1, hx⟩, ⟨es, n, t0, u2, st, hE, j0⟩, ⟨ty, hy⟩, hfn⟩ := HK
  obtain ⟨hh, ww, hes⟩ := Kv.entsE j0
  refine hn ?_
  clear hn
  subst hes
  refine Classical.byContradiction fun hn => ?_
  obtain ⟨_, _, _, hF0⟩ := (let ⟨_, _, _, _, h⟩ := hfn.init; h.o)
  refine hn ?_
  clear hn
  refine k_fresh fun _ => ?_
  refine k_load (.inr hb) ?_
  refine k_load (.inr hx) ?_
  refine k_load (.inr hx) ?_
  refine k_load (.inr hE) ?_
  conv => arg 3; whnf
  rename_i tq
  refine k_call (cff_code (.call (.builtin "object.__setattr__") ⟨[.ref b, .str (Str.ofString "obj") tq, v], []⟩) (by kernel_rfl) (CFF.call ?_))
  refine k_load (.inr hb) ?_
  refine k_load (.inr hx) ?_
  refine fin_again "object.__setattr__" Builtin.«object.__setattr__» rfl (by decide +kernel) (entryFor_of_tree (by kernel_rfl)) ?_
  refine k_load (.inr hb) ?_
  refine k_load (.inr hx) ?_
  refine k_load (.inr hb) ?_
  refine k_load (.inr hx) ?_
  refine k_load (.inr hx) ?_
  refine k_load (.inr hE) ?_
  refine k_load (.inr hy) ?_
  refine k_rule ?_
  refine k_load (.inr hy) ?_
  refine k_call (cff_code (.call (.builtin "member_descriptor.__set__") ⟨[.ref y, .ref b, v], []⟩) (by kernel_rfl) (CFF.call ?_))
  refine k_load (.inr hy) ?_
  refine fin_again "member_descriptor.__set__" Builtin.«member_descriptor.__set__» rfl (by decide +kernel) (entryFor_of_tree (by kernel_rfl)) ?_
  refine k_load (.inr hy) ?_
  refine k_load (.inr hy) ?_
  refine k_load (.inr hb) ?_
  refine k_load (.inr hx) ?_
  conv => arg 3; whnf
  have hcx : List.contains [Value.ref x, Value.type "object"] (Value.ref x) = true := by simp
  first | refine WF.bind (WF.eqv (r := true) ?_ ?_) | refine WF.bind (WF.bind (WF.eqv (r := true) ?_ ?_)) | refine WF.bind (WF.bind (WF.bind (WF.eqv (r := true) ?_ ?_)))
  · exact Eq.trans (b := Sem.pure (List.contains [Value.ref x, Value.type "object"] (Value.ref x))) (by kernel_rfl) (by rw [hcx]; rfl)
  refine k_pure ?_
  show WF C _ _ _ _ _
  refine k_load (.inr hy) ?_
  refine k_load (.inr hy) ?_
  refine k_rule ?_
  refine fin_again "proto.slot#set" Builtin.«proto.slot#set» rfl (by decide +kernel) (entryFor_of_tree (by kernel_rfl)) ?_
  refine k_load (.inr hy) ?_
  refine k_load (.inr hy) ?_
  refine k_load (.inr hb) ?_
  refine k_load (.inr hx) ?_
  refine k_updLE (kIns x dd #[some v]) hb (fun vs e => by cases e) (by kernel_rfl) rfl ?_
  refine k_pure ?_
  show WF C _ _ _ _ _
  refine k_pure ?_
  show WF C _ _ _ _ _
  conv => arg 3; whnf
  exact k_pure q
theorem c_kinit {k : Nat} {cM x S f0 f1 f2 f3 f4 f5 y E b dd : Addr} {v : Value} {Q : Value → Led → Prop} (G : Glo C mg mb) (ho : AOk A (k + 1)) (HK : KCls C N cM x S f0 f1 f2 f3 f4 f5 y E) (hb : (b, kIns x dd #[]) ∈ N)
    (q : Q .none (updL N b (kIns x dd #[some v]))) : CE C A (.call (.ref f0) ⟨[.ref b, v], []⟩) Q N Φ := by
  refine Classical.byContradiction fun hn => ?_
  obtain ⟨doc, pm, c, ctv, hf⟩ := HK.fns.init
  refine hn ?_
  clear hn
  refine CE.fnCells (binds := [("self", .ref b), ("obj", v)]) (cs := fun _ => []) (k := k) G ho hf rfl rfl rfl (fun _ => rfl) fun L => ?_
  refine s_cons ?_
  refine s_attr ?_
  refine e_local (v := v) rfl ?_
  refine e_local (v := .ref b) rfl ?_
  refine WF.toWE (wf_setobj HK hb ⟨rfl, ?_⟩)
  exact WS.of_WE (WE.pure q)
set_option maxHeartbeats 8000000 in
theorem wf_inst {cM x S f0 f1 f2 f3 f4 f5 y E : Addr} {v : Value} {Q : Value → Led → Frs → Prop} (G : Glo C mg mb) (ho : AOk A 6) (HK : KCls C N cM x S f0 f1 f2 f3 f4 f5 y E)
    (q : ∀ b dd N', New b N → Ext N N' → (b, kIns x dd #[some v]) ∈ N' → Q (.ref b) N' Φ) : WF C A (PySem.call (.ref x) [v]) Q N Φ := by
  have HK0 := HK
  refine Classical.byContradiction fun hn => ?_
  obtain ⟨⟨T, tn, u1, hx⟩, ⟨es, n, t0, u2, st, hE, j0⟩, ⟨ty, hy⟩, hfn⟩ := HK
  obtain ⟨hh, ww, hes⟩ := Kv.entsE j0
  refine hn ?_
  clear hn
  subst hes
  refine Classical.byContradiction fun hn => ?_
  obtain ⟨_, _, _, hF0⟩ := (let ⟨_, _, _, _, h⟩ := hfn.init; h.o)
  refine hn ?_
  clear hn
  refine WF.call (CFF.call ?_)
  refine k_load (.inr hx) ?_
  refine k_load (.inr hx) ?_
  conv => arg 3; whnf
  refine k_pure ⟨rfl, cff_code (.call (.builtin "type.__call__") ⟨[.ref x, v], []⟩) (by kernel_rfl) (CFF.call ?_)⟩
  refine k_load (.inr hx) ?_
  refine fin_again "type.__call__" Builtin.«type.__call__» rfl (by decide +kernel) (entryFor_of_tree (by kernel_rfl)) ?_
  refine k_load (.inr hx) ?_
  refine k_load (.inr hx) ?_
  refine k_load (.inr hx) ?_
  refine k_call (CFF.call ?_)
  refine k_load (.inr hx) ?_
  refine k_load (.inr hx) ?_
  refine k_load (.inr hx) ?_
  refine k_load (.inr hx) ?_
  refine k_load (.inr hx) ?_
  refine k_load (.inr hx) ?_
  refine k_load (.inr hx) ?_
  refine fin_again "object.__new__" Builtin.«object.__new__» rfl (by decide +kernel) (entryFor_of_tree (by kernel_rfl)) ?_
  refine k_load (.inr hx) ?_
  refine k_load (.inr hx) ?_
  refine k_load (.inr hx) ?_
  refine k_load (.inr hx) ?_
  refine k_load (.inr hx) ?_
  refine k_load (.inr hx) ?_
  refine k_load (.inr hx) ?_
  refine k_load (.inr hx) ?_
  refine k_load (.inr hx) ?_
  refine k_load (.inr hx) ?_
  refine k_load (.inr hE) ?_
  refine k_load (.inr hx) ?_
  refine k_alloc rfl fun dd hdd => ?_
  refine k_alloc rfl fun b hnb => ?_
  refine k_load (.inr hx) ?_
  refine k_pure ?_
  show WF C _ _ _ _ _
  refine WF.re (fun s R => R.give.popF) ?_
  have e1 : Ext N ((b, kIns x dd #[]) :: N) := Ext.cons _ _
  replace hx := e1 _ hx
  replace hy := e1 _ hy
  replace hE := e1 _ hE
  replace hF0 := hF0.mono e1
  have hb : (b, kIns x dd #[]) ∈ ((b, kIns x dd #[]) :: N) := .head _
  show WF C _ _ _ ((b, kIns x dd #[]) :: N) _
  refine k_load (.inr hb) ?_
  refine k_load (.inr hx) ?_
  refine k_bF (by simp) fun _ => ?_
  refine k_load (.inr hb) ?_
  refine k_load (.inr hx) ?_
  refine k_load (.inr hx) ?_
  refine k_load (.inr hE) ?_
  refine k_load hF0 ?_
  refine k_call (CFF.ofCE (c_kinit (k := 4) G ?_ (HK0.mono e1) hb ?_))
  · exact ho.under (Nat.le_of_ble_eq_true rfl) (Nat.le_of_ble_eq_true rfl)
  show WF C _ _ _ _ _
  refine k_pure ?_
  refine q b dd _ hnb (fun p hp => ?_) (updL_self _ _ _)
  exact updL_but _ _ _ _ (.tail _ hp) (hnb p hp)
end Mine.Internal
end
section
open PySem PySem.W PyProof.Rows PySem.Calls PySem.Spec PySem.Builtin PySem.Builtin.List
set_option maxRecDepth 100000
namespace Mine.Internal
variable {fl : Bool}
variable {C : Cx} {N N' : Led} {Φ : Frs} {A A' : Around} {mg mb : Lo} {s : Shared} {env : Env} {K : Fk} {m : Lo}
set_option maxHeartbeats 8000000 in
theorem wf_getobj {cM x S f0 f1 f2 f3 f4 f5 y E b dd : Addr} {r : Addr} {Q : Value → Led → Frs → Prop} (HK : KCls C N cM x S f0 f1 f2 f3 f4 f5 y E) (hb : (b, kIns x dd #[some (.ref r)]) ∈ N) (q : Q (.ref r) N Φ) : WF C A (getAttr (.ref b) "obj" fl) Q N Φ := by
  refine Classical.byContradiction fun hn => ?_
  obtain ⟨⟨T, tn, u1, hx⟩, ⟨es, n, t0, u2, st, hE, j0⟩, ⟨ty, hy⟩, hfn⟩ := HK
  obtain ⟨hh, ww, hes⟩ := Kv.entsE j0
  refine hn ?_
  clear hn
  subst hes
  refine Classical.byContradiction fun hn => ?_
  obtain ⟨_, _, _, hF0⟩ := (let ⟨_, _, _, _, h⟩ := hfn.init; h.o)
  refine hn ?_
  clear hn
  refine k_fresh fun _ => ?_
  refine k_load (.inr hb) ?_
  refine k_load (.inr hx) ?_
  refine k_load (.inr hx) ?_
  refine k_load (.inr hE) ?_
  conv => arg 3; whnf
  rename_i tq
  refine k_call (CFF.builtin (b := Builtin.«proto.getattr_hooked») (entryFor_of_tree (by kernel_rfl)) ?_)
  refine k_load (.inr hb) ?_
  refine k_load (.inr hx) ?_
  refine k_load (.inr hx) ?_
  refine k_load (.inr hE) ?_
  refine k_load (.inr hy) ?_
  refine k_load (.inr hy) ?_
  refine k_rule ?_
  refine k_load (.inr hx) ?_
  refine k_load (.inr hx) ?_
  refine k_load (.inr hE) ?_
  refine k_call (cff_code (.call (.builtin "member_descriptor.__get__") ⟨[.ref y, .ref b, .ref x], []⟩) (by kernel_rfl) (CFF.call ?_))
  refine k_load (.inr hy) ?_
  refine fin_again "member_descriptor.__get__" Builtin.«member_descriptor.__get__» rfl (by decide +kernel) (entryFor_of_tree (by kernel_rfl)) ?_
  refine k_load (.inr hy) ?_
  refine k_load (.inr hy) ?_
  refine k_load (.inr hb) ?_
  refine k_load (.inr hx) ?_
  conv => arg 3; whnf
  have hcx : List.contains [Value.ref x, Value.type "object"] (Value.ref x) = true := by simp
  first | refine WF.bind (WF.eqv (r := true) ?_ ?_) | refine WF.bind (WF.bind (WF.eqv (r := true) ?_ ?_)) | refine WF.bind (WF.bind (WF.bind (WF.eqv (r := true) ?_ ?_)))
  · exact Eq.trans (b := Sem.pure (List.contains [Value.ref x, Value.type "object"] (Value.ref x))) (by kernel_rfl) (by rw [hcx]; rfl)
  refine k_pure ?_
  show WF C _ _ _ _ _
  refine k_load (.inr hy) ?_
  refine k_rule ?_
  refine k_load (.inr hy) ?_
  refine fin_again "proto.slot" Builtin.«proto.slot» rfl (by decide +kernel) (entryFor_of_tree (by kernel_rfl)) ?_
  refine k_load (.inr hy) ?_
  refine k_load (.inr hy) ?_
  refine k_load (.inr hb) ?_
  refine k_load (.inr hx) ?_
  refine k_load (.inr hb) ?_
  refine k_pure ?_
  show WF C _ _ _ _ _
  refine k_pure ?_
  show WF C _ _ _ _ _
  conv => arg 3; whnf
  exact k_pure q
end Mine.Internal
end
section
open PySem PySem.W PyProof.Rows PySem.Calls PySem.Spec PySem.Builtin PySem.Builtin.List
set_option maxRecDepth 100000
namespace Mine.Internal
variable {C : Cx} {N N' : Led} {Φ : Frs} {A A' : Around} {mg mb : Lo} {s : Shared} {env : Env} {K : Fk} {m : Lo}
theorem e_attrN {x attr : Str} {p pos : Pos} {Q : Value → Led → Prop} (h : WE C A (eval (.Name x p) env) (fun o N₁ => WE C A (getAttr o attr true) Q N₁ Φ) N Φ) : WE C A (eval (.Attribute (.Name x p) attr pos) env) Q N Φ := by
  rw [arm_eval_Attribute]
  refine WE.bind (WE.of_eq (t' := eval (.Name x p) env) (by rfl) (h.mono fun o N₁ h₁ => ?_))
  refine WE.bind (WE.standAt ?_)
  refine WE.bind (WE.holding (h₁.mono fun r N₂ q => ?_))
  exact WE.bind (WE.pure (WE.pure q))
theorem c_klt {k : Nat} {cM x S f0 f1 f2 f3 f4 f5 y E b dd b' dd' lam r r' : Addr} {fd : FuncData} {oc : Obj} {z : Int} {Q : Value → Led → Prop} (G : Glo C mg mb) (ho : AOk A (k + 1)) (HK : KCls C N cM x S f0 f1 f2 f3 f4 f5 y E)
    (hb : (b, kIns x dd #[some (.ref r)]) ∈ N) (hb' : (b', kIns x dd' #[some (.ref r')]) ∈ N) (hc : (cM, oc) ∈ N) (hcd : oc.data = .cell (some (.ref lam))) (hl : HasFn C N lam fd)
    (hcmp : ∀ A Φ (Q : Value → Led → Prop), AOk A k → (∀ t N', Ext N N' → Q (.int z t) N') → WE C A (PySem.call (.ref lam) [.ref r, .ref r']) Q N Φ)
    (q : ∀ N', Ext N N' → Q (.bool (decide (z < 0))) N') : CE C A (.call (.ref f1) ⟨[.ref b, .ref b'], []⟩) Q N Φ := by
  refine Classical.byContradiction fun hn => ?_
  obtain ⟨doc, pm, c, ctv, hf⟩ := HK.fns.lt
  refine hn ?_
  clear hn
  refine CE.fnDef (binds := [("self", .ref b), ("other", .ref b')]) (k := k) G ho hf rfl (fun s _ => .of_eq rfl) fun L => ?_
  refine s_cons ?_
  refine s_ret ?_
  refine e_cmp ?_
  refine e_call rfl ?_
  refine e_free (c := cM) (v := .ref lam) (fun s R => ⟨oc, R.get hc, hcd⟩) ?_
  refine Classical.byContradiction fun hn => ?_
  obtain ⟨ol, hol, hold⟩ := hl.obj
  refine hn ?_
  clear hn
  refine cw_fn rfl hold ?_
  refine a_cons (e_attrN (e_local (v := .ref b) rfl ?_))
  refine WF.toWE (wf_getobj HK hb ⟨rfl, ?_⟩)
  refine a_cons (e_attrN (e_local (v := .ref b') rfl ?_))
  refine WF.toWE (wf_getobj HK hb' ⟨rfl, ?_⟩)
  refine a_nil ⟨hol, ?_⟩
  refine hcmp _ _ _ ho.deeper fun t N' e => ?_
  refine e_int fun t2 => ?_
  refine o_lt ?_
  exact q N' e
end Mine.Internal
end
section
open PySem PySem.W PyProof.Rows PySem.Calls PySem.Spec PySem.Builtin PySem.Builtin.List
set_option maxRecDepth 100000
namespace Mine.Internal
variable {C : Cx} {N N' : Led} {Φ : Frs} {A A' : Around} {mg mb : Lo} {s : Shared} {env : Env} {K : Fk} {m : Lo}
@[reducible] noncomputable def kOrV (C : Cx) (A : Around) (Φ : Frs) (env : Env) (y : Expr) (v : Value) (Q : Value → Led → Prop) : Bool → Led → Prop := fun b N => if b = true then Q v N else WE C A (eval y env) Q N Φ
@[reducible] noncomputable def kOrE (C : Cx) (A : Around) (Φ : Frs) (env : Env) (y : Expr) (Q : Value → Led → Prop) : Value → Led → Prop := fun v N => WE C A (truthy v) (kOrV C A Φ env y v Q) N Φ
theorem e_or2 {x y : Expr} {pos} {Q : Value → Led → Prop} (h : WE C A (eval x env) (kOrE C A Φ env y Q) N Φ) : WE C A (eval (.BoolOp .Or [x, y] pos) env) Q N Φ := by
  rw [arm_eval_BoolOp]
  show WE C A (eval x env >>= _) Q N Φ
  refine WE.bind (h.mono fun v N₁ h₁ => ?_)
  refine WE.bind (WE.standAt (WE.bind (WE.holding (h₁.mono fun b N₂ h₂ => ?_))))
  cases b with
  | true => exact WE.pure h₂
  | false =>
    show WE C A (boolOp pos .Or [eval y env]) Q N₂ Φ
    exact h₂
noncomputable def lawSt (j : Nat) : Stmt := (stBody (stOf 25)).getD j (.Pass default)
noncomputable def asgVal : Stmt → Expr
  | .Assign _ v _ => v
  | _ => .Name "" default
noncomputable def callArg (j : Nat) : Expr → Expr
  | .Call _ args _ _ => args.getD j (.Name "" default)
  | e => e
noncomputable def lamArgs : Expr → Arguments
  | .Lambda a _ _ _ => a
  | _ => default
noncomputable def lamBody : Expr → Expr
  | .Lambda _ b _ _ => b
  | e => e
noncomputable def lamScope : Expr → Scope
  | .Lambda _ _ s _ => s
  | _ => default
noncomputable def lamFd (e : Expr) (q : Str) (clo : List (Str × Addr)) (pm : Value) (c : Addr) (ct : Value) : FuncData :=
  { name := "<lambda>", qualname := q, params := lamArgs e, body := .expr (lamBody e), scope := lamScope e, globals := mainGlobals, closure := clo, defaults := .none, kwdefaults := .none, doc := .none, pyModule := pm, annotations := none,
    code := .ref c, closureTuple := ct, builtins := builtinsNs }
noncomputable def lamCmp : Expr := callArg 0 (asgVal (lawSt 7))
noncomputable def cmpZ (h : Int) (ps : List Pc) (h' : Int) (qs : List Pc) : Int :=
  let a := h + (sgL ps : Nat); let b := h' + (sgL qs : Nat)
  let d := b2i (decide (b < a)) - b2i (decide (a < b))
  if d != 0 then d else b2i (decide (plLt ps qs)) - b2i (decide (plLt qs ps))
set_option maxHeartbeats 2000000 in
theorem c_lamCmp {k : Nat} {lam c r D r' D' : Addr} {q0 : Str} {clo : List (Str × Addr)} {pm ct : Value} {hd hd' : Int} {vs ws : List Value} {n n' : Nat} {ps qs : List Pc} {Q : Value → Led → Prop} (H : All C mg mb) (T : TabF C mg mb) (ho : AOk A 9) (hl : HasFn C N lam (lamFd lamCmp q0 clo pm c ct))
    (r1 : Row N r D hd vs n) (r2 : Row N r' D' hd' ws n') (hp : PcL N vs ps) (hq : PcL N ws qs) (h0 : 0 ≤ hd) (h1 : hd < 2 ^ 20) (h0' : 0 ≤ hd') (h1' : hd' < 2 ^ 20) (hlp : ps.length ≤ 2 ^ 10) (hlq : qs.length ≤ 2 ^ 10) (hb : sgL ps < 2 ^ 32) (hb' : sgL qs < 2 ^ 32)
    (q : ∀ t N', Ext N N' → Q (.int (cmpZ hd ps hd' qs) t) N') : WE C A (PySem.call (.ref lam) [.ref r, .ref r']) Q N Φ := by
  have G := H.G.P
  refine WE.call (CE.fnLam (binds := [("one", .ref r), ("two", .ref r')]) (k := 8) G.G ho hl rfl rfl fun L => ?_)
  have ho' := ho.deeper (env := callEnv (lamFd lamCmp q0 clo pm c ct) L lam)
  refine e_or2 ?_
  refine e_call rfl (e_glob G.G G.g_cmp ?_)
  refine cw_S G.f_cmp rfl ?_
  refine a_cons (e_call rfl (e_blt G.G G.n_len G.b_len (cw_blt rfl (a_cons (e_local (v := .ref r) rfl (a_nil ?_))))))
  refine len_R H T (ho'.le (by decide)) r1 hp h0 h1 (by lia) hb fun N1 t1 e1 => ?_
  refine a_cons (e_call rfl (e_blt G.G G.n_len G.b_len (cw_blt rfl (a_cons (e_local (v := .ref r') rfl (a_nil ?_))))))
  refine len_R H T (ho'.le (by decide)) (r2.mono e1) (hq.mono e1) h0' h1' (by lia) hb' fun N2 t2 e2 => ?_
  refine a_nil ?_
  refine c_cmpI G (ho'.le (by decide)) fun t3 => ?_
  refine o_tInt ?_
  have e12 := e1.trans e2
  by_cases hz : (b2i (decide (hd' + (sgL qs : Nat) < hd + (sgL ps : Nat))) - b2i (decide (hd + (sgL ps : Nat) < hd' + (sgL qs : Nat))) != 0) = true
  · refine ite_y hz ?_
    have : cmpZ hd ps hd' qs = b2i (decide (hd' + (sgL qs : Nat) < hd + (sgL ps : Nat))) - b2i (decide (hd + (sgL ps : Nat) < hd' + (sgL qs : Nat))) := by unfold cmpZ; exact if_pos hz
    rw [← this]
    exact q _ _ e12
  · refine ite_n hz ?_
    have : cmpZ hd ps hd' qs = b2i (decide (plLt ps qs)) - b2i (decide (plLt qs ps)) := by unfold cmpZ; exact if_neg hz
    have l1 : vs.length ≤ sizeLine := by rw [sizeLine_eq]; have := hp.length; lia
    have l2 : ws.length ≤ sizeLine := by rw [sizeLine_eq]; have := hq.length; lia
    refine e_call rfl (e_glob G.G G.g_cmp ?_)
    refine cw_S G.f_cmp rfl ?_
    refine a_cons (e_sub (e_local (v := .ref r') rfl (e_slice (e_part0 (e_part0 (e_part0 fun sl1 hsl1 => ?_))))))
    refine subT_slice G.F (.inr rfl) (.inr (.tail _ (e12 _ r2.obj))) (.inr (.head _)) .none .none .none (by decide) l2 pick_all fun a hA => ?_
    refine a_cons (e_sub (e_local (v := .ref r) rfl (e_slice (e_part0 (e_part0 (e_part0 fun sl2 hsl2 => ?_))))))
    refine subT_slice G.F (.inr rfl) (.inr (.tail _ (.tail _ (.tail _ (e12 _ r1.obj))))) (.inr (.head _)) .none .none .none (by decide) l1 pick_all fun b hB => ?_
    refine a_nil ?_
    refine c_cmpL G (ho'.le (by decide)) (.tail _ (.tail _ (.head _))) (.head _) (hq.mono (e12.trans (Ext.refl _).c4)) (hp.mono (e12.trans (Ext.refl _).c4)) fun t4 => ?_
    have e0 : cmpZ hd ps hd' qs = b2i (plLt ps qs) - b2i (plLt qs ps) := by rw [this]; simp
    rw [← e0]
    exact q _ _ (e12.trans (Ext.refl _).c4)
end Mine.Internal
end
section
open PySem PySem.W PyProof.Rows
namespace Mine.Internal
/-! Plain Lean: what the sorting tree gives when its questions are answered by an order -/
noncomputable def runK {α : Type} (lt : Nat → Nat → Bool) : KasT α → α
  | .ret a => a
  | .ask i j k => runK lt (k (lt i j))
theorem runK_bind {α β : Type} {lt : Nat → Nat → Bool} {f : α → KasT β} : ∀ (t : KasT α), runK lt (t.bind f) = runK lt (f (runK lt t))
  | .ret _ => rfl
  | .ask i j k => runK_bind (k (lt i j))
theorem td_get {α : Type} : ∀ {l l' : List α} {k i : Nat}, l.length = l'.length → (l.take k ++ l'.drop k)[i]? = if i < k then l[i]? else l'[i]?
  | [], [], _, _, _ => by simp
  | _ :: _, _ :: _, 0, _, _ => rfl
  | _ :: _, _ :: _, _ + 1, 0, _ => rfl
  | a :: l, b :: l', k + 1, i + 1, h => by
    show (l.take k ++ l'.drop k)[i]? = if i + 1 < k + 1 then l[i]? else l'[i]?
    rw [td_get (Nat.succ.inj h)]
    by_cases c : i < k
    · rw [if_pos c, if_pos (Nat.succ_lt_succ c)]
    · rw [if_neg c, if_neg fun x => c (Nat.lt_of_succ_lt_succ x)]
theorem td_len {α : Type} : ∀ {l l' : List α} {k : Nat}, l.length = l'.length → (l.take k ++ l'.drop k).length = l'.length
  | [], [], _, _ => by simp
  | _ :: _, _ :: _, 0, _ => rfl
  | _ :: _, _ :: _, _ + 1, h => congrArg (· + 1) (td_len (Nat.succ.inj h))
theorem app_l {A B D : List Nat} {k : Nat} (h : k < A.length) : (A ++ B ++ D)[k]? = A[k]? := by
  rw [List.append_assoc, List.getElem?_append_left h]
theorem app_m {A B D : List Nat} {t : Nat} (h : t < B.length) : (A ++ B ++ D)[A.length + t]? = B[t]? := by
  rw [List.append_assoc, List.getElem?_append_right (Nat.le_add_right _ _), Nat.add_sub_cancel_left, List.getElem?_append_left h]
theorem app_r {A B D : List Nat} {t : Nat} : (A ++ B ++ D)[A.length + B.length + t]? = D[t]? := by
  rw [List.getElem?_append_right (by rw [List.length_append]; exact Nat.le_add_right _ _), List.length_append, Nat.add_sub_cancel_left]
theorem n_rev {a b t : Nat} (h : t < b) : a + (a + b) - 1 - (a + t) = a + (b - 1 - t) := by
  rw [Nat.sub_sub, Nat.add_left_comm 1, Nat.add_sub_add_left, Nat.add_sub_assoc (by rw [Nat.add_comm]; exact h), Nat.sub_sub]
theorem n_lt {b t : Nat} (h : t < b) : b - 1 - t < b := Nat.lt_of_le_of_lt (Nat.sub_le _ _) (Nat.sub_lt (Nat.lt_of_le_of_lt (Nat.zero_le _) h) Nat.one_pos)
theorem rev_list {A B D : List Nat} {p : Array Nat} (h : p.toList = A ++ B ++ D) : (kas_rev p A.length (A.length + B.length)).toList = A ++ B.reverse ++ D := by
  have hs : p.size = A.length + B.length + D.length := by rw [← Array.length_toList, h, List.length_append, List.length_append]
  refine List.ext_getElem? fun k => ?_
  rw [Array.getElem?_toList]
  unfold kas_rev
  rw [getElem?_mirror_all (by rw [hs]; exact Nat.le_add_right _ _)]
  by_cases h1 : k < A.length
  · rw [if_neg (fun x => Nat.not_le_of_lt h1 x.1), ← Array.getElem?_toList, h, app_l h1, app_l h1]
  · obtain ⟨t, rfl⟩ := Nat.exists_eq_add_of_le (Nat.le_of_not_lt h1)
    by_cases h2 : t < B.length
    · rw [if_pos ⟨Nat.le_add_right _ _, Nat.add_lt_add_left h2 _⟩, n_rev h2, ← Array.getElem?_toList, h, app_m (n_lt h2), app_m (by rw [List.length_reverse]; exact h2), List.getElem?_reverse h2]
    · rw [if_neg (fun x => h2 (Nat.lt_of_add_lt_add_left x.2)), ← Array.getElem?_toList, h]
      obtain ⟨u, rfl⟩ := Nat.exists_eq_add_of_le (Nat.le_of_not_lt h2)
      have := app_r (A := A) (B := B.reverse) (D := D) (t := u)
      rw [List.length_reverse] at this
      rw [← Nat.add_assoc, app_r, this]
theorem bub_list {A B D : List Nat} {e : Nat} {p : Array Nat} (h : p.toList = A ++ B ++ e :: D) : (bubble p (A.length + B.length) (A.length + B.length - A.length)).toList = A ++ (e :: B) ++ D := by
  have hs : p.size = A.length + B.length + (D.length + 1) := by rw [← Array.length_toList, h, List.length_append, List.length_append, List.length_cons]
  refine List.ext_getElem? fun k => ?_
  rw [Array.getElem?_toList, getElem?_bubble (by lia) _ (by lia)]
  rw [Nat.sub_sub_self (Nat.le_add_right A.length B.length)]
  by_cases h1 : k < A.length
  · rw [if_neg (Nat.ne_of_lt h1), if_neg (fun x => Nat.lt_asymm x.1 h1), ← Array.getElem?_toList, h, app_l h1, app_l h1]
  · obtain ⟨t, rfl⟩ := Nat.exists_eq_add_of_le (Nat.le_of_not_lt h1)
    cases t with
    | zero =>
      rw [Nat.add_zero, if_pos rfl, ← Array.getElem?_toList, h]
      exact (app_r (t := 0)).trans (app_m (B := e :: B) (t := 0) (Nat.succ_pos _)).symm
    | succ j =>
      have h2 : ¬ A.length + (j + 1) = A.length := Nat.ne_of_gt (Nat.lt_add_of_pos_right (Nat.succ_pos _))
      by_cases h3 : j < B.length
      · rw [if_neg h2, if_pos ⟨Nat.lt_add_of_pos_right (Nat.succ_pos _), Nat.add_le_add_left h3 _⟩, ← Array.getElem?_toList, h]
        exact (app_m h3).trans (app_m (B := e :: B) (t := j + 1) (Nat.succ_lt_succ h3)).symm
      · rw [if_neg h2, if_neg (fun x => h3 (Nat.le_of_add_le_add_left x.2)), ← Array.getElem?_toList, h]
        obtain ⟨u, rfl⟩ := Nat.exists_eq_add_of_le (Nat.le_of_not_lt h3)
        have h4 := app_r (A := A) (B := e :: B) (D := D) (t := u)
        have h5 := app_r (A := A) (B := B) (D := e :: D) (t := u + 1)
        rw [show A.length + (e :: B).length + u = A.length + (B.length + u + 1) by rw [List.length_cons]; lia] at h4
        rw [show A.length + B.length + (u + 1) = A.length + (B.length + u + 1) by lia] at h5
        rw [h4, h5]; rfl
structure Ord (lt : Nat → Nat → Bool) : Prop where
  asym : ∀ i j, lt i j = true → lt j i = false
  tr : ∀ i j k, lt j i = false → lt k j = false → lt k i = false
noncomputable def Ahead (lt : Nat → Nat → Bool) (i j : Nat) : Prop := lt j i = false ∧ (lt i j = true ∨ i < j)
theorem place_ok {lt : Nat → Nat → Bool} (O : Ord lt) {p : Array Nat} {k : Nat} (hs : ∀ i j, i ≤ j → j < k → lt (p.getD j 0) (p.getD i 0) = false) : ∀ (f l r : Nat), r - l ≤ f → l ≤ r → r ≤ k →
    (∀ j, j < l → lt (p.getD k 0) (p.getD j 0) = false) → (∀ j, r ≤ j → j < k → lt (p.getD k 0) (p.getD j 0) = true) →
    ∃ x, runK lt (kas_place p k f l r) = x ∧ x ≤ k ∧ (∀ j, j < x → lt (p.getD k 0) (p.getD j 0) = false) ∧ (∀ j, x ≤ j → j < k → lt (p.getD k 0) (p.getD j 0) = true)
  | 0, l, r, hf, hlr, hrk, h1, h2 => ⟨l, rfl, by lia, h1, fun j hj hk => h2 j (by lia) hk⟩
  | f + 1, l, r, hf, hlr, hrk, h1, h2 => by
    unfold kas_place
    by_cases hc : l ≥ r
    · rw [if_pos hc]
      exact ⟨l, rfl, by lia, h1, fun j hj hk => h2 j (by lia) hk⟩
    · rw [if_neg hc]
      obtain ⟨m, hm, hm1, hm2⟩ : ∃ m, (l + r) / 2 = m ∧ l ≤ m ∧ m < r := ⟨_, rfl, by lia, by lia⟩
      show ∃ x, runK lt (if lt (p.getD k 0) (p.getD ((l + r) / 2) 0) = true then kas_place p k f l ((l + r) / 2) else kas_place p k f ((l + r) / 2 + 1) r) = x ∧ _
      rw [hm]
      clear hm hc
      cases hq : lt (p.getD k 0) (p.getD m 0) with
      | true =>
        rw [if_pos rfl]
        refine place_ok O hs f l m (Nat.sub_le_of_le_add (by have := Nat.sub_le_iff_le_add.mp hf; lia)) hm1 (by lia) h1 fun j hj hk => ?_
        cases hz : lt (p.getD k 0) (p.getD j 0) with
        | true => rfl
        | false =>
          have := O.tr _ _ _ (hs _ _ hj hk) hz
          rw [hq] at this
          cases this
      | false =>
        rw [if_neg Bool.false_ne_true]
        refine place_ok O hs f (m + 1) r (Nat.le_trans (Nat.sub_le_sub_left (Nat.succ_le_succ hm1) r) (Nat.pred_le_pred hf)) hm2 hrk (fun j hj => ?_) h2
        exact O.tr _ _ _ (hs j m (Nat.le_of_lt_succ hj) (Nat.lt_of_lt_of_le hm2 hrk)) hq
theorem Ord.irr {lt : Nat → Nat → Bool} (O : Ord lt) (i : Nat) : lt i i = false := by
  cases h : lt i i with
  | false => rfl
  | true => have := O.asym _ _ h; rw [h] at this; cases this
theorem getD_of {p : Array Nat} {l : List Nat} (h : p.toList = l) (k : Nat) : p.getD k 0 = l.getD k 0 := by
  rw [← h, List.getD_eq_getElem?_getD, Array.getElem?_toList, Array.getD_eq_getD_getElem?]
theorem bin_ok {lt : Nat → Nat → Bool} (O : Ord lt) : ∀ (f : Nat) (A : List Nat) (p : Array Nat), p.toList = A ++ List.range' A.length f → A.Pairwise (Ahead lt) → (∀ x ∈ A, x < A.length) →
    (runK lt (kas_bin f p A.length)).toList.Pairwise (Ahead lt) ∧ (runK lt (kas_bin f p A.length)).toList.Perm p.toList
  | 0, A, p, h, hp, hl => by
    show p.toList.Pairwise _ ∧ p.toList.Perm p.toList
    refine ⟨?_, List.Perm.refl _⟩
    rw [h]; simpa using hp
  | f + 1, A, p, h, hp, hl => by
    rw [List.range'_succ] at h
    have gk : p.getD A.length 0 = A.length := by
      rw [getD_of h, List.getD_eq_getElem?_getD, List.getElem?_append_right (Nat.le_refl _)]
      simp
    have gj : ∀ j (hj : j < A.length), p.getD j 0 = A[j] := fun j hj => by
      rw [getD_of h, List.getD_eq_getElem?_getD, List.getElem?_append_left hj, List.getElem?_eq_getElem hj]
      rfl
    have hs : ∀ i j, i ≤ j → j < A.length → lt (p.getD j 0) (p.getD i 0) = false := fun i j hij hj => by
      rw [gj j hj, gj i (by lia)]
      rcases Nat.lt_or_eq_of_le hij with h1 | h1
      · exact (List.pairwise_iff_getElem.mp hp i j (by lia) hj h1).1
      · subst h1; exact O.irr _
    refine Classical.byContradiction fun hn => ?_
    obtain ⟨x, hx, hxk, hlo, hhi⟩ := place_ok O hs A.length 0 A.length (by lia) (by lia) (Nat.le_refl _) (fun j hj => by lia) (fun j hj hk => by lia)
    refine hn ?_
    clear hn
    have hrun : runK lt (kas_bin (f + 1) p A.length) = runK lt (kas_bin f (bubble p A.length (A.length - x)) (A.length + 1)) := by
      show runK lt (KasT.bind _ _) = _
      rw [runK_bind, hx]
    rw [hrun]
    have lt1 : (A.take x).length = x := by rw [List.length_take]; lia
    have ld1 : (A.take x).length + (A.drop x).length = A.length := by rw [← List.length_append, List.take_append_drop]
    have hb := bub_list (A := A.take x) (B := A.drop x) (D := List.range' (A.length + 1) f) (e := A.length) (p := p) (by rw [List.take_append_drop]; exact h)
    rw [ld1, lt1] at hb
    have hlen : (A.take x ++ A.length :: A.drop x).length = A.length + 1 := by rw [List.length_append, List.length_cons]; lia
    have ih := bin_ok O f (A.take x ++ A.length :: A.drop x) (bubble p A.length (A.length - x)) (by rw [hb, hlen]) (by
      rw [List.pairwise_append]
      refine ⟨hp.sublist (List.take_sublist _ _), ?_, fun a ha b hb' => ?_⟩
      · rw [List.pairwise_cons]
        refine ⟨fun y hy => ?_, hp.sublist (List.drop_sublist _ _)⟩
        refine Classical.byContradiction fun hn => ?_
        obtain ⟨j, hj, e⟩ := List.getElem_of_mem hy
        refine hn ?_
        clear hn
        rw [List.length_drop] at hj
        rw [List.getElem_drop] at e
        have := hhi (x + j) (by lia) (by lia)
        rw [gk, gj _ (by lia), e] at this
        exact ⟨O.asym _ _ this, .inl this⟩
      · rcases List.mem_cons.mp hb' with rfl | hb'
        · obtain ⟨j, hj, e⟩ := List.getElem_of_mem ha
          rw [lt1] at hj
          rw [List.getElem_take] at e
          have := hlo j hj
          rw [gk, gj _ (by lia), e] at this
          exact ⟨this, .inr (hl a (List.mem_of_mem_take ha))⟩
        · have hp' := hp
          rw [← List.take_append_drop x A, List.pairwise_append] at hp'
          exact hp'.2.2 a ha b hb') (fun y hy => by
      rw [hlen]
      rcases List.mem_append.mp hy with hy | hy
      · have := hl y (List.mem_of_mem_take hy); lia
      · rcases List.mem_cons.mp hy with rfl | hy
        · lia
        · have := hl y (List.mem_of_mem_drop hy); lia)
    rw [hlen] at ih
    refine ⟨ih.1, ih.2.trans ?_⟩
    exact (bubble_perm _ _ _).toList
theorem at_k {A : List Nat} {f : Nat} {p : Array Nat} (h : p.toList = A ++ List.range' A.length (f + 1)) : p.getD A.length 0 = A.length := by
  rw [getD_of h, List.getD_eq_getElem?_getD, List.getElem?_append_right (Nat.le_refl _), List.range'_succ]
  simp
theorem at_last {A : List Nat} {e : Nat} {D : List Nat} {p : Array Nat} (h : p.toList = (A ++ [e]) ++ D) : p.getD ((A ++ [e]).length - 1) 0 = e := by
  rw [getD_of h, List.getD_eq_getElem?_getD, List.append_assoc, List.getElem?_append_right (by simp)]
  simp
theorem asc_ext {lt : Nat → Nat → Bool} (O : Ord lt) : ∀ (f : Nat) (A : List Nat) (e : Nat) (p : Array Nat), p.toList = (A ++ [e]) ++ List.range' (A ++ [e]).length f → (A ++ [e]).Pairwise (Ahead lt) → (∀ x ∈ A ++ [e], x < (A ++ [e]).length) →
    ∃ A' e' g, runK lt (kas_asc p f (A ++ [e]).length) = (A' ++ [e']).length ∧ p.toList = (A' ++ [e']) ++ List.range' (A' ++ [e']).length g ∧ (A' ++ [e']).Pairwise (Ahead lt) ∧ (∀ x ∈ A' ++ [e'], x < (A' ++ [e']).length) ∧ (A' ++ [e']).length + g = (A ++ [e]).length + f ∧
      (0 < g → lt (A' ++ [e']).length e' = true) ∧ (A' ++ [e'] = (A ++ [e]) ++ List.range' (A ++ [e]).length ((A' ++ [e']).length - (A ++ [e]).length))
  | 0, A, e, p, h, hp, hl => ⟨A, e, 0, rfl, h, hp, hl, rfl, fun x => by lia, by simp⟩
  | f + 1, A, e, p, h, hp, hl => by
    have gk := at_k h
    have ge := at_last h
    have hrun : runK lt (kas_asc p (f + 1) (A ++ [e]).length) = if lt (A ++ [e]).length e = true then (A ++ [e]).length else runK lt (kas_asc p f ((A ++ [e]).length + 1)) := by
      show runK lt (if lt (p.getD (A ++ [e]).length 0) (p.getD ((A ++ [e]).length - 1) 0) = true then _ else _) = _
      rw [gk, ge]
      split <;> rfl
    rw [hrun]
    cases hq : lt (A ++ [e]).length e with
    | true => exact ⟨A, e, f + 1, if_pos rfl, h, hp, hl, rfl, fun _ => hq, by simp⟩
    | false =>
      rw [if_neg Bool.false_ne_true]
      have hlen : ((A ++ [e]) ++ [(A ++ [e]).length]).length = (A ++ [e]).length + 1 := by rw [List.length_append]; rfl
      have hpe := hp
      rw [List.pairwise_append] at hpe
      obtain ⟨A', e', g, h1, h2, h3, h4, h5, h6, h7⟩ := asc_ext O f (A ++ [e]) (A ++ [e]).length p (by
        rw [hlen, h, List.range'_succ, List.append_assoc, List.append_assoc, List.append_assoc]; rfl) (by
        rw [List.pairwise_append]
        refine ⟨hp, List.pairwise_singleton _ _, fun a ha b hb => ?_⟩
        rw [List.mem_singleton.mp hb]
        refine ⟨?_, .inr (hl a ha)⟩
        rcases List.mem_append.mp ha with ha' | ha'
        · exact O.tr _ _ _ (hpe.2.2 a ha' e (.head _)).1 hq
        · rw [List.mem_singleton.mp ha']; exact hq) (fun x hx => by
        rw [hlen]
        rcases List.mem_append.mp hx with hx | hx
        · have := hl x hx; lia
        · rw [List.mem_singleton.mp hx]; lia)
      rw [hlen] at h1 h5 h7
      refine ⟨A', e', g, h1, h2, h3, h4, by lia, h6, ?_⟩
      have h8 : (A ++ [e]).length + 1 ≤ (A' ++ [e']).length := by
        have := congrArg List.length h7
        simp only [List.length_append, List.length_cons, List.length_nil] at this ⊢
        lia
      have hd : (A' ++ [e']).length - (A ++ [e]).length = ((A' ++ [e']).length - ((A ++ [e]).length + 1)) + 1 := (Nat.succ_pred_eq_of_pos (Nat.sub_pos_of_lt h8)).symm
      rw [hd, List.range'_succ]
      exact h7.trans (by rw [List.append_assoc]; rfl)
structure DInv (lt : Nat → Nat → Bool) (P E : List Nat) : Prop where
  pw : (E ++ P.reverse).Pairwise (Ahead lt)
  eq : ∀ e ∈ E, ∀ e' ∈ E, lt e e' = false
  st : ∀ e ∈ E, ∀ y ∈ P, lt e y = true
theorem desc_ok {lt : Nat → Nat → Bool} (O : Ord lt) : ∀ (f : Nat) (P E : List Nat) (l : Nat) (p : Array Nat), p.toList = (P ++ (E ++ [l])) ++ List.range' (P ++ (E ++ [l])).length f → DInv lt P (E ++ [l]) → (∀ x ∈ P ++ (E ++ [l]), x < (P ++ (E ++ [l])).length) →
    ∃ P' E' l' g p', runK lt (kas_desc f p (P ++ (E ++ [l])).length E.length) = (p', (P' ++ (E' ++ [l'])).length, E'.length) ∧ p'.toList = (P' ++ (E' ++ [l'])) ++ List.range' (P' ++ (E' ++ [l'])).length g ∧ DInv lt P' (E' ++ [l']) ∧
      (∀ x ∈ P' ++ (E' ++ [l']), x < (P' ++ (E' ++ [l'])).length) ∧ (P' ++ (E' ++ [l'])).length + g = (P ++ (E ++ [l])).length + f
  | 0, P, E, l, p, h, I, hl => ⟨P, E, l, 0, p, rfl, h, I, hl, rfl⟩
  | f + 1, P, E, l, p, h, I, hl => by
    have gk := at_k h
    have ge : p.getD ((P ++ (E ++ [l])).length - 1) 0 = l := by
      rw [← List.append_assoc] at h ⊢
      exact at_last h
    have hl0 : l ∈ E ++ [l] := List.mem_append_right _ (.head _)
    generalize hn : (P ++ (E ++ [l])).length = n at *
    have hn' : P.length + (E.length + 1) = n := by rw [← hn]; simp
    have hrun : runK lt (kas_desc (f + 1) p n E.length) = if lt n l = true then (if E.length > 0 then runK lt (kas_desc f (kas_rev p (n - (E.length + 1)) n) (n + 1) 0) else runK lt (kas_desc f p (n + 1) 0)) else if lt l n = true then (p, n, E.length) else runK lt (kas_desc f p (n + 1) (E.length + 1)) := by
      show runK lt (if lt (p.getD n 0) (p.getD (n - 1) 0) = true then _ else _) = _
      rw [gk, ge]
      split
      · split <;> rfl
      · show runK lt (if lt l n = true then _ else _) = _
        split <;> rfl
    rw [hrun]
    cases hq : lt n l with
    | true =>
      rw [if_pos rfl]
      have key : ∀ y ∈ (E ++ [l]) ++ P.reverse, lt n y = true := fun y hy => by
        have h1 : lt y l = false := by
          rcases List.mem_append.mp hy with hy | hy
          · exact I.eq y hy l hl0
          · exact O.asym _ _ (I.st l hl0 y (List.mem_reverse.mp hy))
        cases h2 : lt n y with
        | true => rfl
        | false => have := O.tr _ _ _ h1 h2; rw [hq] at this; cases this
      obtain ⟨p2, e2, h2⟩ : ∃ p2, (if E.length > 0 then runK lt (kas_desc f (kas_rev p (n - (E.length + 1)) n) (n + 1) 0) else runK lt (kas_desc f p (n + 1) 0)) = runK lt (kas_desc f p2 (n + 1) 0) ∧ p2.toList = P ++ (E ++ [l]).reverse ++ List.range' n (f + 1) := by
        by_cases hE : E.length > 0
        · refine ⟨_, if_pos hE, ?_⟩
          have := rev_list (A := P) (B := E ++ [l]) (D := List.range' n (f + 1)) h
          rw [show P.length + (E ++ [l]).length = n by simp; lia, show P.length = n - (E.length + 1) from Nat.eq_sub_of_add_eq hn'] at this
          exact this
        · refine ⟨_, if_neg hE, ?_⟩
          have : E = [] := List.length_eq_zero_iff.mp (by lia)
          subst this
          exact h
      rw [e2]
      have hlen : ((P ++ (E ++ [l]).reverse) ++ ([] ++ [n])).length = n + 1 := by simp; lia
      obtain ⟨P', E', l', g, p', r1, r2, r3, r4, r5⟩ := desc_ok O f (P ++ (E ++ [l]).reverse) [] n p2 (by rw [hlen, h2, List.range'_succ, List.append_assoc, List.append_assoc, List.append_assoc, List.append_assoc]; rfl)
        ⟨by
          rw [List.reverse_append, List.reverse_reverse]
          show (n :: ((E ++ [l]) ++ P.reverse)).Pairwise _
          rw [List.pairwise_cons]
          exact ⟨fun y hy => ⟨O.asym _ _ (key y hy), .inl (key y hy)⟩, I.pw⟩,
         fun e he e' he' => by
          rw [show e = n by simpa using he, show e' = n by simpa using he']; exact O.irr _,
         fun e he y hy => by
          rw [show e = n by simpa using he]
          refine key y ?_
          rcases List.mem_append.mp hy with hy | hy
          · exact List.mem_append_right _ (List.mem_reverse.mpr hy)
          · exact List.mem_append_left _ (List.mem_reverse.mp hy)⟩
        (fun x hx => by
          rw [hlen]
          rcases List.mem_append.mp hx with hx | hx
          · have := hl x (by
              rcases List.mem_append.mp hx with hx | hx
              · exact List.mem_append_left _ hx
              · exact List.mem_append_right _ (List.mem_reverse.mp hx))
            lia
          · rw [show x = n by simpa using hx]; lia)
      rw [hlen] at r1 r5
      exact ⟨P', E', l', g, p', r1, r2, r3, r4, by lia⟩
    | false =>
      rw [if_neg Bool.false_ne_true]
      cases hq2 : lt l n with
      | true => exact ⟨P, E, l, f + 1, p, by rw [if_pos rfl, hn], by rw [hn]; exact h, I, by rw [hn]; exact hl, by rw [hn]⟩
      | false =>
        rw [if_neg Bool.false_ne_true]
        have hlen : (P ++ ((E ++ [l]) ++ [n])).length = n + 1 := by simp; lia
        have kn : ∀ e ∈ E ++ [l], lt n e = false := fun e he => O.tr _ _ _ (I.eq l hl0 e he) hq
        have kn' : ∀ e ∈ E ++ [l], lt e n = false := fun e he => O.tr _ _ _ hq2 (I.eq e he l hl0)
        have ky : ∀ y ∈ P, lt n y = true := fun y hy => by
          cases h2 : lt n y with
          | true => rfl
          | false => have := O.tr _ _ _ h2 hq2; rw [I.st l hl0 y hy] at this; cases this
        have pw := I.pw
        rw [List.pairwise_append] at pw
        obtain ⟨P', E', l', g, p', r1, r2, r3, r4, r5⟩ := desc_ok O f P (E ++ [l]) n p (by rw [hlen, h, List.range'_succ]; simp)
          ⟨by
            rw [List.append_assoc, List.pairwise_append]
            refine ⟨pw.1, ?_, fun a ha b hb => ?_⟩
            · show (n :: P.reverse).Pairwise _
              rw [List.pairwise_cons]
              exact ⟨fun y hy => ⟨O.asym _ _ (ky y (List.mem_reverse.mp hy)), .inl (ky y (List.mem_reverse.mp hy))⟩, pw.2.1⟩
            · rcases List.mem_cons.mp hb with rfl | hb
              · exact ⟨kn a ha, .inr (hl a (List.mem_append_right _ ha))⟩
              · exact pw.2.2 a ha b hb,
           fun e he e' he' => by
            rcases List.mem_append.mp he with he | he <;> rcases List.mem_append.mp he' with he' | he'
            · exact I.eq e he e' he'
            · rw [List.mem_singleton.mp he']; exact kn' e he
            · rw [List.mem_singleton.mp he]; exact kn e' he'
            · rw [List.mem_singleton.mp he, List.mem_singleton.mp he']; exact O.irr _,
           fun e he y hy => by
            rcases List.mem_append.mp he with he | he
            · exact I.st e he y hy
            · rw [List.mem_singleton.mp he]; exact ky y hy⟩
          (fun x hx => by
            rw [hlen]
            rcases List.mem_append.mp hx with hx | hx
            · have := hl x (List.mem_append_left _ hx); lia
            · rcases List.mem_append.mp hx with hx | hx
              · have := hl x (List.mem_append_right _ hx); lia
              · rw [List.mem_singleton.mp hx]; lia)
        rw [hlen, List.length_append] at r1
        rw [hlen] at r5
        exact ⟨P', E', l', g, p', r1, r2, r3, r4, by lia⟩
end Mine.Internal
end
section
open PySem PySem.W PyProof.Rows
namespace Mine.Internal
variable {lt : Nat → Nat → Bool}
noncomputable def Good (lt : Nat → Nat → Bool) (n : Nat) (r : Nat × Array Nat) : Prop := ∃ B g, r.1 = B.length ∧ r.2.toList = B ++ List.range' B.length g ∧ B.Pairwise (Ahead lt) ∧ (∀ x ∈ B, x < B.length) ∧ B.length + g = n ∧ 1 ≤ B.length
theorem tail_ok (O : Ord lt) {n : Nat} {L : List Nat} {g : Nat} {p3 : Array Nat} (hL : L ≠ []) (h : p3.toList = L.reverse ++ List.range' L.length g) (hp : L.Pairwise (Ahead lt)) (hb : ∀ x ∈ L, x < L.length) (hn : L.length + g = n) : Good lt n (runK lt (kas_tail3 L.length n p3)) := by
  unfold kas_tail3
  rw [runK_bind]
  have hr := rev_list (A := []) (B := L.reverse) (D := List.range' L.length g) (p := p3) (by rw [h]; rfl)
  rw [List.reverse_reverse, List.length_reverse] at hr
  have hr' : (kas_rev p3 0 L.length).toList = L ++ List.range' L.length g := by simpa using hr
  generalize kas_rev p3 0 L.length = p4 at hr' ⊢
  have hd := List.dropLast_concat_getLast hL
  generalize L.dropLast = A at hd
  generalize L.getLast hL = e at hd
  subst hd
  rw [show n - (A ++ [e]).length = g by rw [← hn, Nat.add_sub_cancel_left]]
  obtain ⟨A', e', g', h1, h2, h3, h4, h5, _, _⟩ := asc_ext O g A e p4 hr' hp hb
  rw [h1]
  exact ⟨A' ++ [e'], g', rfl, h2, h3, h4, by lia, by simp⟩
theorem descPart_ok (O : Ord lt) {n m g : Nat} {B : List Nat} {p : Array Nat} (h : p.toList = B.reverse ++ List.range' m g) (hm : B.length = m) (hp : B.Pairwise (Ahead lt)) (hb : ∀ x ∈ B, x < m) (hn : m + g = n) (hg : 0 < g) (hlt : ∀ y ∈ B, lt m y = true) : Good lt n (runK lt (kas_descPart m n p)) := by
  unfold kas_descPart
  rw [runK_bind]
  obtain ⟨f, rfl⟩ : ∃ f, g = f + 1 := ⟨g - 1, by lia⟩
  have hlen : (B.reverse ++ ([] ++ [m])).length = m + 1 := by simp; lia
  obtain ⟨P', E', l', g', p', r1, r2, r3, r4, r5⟩ := desc_ok O f B.reverse [] m p (by rw [hlen, h, List.range'_succ]; simp)
    ⟨by
      rw [List.reverse_reverse]
      show (m :: B).Pairwise _
      rw [List.pairwise_cons]
      exact ⟨fun y hy => ⟨O.asym _ _ (hlt y hy), .inl (hlt y hy)⟩, hp⟩,
     fun e he e' he' => by
      rw [show e = m by simpa using he, show e' = m by simpa using he']; exact O.irr _,
     fun e he y hy => by
      rw [show e = m by simpa using he]
      exact hlt y (List.mem_reverse.mp hy)⟩
    (fun x hx => by
      rw [hlen]
      rcases List.mem_append.mp hx with hx | hx
      · have := hb x (List.mem_reverse.mp hx); lia
      · rw [show x = m by simpa using hx]; lia)
  rw [hlen] at r1 r5
  have r1' : runK lt (kas_desc (n - (m + 1)) p (m + 1) 0) = (p', (P' ++ (E' ++ [l'])).length, E'.length) := by
    rw [show n - (m + 1) = f by rw [← hn, ← Nat.add_assoc, Nat.add_right_comm, Nat.add_sub_cancel_left]]; exact r1
  rw [r1']
  dsimp only
  have hN : P'.length + (E'.length + 1) = (P' ++ (E' ++ [l'])).length := by simp
  have hfin : ∀ p3 : Array Nat, p3.toList = P' ++ (E' ++ [l']).reverse ++ List.range' (P' ++ (E' ++ [l'])).length g' → Good lt n (runK lt (kas_tail3 (P' ++ (E' ++ [l'])).length n p3)) := fun p3 h3 => by
    have hl : (E' ++ [l'] ++ P'.reverse).length = (P' ++ (E' ++ [l'])).length := by simp; lia
    rw [← hl]
    refine tail_ok O (g := g') (by simp) ?_ r3.pw (fun x hx => ?_) (by rw [hl]; lia)
    · rw [h3, hl]; simp
    · rw [hl]
      refine r4 x ?_
      rcases List.mem_append.mp hx with hx | hx
      · exact List.mem_append_right _ hx
      · exact List.mem_append_left _ (List.mem_reverse.mp hx)
  by_cases hE : E'.length > 0
  · rw [if_pos hE]
    refine hfin _ ?_
    have := rev_list (A := P') (B := E' ++ [l']) (D := List.range' (P' ++ (E' ++ [l'])).length g') (p := p') r2
    rw [show P'.length + (E' ++ [l']).length = (P' ++ (E' ++ [l'])).length by simp, show P'.length = (P' ++ (E' ++ [l'])).length - (E'.length + 1) from Nat.eq_sub_of_add_eq hN] at this
    exact this
  · rw [if_neg hE]
    refine hfin _ ?_
    have : E' = [] := List.length_eq_zero_iff.mp (by lia)
    subst this
    exact r2
theorem count_ok (O : Ord lt) {n : Nat} (hn : 1 ≤ n) : Good lt n (runK lt (kas_count n (List.toArray (List.range n)))) := by
  unfold kas_count
  rw [runK_bind]
  have h0 : (List.toArray (List.range n)).toList = ([] ++ [0]) ++ List.range' ([] ++ [0] : List Nat).length (n - 1) := by
    show List.range n = 0 :: List.range' 1 (n - 1)
    rw [List.range_eq_range', show n = (n - 1) + 1 by lia, List.range'_succ]
    simp
  obtain ⟨A, e, g, h1, h2, h3, h4, h5, h6, h7⟩ := asc_ext O (n - 1) [] 0 (List.toArray (List.range n)) h0 (List.pairwise_singleton _ _) (fun x hx => by simp at hx; subst hx; simp)
  have h1' : runK lt (kas_asc (List.toArray (List.range n)) (n - 1) 1) = (A ++ [e]).length := h1
  rw [h1']
  have h5' : (A ++ [e]).length + g = n := by
    have : ([] ++ [0] : List Nat).length = 1 := rfl
    lia
  generalize List.toArray (List.range n) = p at h0 h1 h1' h2 ⊢
  have good : Good lt n ((A ++ [e]).length, p) := ⟨A ++ [e], g, rfl, h2, h3, h4, h5', by simp⟩
  by_cases hm : ((A ++ [e]).length == n) = true
  · rw [if_pos hm]; exact good
  · rw [if_neg hm]
    have hg : 0 < g := by
      rcases Nat.eq_zero_or_pos g with hz | hz
      · exact absurd (by rw [beq_iff_eq]; lia) hm
      · exact hz
    have hme := h6 hg
    have hl0 : e ∈ A ++ [e] := List.mem_append_right _ (.head _)
    by_cases h11 : (A ++ [e]).length > 1
    · rw [if_pos h11]
      show Good lt n (runK lt (if lt (p.getD 0 0) (p.getD ((A ++ [e]).length - 1) 0) = true then _ else _))
      have gz : p.getD 0 0 = 0 := by rw [getD_of h0]; rfl
      rw [gz, at_last h2]
      cases hq : lt 0 e with
      | true => rw [if_pos rfl]; exact good
      | false =>
        rw [if_neg Bool.false_ne_true]
        have hr := rev_list (A := []) (B := A ++ [e]) (D := List.range' (A ++ [e]).length g) (p := p) h2
        refine descPart_ok O (B := A ++ [e]) (g := g) (by simpa using hr) rfl h3 h4 h5' hg fun y hy => ?_
        have hy0 : lt y 0 = false := by
          rcases Nat.eq_zero_or_pos y with hz | hz
          · rw [hz]; exact O.irr _
          · obtain ⟨T, hT⟩ : ∃ T, A ++ [e] = 0 :: T := ⟨_, h7⟩
            have h3' := h3
            rw [hT] at hy h3'
            rw [List.pairwise_cons] at h3'
            rcases List.mem_cons.mp hy with hy | hy
            · lia
            · exact (h3'.1 y hy).1
        cases h8 : lt (A ++ [e]).length y with
        | true => rfl
        | false =>
          have := O.tr _ _ _ (O.tr _ _ _ hq hy0) h8
          rw [hme] at this; cases this
    · rw [if_neg h11]
      have hA : A = [] := List.length_eq_zero_iff.mp (by
        have : (A ++ [e]).length = A.length + 1 := by simp
        lia)
      subst hA
      exact descPart_ok O (B := [] ++ [e]) (g := g) (by simpa using h2) rfl h3 h4 h5' hg fun y hy => by rw [show y = e by simpa using hy]; exact hme
theorem sort_ok (O : Ord lt) {n : Nat} (hn : 1 ≤ n) : (runK lt (kas_sort n)).toList.Pairwise (Ahead lt) ∧ (∀ x ∈ (runK lt (kas_sort n)).toList, x < n) ∧ (runK lt (kas_sort n)).toList.length = n := by
  unfold kas_sort
  rw [runK_bind]
  obtain ⟨B, g, h1, h2, h3, h4, h5, h6⟩ := count_ok O hn
  generalize runK lt (kas_count n (List.toArray (List.range n))) = r at h1 h2 ⊢
  have hmem : ∀ x ∈ r.2.toList, x < n := fun x hx => by
    rw [h2] at hx
    rcases List.mem_append.mp hx with hx | hx
    · have := h4 x hx; lia
    · rw [List.mem_range'_1] at hx; lia
  have hlen : r.2.toList.length = n := by rw [h2]; simp; lia
  by_cases hr : r.1 < n
  · rw [if_pos hr, show max r.1 1 = B.length by lia, show n - B.length = g by rw [← h5, Nat.add_sub_cancel_left]]
    obtain ⟨q1, q2⟩ := bin_ok O g B r.2 h2 h3 h4
    exact ⟨q1, fun x hx => hmem x (q2.mem_iff.mp hx), by rw [q2.length_eq, hlen]⟩
  · rw [if_neg hr]
    show r.2.toList.Pairwise _ ∧ (∀ x ∈ r.2.toList, x < n) ∧ r.2.toList.length = n
    refine ⟨?_, hmem, hlen⟩
    have : g = 0 := by lia
    subst this
    rw [h2]; simpa using h3
theorem Ahead.no {i j : Nat} (h : Ahead lt i j) (h' : Ahead lt j i) : False := by
  rcases h.2 with h1 | h1
  · rw [h'.1] at h1; cases h1
  · rcases h'.2 with h2 | h2
    · rw [h.1] at h2; cases h2
    · lia
theorem ahead_uniq : ∀ {a b : List Nat}, a.Perm b → a.Pairwise (Ahead lt) → b.Pairwise (Ahead lt) → a = b
  | [], b, h, _, _ => (List.nil_perm.mp h).symm
  | x :: a, [], h, _, _ => by cases h.length_eq
  | x :: a, y :: b, h, ha, hb => by
    rw [List.pairwise_cons] at ha hb
    have hx : x ∈ y :: b := h.mem_iff.mp (.head _)
    have hy : y ∈ x :: a := h.mem_iff.mpr (.head _)
    rcases List.mem_cons.mp hx with e | hx
    · subst e
      rw [ahead_uniq (List.perm_cons x |>.mp h) ha.2 hb.2]
    · rcases List.mem_cons.mp hy with e | hy
      · subst e
        rw [ahead_uniq (List.perm_cons y |>.mp h) ha.2 hb.2]
      · exact ((ha.1 y hy).no (hb.1 x hx)).elim
theorem few : ∀ (n : Nat) (a : List Nat), a.Nodup → (∀ x ∈ a, x < n) → a.length ≤ n
  | 0, a, _, h => by
    cases a with
    | nil => exact Nat.le_refl _
    | cons x a => exact absurd (h x (.head _)) (Nat.not_lt_zero _)
  | n + 1, a, hd, h => by
    by_cases hn : n ∈ a
    · have h1 := few n (a.erase n) (hd.erase n) (fun x hx => by
        have h2 := (hd.mem_erase_iff).mp hx
        have := h x h2.2
        have := h2.1
        lia)
      rw [List.length_erase_of_mem hn] at h1
      lia
    · have := few n a hd (fun x hx => by
        have := h x hx
        have : x ≠ n := fun e => hn (e ▸ hx)
        lia)
      lia
theorem full : ∀ (n : Nat) (a : List Nat), a.Nodup → (∀ x ∈ a, x < n) → a.length = n → a.Perm (List.range n)
  | 0, a, _, _, h => by rw [List.length_eq_zero_iff.mp h]; exact List.Perm.refl _
  | n + 1, a, hd, h, hl => by
    have hn : n ∈ a := by
      by_cases hn : n ∈ a
      · exact hn
      · have := few n a hd (fun x hx => by
          have := h x hx
          have : x ≠ n := fun e => hn (e ▸ hx)
          lia)
        lia
    have h1 := full n (a.erase n) (hd.erase n) (fun x hx => by
      have h2 := (hd.mem_erase_iff).mp hx
      have := h x h2.2
      have := h2.1
      lia) (by rw [List.length_erase_of_mem hn]; lia)
    refine (List.perm_cons_erase hn).trans ?_
    rw [List.range_succ]
    exact (h1.cons n).trans (List.perm_append_singleton n _).symm
theorem Ahead.nodup (O : Ord lt) {a : List Nat} (h : a.Pairwise (Ahead lt)) : a.Nodup :=
  h.imp fun {x y} r e => by subst e; exact r.no r
theorem sort_perm (O : Ord lt) {n : Nat} (hn : 1 ≤ n) : (runK lt (kas_sort n)).toList.Perm (List.range n) :=
  let ⟨h1, h2, h3⟩ := sort_ok O hn
  full n _ (Ahead.nodup O h1) h2 h3
end Mine.Internal
end
section
open PySem PySem.W PyProof.Rows
namespace Mine.Internal
variable {lt : Nat → Nat → Bool} {n : Nat}
noncomputable def Asks (n : Nat) {α : Type} (R : α → Prop) : KasT α → Prop
  | .ret a => R a
  | .ask i j k => i < n ∧ j < n ∧ ∀ b, Asks n R (k b)
theorem Asks.bind {α β : Type} {R : α → Prop} {R' : β → Prop} {f : α → KasT β} (hf : ∀ a, R a → Asks n R' (f a)) : ∀ (t : KasT α), Asks n R t → Asks n R' (t.bind f)
  | .ret a, h => hf a h
  | .ask i j k, h => ⟨h.1, h.2.1, fun b => Asks.bind hf (k b) (h.2.2 b)⟩
noncomputable def In (n : Nat) (p : Array Nat) : Prop := ∀ x ∈ p.toList, x < n
theorem In.get {p : Array Nat} (h : In n p) (hn : 0 < n) (i : Nat) : p.getD i 0 < n := by
  rw [Array.getD_eq_getD_getElem?]
  cases e : p[i]? with
  | none => exact hn
  | some x =>
    refine h x ?_
    rw [← Array.getElem?_toList] at e
    exact List.mem_of_getElem? e
theorem In.rev {p : Array Nat} (h : In n p) (i j : Nat) : In n (kas_rev p i j) := fun x hx => h x ((mirror_perm _ _ _ _).toList.mem_iff.mp hx)
theorem In.bub {p : Array Nat} (h : In n p) (i j : Nat) : In n (bubble p i j) := fun x hx => h x ((bubble_perm _ _ _).toList.mem_iff.mp hx)
theorem asks_asc (hn : 0 < n) {p : Array Nat} (h : In n p) : ∀ f m, Asks n (fun _ => True) (kas_asc p f m)
  | 0, m => trivial
  | f + 1, m => ⟨h.get hn _, h.get hn _, fun b => by
    dsimp only
    split
    · exact trivial
    · exact asks_asc hn h f (m + 1)⟩
theorem asks_place (hn : 0 < n) {p : Array Nat} (h : In n p) (k : Nat) : ∀ f l r, Asks n (fun _ => True) (kas_place p k f l r)
  | 0, l, r => trivial
  | f + 1, l, r => by
    unfold kas_place
    split
    · exact trivial
    · refine ⟨h.get hn _, h.get hn _, fun b => ?_⟩
      dsimp only
      split
      · exact asks_place hn h k f l _
      · exact asks_place hn h k f _ r
theorem asks_desc (hn : 0 < n) : ∀ f (p : Array Nat) (m q : Nat), In n p → Asks n (fun r => In n r.1) (kas_desc f p m q)
  | 0, p, m, q, h => h
  | f + 1, p, m, q, h => ⟨h.get hn _, h.get hn _, fun b => by
    dsimp only
    split
    · split
      · exact asks_desc hn f _ _ _ (h.rev _ _)
      · exact asks_desc hn f _ _ _ h
    · refine ⟨h.get hn _, h.get hn _, fun c => ?_⟩
      dsimp only
      split
      · exact h
      · exact asks_desc hn f _ _ _ h⟩
theorem asks_tail3 (hn : 0 < n) {m r : Nat} {p : Array Nat} (h : In n p) : Asks n (fun r => In n r.2) (kas_tail3 m r p) := by
  unfold kas_tail3
  refine Asks.bind (R := fun _ => True) (fun a _ => ?_) _ (asks_asc hn (h.rev _ _) _ _)
  exact h.rev _ _
theorem asks_descPart (hn : 0 < n) {m r : Nat} {p : Array Nat} (h : In n p) : Asks n (fun r => In n r.2) (kas_descPart m r p) := by
  unfold kas_descPart
  refine Asks.bind (fun a ha => ?_) _ (asks_desc hn _ _ _ _ h)
  split
  · exact asks_tail3 hn (ha.rev _ _)
  · exact asks_tail3 hn ha
theorem asks_count (hn : 0 < n) {r : Nat} {p : Array Nat} (h : In n p) : Asks n (fun r => In n r.2) (kas_count r p) := by
  unfold kas_count
  refine Asks.bind (fun a _ => ?_) _ (asks_asc hn h _ _)
  split
  · exact h
  · split
    · refine ⟨h.get hn _, h.get hn _, fun b => ?_⟩
      dsimp only
      split
      · exact h
      · exact asks_descPart hn (h.rev _ _)
    · exact asks_descPart hn h
theorem asks_bin (hn : 0 < n) : ∀ f (p : Array Nat) (k : Nat), In n p → Asks n (fun r => In n r) (kas_bin f p k)
  | 0, p, k, h => h
  | f + 1, p, k, h => by
    unfold kas_bin
    exact Asks.bind (fun a _ => asks_bin hn f _ _ (h.bub _ _)) _ (asks_place hn h _ _ _ _)
theorem asks_sort (hn : 0 < n) : Asks n (fun r => In n r) (kas_sort n) := by
  unfold kas_sort
  refine Asks.bind (fun a ha => ?_) _ (asks_count hn (fun x hx => by simpa using hx))
  split
  · exact asks_bin hn _ _ _ ha
  · exact ha
theorem kasWp_asks {α : Type} {R : α → Prop} {cmp : Nat → Nat → (Bool → Shared → Prop) → Shared → Prop} {I : Shared → Prop} {Q : α → Shared → Prop} (hc : ∀ i j s C, i < n → j < n → I s → (∀ s', I s' → C (lt i j) s') → cmp i j C s) :
    ∀ (t : KasT α) (s : Shared), Asks n R t → I s → (∀ s', I s' → Q (runK lt t) s') → t.kasWp cmp Q s
  | .ret a, s, _, hs, h => h s hs
  | .ask i j k, s, ha, hs, h => hc i j s _ ha.1 ha.2.1 hs fun s' hs' => kasWp_asks hc (k (lt i j)) s' (ha.2.2 _) hs' h
theorem kasWp_sort {cmp : Nat → Nat → (Bool → Shared → Prop) → Shared → Prop} {I : Shared → Prop} {Q : Array Nat → Shared → Prop} {s : Shared} (hn : 0 < n) (O : Ord lt) (hc : ∀ i j s C, i < n → j < n → I s → (∀ s', I s' → C (lt i j) s') → cmp i j C s) (hs : I s)
    (q : ∀ p s', p.toList.Pairwise (Ahead lt) → p.toList.Perm (List.range n) → I s' → Q p s') : (kas_sort n).kasWp cmp Q s :=
  kasWp_asks hc _ _ (asks_sort hn) hs fun s' hs' => q _ s' (sort_ok O hn).1 (sort_perm O hn) hs'
end Mine.Internal
end
section
open PySem PySem.W PyProof.Rows
namespace Mine.Internal
theorem pn_inj {p q : Pc} (h : pn p = pn q) : p = q := by
  obtain ⟨a, b⟩ := p; obtain ⟨c, d⟩ := q
  cases a <;> cases b <;> cases c <;> cases d <;> first | rfl | (exact absurd h (by decide))
theorem plLt_asym : ∀ (ps qs : List Pc), plLt ps qs = true → plLt qs ps = false
  | [], [], h => by cases h
  | _ :: _, [], h => by cases h
  | [], _ :: _, _ => rfl
  | p :: ps, q :: qs, h => by
    rw [plLt_c] at h ⊢
    by_cases e : p = q
    · rw [if_pos e] at h; rw [if_pos e.symm]; exact plLt_asym ps qs h
    · rw [if_neg e] at h; rw [if_neg (Ne.symm e)]
      unfold pcLt at h ⊢
      have := of_decide_eq_true h
      exact decide_eq_false (by omega)
theorem plLt_tr : ∀ (ps qs rs : List Pc), plLt qs ps = false → plLt rs qs = false → plLt rs ps = false
  | [], _, rs, _, _ => by cases rs <;> rfl
  | p :: ps, [], _, h, _ => by cases h
  | p :: ps, q :: qs, [], _, h => by cases h
  | p :: ps, q :: qs, r :: rs, h, h' => by
    rw [plLt_c] at h h' ⊢
    by_cases e1 : q = p
    · rw [if_pos e1] at h
      by_cases e2 : r = q
      · rw [if_pos e2] at h'
        rw [if_pos (e2.trans e1)]
        exact plLt_tr ps qs rs h h'
      · rw [if_neg e2] at h'
        rw [if_neg (fun e => e2 (e.trans e1.symm)), ← e1]
        exact h'
    · rw [if_neg e1] at h
      by_cases e2 : r = q
      · rw [if_neg (fun e => e1 (e2.symm.trans e)), e2]
        exact h
      · rw [if_neg e2] at h'
        unfold pcLt at h h' ⊢
        have h1 := of_decide_eq_false h
        have h2 := of_decide_eq_false h'
        have h3 : pn q ≠ pn p := fun e => e1 (pn_inj e)
        rw [if_neg (fun e => by rw [e] at h2; omega)]
        exact decide_eq_false (by omega)
theorem cmpZ_val (h : Int) (ps : List Pc) (h' : Int) (qs : List Pc) : cmpZ h ps h' qs = if h + (sgL ps : Nat) < h' + (sgL qs : Nat) then -1 else if h' + (sgL qs : Nat) < h + (sgL ps : Nat) then 1 else b2i (plLt ps qs) - b2i (plLt qs ps) := by
  unfold cmpZ
  dsimp only
  generalize h + ((sgL ps : Nat) : Int) = a
  generalize h' + ((sgL qs : Nat) : Int) = b
  have b1 : b2i true = 1 := rfl
  have b0 : b2i false = 0 := rfl
  rw [Bool.decide_eq_true, Bool.decide_eq_true]
  rcases Int.lt_trichotomy a b with hh | hh | hh
  · rw [decide_eq_false (show ¬ b < a by omega), decide_eq_true hh, b1, b0, if_pos hh]
    rfl
  · subst hh
    rw [decide_eq_false (show ¬ a < a by omega), b0, if_neg (show ¬ a < a by omega), if_neg (show ¬ a < a by omega), if_neg (by decide)]
  · rw [decide_eq_true hh, decide_eq_false (show ¬ a < b by omega), b1, b0, if_neg (show ¬ a < b by omega), if_pos hh]
    rfl
theorem cmpZ_neg (h : Int) (ps : List Pc) (h' : Int) (qs : List Pc) : decide (cmpZ h ps h' qs < 0) = (decide (h + (sgL ps : Nat) < h' + (sgL qs : Nat)) || (decide (h + (sgL ps : Nat) = h' + (sgL qs : Nat)) && plLt qs ps)) := by
  rw [cmpZ_val]
  generalize h + ((sgL ps : Nat) : Int) = a
  generalize h' + ((sgL qs : Nat) : Int) = b
  rcases Int.lt_trichotomy a b with hh | hh | hh
  · simp only [if_pos hh, decide_eq_true hh]; rfl
  · subst hh
    simp only [if_neg (show ¬ a < a by omega), decide_eq_false (show ¬ a < a by omega), decide_eq_true (rfl : a = a)]
    cases h1 : plLt ps qs with
    | true => rw [plLt_asym _ _ h1]; rfl
    | false => cases h2 : plLt qs ps <;> rfl
  · simp only [if_neg (show ¬ a < b by omega), if_pos hh, decide_eq_false (show ¬ a < b by omega), decide_eq_false (show ¬ a = b by omega)]; rfl
theorem Ord.int (f : Nat → Int) : Ord fun i j => decide (f i < f j) where
  asym i j h := decide_eq_false (by have := of_decide_eq_true h; omega)
  tr i j k h h' := decide_eq_false (by have := of_decide_eq_false h; have := of_decide_eq_false h'; omega)
theorem Ord.pl (f : Nat → List Pc) : Ord fun i j => plLt (f i) (f j) where
  asym i j h := plLt_asym _ _ h
  tr i j k h h' := plLt_tr _ _ _ h h'
theorem Ord.pc (f : Nat → Pc) : Ord fun i j => pcLt (f i) (f j) where
  asym i j h := decide_eq_false (by have := of_decide_eq_true h; omega)
  tr i j k h h' := decide_eq_false (by have := of_decide_eq_false h; have := of_decide_eq_false h'; omega)
theorem Ord.cmp (hd : Nat → Int) (f : Nat → List Pc) : Ord fun i j => decide (cmpZ (hd i) (f i) (hd j) (f j) < 0) where
  asym i j h := by
    rw [cmpZ_neg] at h ⊢
    simp only [Bool.or_eq_true, Bool.and_eq_true, decide_eq_true_eq] at h
    simp only [Bool.or_eq_false_iff, Bool.and_eq_false_iff, decide_eq_false_iff_not]
    rcases h with h | ⟨h, h'⟩
    · exact ⟨by omega, .inl (by omega)⟩
    · exact ⟨by omega, .inr (plLt_asym _ _ h')⟩
  tr i j k h h' := by
    rw [cmpZ_neg] at h h' ⊢
    simp only [Bool.or_eq_false_iff, Bool.and_eq_false_iff, decide_eq_false_iff_not] at h h' ⊢
    obtain ⟨a1, a2⟩ := h
    obtain ⟨b1, b2⟩ := h'
    refine ⟨by omega, ?_⟩
    by_cases e : hd k + (sgL (f k) : Nat) = hd i + (sgL (f i) : Nat)
    · right
      have a3 := a2.resolve_left (by omega)
      have b3 := b2.resolve_left (by omega)
      exact plLt_tr _ _ _ b3 a3
    · exact .inl e
end Mine.Internal
end
section
open PySem PySem.W PyProof.Rows
namespace Mine.Internal
theorem line_ok {n : Nat} (bag : Nat → List Pc) {p1 p2 : List Nat} (h1 : p1.Perm (List.range n)) (o1 : p1.Pairwise (Ahead fun i j => plLt (bag (n - 1 - i)) (bag (n - 1 - j))))
    (h2 : p2.Perm (List.range n)) (o2 : p2.Pairwise (Ahead fun i j => decide (((sgL (bag ((p1.map (n - 1 - ·)).reverse.getD i 0)) : Nat) : Int) < (sgL (bag ((p1.map (n - 1 - ·)).reverse.getD j 0)) : Nat)))) :
    (p2.map fun i => (p1.map (n - 1 - ·)).reverse.getD i 0).Pairwise (Ahead fun i j => decide (cmpZ 0 (bag i) 0 (bag j) < 0)) := by
  have hlen : p1.length = n := by rw [h1.length_eq]; simp
  have hG : (p1.map (n - 1 - ·)).reverse.Pairwise fun a b => plLt (bag a) (bag b) = false ∧ (plLt (bag b) (bag a) = true ∨ a < b) := by
    rw [List.pairwise_reverse, List.pairwise_map]
    refine (List.Pairwise.and_mem.mp o1).imp fun {x y} pz0 => ?_
    refine Classical.byContradiction fun hn => ?_
    obtain ⟨hx, hy, h⟩ := pz0
    refine hn ?_
    clear hn
    have hx' := List.mem_range.mp (h1.mem_iff.mp hx)
    have hy' := List.mem_range.mp (h1.mem_iff.mp hy)
    refine ⟨h.1, h.2.imp id fun h => Nat.sub_lt_sub_left (Nat.lt_of_lt_of_le h (Nat.le_sub_one_of_lt hy')) h⟩
  have hF : (p1.map (n - 1 - ·)).reverse.length = n := by simp [hlen]
  generalize (p1.map (n - 1 - ·)).reverse = F at hG o2 hF ⊢
  have gij : ∀ i j, i < n → j < n → i < j → plLt (bag (F.getD i 0)) (bag (F.getD j 0)) = false ∧ (plLt (bag (F.getD j 0)) (bag (F.getD i 0)) = true ∨ F.getD i 0 < F.getD j 0) := fun i j hi hj hij => by
    have := List.pairwise_iff_getElem.mp hG i j (by omega) (by omega) hij
    rw [List.getD_eq_getElem?_getD, List.getD_eq_getElem?_getD, List.getElem?_eq_getElem (by omega), List.getElem?_eq_getElem (by omega)]
    exact this
  rw [List.pairwise_map]
  refine (List.Pairwise.and_mem.mp o2).imp fun {i j} pz0 => ?_
  refine Classical.byContradiction fun hn => ?_
  obtain ⟨hi, hj, h⟩ := pz0
  refine hn ?_
  clear hn
  have hi' := List.mem_range.mp (h2.mem_iff.mp hi)
  have hj' := List.mem_range.mp (h2.mem_iff.mp hj)
  have g := gij i j hi' hj'
  have ha : ¬ ((sgL (bag (F.getD j 0)) : Nat) : Int) < (sgL (bag (F.getD i 0)) : Nat) := of_decide_eq_false h.1
  have hb : ((sgL (bag (F.getD i 0)) : Nat) : Int) < (sgL (bag (F.getD j 0)) : Nat) ∨ i < j := h.2.imp of_decide_eq_true id
  generalize F.getD i 0 = a at g ha hb ⊢
  generalize F.getD j 0 = b at g ha hb ⊢
  unfold Ahead
  dsimp only
  rw [cmpZ_neg, cmpZ_neg]
  simp only [Bool.or_eq_true, Bool.and_eq_true, decide_eq_true_eq, Bool.or_eq_false_iff, Bool.and_eq_false_iff, decide_eq_false_iff_not]
  rcases hb with h3 | h3
  · exact ⟨⟨by omega, .inl (by omega)⟩, .inl (.inl (by omega))⟩
  · obtain ⟨g1, g2⟩ := g h3
    refine ⟨⟨by omega, .inr g1⟩, ?_⟩
    by_cases e : ((sgL (bag a) : Nat) : Int) < (sgL (bag b) : Nat)
    · exact .inl (.inl (by omega))
    · rcases g2 with g2 | g2
      · exact .inl (.inr ⟨by omega, g2⟩)
      · exact .inr g2
theorem map_getD {n : Nat} {F : List Nat} (hF : F.length = n) : (List.range n).map (fun i => F.getD i 0) = F := by
  refine List.ext_getElem (by simp [hF]) fun i h1 h2 => ?_
  rw [List.getElem_map, List.getElem_range, List.getD_eq_getElem?_getD, List.getElem?_eq_getElem h2]
  rfl
theorem down_perm (n : Nat) : ((List.range n).map (n - 1 - ·)).Perm (List.range n) := by
  have : (List.range n).map (n - 1 - ·) = (List.range n).reverse := by
    refine List.ext_getElem (by simp) fun i h1 h2 => ?_
    rw [List.getElem_map, List.getElem_range, List.getElem_reverse, List.getElem_range, List.length_range]
  rw [this]
  exact List.reverse_perm _
theorem line_perm {n : Nat} {p1 p2 : List Nat} (h1 : p1.Perm (List.range n)) (h2 : p2.Perm (List.range n)) : (p2.map fun i => (p1.map (n - 1 - ·)).reverse.getD i 0).Perm (List.range n) := by
  have hF : (p1.map (n - 1 - ·)).reverse.length = n := by simp [h1.length_eq]
  have e := map_getD hF
  refine (h2.map _).trans ?_
  rw [e]
  exact (List.reverse_perm _).trans ((h1.map _).trans (down_perm n))
theorem line_eq {n : Nat} (bag : Nat → List Pc) {p1 p2 q : List Nat} (h1 : p1.Perm (List.range n)) (o1 : p1.Pairwise (Ahead fun i j => plLt (bag (n - 1 - i)) (bag (n - 1 - j))))
    (h2 : p2.Perm (List.range n)) (o2 : p2.Pairwise (Ahead fun i j => decide (((sgL (bag ((p1.map (n - 1 - ·)).reverse.getD i 0)) : Nat) : Int) < (sgL (bag ((p1.map (n - 1 - ·)).reverse.getD j 0)) : Nat))))
    (hq : q.Perm (List.range n)) (oq : q.Pairwise (Ahead fun i j => decide (cmpZ 0 (bag i) 0 (bag j) < 0))) : q = p2.map fun i => (p1.map (n - 1 - ·)).reverse.getD i 0 :=
  ahead_uniq (hq.trans (line_perm h1 h2).symm) oq (line_ok bag h1 o1 h2 o2)
end Mine.Internal
end
section
open PySem PySem.W PyProof.Rows
namespace Mine.Internal
variable {C : Cx} {N N' : Led} {Φ : Frs} {A : Around} {lt : Nat → Nat → Bool}
theorem runs_R {κ : SortKind} {it : Array Keyed} {n : Nat} {Q : Unit → SortSt → Shared → Prop} {E : Value → Shared → Prop} {s : Shared} (h2 : 2 ≤ n) (h64 : n < 64) (O : Ord lt) (R : Rep C N Φ s)
    (hc : ∀ i j N', i < n → j < n → Ext N N' → WE C A (keyLt' κ (kas_item it i).1 (kas_item it j).1) (fun b N'' => b = lt i j ∧ Ext N' N'') N' Φ)
    (q : ∀ (p : Array Nat) (st' : SortSt) (s' : Shared) (N' : Led), p.size = n → arrOf st' = p.map (kas_item it) → failedOf st' = none → p.toList.Pairwise (Ahead lt) → p.toList.Perm (List.range n) → Ext N N' → Rep C N' Φ s' → Q () st' s') :
    kasC C.M A E sortRuns' Q (kas_st κ it (List.toArray (List.range n))) s := by
  refine kas_runs (G := fun p s' => p.toList.Pairwise (Ahead lt) ∧ p.toList.Perm (List.range n) ∧ ∃ N', Ext N N' ∧ Rep C N' Φ s') h2 h64 (fun p st' s' h1 h3 h4 ⟨h5, h6, N', h7, h8⟩ => q p st' s' N' h1 h3 h4 h5 h6 h7 h8) ?_
  refine kasWp_sort (I := fun s => ∃ N', Ext N N' ∧ Rep C N' Φ s) (by lia) O (fun i j s' K hi hj ⟨N', e, R'⟩ k => ?_) ⟨N, Ext.refl N, R⟩ fun p s' h1 h3 h4 => ⟨h1, h3, h4⟩
  exact wpAny_mono (hc i j N' hi hj e s' (fun _ _ => False) R') (fun b s'' ⟨N'', R'', eb, e'⟩ => by subst eb; exact k s'' ⟨N'', e.trans e', R''⟩) fun _ _ x => x
end Mine.Internal
end
section
open PySem PySem.W PyProof.Rows PySem.Calls PySem.Spec PySem.Builtin.List PySem.Builtin
set_option maxRecDepth 100000
namespace Mine.Internal
variable {C : Cx} {N N' : Led} {Φ : Frs} {A : Around} {lt : Nat → Nat → Bool} {vs ks : List Value} {κ : SortKind} {s : Shared} {E : Value → Shared → Prop}
theorem Rep.setOb {a : Addr} {o o' : Obj} {h' : Heap} {tk : Nat} (R : Rep C N (.ob a o :: Φ) s) (x : Heap.SameBut a s.heap h') (e : h'.get? a = some o') : Rep C N (.ob a o' :: Φ) { s with heap := h', toks := tk } :=
  R.top (f' := .ob a o') rfl (fun b o hb e => x.extBut b o (fun q => hb (q ▸ .head _)) e) e
theorem Rep.pushOb {o : Obj} (R : Rep C N Φ s) (hf : o.isFreed = false) : Rep C N (.ob s.heap.objs.size o :: Φ) { s with heap := s.heap.push o } :=
  R.pushG (tk := s.toks) (f := .ob s.heap.objs.size o) (fun _ _ e => Heap.get?_push_of_some _ e) (Heap.get?_push_size _ hf) (fun b hb => by simp [Prv.own] at hb; rw [hb]; exact Nat.le_refl _) (by simp [Prv.own])
theorem prv_items {a : Addr} {n : Nat} {Q : Array Value → Shared → Prop} (R : Rep C N Φ s) (h : .ob a (lst vs n) ∈ Φ) (q : Q vs.toArray s) : wpAny C.M A (PySem.Builtin.List.listItems (.ref a)) Q E s := listItems_at (R.frm h) rfl q
theorem prv_set {a : Addr} {ws : List Value} {n : Nat} {f : Array Value → Array Value} {Q : Unit → Shared → Prop} (R : Rep C N (.ob a (lst vs n) :: Φ) s) (hf : f vs.toArray = ws.toArray) (h1 : vs.length ≤ sizeLine) (h2 : ws.length ≤ sizeLine)
    (q : ∀ s' k, Rep C N (.ob a (lst ws k) :: Φ) s' → Q () s') : wpAny C.M A (PySem.Builtin.List.listUpdate (.ref a) f) Q E s := by
  have ho : s.heap.get? a = some (seqObj "list" vs.toArray n) := R.frm (.head _)
  refine listUpdate_at ho rfl (q _ _ (R.setOb (tk := s.toks) (Heap.SameBut.update ..) (by rw [get?_update_seq ho f, hf]))) (by rw [List.size_toArray]; exact h1) (by rw [hf, List.size_toArray]; lia)
theorem prv_runs {Q : Unit × SortSt → Shared → Prop} (hl : ks.length = vs.length) (h2 : 2 ≤ vs.length) (h64 : vs.length < 64) (O : Ord lt) (R : Rep C N Φ s)
    (hc : ∀ i j a b N', i < vs.length → j < vs.length → ks[i]? = some a → ks[j]? = some b → Ext N N' → WE C A (keyLt' κ a b) (fun r N'' => r = lt i j ∧ Ext N' N'') N' Φ)
    (q : ∀ st' s' N' (p : List Nat), p.Perm (List.range vs.length) → p.Pairwise (Ahead lt) → (arrOf st').map (·.2) = (p.map fun i => vs.getD i .none).toArray → failedOf st' = none → Ext N N' → Rep C N' Φ s' → Q ((), st') s') :
    wpAny C.M A (sortRuns'.run (SortSt.mk' κ (ks.toArray.zip vs.toArray) #[] 7 none)) Q E s := by
  have run := runs_R (E := E) (κ := κ) (it := ks.toArray.zip vs.toArray) (n := vs.length) (Q := fun u st' s' => Q (u, st') s') (A := A) (C := C) (Φ := Φ) (N := N) (s := s) h2 h64 O R (fun i j N' hi hj e => by
    rw [kat_item hl, kat_item hl]
    have hi' : ks[i]? = some (ks.getD i .none) := by rw [List.getD_eq_getElem?_getD, List.getElem?_eq_getElem (by lia)]; rfl
    have hj' : ks[j]? = some (ks.getD j .none) := by rw [List.getD_eq_getElem?_getD, List.getElem?_eq_getElem (by lia)]; rfl
    exact hc i j _ _ N' hi hj hi' hj' e) (fun p st' s' N' h1 h2 h3 h4 h5 h6 h7 => q st' s' N' p.toList h5 h4 (kat_snds hl h2) h3 h6 h7)
  have est : SortSt.mk' κ (ks.toArray.zip vs.toArray) #[] 7 none = kas_st κ (ks.toArray.zip vs.toArray) (List.toArray (List.range vs.length)) := by
    have e := kas_range (ks.toArray.zip vs.toArray)
    rw [show (ks.toArray.zip vs.toArray).size = vs.length by simp [hl]] at e
    show SortSt.mk' κ (ks.toArray.zip vs.toArray) #[] 7 none = SortSt.mk' κ ((List.toArray (List.range vs.length)).map (kas_item (ks.toArray.zip vs.toArray))) #[] 7 none
    rw [e]
  rw [est]
  exact run
theorem prv_new {a : Addr} {o : Obj} (R : Rep C N (.ob a o :: Φ) s) : New a N := by
  obtain ⟨z, rz⟩ := R.z
  exact rz.apart a (mem_own (.head _) (.head _))
theorem sorted_key {l q : Addr} {n : Nat} {KR : Nat → Value → Led → Prop} {Q : Value → Led → Prop} (hl : Has C N l (lst vs n)) (h2 : 2 ≤ vs.length) (h64 : vs.length < 64) (O : Ord lt)
    (hm : ∀ i k N' N'', KR i k N' → Ext N' N'' → KR i k N'')
    (key : ∀ (i : Nat) (v : Value) (N' : Led) o1 o2 a1 a2, vs[i]? = some v → Ext N N' → WE C A.in1.in1 (PySem.call (.ref q) [v]) (fun k N'' => KR i k N'' ∧ Ext N' N'') N' (.ob a1 o1 :: .ob a2 o2 :: Φ))
    (kind : ∀ (N' : Led) (ks : List Value) (Ψ : Frs), Ext N N' → ks.length = vs.length → (∀ i k, ks[i]? = some k → KR i k N') → WE C A.in1.in1 (keyKind' ks.toArray) (fun κ' N'' => κ' = κ ∧ N'' = N') N' Ψ)
    (cmp : ∀ (i j : Nat) (a b : Value) (N' : Led) o1 o2 a1 a2, i < vs.length → j < vs.length → KR i a N' → KR j b N' → Ext N N' → WE C A.in1.in1 (keyLt' κ a b) (fun r N'' => r = lt i j ∧ Ext N' N'') N' (.ob a1 o1 :: .ob a2 o2 :: Φ))
    (fin : ∀ (N' : Led) (r : Addr) (k : Nat) (p : List Nat), Ext N N' → New r N' → p.Perm (List.range vs.length) → p.Pairwise (Ahead lt) → Q (.ref r) ((r, lst (p.map fun i => vs.getD i .none) k) :: N')) :
    WE C A (PySem.call (.builtin "sorted") [.ref l] [("key", .ref q)]) Q N Φ := by
  have hs : vs.length ≤ sizeLine := by rw [sizeLine_eq]; lia
  intro s E R
  refine call_function_entry_kw kind_sorted plain_sorted entry_sorted (ksk_s1 _ _) ?_
  unfold Builtin.«sorted»
  refine wpAny_bind (m := checkCount "sorted" 1 1 _) (wpAny_pure ?_)
  refine wpAny_bind (collect_list (vs := vs) ⟨_, R.has hl, rfl, _, rfl⟩ ?_ hs)
  have R1 : Rep C N Φ { s with heap := (s.heap.push (seqObj "list" #[] 0)).update s.heap.objs.size (Obj.mapSeq (· ++ vs.toArray)) } := R.grow (tk := s.toks) fun b o e => by
    have hlt : b < s.heap.objs.size := Heap.lt_size e
    rw [Heap.get?_update_ne _ _ _ _ (Nat.ne_of_lt hlt), Heap.get?_push_ne _ _ _ (Nat.ne_of_lt hlt)]
    exact e
  generalize ({ s with heap := (s.heap.push (seqObj "list" #[] 0)).update s.heap.objs.size (Obj.mapSeq (· ++ vs.toArray)) } : Shared) = s1 at R1
  refine wpAny_bind (wpAny_newList ?_ hs)
  have R2 : Rep C N (.ob s1.heap.objs.size (lst vs 0) :: Φ) { s1 with heap := s1.heap.push (lst vs 0) } := R1.pushOb rfl
  generalize s1.heap.objs.size = a at R2
  show wpAny _ _ _ _ _ { s1 with heap := s1.heap.push (lst vs 0) }
  generalize ({ s1 with heap := s1.heap.push (lst vs 0) } : Shared) = s2 at R2
  have fin2 : ∀ s', (∃ (N' : Led) (k : Nat) (p : List Nat), Ext N N' ∧ p.Perm (List.range vs.length) ∧ p.Pairwise (Ahead lt) ∧ Rep C N' (.ob a (lst (p.map fun i => vs.getD i .none) k) :: Φ) s') → ∃ N', Rep C N' Φ s' ∧ Q (.ref a) N' := by
    rintro s' ⟨N', k, p, e, hp, ho, R'⟩
    exact ⟨_, R'.give, fin N' a k p e (prv_new R') hp ho⟩
  refine wpAny_bind (wpAny_holding (wpAny_call_entry_kw slot_list_sort ⟨_, R2.frm (.head _), rfl⟩ entry_list_sort ?_ (ksk_l1 _ _)))
  show wpAny C.M A.in1.in1 (Builtin.«list.sort» ⟨[.ref a], [(Str.ofString "key", .ref q)]⟩) _ _ _
  rw [ksk_t1]
  unfold ksk_tree
  refine wpAny_bind (prv_items R2 (.head _) ?_)
  refine wpAny_bind (prv_set (ws := []) R2 rfl hs (Nat.zero_le _) fun s3 e1 R3 => ?_)
  refine wpAny_bind (seqEpoch_at (xs := #[]) (n := e1) (R3.frm (.head _)) rfl ?_)
  refine wpAny_bind (wpAny_newTuple ?_ (by simpa using hs))
  have R4 := R3.push { cls := .type "tuple", data := .seq (vs.toArray.toList).toArray }
  refine wpAny_bind (wpAny_newList ?_ (Nat.zero_le _))
  have R5 := R4.pushOb (o := lst [] 0) rfl
  refine wpAny_holding ?_
  unfold ksk_rest
  refine wpAny_bind (wpAny_rule ?_)
  rw [List.forIn_toArray]
  refine wpAny_bind (ksk_fold (fun i s' => ∃ N' ks k, Ext N N' ∧ Rep C N' (.ob _ (lst ks k) :: .ob a (lst [] e1) :: Φ) s' ∧ ks.length = i ∧ ∀ j x, ks[j]? = some x → KR j x N') vs 0 _ ⟨N, [], 0, Ext.refl _, R5, rfl, fun j x h => by simp at h⟩ ?step ?done)
  case step =>
    rintro j v s' hv ⟨N₁, ks, k, e, R', hk, hK⟩
    simp only [Nat.zero_add] at hk ⊢
    have hj : j < vs.length := (List.getElem?_eq_some_iff.mp hv).1
    refine wpAny_bind (wpAny_attempt ((key j v N₁ _ _ _ _ hv e).use R' fun x s'' N₂ R'' pz0 => ?_))
    obtain ⟨hx, e2⟩ := pz0
    dsimp only
    refine wpAny_bind (prv_set (ws := ks ++ [x]) R'' (by simp) (by lia) (by simp; lia) fun s3 k3 R3 => wpAny_pure ⟨rfl, N₂, ks ++ [x], k3, e.trans e2, R3, by simp [hk], fun i y hy => ?_⟩)
    rcases Nat.lt_trichotomy i ks.length with h | h | h
    · rw [List.getElem?_append_left h] at hy
      exact hm _ _ _ _ (hK i y hy) e2
    · subst h
      rw [List.getElem?_append_right (Nat.le_refl _)] at hy
      simp at hy
      rw [← hy, hk]; exact hx
    · rw [List.getElem?_append_right (by lia)] at hy
      have : i - ks.length ≠ 0 := by lia
      rw [List.getElem?_eq_none (by simp; lia)] at hy
      cases hy
  case done =>
    rintro s' ⟨N₁, ks, k, e, R', hk, hK⟩
    simp only [Nat.zero_add] at hk
    refine wpAny_bind (prv_items R' (.head _) ?_)
    unfold ksk_end
    dsimp only
    rw [if_neg (by decide)]
    have hn2 : ¬ vs.toArray.size < 2 := by rw [List.size_toArray]; lia
    rw [if_neg hn2, if_neg hn2]
    refine wpAny_bind ((kind N₁ ks _ e hk hK).use R' fun κ' s'' N₂ R'' pz0 => ?_)
    obtain ⟨e2, e3⟩ := pz0
    subst e2; subst e3
    refine wpAny_bind (prv_runs hk h2 h64 O R'' (fun i j x y N₃ hi hj hx hy e3 => cmp i j x y N₃ _ _ _ _ hi hj (hm _ _ _ _ (hK i x hx) e3) (hm _ _ _ _ (hK j y hy) e3) (e.trans e3)) fun st' s3 N₃ p hp ho hout hf e3 R3 => ?_)
    dsimp only
    unfold ksk_tail
    dsimp only
    have hpl : p.length = vs.length := by rw [hp.length_eq]; simp
    refine wpAny_bind (prv_set (ws := []) R3 rfl (by lia) (Nat.zero_le _) fun s4 k4 R4 => ?_)
    refine wpAny_bind (wpAny_letGo ?_)
    have R4' := R4.perm (List.Perm.swap _ _ _)
    refine wpAny_bind (seqEpoch_at (xs := #[]) (n := e1) (R4'.frm (.head _)) rfl ?_)
    refine wpAny_bind (prv_set (ws := p.map fun i => vs.getD i .none) R4' (by simp only [Bool.false_eq_true, if_false]; exact hout) (Nat.zero_le _) (by simp; lia) fun s5 k5 R5 => ?_)
    rw [hf]
    simp only [bne_self_eq_false, Bool.false_eq_true, if_false]
    refine wpAny_pure ⟨_, rfl, ?_⟩
    refine wpAny_pure ⟨_, rfl, fin2 _ ⟨N₃, k5, p, e.trans e3, hp, ho, ?_⟩⟩
    exact (R5.perm (List.Perm.swap _ _ _)).popF
end Mine.Internal
end
section
open PySem PySem.W PyProof.Rows PySem.Calls PySem.Spec PySem.Builtin.List PySem.Builtin
set_option maxRecDepth 100000
namespace Mine.Internal
variable {C : Cx} {N N' : Led} {Φ : Frs} {A : Around} {mg mb : Lo} {s : Shared} {env : Env}
theorem Rep.kneP {P b : Addr} {o : Obj} (R : Rep C N Φ s) (hP : P ∈ C.tabs) (h : C.g b = some o) : b ≠ P := by
  obtain ⟨z, x⟩ := R.z
  intro e
  have h1 := (x.tab P hP).1
  have h2 := x.st b o h
  rw [e, h1] at h2
  cases h2
structure LamA (N : Led) (f : Addr) (fd : FuncData) : Prop where
  obj : ∃ o, (f, o) ∈ N ∧ o.cls = .type "function" ∧ o.data = .func fd
  code : ∃ c oc, fd.code = .ref c ∧ (c, oc) ∈ N ∧ IsCode oc fd.qualname
theorem LamA.has {f : Addr} {fd : FuncData} (h : LamA N f fd) : HasFn C N f fd :=
  ⟨let ⟨o, a, _, c⟩ := h.obj; ⟨o, .inr a, c⟩, let ⟨o, a, b, _⟩ := h.obj; ⟨o, .inr a, b⟩, let ⟨c, oc, a, b, d⟩ := h.code; ⟨c, oc, a, .inr b, d⟩⟩
theorem LamA.mono {f : Addr} {fd : FuncData} (h : LamA N f fd) (e : Ext N N') : LamA N' f fd := ⟨let ⟨o, a, b, c⟩ := h.obj; ⟨o, e _ a, b, c⟩, let ⟨c, oc, a, b, d⟩ := h.code; ⟨c, oc, a, e _ b, d⟩⟩
theorem e_lam {params : Arguments} {body : Expr} {scope : Scope} {pos : Pos} {c P : Addr} {clos : List (Str × Addr)} {q0 : Str} {Q : Value → Led → Prop} (G : Glo C mg mb) (T : TabF C mg mb) (hP : P ∈ C.tabs) (hd : codeHdIn C.K c P = true) (hq : C.qual P = q0)
    (q : ∀ f c' ct N', Ext N N' → New f N → LamA N' f (kla_fn "<lambda>" q0 params body scope clos ((mg "__name__").getD .none) (.ref c') ct) → Q (.ref f) N')
    (hcode : env.code = .ref c := by rfl) (hqe : env.qual ++ "<lambda>" = q0 := by kernel_rfl) (hg : env.globals = mainGlobals := by rfl) (hcl : closureFor scope env = pure clos := by rfl) (hdef : defaultsOf params env = ([], []) := by rfl) :
    WE C A (eval (.Lambda params body scope pos) env) Q N Φ := by
  intro s E R
  refine Classical.byContradiction fun hn => ?_
  obtain ⟨ps, h1, h2, h3⟩ := R.tabAt hP
  refine hn ?_
  clear hn
  have CH := codeHd_of_K R.inK hd
  have hgP : mainGlobals ≠ P := by
    intro e
    refine Classical.byContradiction fun hn => ?_
    obtain ⟨o, es, ep, ho, hdd, _⟩ := G.g _ R.stat
    refine hn ?_
    clear hn
    rw [e, h1] at ho
    cases ho
    cases hdd
  have hb : s.heap.BuiltinsAt mg P := by
    refine Classical.byContradiction fun hn => ?_
    obtain ⟨bm, o, a1, a2, a3, a4, a5, a6, a7⟩ := T.bmain
    refine hn ?_
    clear hn
    exact ⟨bm, o, a1, a2, a3, R.kneP hP a4, R.st a4, a5, a6, a7⟩
  refine kla_eval hdef ?_
  rw [hqe]
  cases hf : codeAmong pos ps.toList with
  | some cv =>
    obtain ⟨c', oc, rfl, hic, R1⟩ := h3 pos cv hf
    refine kla_makeFunctionHit hcl hg (G.g _ R.stat) hcode CH h1 h2 hf hb fun ctv h' tk hk hsz => ?_
    have R2 := R1.grow (tk := tk) hk
    have hn := R2.new
    have R3 := R2.pushN { cls := .type "function", data := .func (kla_fn "<lambda>" q0 params body scope clos ((mg "__name__").getD .none) (.ref c') ctv) } rfl
    exact ⟨_, R3, q _ c' ctv _ ((Ext.refl _).c2) (fun p hp => hn p (.tail _ hp)) ⟨⟨_, .head _, rfl, rfl⟩, ⟨c', oc, rfl, .tail _ (.head _), by rw [hq] at hic; exact hic⟩⟩⟩
  | none =>
    refine kla_makeFunction hcl hg (G.g _ R.stat) hcode CH h1 h2 hf hgP hb fun c' ctv h' tk hx hge hlt hrec htab => ?_
    refine Classical.byContradiction fun hn => ?_
    obtain ⟨c₂, oc, vs, t, e2, hoc, hdd, hv⟩ := hrec
    refine hn ?_
    clear hn
    cases e2
    have hic : IsCode oc q0 := ⟨vs, t, hdd, hv⟩
    have R2 := R.tabAdd (tk := tk) hP h1 hx hge hoc (by rw [hq]; exact hic) htab (by rw [Array.toList_append]; exact TriplesOk_snoc _ _ _ _ h2)
    have hn := R2.new
    have R3 := R2.pushN { cls := .type "function", data := .func (kla_fn "<lambda>" q0 params body scope clos ((mg "__name__").getD .none) (.ref c') ctv) } rfl
    exact ⟨_, R3, q _ c' ctv _ ((Ext.refl _).c2) (fun p hp => hn p (.tail _ hp)) ⟨⟨_, .head _, rfl, rfl⟩, ⟨c', oc, rfl, .tail _ (.head _), hic⟩⟩⟩
@[reducible] noncomputable def kSK2 (C : Cx) (A : Around) (Φ : Frs) (v : Value) (Q : Value → Led → Prop) : Value → Led → Prop := fun k N => WE C A (PySem.call (.builtin "sorted") [v] [("key", k)]) Q N Φ
@[reducible] noncomputable def kSK (C : Cx) (A : Around) (Φ : Frs) (env : Env) (kv : Expr) (Q : Value → Led → Prop) : Value → Led → Prop := fun v N => WE C A (eval kv env) (kSK2 C A Φ v Q) N Φ
theorem e_sortedK {p1 pos kp : Pos} {arg kv : Expr} {Q : Value → Led → Prop} (G : Prg C mg mb) (h : WE C A (eval arg env) (kSK C A Φ env kv Q) N Φ)
    (he : eval (.Call (.Name "sorted" p1) [arg] [⟨some "key", kv, kp⟩] pos) env = (do callWith pos (← eval (.Name "sorted" p1) env) [] (backTo pos (starEach [arg] env)) (backToKw pos (keywordEach [⟨some "key", kv, kp⟩] env))) := by rfl)
    (hg : env.globals = mainGlobals := by rfl) (hb : env.builtins = builtinsNs := by rfl) (hk : env.scope.kind = .function := by rfl) (hx : env.kindOf ("sorted" : Str) = some .globalImplicit := by rfl) 
    (hse : backTo pos (starEach [arg] env) = (false, eval arg env) :: backTo pos (starEach [] env) := by rfl) :
    WE C A (eval (.Call (.Name "sorted" p1) [arg] [⟨some "key", kv, kp⟩] pos) env) Q N Φ := by
  rw [he]
  refine WE.bind (e_blt G.G G.n_sorted G.b_sorted ?_ hg hb hk hx)
  intro s E R
  refine callWith_kw ?_ hse ?_ ?_ ?_
  · rw [hse]
    refine Calls.spliced_cons ?_
    refine h.use R fun v s1 N1 R1 h1 => ?_
    refine Calls.spliced_nil ?_
    refine kws_cons ?_
    refine h1.use R1 fun k s2 N2 R2 h2 => ?_
    refine kws_nil ?_
    exact h2 s2 _ R2
  · rw [hse]; rfl
  · rfl
  · rfl
end Mine.Internal
end
section
open PySem PySem.W PyProof.Rows PySem.Calls PySem.Spec PySem.Builtin.List PySem.Builtin
set_option maxRecDepth 100000
namespace Mine.Internal
variable {C : Cx} {N N' : Led} {Φ : Frs} {A : Around} {mg mb : Lo} {s : Shared} {env : Env} {k : Nat}
section
variable {a b : Addr} {vs ws : List Value} {n n' : Nat} {ps qs : List Pc}
theorem call_ltL {Q : Value → Led → Prop} (ho : AOk A (k + 2)) (ha : Has C N a (lst vs n)) (hb : Has C N b (lst ws n')) (hv : PcL N vs ps) (hw : PcL N ws qs) (z : Q (.bool (plLt ps qs)) N) : WE C A (PySem.call (.builtin "list.__lt__") [.ref a, .ref b]) Q N Φ := by
  refine WE.call (CE.callB PySem.F.slot_list_lt.plain PySem.F.entry_list_lt ?_ ?_)
  · exact fun s E R => PySem.F.slot_list_lt.check _ _ _ _ _ _ _ _ ⟨_, R.has ha, rfl⟩ (PySem.F.args_list_lt_2 _ _) ⟨N, R, rfl⟩
  · show FE C A (isInstance (.ref b) (.type "list") >>= _) _ N Φ
    refine FE.bind (WE.isInst hb rfl sub_ll ?_)
    dsimp only [Bool.not_true]
    rw [if_neg (by decide)]
    refine FE.bind (WE.pure ?_)
    exact FE.again (plainId_quiet plain_eq_loop _) (lt_loop ho ha hb hv hw z _ 0 (Nat.zero_add _) rfl)
theorem klt_list {Q : Bool → Led → Prop} (ho : AOk A (k + 2)) (ha : Has C N a (lst vs n)) (hb : Has C N b (lst ws n')) (hv : PcL N vs ps) (hw : PcL N ws qs) (z : Q (plLt ps qs) N) : WE C A (keyLt' oneType' (.ref a) (.ref b)) Q N Φ := by
  rw [keyLt'_oneType, oneLt'_eq]
  simp only [if_true]
  intro s E R
  refine wpAny_bind (wpAny_cRoomFor (by have := ho.u0; lia) ?_)
  refine wpAny_bind (wpAny_callSpecialIfBound?_slot (T := "list") ⟨_, R.has ha, rfl⟩ PySem.F.slot_list_lt ?_)
  refine (call_ltL (Q := fun v N' => v = .bool (plLt ps qs) ∧ N' = N) ho ha hb hv hw ⟨rfl, rfl⟩).use R fun v s' N' R' pz0 => ?_
  obtain ⟨e1, e2⟩ := pz0
  subst e1; subst e2
  exact wpAny_truthy_bool ⟨_, R', z⟩
theorem klt_int {x y : Int} {t u : Tok} {Q : Bool → Led → Prop} (q : Q (decide (x < y)) N) : WE C A (keyLt' oneType' (.int x t) (.int y u)) Q N Φ := fun s E R => by
  rw [keyLt'_oneType]
  exact oneLt_int ⟨N, R, q⟩
theorem klt_pc {v w : Value} {p q : Pc} {Q : Bool → Led → Prop} (ho : AOk A k) (hv : IsPc N v p) (hw : IsPc N w q) (z : Q (pcLt p q) N) : WE C A (keyLt' (tuples' true) v w) Q N Φ := by
  obtain ⟨a, n, t, u, rfl, ha⟩ := hv
  obtain ⟨b, n', t', u', rfl, hb⟩ := hw
  intro s E R
  refine kat_lt (xs := #[.str (S1 p) t, .str (S2 p) u]) (ys := #[.str (S1 q) t', .str (S2 q) u']) (R.get ha) rfl (R.get hb) rfl ?_
  show KatLex C.prog C.w A true _ _ [(.str (S1 p) t, .str (S1 q) t'), (.str (S2 p) u, .str (S2 q) u')] 0 s
  refine kat_cons ((WE.eqStr (Q := fun b N' => b = (p.1 == q.1) ∧ N' = N) ho (s1_lay p) (s1_lay q) (s1_eq p q) ⟨rfl, rfl⟩).use R fun b' s1 N1 R1 pz0 => ?_)
  obtain ⟨e1, e2⟩ := pz0
  subst e1; subst e2
  cases h1 : p.1 == q.1 with
  | false =>
    refine kat_no ?_
    show wpAny _ _ (oneLt' true _ _) _ _ _
    refine oneLt_str ⟨_, R1, ?_⟩
    rw [s1_lt p q h1]; exact z
  | true =>
    refine kat_yes ?_
    refine kat_cons ((WE.eqStr (Q := fun b N' => b = (p.2 == q.2) ∧ N' = N1) ho (s2_lay p) (s2_lay q) (s2_eq p q) ⟨rfl, rfl⟩).use R1 fun b' s2 N2 R2 pz0 => ?_)
    obtain ⟨e1, e2⟩ := pz0
    subst e1; subst e2
    cases h2 : p.2 == q.2 with
    | false =>
      refine kat_no ?_
      show wpAny _ _ (oneLt' false _ _) _ _ _
      refine kat_one _ _ ?_
      refine PySem.P.lt_str ?_
      show ∃ N', _
      refine ⟨_, R2, ?_⟩
      rw [s2_lt p q h1 h2]; exact z
    | true =>
      refine kat_yes (kat_nil ⟨_, R2, ?_⟩)
      rw [(no_lt p q h1 h2).1] at z
      exact z
end
section kinds
variable {ks : List Value}
theorem looks_ty {a : Addr} {o : Obj} (ho : s.heap.get? a = some o) : Looks C.M s.heap (PySem.typeOf (.ref a)) o.cls := (Looks.ld ho).andThen .now
theorem kind_one {T : Value} (h2 : 2 ≤ ks.length) (hT : ∀ v ∈ ks, ∀ s, Rep C N Φ s → Looks C.M s.heap (PySem.typeOf v) T) (hT1 : (T != Value.type "tuple") = true) (hT2 : (T == T) = true) : WE C A (keyKind' ks.toArray) (fun κ N' => κ = oneType' ∧ N' = N) N Φ :=
  fun s E R => kas_kind h2 (fun v hv => hT v hv s R) hT1 hT2 ⟨N, R, rfl, rfl⟩
theorem kat_pcs : ∀ {ks : List Value} {ps : List Pc}, PcL N ks ps → (∀ p ∈ N, s.heap.get? p.1 = some p.2) → ∃ fs, fs.length = ps.length ∧ KatTups s.heap ks fs ∧ ∀ v ∈ fs, ∃ x t, v = .str x t
  | [], [], _, _ => ⟨[], rfl, trivial, fun v hv => nomatch hv⟩
  | v :: ks, p :: ps, h, hh => by
    obtain ⟨⟨a, n, t, u, rfl, ha⟩, h⟩ := h
    refine Classical.byContradiction fun hn => ?_
    obtain ⟨fs, h1, h2, h3⟩ := kat_pcs h hh
    refine hn ?_
    clear hn
    refine ⟨.str (S1 p) t :: fs, by simp [h1], KatTups.cons (hh _ ha) rfl rfl rfl h2, fun v hv => ?_⟩
    rcases List.mem_cons.mp hv with rfl | hv
    · exact ⟨_, _, rfl⟩
    · exact h3 v hv
theorem kind_pc {ps : List Pc} (h : PcL N ks ps) (h0 : 0 < ps.length) : WE C A (keyKind' ks.toArray) (fun κ N' => κ = tuples' true ∧ N' = N) N Φ := fun s E R => by
  refine Classical.byContradiction fun hn => ?_
  obtain ⟨fs, h1, h2, h3⟩ := kat_pcs (s := s) h (fun p hp => R.get hp)
  refine hn ?_
  clear hn
  refine kat_kind (T := .type "str") h2 (by lia) (fun v hv => ?_) (by decide) ⟨N, R, ?_, rfl⟩
  · obtain ⟨x, t, rfl⟩ := h3 v hv
    exact .now
  · rfl
end kinds
theorem wf_spLt {cM x S f0 f1 f2 f3 f4 f5 y E b dd : Addr} {sl : Array (Option Value)} {Q : Option Value → Led → Frs → Prop} (HK : KCls C N cM x S f0 f1 f2 f3 f4 f5 y E) (hb : (b, kIns x dd sl) ∈ N) (q : Q (some (.ref f1)) N Φ) : WF C A (specialOf (.ref b) "__lt__") Q N Φ := by
  refine Classical.byContradiction fun hn => ?_
  obtain ⟨⟨T, tn, u1, hx⟩, ⟨es, n, t0, u2, st, hE, j0⟩, ⟨ty, hy⟩, hfn⟩ := HK
  obtain ⟨h0, w0, r0, hr0, j1⟩ := Kv.uncons j0
  refine hn ?_
  clear hn
  subst hr0
  refine Classical.byContradiction fun hn => ?_
  obtain ⟨h1, w1, r1, hr1, j2⟩ := Kv.uncons j1
  refine hn ?_
  clear hn
  subst hr1
  refine Classical.byContradiction fun hn => ?_
  obtain ⟨h2, w2, r2, hr2, j3⟩ := Kv.uncons j2
  refine hn ?_
  clear hn
  subst hr2
  refine Classical.byContradiction fun hn => ?_
  obtain ⟨h3, w3, r3, hr3, j4⟩ := Kv.uncons j3
  refine hn ?_
  clear hn
  subst hr3
  refine Classical.byContradiction fun hn => ?_
  obtain ⟨h4, w4, r4, hr4, j5⟩ := Kv.uncons j4
  refine hn ?_
  clear hn
  subst hr4
  repeat
    conv => arg 3; whnf
    first
    | refine k_rule ?_ | refine k_at ?_ | refine k_point ?_ | refine k_ask ?_ | refine k_fresh fun _ => ?_
    | refine k_load (.inr hb) ?_ | refine k_load (.inr hx) ?_ | refine k_load (.inr hE) ?_ | refine k_load (.inr hy) ?_ | refine k_loadP 0 rfl ?_
    | refine k_bF rfl fun _ => ?_ | refine k_bT rfl fun _ => ?_
  conv => arg 3; whnf
  exact k_pure q
theorem klt_ins {cM x S f0 f1 f2 f3 f4 f5 y E b dd b' dd' lam r r' : Addr} {fd : FuncData} {oc : Obj} {z : Int} {Q : Bool → Led → Prop} (G : Glo C mg mb) (ho : AOk A (k + 1)) (HK : KCls C N cM x S f0 f1 f2 f3 f4 f5 y E)
    (hb : (b, kIns x dd #[some (.ref r)]) ∈ N) (hb' : (b', kIns x dd' #[some (.ref r')]) ∈ N) (hc : (cM, oc) ∈ N) (hcd : oc.data = .cell (some (.ref lam))) (hl : HasFn C N lam fd)
    (hcmp : ∀ A Φ (Q : Value → Led → Prop), AOk A k → (∀ t N', Ext N N' → Q (.int z t) N') → WE C A (PySem.call (.ref lam) [.ref r, .ref r']) Q N Φ)
    (q : ∀ N', Ext N N' → Q (decide (z < 0)) N') : WE C A (keyLt' oneType' (.ref b) (.ref b')) Q N Φ := by
  rw [keyLt'_oneType, oneLt'_eq]
  simp only [if_true]
  intro s E R
  refine wpAny_bind (wpAny_cRoomFor (by have := ho.u0; lia) ?_)
  simp only [callSpecialIfBound?, bindSpecialIfBound?]
  refine wpAny_bind (wpAny_holding (wpAny_bind (wpAny_bind ?_)))
  refine (wf_spLt (Q := fun v N' Φ' => v = some (.ref f1) ∧ N' = N ∧ Φ' = Φ) HK hb ⟨rfl, rfl, rfl⟩).use R fun v s1 N1 Φ1 R1 pz0 => ?_
  refine Classical.byContradiction fun hn => ?_
  obtain ⟨e1, e2, e3⟩ := pz0
  refine hn ?_
  clear hn
  subst e1; subst e2; subst e3
  have hbind : ∀ {K : Value × List Value → Shared → Prop} {E : Value → Shared → Prop}, (∀ s', Rep C N1 Φ1 s' → K (.ref f1, [.ref b]) s') → wpAny C.M A (bindSpecial (.ref f1) (.ref b)) K E s1 := by
    intro K E hK
    refine Classical.byContradiction fun hn => ?_
    obtain ⟨doc, pm, c, ctv, hf⟩ := HK.fns.lt
    obtain ⟨o, ho, hc⟩ := hf.cls
    refine hn ?_
    clear hn
    unfold bindSpecial
    refine wpAny_bind (wpAny_typeOf (T := "function") ⟨_, R1.has ho, hc⟩ ?_)
    rw [if_pos (by rfl)]
    exact wpAny_pure (hK _ R1)
  have fin : ∀ {K : Option Value → Shared → Prop} {E : Value → Shared → Prop} s', Rep C N1 Φ1 s' → (∀ N' s'', Ext N1 N' → Rep C N' Φ1 s'' → K (some (.bool (decide (z < 0)))) s'') → wpAny C.M A (PySem.call (.ref f1) [.ref b, .ref b'] >>= fun v => pure (some v)) K E s' := by
    intro K E s' R' hK
    refine wpAny_bind ((WE.call (c_klt (Q := fun v N' => v = .bool (decide (z < 0)) ∧ Ext N1 N') G ho HK hb hb' hc hcd hl hcmp fun N' e => ⟨rfl, e⟩)).use R' fun v s'' N' R'' pz0 => ?_)
    obtain ⟨e1, e2⟩ := pz0
    subst e1
    exact wpAny_pure (hK N' s'' e2 R'')
  refine wpAny_bind (wpAny_askSetting (wpAny_ite ?_))
  have last : ∀ (N' : Led) (s'' : Shared), Ext N1 N' → Rep C N' Φ1 s'' → wpAny C.M A (truthOfDropped (.bool (decide (z < 0)))) (fun v s' => ∃ N', Rep C N' Φ1 s' ∧ Q v N') E s'' := fun N' s'' e R'' => wpAny_truthy_bool ⟨_, R'', q N' e⟩
  split
  · refine wpAny_bind (hbind fun s' R' => wpAny_pure ?_)
    exact fin s' R' last
  · refine wpAny_tryCatch (wpAny_bind (hbind fun s' R' => wpAny_pure ?_))
    exact fin s' R' last
end Mine.Internal
end
section
open PySem PySem.W PyProof.Rows PySem.Calls PySem.Spec PySem.Builtin.List PySem.Builtin
set_option maxRecDepth 100000
namespace Mine.Internal
variable {C : Cx} {N N' : Led} {Φ : Frs} {A : Around} {lt : Nat → Nat → Bool} {vs ks : List Value} {κ : SortKind} {s : Shared} {E : Value → Shared → Prop}
theorem sorted_plain {l : Addr} {n : Nat} {Q : Value → Led → Prop} (hl : Has C N l (lst vs n)) (h2 : 2 ≤ vs.length) (h64 : vs.length < 64) (O : Ord lt)
    (kind : ∀ (Ψ : Frs), WE C A.in1.in1 (keyKind' vs.toArray) (fun κ' N'' => κ' = κ ∧ N'' = N) N Ψ)
    (cmp : ∀ (i j : Nat) (a b : Value) (N' : Led) o1 o2 a1 a2, i < vs.length → j < vs.length → vs[i]? = some a → vs[j]? = some b → Ext N N' → WE C A.in1.in1 (keyLt' κ a b) (fun r N'' => r = lt i j ∧ Ext N' N'') N' (.ob a1 o1 :: .ob a2 o2 :: Φ))
    (fin : ∀ (N' : Led) (r : Addr) (k : Nat) (p : List Nat), Ext N N' → New r N' → p.Perm (List.range vs.length) → p.Pairwise (Ahead lt) → Q (.ref r) ((r, lst (p.map fun i => vs.getD i .none) k) :: N')) :
    WE C A (PySem.call (.builtin "sorted") [.ref l]) Q N Φ := by
  have hs : vs.length ≤ sizeLine := by rw [sizeLine_eq]; lia
  intro s E R
  refine Calls.call_function_entry kind_sorted plain_sorted entry_sorted (args_sorted1 _) ?_
  unfold Builtin.«sorted»
  refine wpAny_bind (m := checkCount "sorted" 1 1 _) (wpAny_pure ?_)
  refine wpAny_bind (collect_list (vs := vs) ⟨_, R.has hl, rfl, _, rfl⟩ ?_ hs)
  have R1 : Rep C N Φ { s with heap := (s.heap.push (seqObj "list" #[] 0)).update s.heap.objs.size (Obj.mapSeq (· ++ vs.toArray)) } := R.grow (tk := s.toks) fun b o e => by
    have hlt : b < s.heap.objs.size := Heap.lt_size e
    rw [Heap.get?_update_ne _ _ _ _ (Nat.ne_of_lt hlt), Heap.get?_push_ne _ _ _ (Nat.ne_of_lt hlt)]
    exact e
  generalize ({ s with heap := (s.heap.push (seqObj "list" #[] 0)).update s.heap.objs.size (Obj.mapSeq (· ++ vs.toArray)) } : Shared) = s1 at R1
  refine wpAny_bind (wpAny_newList ?_ hs)
  have R2 : Rep C N (.ob s1.heap.objs.size (lst vs 0) :: Φ) { s1 with heap := s1.heap.push (lst vs 0) } := R1.pushOb rfl
  generalize s1.heap.objs.size = a at R2
  show wpAny _ _ _ _ _ { s1 with heap := s1.heap.push (lst vs 0) }
  generalize ({ s1 with heap := s1.heap.push (lst vs 0) } : Shared) = s2 at R2
  have fin2 : ∀ s', (∃ (N' : Led) (k : Nat) (p : List Nat), Ext N N' ∧ p.Perm (List.range vs.length) ∧ p.Pairwise (Ahead lt) ∧ Rep C N' (.ob a (lst (p.map fun i => vs.getD i .none) k) :: Φ) s') → ∃ N', Rep C N' Φ s' ∧ Q (.ref a) N' := by
    rintro s' ⟨N', k, p, e, hp, ho, R'⟩
    exact ⟨_, R'.give, fin N' a k p e (prv_new R') hp ho⟩
  refine wpAny_bind (wpAny_holding (wpAny_call_entry slot_list_sort ⟨_, R2.frm (.head _), rfl⟩ entry_list_sort ?_ (args_list_sort _)))
  rw [list_sort_plain]
  refine wpAny_bind (prv_items R2 (.head _) ?_)
  refine wpAny_bind (prv_set (ws := []) R2 rfl hs (Nat.zero_le _) fun s3 e1 R3 => ?_)
  refine wpAny_bind (seqEpoch_at (xs := #[]) (n := e1) (R3.frm (.head _)) rfl ?_)
  refine wpAny_bind (wpAny_newTuple ?_ (by simpa using hs))
  have R4 := R3.push { cls := .type "tuple", data := .seq (vs.toArray.toList).toArray }
  refine wpAny_bind (wpAny_newList ?_ (Nat.zero_le _))
  have R5 := R4.pushOb (o := lst [] 0) rfl
  refine wpAny_holding ?_
  dsimp only
  have hn2 : ¬ vs.toArray.size < 2 := by rw [List.size_toArray]; lia
  rw [if_neg hn2, if_neg hn2]
  refine wpAny_bind ((kind _).use R5 fun κ' s'' N₂ R'' pz0 => ?_)
  obtain ⟨e2, e3⟩ := pz0
  subst e2; subst e3
  refine wpAny_bind (prv_runs (ks := vs) (vs := vs) rfl h2 h64 O R'' (fun i j x y N₃ hi hj hx hy e3 => cmp i j x y N₃ _ _ _ _ hi hj hx hy e3) fun st' s3 N₃ p hp ho hout hf e3 R3 => ?_)
  dsimp only
  have hpl : p.length = vs.length := by rw [hp.length_eq]; simp
  have R4' := R3.perm (List.Perm.swap _ _ _)
  refine wpAny_bind (seqEpoch_at (xs := #[]) (n := e1) (R4'.frm (.head _)) rfl ?_)
  refine wpAny_bind (prv_set (ws := p.map fun i => vs.getD i .none) R4' hout (Nat.zero_le _) (by simp; lia) fun s5 k5 R5 => ?_)
  rw [hf]
  simp only [bne_self_eq_false, Bool.false_eq_true, if_false]
  refine wpAny_pure ⟨_, rfl, ?_⟩
  refine wpAny_pure ⟨_, rfl, fin2 _ ⟨N₃, k5, p, e3, hp, ho, ?_⟩⟩
  exact (R5.perm (List.Perm.swap _ _ _)).popF
theorem getD_all2 {α : Type} {F : Value → α → Prop} {ps : List α} {d : α} (h : All2 F vs ps) : ∀ (p : List Nat), (∀ i ∈ p, i < ps.length) → All2 F (p.map fun i => vs.getD i .none) (p.map fun i => ps.getD i d)
  | [], _ => trivial
  | i :: p, hi => by
    refine ⟨?_, getD_all2 h p fun j hj => hi j (.tail _ hj)⟩
    have hlt := hi i (.head _)
    refine Classical.byContradiction fun hn => ?_
    obtain ⟨v, hv, hf⟩ := h.get (List.getElem?_eq_getElem hlt)
    refine hn ?_
    clear hn
    show F (vs.getD i .none) (ps.getD i d)
    rw [List.getD_eq_getElem?_getD, List.getD_eq_getElem?_getD, hv, List.getElem?_eq_getElem hlt]
    exact hf
noncomputable def SortedPc (ps qs : List Pc) : Prop := ∃ p : List Nat, p.Perm (List.range ps.length) ∧ p.Pairwise (Ahead fun i j => pcLt (ps.getD i default) (ps.getD j default)) ∧ qs = p.map fun i => ps.getD i default
theorem sorted_pcs {l : Addr} {n k : Nat} {ps : List Pc} {Q : Value → Led → Prop} (ho : AOk A (k + 2)) (hl : Has C N l (lst vs n)) (hp : PcL N vs ps) (h2 : 2 ≤ ps.length) (h64 : ps.length < 64)
    (fin : ∀ (N' : Led) (r : Addr) (j : Nat) (ws : List Value) (qs : List Pc), Ext N N' → New r N' → SortedPc ps qs → PcL N' ws qs → Q (.ref r) ((r, lst ws j) :: N')) : WE C A (PySem.call (.builtin "sorted") [.ref l]) Q N Φ := by
  have hlen := hp.length
  refine sorted_plain (κ := tuples' true) (lt := fun i j => pcLt (ps.getD i default) (ps.getD j default)) hl (by lia) (by lia) (Ord.pc _) (fun Ψ => kind_pc hp (by lia)) (fun i j a b N' o1 o2 a1 a2 hi hj ha hb e => ?_) fun N' r j p e hr h1 h3 => ?_
  · obtain ⟨p, hp1, hp2⟩ := hp.get' ha
    refine Classical.byContradiction fun hn => ?_
    obtain ⟨q, hq1, hq2⟩ := hp.get' hb
    refine hn ?_
    clear hn
    refine klt_pc (k := k) (p := p) (q := q) ho.in1.in1 (hp2.mono e) (hq2.mono e) ⟨?_, Ext.refl _⟩
    rw [List.getD_eq_getElem?_getD, List.getD_eq_getElem?_getD, hp1, hq1]; rfl
  · rw [hlen] at h1
    exact fin N' r j _ _ e hr ⟨p, h1, h3, rfl⟩ (getD_all2 (d := default) (hp.mono e) p fun i hi => List.mem_range.mp (h1.mem_iff.mp hi))
end Mine.Internal
end
section
open PySem PySem.W PyProof.Rows PySem.Calls PySem.Spec PySem.Builtin.List PySem.Builtin
set_option maxRecDepth 100000
namespace Mine.Internal
variable {C : Cx} {N N' : Led} {Φ : Frs} {A : Around} {mg mb : Lo} {s : Shared} {env : Env}
structure LamF (C : Cx) (c P : Addr) (q : Str) : Prop where
  t : P ∈ C.tabs
  h : codeHdIn C.K c P = true
  q : C.qual P = q
noncomputable def IsN (v : Value) (i : Nat) : Prop := ∃ t, v = .int (i : Int) t
theorem all2_of {α : Type} {F : Value → α → Prop} : ∀ {vs : List Value} {ps : List α}, vs.length = ps.length → (∀ (i : Nat) (v : Value) (p : α), vs[i]? = some v → ps[i]? = some p → F v p) → All2 F vs ps
  | [], [], _, _ => trivial
  | v :: vs, p :: ps, hl, h => ⟨h 0 v p rfl rfl, all2_of (by simpa using hl) fun i v p h1 h2 => h (i + 1) v p (by simpa using h1) (by simpa using h2)⟩
theorem list_rng {r : Addr} {n : Nat} {t u v : Tok} {Q : Value → Led → Prop} (hh : A.handled = none) (hr : Has C N r (rngO 0 n 1 t u v)) (hn : n ≤ 2 ^ 16)
    (q : ∀ a k vs, New a N → All2 IsN vs (List.range n) → Q (.ref a) ((a, lst vs k) :: N)) : WE C A (PySem.call (.type "list") [.ref r]) Q N Φ := fun s E R => by
  refine call_list_range hh (R.has hr) (small_up hn) (size_up n) (by lia) fun h' tk acc' c' hk hS' hacc => ?_
  have hS2 : h'.get? s.heap.objs.size = some (lst acc'.toList c') := by simpa using hS'
  obtain ⟨R', hN⟩ := R.addN (tk := tk) hk hS2 (Nat.le_refl _)
  refine ⟨_, R', q _ _ _ hN (all2_of ?_ fun i v p h1 h2 => ?_)⟩
  · simp [hacc.1]
  · obtain ⟨t, e⟩ := hacc.2 i v (by simpa using h1)
    have hi : i < n := by
      have := (List.getElem?_eq_some_iff.mp h2).1
      simpa using this
    have hp : p = i := by rw [List.getElem?_range hi] at h2; exact (Option.some.inj h2).symm
    exact ⟨t, by rw [e, hp]; simp⟩
noncomputable def LineOk (bags : List (List Pc)) (line : List Nat) : Prop := ∃ p1 p2 : List Nat,
  p1.Perm (List.range bags.length) ∧ p1.Pairwise (Ahead fun i j => plLt (bags.getD (bags.length - 1 - i) []) (bags.getD (bags.length - 1 - j) [])) ∧
  p2.Perm (List.range bags.length) ∧ p2.Pairwise (Ahead fun i j => decide (((sgL (bags.getD ((p1.map (bags.length - 1 - ·)).reverse.getD i 0) []) : Nat) : Int) < (sgL (bags.getD ((p1.map (bags.length - 1 - ·)).reverse.getD j 0) []) : Nat))) ∧
  line = p2.map fun i => (p1.map (bags.length - 1 - ·)).reverse.getD i 0
set_option maxHeartbeats 2000000 in
theorem c_line {b P : Addr} {nb : Nat} {bv : List Value} {bags : List (List Pc)} {Q : Value → Led → Prop} (H : All C mg mb) (T : TabF C mg mb) (LF : LamF C 175 P "_law_line.<locals>.<lambda>") (ho : AOk A 12) (hb : (b, lst bv nb) ∈ N) (hbs : PLs N bv bags)
    (h2 : 2 ≤ bags.length) (h64 : bags.length < 64) (hl : ∀ g ∈ bags, g.length ≤ 2 ^ 10)
    (q : ∀ (N' : Led) (r : Addr) (ws : List Value) (k : Nat) (line : List Nat), Ext N N' → New r N' → LineOk bags line → All2 IsN ws line → Q (.ref r) ((r, lst ws k) :: N')) : WE C A (PySem.call (.ref 176) [.ref b]) Q N Φ := by
  have G := H.G.P
  obtain ⟨pm, hf⟩ := G.f_line
  have hbl := hbs.length
  refine WE.call (CE.fnCells (binds := [("bags", .ref b)]) (cs := fun L => [("bags", L + 1)]) (k := 11) G.G ho hf.any rfl rfl rfl (fun _ => rfl) fun L => ?_)
  have ho' := ho.deeper (env := callEnvC (mkFd (stOf 18) 176 (stName (stOf 18)) [] Value.none pm Value.none) L 176)
  refine s_cons ?_
  refine s_assign (.inl ⟨rfl, rfl, rfl⟩) ?_
  refine e_sub ?_
  refine e_sortedK G ?_
  refine e_sub ?_
  refine e_call rfl (e_blt G.G G.n_list G.b_list (cw_type rfl (a_cons ?_)))
  refine e_call rfl (e_blt G.G G.n_range G.b_range (cw_type rfl (a_cons ?_)))
  refine e_call rfl (e_blt G.G G.n_len G.b_len (cw_blt rfl (a_cons (e_cell (v := .ref b) (.top (x := "bags") rfl rfl) (a_nil ?_)))))
  refine len_L G.F (.inr hb) (by rw [sizeLine_eq]; lia) fun t1 => ?_
  refine a_nil ?_
  refine range1 fun r u1 v1 hr => ?_
  refine a_nil ?_
  rw [hbl]
  refine list_rng ho'.h (.inr (.head _)) (by lia) fun l0 k0 vs0 hl0 hv0 => ?_
  have hv0l : vs0.length = bags.length := by rw [hv0.length]; simp
  refine e_slice (e_part0 (e_part0 (e_part1 (e_un (e_int fun t2 => o_neg fun t3 => fun sl hsl => ?_)))))
  refine subT_slice G.F (.inl rfl) (.inr (.tail _ (.head _))) (.inr (.head _)) .none .none (.int _ _) (by decide) (by rw [sizeLine_eq]; lia) pick_rev fun l1 hl1 => ?_
  refine e_lam G.G T LF.t LF.h LF.q fun f c' ct N3 e3 hf3 hfn => ?_
  have e3' : Ext N N3 := (Ext.refl _).c4.trans e3
  have hrev : ∀ i v, vs0.reverse[i]? = some v → i < bags.length ∧ ∃ t, v = .int ((bags.length - 1 - i : Nat) : Int) t := by
    intro i v hv
    have hi : i < vs0.length := by have := (List.getElem?_eq_some_iff.mp hv).1; simpa using this
    rw [List.getElem?_reverse hi] at hv
    refine Classical.byContradiction fun hn => ?_
    obtain ⟨p, hp, t, e⟩ := hv0.get' hv
    refine hn ?_
    clear hn
    rw [List.getElem?_range (by rw [← hv0l]; exact n_lt hi)] at hp
    cases hp
    exact ⟨by lia, t, by rw [e, hv0l]⟩
  have bget : ∀ i, i < bags.length → bags[i]? = some (bags.getD i []) := fun i hi => by rw [List.getD_eq_getElem?_getD, List.getElem?_eq_getElem hi]; rfl
  refine sorted_key (κ := oneType') (lt := fun i j => plLt (bags.getD (bags.length - 1 - i) []) (bags.getD (bags.length - 1 - j) [])) (KR := fun i k N' => IsPL N' k (bags.getD (bags.length - 1 - i) []))
    (.inr (e3 _ (.head _))) (by simp; lia) (by simp; lia) (Ord.pl _) (fun i k N1 N2 h e => h.mono e) ?_ ?_ ?_ ?_
  · intro i v N4 o1 o2 a1 a2 hv e4
    obtain ⟨hi, t, rfl⟩ := hrev i v hv
    refine Classical.byContradiction fun hn => ?_
    obtain ⟨x, hx, hxb⟩ := hbs.get (bget (bags.length - 1 - i) (n_lt hi))
    refine hn ?_
    clear hn
    refine WE.call (CE.fnLam (binds := [("at", _)]) (k := 8) G.G ho'.in1.in1 (hfn.mono e4).has rfl rfl fun L' => ?_)
    refine e_sub (e_free (c := L + 1) (v := .ref b) (.fr (x := "bags") (.tail _ (.tail _ (.tail _ (.head _)))) rfl rfl) (e_local (v := .int _ t) rfl ?_))
    refine subT_int G.F (.inl rfl) (.inr (e4 _ (e3' _ hb))) (Int.natCast_nonneg _) (x := x) hx (by rw [sizeLine_eq]; lia) ⟨hxb.mono (e3'.trans e4), Ext.refl _⟩
  · intro N4 ks Ψ e4 hkl hks
    refine kind_one (T := .type "list") (by rw [hkl]; simp; lia) (fun v hv s R => ?_) (by decide) (by decide)
    obtain ⟨i, hi⟩ := List.getElem?_of_mem hv
    obtain ⟨a, us, n, rfl, ha, _⟩ := hks i v hi
    exact looks_ty (R.get ha)
  · intro i j x y N4 o1 o2 a1 a2 hi hj hx hy e4
    obtain ⟨a, us, n, rfl, ha, hpa⟩ := hx
    obtain ⟨a', us', n', rfl, ha', hpa'⟩ := hy
    exact klt_list (k := 7) ho'.in1.in1 (.inr ha) (.inr ha') hpa hpa' ⟨rfl, Ext.refl _⟩
  · intro N4 r4 k4 p1 e4 hr4 hp1 hpw
    have hp1' : p1.Perm (List.range bags.length) := by
      have : vs0.reverse.length = bags.length := by simp [hv0l]
      rwa [this] at hp1
    have hw1 : All2 IsN (p1.map fun i => vs0.reverse.getD i .none) (p1.map (bags.length - 1 - ·)) := by
      refine all2_of (by simp) fun i v p h1 h3 => ?_
      rw [List.getElem?_map] at h1 h3
      obtain ⟨j, hj, rfl⟩ := Option.map_eq_some_iff.mp h1
      rw [hj] at h3
      cases h3
      have hjn : j < bags.length := List.mem_range.mp (hp1'.mem_iff.mp (List.mem_of_getElem? hj))
      have hjv : vs0.reverse[j]? = some (vs0.reverse.getD j .none) := by rw [List.getD_eq_getElem?_getD, List.getElem?_eq_getElem (by simp; lia)]; rfl
      refine Classical.byContradiction fun hn => ?_
      obtain ⟨_, t, e⟩ := hrev j _ hjv
      refine hn ?_
      clear hn
      exact ⟨t, e⟩
    have hwl := hw1.length
    have hp1l : p1.length = bags.length := by rw [hp1'.length_eq]; simp
    refine e_slice (e_part0 (e_part0 (e_part1 (e_un (e_int fun t4 => o_neg fun t5 => fun sl2 hsl2 => ?_)))))
    refine subT_slice G.F (.inl rfl) (.inr (.tail _ (.head _))) (.inr (.head _)) .none .none (.int _ _) (by decide) (by rw [sizeLine_eq]; simp; lia) pick_rev fun l5 hl5 => ?_
    have hw2 := hw1.reverse
    have hF : ((p1.map (bags.length - 1 - ·)).reverse).length = bags.length := by simp [hp1l]
    have hFm : ∀ x ∈ (p1.map (bags.length - 1 - ·)).reverse, x < bags.length := by
      intro x hx
      rw [List.mem_reverse, List.mem_map] at hx
      obtain ⟨y, hy, rfl⟩ := hx
      lia
    have hq : ∀ (N' : Led) (r : Addr) (ws : List Value) (k : Nat) (p2 : List Nat), Ext N N' → New r N' → p2.Perm (List.range bags.length) → p2.Pairwise (Ahead fun i j => decide (((sgL (bags.getD ((p1.map (bags.length - 1 - ·)).reverse.getD i 0) []) : Nat) : Int) < (sgL (bags.getD ((p1.map (bags.length - 1 - ·)).reverse.getD j 0) []) : Nat))) →
        All2 IsN ws (p2.map fun i => (p1.map (bags.length - 1 - ·)).reverse.getD i 0) → Q (.ref r) ((r, lst ws k) :: N') := fun N' r ws k p2 h1 h2 h3 h4 h5 => q N' r ws k _ h1 h2 ⟨p1, p2, hp1', hpw, h3, h4, rfl⟩ h5
    generalize (p1.map (bags.length - 1 - ·)).reverse = F at hw2 hF hFm hq
    generalize (p1.map fun i => vs0.reverse.getD i .none).reverse = ws at hw2
    have hwsl := hw2.length
    have hFget : ∀ i, i < bags.length → F[i]? = some (F.getD i 0) := fun i hi => by rw [List.getD_eq_getElem?_getD, List.getElem?_eq_getElem (by lia)]; rfl
    have e4' : Ext N N4 := e3'.trans e4
    refine s_cons ?_
    refine s_ret ?_
    refine e_sortedK G ?_
    refine e_local (v := .ref l5) (setLo_self ..) ?_
    refine e_lam G.G T LF.t LF.h LF.q fun f2 c2 ct2 N6 e6 hf6 hfn2 => ?_
    have e6' : Ext N N6 := e4'.c3.trans e6
    refine sorted_key (κ := oneType') (lt := fun i j => decide (((sgL (bags.getD (F.getD i 0) []) : Nat) : Int) < (sgL (bags.getD (F.getD j 0) []) : Nat))) (KR := fun i k N' => IsI k ((sgL (bags.getD (F.getD i 0) []) : Nat) : Int))
      (.inr (e6 _ (.head _))) (by lia) (by lia) (Ord.int _) (fun i k N1 N2 h e => h) ?_ ?_ ?_ ?_
    · intro i v N7 o1 o2 a1 a2 hv e7
      obtain ⟨p, hp, t, rfl⟩ := hw2.get' hv
      have hi : i < bags.length := by have := (List.getElem?_eq_some_iff.mp hp).1; lia
      have hpF : p = F.getD i 0 := by rw [hFget i hi] at hp; exact (Option.some.inj hp).symm
      have hpn : p < bags.length := hFm _ (List.mem_of_getElem? hp)
      refine Classical.byContradiction fun hn => ?_
      obtain ⟨x, hx, hxb⟩ := hbs.get (bget p hpn)
      refine hn ?_
      clear hn
      refine WE.call (CE.fnLam (binds := [("at", _)]) (k := 8) G.G ho'.in1.in1 (hfn2.mono e7).has rfl rfl fun L' => ?_)
      refine e_call rfl (e_glob G.G G.g_signs (cw_S G.f_signs rfl (a_cons ?_)))
      refine e_sub (e_free (c := L + 1) (v := .ref b) (.fr (x := "bags") (.tail _ (.tail _ (.tail _ (.head _)))) rfl rfl) (e_local (v := .int _ t) rfl ?_))
      refine subT_int G.F (.inl rfl) (.inr (e7 _ (e6' _ hb))) (Int.natCast_nonneg _) (x := x) hx (by rw [sizeLine_eq]; lia) ?_
      refine a_nil ?_
      have hgm : bags.getD p [] ∈ bags := List.mem_of_getElem? (bget p hpn)
      refine c_signs G (ps := bags.getD p []) (ho'.in1.in1.deeper.le (by decide)) (hxb.mono (e6'.trans e7)) (by have := hl _ hgm; lia) fun N8 t8 e8 => ⟨⟨t8, by rw [hpF]⟩, e8⟩
    · intro N7 ks Ψ e7 hkl hks
      refine kind_one (T := .type "int") (by lia) (fun v hv s R => ?_) (by decide) (by decide)
      obtain ⟨i, hi⟩ := List.getElem?_of_mem hv
      obtain ⟨t, rfl⟩ := hks i v hi
      exact .now
    · intro i j x y N7 o1 o2 a1 a2 hi hj hx hy e7
      obtain ⟨t, rfl⟩ := hx
      obtain ⟨t', rfl⟩ := hy
      exact klt_int ⟨rfl, Ext.refl _⟩
    · intro N7 r7 k7 p2 e7 hr7 hp2 hpw2
      rw [hwsl, hF] at hp2
      refine hq N7 r7 _ k7 p2 (e6'.trans e7) hr7 hp2 hpw2 ?_
      exact getD_all2 (d := 0) hw2 p2 fun i hi => by rw [hF]; exact List.mem_range.mp (hp2.mem_iff.mp hi)
end Mine.Internal
end
section
open PySem PySem.W PyProof.Rows
namespace Mine.Internal
theorem pcLt_iff {p q : Pc} : pcLt p q = true ↔ pn p < pn q := by unfold pcLt; exact decide_eq_true_iff
theorem sorted_uniq {ps q1 q2 : List Pc} (h1 : SortedPc ps q1) (h2 : SortedPc ps q2) : q1 = q2 := by
  obtain ⟨p1, a1, b1, rfl⟩ := h1
  obtain ⟨p2, a2, b2, rfl⟩ := h2
  rw [ahead_uniq (a1.trans a2.symm) b1 b2]
theorem sorted_len {ps qs : List Pc} (h : SortedPc ps qs) : qs.length = ps.length := by
  obtain ⟨p, a, b, rfl⟩ := h
  rw [List.length_map, a.length_eq, List.length_range]
noncomputable def Up (ps : List Pc) : Prop := ps.Pairwise fun a b => pn a ≤ pn b
theorem sorted_up {ps qs : List Pc} (h : SortedPc ps qs) : Up qs := by
  obtain ⟨p, a, b, rfl⟩ := h
  unfold Up
  rw [List.pairwise_map]
  refine b.imp fun {i j} h => ?_
  have this : pcLt (ps.getD j default) (ps.getD i default) = false := h.1
  have h2 : ¬ pcLt (ps.getD j default) (ps.getD i default) = true := by rw [this]; decide
  rw [pcLt_iff] at h2
  lia
theorem sorted_perm {ps qs : List Pc} (h : SortedPc ps qs) : qs.Perm ps := by
  obtain ⟨p, a, b, rfl⟩ := h
  refine (a.map _).trans ?_
  have : (List.range ps.length).map (fun i => ps.getD i default) = ps := by
    refine List.ext_getElem (by simp) fun i h1 h2 => ?_
    rw [List.getElem_map, List.getElem_range, List.getD_eq_getElem?_getD, List.getElem?_eq_getElem h2]
    rfl
  rw [this]
noncomputable def ownC (two pre : List Pc) (p : Pc) : Bool := !decide (p ∈ two) && (!decide (p ∈ pre) || !(two.any fun o => pcLt p o))
noncomputable def ownS (two : List Pc) : List Pc → List Pc → List Pc
  | _, [] => []
  | pre, p :: suf => (if ownC two pre p = true then [p] else []) ++ ownS two (pre ++ [p]) suf
theorem ownS_c {two pre : List Pc} {p : Pc} {suf : List Pc} : ownS two pre (p :: suf) = (if ownC two pre p = true then [p] else []) ++ ownS two (pre ++ [p]) suf := rfl
theorem ownS_n {two pre : List Pc} : ownS two pre [] = [] := rfl
theorem ownS_eq (one two : List Pc) : ∀ (k i : Nat), i + k = one.length → ownI one two i ++ ownS two (one.take i) (one.drop i) = ownL one two
  | 0, i, h => by
    have : i = one.length := by lia
    subst this
    rw [List.drop_length, ownS_n, List.append_nil]
    rfl
  | k + 1, i, h => by
    have hi : i < one.length := by lia
    rw [← ownS_eq one two k (i + 1) (by lia)]
    rw [List.drop_eq_getElem_cons hi, ownS_c, ownI_s, List.getElem?_eq_getElem hi, List.take_add_one, List.getElem?_eq_getElem hi]
    simp only [Option.toList, List.filter_cons, List.filter_nil, List.append_assoc]
    rfl
theorem ownL_S (one two : List Pc) : ownL one two = ownS two [] one := by
  have := ownS_eq one two one.length 0 (Nat.zero_add _)
  rw [← this]; rfl
theorem ownS_append (two : List Pc) : ∀ (t pre u : List Pc), ownS two pre (t ++ u) = ownS two pre t ++ ownS two (pre ++ t) u
  | [], pre, u => by rw [ownS_n]; simp
  | p :: t, pre, u => by
    rw [List.cons_append, ownS_c, ownS_append two t, ownS_c, List.append_assoc, List.append_assoc]
    rfl
theorem ownS_in {two : List Pc} {x : Pc} (h : x ∈ two) : ∀ (t pre : List Pc), (∀ p ∈ t, p = x) → ownS two pre t = []
  | [], _, _ => rfl
  | p :: t, pre, ht => by
    have hp := ht p (.head _)
    subst hp
    rw [ownS_c, ownS_in h t _ fun q hq => ht q (.tail _ hq)]
    simp [ownC, h]
theorem ownS_more {two : List Pc} {x : Pc} (ha : (two.any fun o => pcLt x o) = true) : ∀ (t pre : List Pc), x ∈ pre → (∀ p ∈ t, p = x) → ownS two pre t = []
  | [], _, _, _ => rfl
  | p :: t, pre, h, ht => by
    have hp := ht p (.head _)
    subst hp
    rw [ownS_c, ownS_more ha t (pre ++ [p]) (List.mem_append_left _ h) fun q hq => ht q (.tail _ hq)]
    simp [ownC, h, ha]
theorem ownS_all {two : List Pc} : ∀ (t pre : List Pc), (∀ p ∈ t, p ∉ two ∧ (two.any fun o => pcLt p o) = false) → ownS two pre t = t
  | [], _, _ => rfl
  | p :: t, pre, ht => by
    obtain ⟨h1, h2⟩ := ht p (.head _)
    rw [ownS_c, ownS_all t _ fun q hq => ht q (.tail _ hq)]
    simp [ownC, h1, h2]
theorem skp_run (x : Pc) (xs : List Pc) : ∃ t, xs = t ++ skp x xs ∧ (∀ p ∈ t, p = x) ∧ ∀ p, (skp x xs).head? = some p → p ≠ x := by
  refine ⟨xs.takeWhile fun q => decide (q = x), (List.takeWhile_append_dropWhile (p := fun q => decide (q = x))).symm, fun p hp => ?_, fun p hp e => ?_⟩
  · have := List.all_eq_true.mp (List.all_takeWhile (p := fun q => decide (q = x)) (l := xs)) p hp
    simpa using this
  · subst e
    have := List.head?_dropWhile_not (fun q => decide (q = p)) xs
    unfold skp at hp
    rw [hp] at this
    simp at this
noncomputable def Lt (a b : List Pc) : Prop := ∀ x ∈ a, ∀ y ∈ b, pn x < pn y
theorem up_head {x : Pc} {xs : List Pc} (h : Up (x :: xs)) : ∀ y ∈ xs, pn x ≤ pn y := (List.pairwise_cons.mp h).1
theorem skp_gt {x : Pc} {xs : List Pc} (h : Up (x :: xs)) : ∀ y ∈ skp x xs, pn x < pn y := by
  refine Classical.byContradiction fun hn => ?_
  obtain ⟨t, e, ht, hh⟩ := skp_run x xs
  refine hn ?_
  clear hn
  have hsub : ∀ y ∈ skp x xs, y ∈ xs := fun y hy => by rw [e]; exact List.mem_append_right _ hy
  have hu : Up (skp x xs) := by
    have h1 : Up xs := (List.pairwise_cons.mp h).2
    unfold Up at h1
    rw [e, List.pairwise_append] at h1
    exact h1.2.1
  intro y hy
  cases hs : skp x xs with
  | nil => rw [hs] at hy; cases hy
  | cons z zs =>
    have hz : z ≠ x := hh z (by rw [hs]; rfl)
    have hz2 := up_head h z (hsub z (by rw [hs]; exact .head _))
    have hz3 : pn x < pn z := by
      rcases Nat.lt_or_ge (pn x) (pn z) with h | h
      · exact h
      · exact absurd (pn_inj (by lia)) hz
    rw [hs] at hy hu
    rcases List.mem_cons.mp hy with rfl | hy
    · exact hz3
    · have := up_head hu y hy; lia
theorem up_skp {x : Pc} {xs : List Pc} (h : Up (x :: xs)) : Up (skp x xs) := by
  refine Classical.byContradiction fun hn => ?_
  obtain ⟨t, e, ht, hh⟩ := skp_run x xs
  refine hn ?_
  clear hn
  have h1 : Up xs := (List.pairwise_cons.mp h).2
  unfold Up at h1
  rw [e, List.pairwise_append] at h1
  exact h1.2.1
theorem skp_le (x : Pc) (xs : List Pc) : (skp x xs).length ≤ xs.length := by
  refine Classical.byContradiction fun hn => ?_
  obtain ⟨t, e, _⟩ := skp_run x xs
  refine hn ?_
  clear hn
  have := congrArg List.length e
  rw [List.length_append] at this
  lia
theorem skp_sub {x : Pc} {xs : List Pc} : ∀ y ∈ skp x xs, y ∈ xs := fun y hy => by
  refine Classical.byContradiction fun hn => ?_
  obtain ⟨t, e, _⟩ := skp_run x xs
  refine hn ?_
  clear hn
  rw [e]; exact List.mem_append_right _ hy
theorem ownS_run1 {two X : List Pc} {x : Pc} {xs : List Pc} (h1 : x ∉ two) (h2 : x ∉ X) (h3 : (two.any fun o => pcLt x o) = true) : ∃ t, (∀ p ∈ t, p = x) ∧ x :: xs = (x :: t) ++ skp x xs ∧ ownS two X (x :: xs) = [x] ++ ownS two (X ++ x :: t) (skp x xs) := by
  refine Classical.byContradiction fun hn => ?_
  obtain ⟨t, e, ht, hh⟩ := skp_run x xs
  refine hn ?_
  clear hn
  refine ⟨t, ht, by rw [List.cons_append, ← e], ?_⟩
  conv => lhs; rw [e]
  rw [← List.cons_append, ownS_append]
  congr 1
  rw [ownS_c, ownS_more h3 t _ (by simp) ht]
  simp [ownC, h1, h2]
theorem ownS_run0 {two X : List Pc} {x : Pc} {xs : List Pc} (h1 : x ∈ two) : ∃ t, (∀ p ∈ t, p = x) ∧ x :: xs = (x :: t) ++ skp x xs ∧ ownS two X (x :: xs) = ownS two (X ++ x :: t) (skp x xs) := by
  refine Classical.byContradiction fun hn => ?_
  obtain ⟨t, e, ht, hh⟩ := skp_run x xs
  refine hn ?_
  clear hn
  refine ⟨t, ht, by rw [List.cons_append, ← e], ?_⟩
  conv => lhs; rw [e]
  rw [← List.cons_append, ownS_append, ownS_in h1 (x :: t) X fun p hp => by
    rcases List.mem_cons.mp hp with rfl | hp
    · rfl
    · exact ht p hp]
  rfl
theorem Lt.run {X Y : List Pc} {x : Pc} {t : List Pc} (h : Lt X Y) (hx : ∀ y ∈ Y, pn x < pn y) (ht : ∀ p ∈ t, p = x) : Lt (X ++ x :: t) Y := by
  intro a ha y hy
  rcases List.mem_append.mp ha with ha | ha
  · exact h a ha y hy
  · rcases List.mem_cons.mp ha with rfl | ha
    · exact hx y hy
    · rw [ht a ha]; exact hx y hy
theorem Lt.sub {X Y Z : List Pc} (h : Lt X Y) (hs : ∀ z ∈ Z, z ∈ Y) : Lt X Z := fun a ha z hz => h a ha z (hs z hz)
theorem not_in_lt {X Y : List Pc} {x : Pc} (h1 : ∀ a ∈ X, pn a < pn x) (h2 : ∀ y ∈ Y, pn x < pn y) : x ∉ X ++ Y := by
  intro h
  rcases List.mem_append.mp h with h | h
  · have := h1 x h; lia
  · have := h2 x h; lia
theorem sld_own : ∀ (n : Nat) (X xs Y ys mi un : List Pc), xs.length + ys.length ≤ n → Up xs → Up ys → Lt X xs → Lt X ys → Lt Y xs → Lt Y ys →
    sldL n xs ys mi un = (mi ++ ownS (Y ++ ys) X xs, un ++ ownS (X ++ xs) Y ys) := by
  have endL : ∀ (X Y ys : List Pc), Lt X ys → ownS (X ++ []) Y ys = ys := fun X Y ys h => by
    refine ownS_all _ _ fun p hp => ?_
    rw [List.append_nil]
    refine ⟨fun hm => ?_, ?_⟩
    · have := h p hm p hp; lia
    · rw [List.any_eq_false]
      intro o ho hlt
      rw [pcLt_iff] at hlt
      have := h o ho p hp; lia
  intro n
  induction n with
  | zero =>
    intro X xs Y ys mi un hl h1 h2 h3 h4 h5 h6
    have e1 : xs = [] := List.eq_nil_of_length_eq_zero (by lia)
    have e2 : ys = [] := List.eq_nil_of_length_eq_zero (by lia)
    subst e1; subst e2
    rw [ownS_n, ownS_n]; rfl
  | succ n ih =>
    intro X xs Y ys mi un hl h1 h2 h3 h4 h5 h6
    cases xs with
    | nil => rw [endL X Y ys h4, ownS_n, List.append_nil]; rfl
    | cons x xs => cases ys with
      | nil => rw [endL Y X (x :: xs) h5, ownS_n, List.append_nil]; rfl
      | cons y ys =>
        have hx1 : ∀ a ∈ X, pn a < pn x := fun a ha => h3 a ha x (.head _)
        have hx2 : ∀ a ∈ Y, pn a < pn x := fun a ha => h5 a ha x (.head _)
        have hy1 : ∀ a ∈ Y, pn a < pn y := fun a ha => h6 a ha y (.head _)
        have hy2 : ∀ a ∈ X, pn a < pn y := fun a ha => h4 a ha y (.head _)
        have hxX : x ∉ X := fun h => by have := hx1 x h; lia
        have hyY : y ∉ Y := fun h => by have := hy1 y h; lia
        have lx := skp_le x xs
        have ly := skp_le y ys
        simp only [List.length_cons] at hl
        rw [sldL_c]
        by_cases c1 : pcLt x y = true
        · rw [if_pos c1]
          rw [pcLt_iff] at c1
          have gy : ∀ z ∈ y :: ys, pn x < pn z := fun z hz => by
            rcases List.mem_cons.mp hz with rfl | hz
            · exact c1
            · have := up_head h2 z hz; lia
          refine Classical.byContradiction fun hn => ?_
          obtain ⟨t, ht, e, ho⟩ := ownS_run1 (two := Y ++ y :: ys) (X := X) (x := x) (xs := xs) (not_in_lt hx2 gy) hxX (List.any_eq_true.mpr ⟨y, by simp, pcLt_iff.mpr c1⟩)
          refine hn ?_
          clear hn
          rw [ih (X ++ x :: t) (skp x xs) Y (y :: ys) (mi ++ [x]) un (by simp only [List.length_cons]; lia) (up_skp h1) h2 ((h3.sub fun z hz => .tail _ (skp_sub z hz)).run (skp_gt h1) ht) (h4.run gy ht) (h5.sub fun z hz => .tail _ (skp_sub z hz)) h6, ho, e]
          simp [List.append_assoc]
        · rw [if_neg c1]
          by_cases c2 : pcLt y x = true
          · rw [if_pos c2]
            rw [pcLt_iff] at c2
            have gx : ∀ z ∈ x :: xs, pn y < pn z := fun z hz => by
              rcases List.mem_cons.mp hz with rfl | hz
              · exact c2
              · have := up_head h1 z hz; lia
            refine Classical.byContradiction fun hn => ?_
            obtain ⟨t, ht, e, ho⟩ := ownS_run1 (two := X ++ x :: xs) (X := Y) (x := y) (xs := ys) (not_in_lt hy2 gx) hyY (List.any_eq_true.mpr ⟨x, by simp, pcLt_iff.mpr c2⟩)
            refine hn ?_
            clear hn
            rw [ih X (x :: xs) (Y ++ y :: t) (skp y ys) mi (un ++ [y]) (by simp only [List.length_cons]; lia) h1 (up_skp h2) h3 (h4.sub fun z hz => .tail _ (skp_sub z hz)) (h5.run gx ht) ((h6.sub fun z hz => .tail _ (skp_sub z hz)).run (skp_gt h2) ht), ho, e]
            simp [List.append_assoc]
          · rw [if_neg c2]
            have exy : x = y := pcLt_eq c1 c2
            subst exy
            refine Classical.byContradiction fun hn => ?_
            obtain ⟨t, ht, e, ho⟩ := ownS_run0 (two := Y ++ x :: ys) (X := X) (x := x) (xs := xs) (by simp)
            obtain ⟨t', ht', e', ho'⟩ := ownS_run0 (two := X ++ x :: xs) (X := Y) (x := x) (xs := ys) (by simp)
            refine hn ?_
            clear hn
            rw [ih (X ++ x :: t) (skp x xs) (Y ++ x :: t') (skp x ys) mi un (by lia) (up_skp h1) (up_skp h2) ((h3.sub fun z hz => .tail _ (skp_sub z hz)).run (skp_gt h1) ht) ((h4.sub fun z hz => .tail _ (skp_sub z hz)).run (skp_gt h2) ht) ((h5.sub fun z hz => .tail _ (skp_sub z hz)).run (skp_gt h1) ht') ((h6.sub fun z hz => .tail _ (skp_sub z hz)).run (skp_gt h2) ht'), ho, ho', e, e']
            simp [List.append_assoc]
theorem sld_ownL {xs ys : List Pc} (h1 : Up xs) (h2 : Up ys) : sldL (xs.length + ys.length) xs ys [] [] = (ownL xs ys, ownL ys xs) := by
  have e : Lt [] xs := fun _ h => nomatch h
  have e' : Lt [] ys := fun _ h => nomatch h
  rw [sld_own _ [] xs [] ys [] [] (Nat.le_refl _) h1 h2 e e' e e', ownL_S, ownL_S]
  rfl
end Mine.Internal
end
section
open PySem PySem.W PyProof.Rows PySem.Calls PySem.Spec PySem.Builtin.List PySem.Builtin
set_option maxRecDepth 100000
namespace Mine.Internal
variable {C : Cx} {N N' N'' : Led} {Φ : Frs} {A : Around} {mg mb : Lo} {s : Shared} {env : Env}
noncomputable def Firm (o : Obj) : Prop := (∃ vs n, o.data = .seq vs n ∧ o.cls ≠ .ref accA) ∨ (∃ vs, o.data = .fields vs) ∨ (∃ fd, o.data = .func fd)
noncomputable def ExP (N N' : Led) : Prop := ∀ p ∈ N, Firm p.2 → p ∈ N'
theorem Ext.exp (e : Ext N N') : ExP N N' := fun p h _ => e p h
theorem ExP.refl (N : Led) : ExP N N := fun _ h _ => h
theorem ExP.trans (e : ExP N N') (e' : ExP N' N'') : ExP N N'' := fun p h f => e' p (e p h f) f
theorem firm_lst {vs : List Value} {n : Nat} : Firm (lst vs n) := .inl ⟨_, _, rfl, by simp⟩
theorem firm_tup {vs : List Value} {n : Nat} : Firm (tup vs n) := .inl ⟨_, _, rfl, by simp⟩
theorem row_soft {d : Option Addr} {vs : List Value} {n : Nat} : ¬ Firm (sq (.ref accA) d vs n) := by
  rintro (⟨_, _, _, h⟩ | ⟨_, h⟩ | ⟨_, h⟩)
  · exact h rfl
  · cases h
  · cases h
theorem szO_soft {h : Int} {k : Tok} {v : Value} {ep : Nat} : ¬ Firm (szO h k v ep) := by
  rintro (⟨_, _, h, _⟩ | ⟨_, h⟩ | ⟨_, h⟩) <;> cases h
theorem ExP.pc {v : Value} {p : Pc} (e : ExP N N') (h : IsPc N v p) : IsPc N' v p := let ⟨a, n, t, u, x, y⟩ := h; ⟨a, n, t, u, x, e _ y firm_tup⟩
theorem ExP.pcl {vs : List Value} {ps : List Pc} (e : ExP N N') (h : PcL N vs ps) : PcL N' vs ps := All2.imp (fun _ _ x => e.pc x) h
theorem ExP.pl {v : Value} {ps : List Pc} (e : ExP N N') (h : IsPL N v ps) : IsPL N' v ps := let ⟨a, vs, n, x, y, z⟩ := h; ⟨a, vs, n, x, e _ y firm_lst, e.pcl z⟩
theorem ExP.pls {vs : List Value} {pss : List (List Pc)} (e : ExP N N') (h : PLs N vs pss) : PLs N' vs pss := All2.imp (fun _ _ x => e.pl x) h
theorem ExP.lst {a : Addr} {vs : List Value} {n : Nat} (e : ExP N N') (h : (a, Mine.Internal.lst vs n) ∈ N) : (a, Mine.Internal.lst vs n) ∈ N' := e _ h firm_lst
theorem ExP.lam {f : Addr} {fd : FuncData} (e : ExP N N') (h : LamA N f fd) : LamA N' f fd :=
  ⟨let ⟨o, a, b, c⟩ := h.obj; ⟨o, e _ a (.inr (.inr ⟨_, c⟩)), b, c⟩, let ⟨c, oc, a, b, d⟩ := h.code; ⟨c, oc, a, e _ b (let ⟨vs, t, x, y⟩ := d; .inr (.inl ⟨vs, x⟩)), d⟩⟩
noncomputable def KeepX (xs : List Addr) (N N' : Led) : Prop := ∀ p ∈ N, p.1 ∉ xs → p ∈ N'
theorem KeepX.exp {xs : List Addr} (fn : ∀ a o o', (a, o) ∈ N → (a, o') ∈ N → o = o') (h : KeepX xs N N') (hx : ∀ x ∈ xs, ∃ o, (x, o) ∈ N ∧ ¬ Firm o) : ExP N N' := fun p hp hf => by
  by_cases hm : p.1 ∈ xs
  · obtain ⟨o, ho, hn⟩ := hx _ hm
    exact absurd (by rw [fn _ _ _ ho hp]; exact hf) hn
  · exact h p hp hm
noncomputable def RowP (N : Led) (row D : Addr) (hd : Int) (ps : List Pc) : Prop := ∃ vs n, Row N row D hd vs n ∧ PcL N vs ps
theorem RowP.mono {row D : Addr} {hd : Int} {ps : List Pc} (h : RowP N row D hd ps) (e : Ext N N') : RowP N' row D hd ps := let ⟨vs, n, a, b⟩ := h; ⟨vs, n, a.mono e, b.mono e⟩
theorem RowP.keep {xs : List Addr} {row D : Addr} {hd : Int} {ps : List Pc} (h : RowP N row D hd ps) (e : KeepX xs N N') (ep : ExP N N') (h1 : row ∉ xs) (h2 : D ∉ xs) : RowP N' row D hd ps :=
  let ⟨vs, n, ⟨a, hs, tk, t, ept, b⟩, c⟩ := h; ⟨vs, n, ⟨e _ a h1, hs, tk, t, ept, e _ b h2⟩, ep.pcl c⟩
theorem RowP.soft {row D : Addr} {hd : Int} {ps : List Pc} (h : RowP N row D hd ps) : ∃ o, (row, o) ∈ N ∧ ¬ Firm o := let ⟨vs, n, r, _⟩ := h; ⟨_, r.obj, row_soft⟩
theorem RowP.ne {row D : Addr} {hd : Int} {ps : List Pc} (fn : ∀ a o o', (a, o) ∈ N → (a, o') ∈ N → o = o') (h : RowP N row D hd ps) : D ≠ row := let ⟨_, _, r, _⟩ := h; r.ne fn
theorem t_or3 {x y z : Expr} {pos whole} {Q : Bool → Led → Prop} (h : WE C A (isTrue x env (eval x env)) (fun b N₁ => if b = true then Q true N₁ else WE C A (isTrue y env (eval y env)) (fun c N₂ => if c = true then Q true N₂ else WE C A (isTrue z env (eval z env)) Q N₂ Φ) N₁ Φ) N Φ) : WE C A (isTrue (.BoolOp .Or [x, y, z] pos) env whole) Q N Φ := by
  show WE C A (allTrue .Or [x, y, z] env) Q N Φ
  unfold allTrue
  refine WE.bind (h.mono fun b N₁ h₁ => ?_)
  cases b with
  | true => exact WE.pure (by simpa using h₁)
  | false =>
    rw [if_neg (by decide)] at h₁
    show WE C A (allTrue .Or [y, z] env) Q N₁ Φ
    unfold allTrue
    refine WE.bind (h₁.mono fun b N₂ h₂ => ?_)
    cases b with
    | true => exact WE.pure (by simpa using h₂)
    | false =>
      rw [if_neg (by decide)] at h₂
      show WE C A (allTrue .Or [z] env) Q N₂ Φ
      unfold allTrue
      refine WE.bind (h₂.mono fun b N₃ h₃ => ?_)
      cases b <;> exact WE.pure h₃
end Mine.Internal
end
section
open PySem PySem.W PyProof.Rows PySem.Calls PySem.Spec PySem.Builtin.List PySem.Builtin
set_option maxRecDepth 100000
namespace Mine.Internal
variable {C : Cx} {N N' N'' : Led} {Φ : Frs} {A : Around} {mg mb : Lo} {s : Shared} {env : Env}
noncomputable def prD (a b : List Pc) : PyData := .tuple [plD a, plD b]
noncomputable def toldD (a b : List Pc) : PyData := .list [prD a b, prD b a]
theorem toldD_eqv (a b : List Pc) : PyData.eqv (toldD a b) (toldD a b) = true := by simp [toldD, prD, PyData.eqv, PyData.eqvAll, plD_eqv]
theorem toldD_lay (a b : List Pc) : (toldD a b).canLay0 = true := by simp [toldD, prD, PyData.canLay0, PyData.canLayAll0, plD_lay]
theorem toldD_depth (a b : List Pc) : (toldD a b).depth ≤ 8 := by
  have h1 := plD_depth a
  have h2 := plD_depth b
  have mx : ∀ {a b k : Nat}, a ≤ k → b ≤ k → max a b ≤ k := fun x y => Nat.max_le.mpr ⟨x, y⟩
  simp only [toldD, prD, PyData.depth, PyData.depthAll]
  exact Nat.le_trans (Nat.succ_le_succ (mx (Nat.succ_le_succ (mx h1 (mx h2 (Nat.zero_le 3)))) (mx (Nat.succ_le_succ (mx h2 (mx h1 (Nat.zero_le 3)))) (Nat.zero_le 4)))) (by decide)
theorem rd_pair {t : Addr} {v w : Value} {n : Nat} {a b : List Pc} (h : (t, tup [v, w] n) ∈ N) (hv : IsPL N v a) (hw : IsPL N w b) : Rd N (.ref t) (prD a b) := Rd.tup h (RdL.cons hv.rd (RdL.cons hw.rd RdL.nil))
@[reducible] noncomputable def kPairS (C : Cx) (m : Lo) (x y : Str) (Q : Flow → Led → Lo → Prop) : Value → Led → Prop := fun r N' => ∃ t v w n, r = .ref t ∧ Has C N' t (tup [v, w] n) ∧ Q .next N' (setLo (setLo m y w) x v)
theorem s_pairS {x y : Str} {p₁ p₂ tpos pos : Pos} {k : Nat} {value : Expr} {K : Fk} {m : Lo} {Q : Flow → Led → Lo → Prop} (hh : A.handled = none) (hx : StOk env K x) (hy : StOk env K y)
    (h : WE C A (eval value env) (kPairS C m x y Q) N (.fr K m :: Φ))
    (hk : env.scope.kind = .function := by rfl)
    (hs : swapsWithSole [.Tuple [.Name x p₁, .Name y p₂] k tpos] value pos.line env = pure false := by rfl)
    (hw : swappedStores [.Tuple [.Name x p₁, .Name y p₂] k tpos] value env = pure (some [x, y]) := by rfl) : WS C A (exec (.Assign [.Tuple [.Name x p₁, .Name y p₂] k tpos] value pos) env) Q N K m Φ := by
  intro s E R
  refine Assign_Tuple_swapped (h.use R fun r s₁ N₁ R₁ q => ?_) hs hw
  obtain ⟨t, v, w, n, rfl, ht, hq⟩ := q
  have hT : IsTup s₁.heap t #[v, w] := ⟨_, R₁.has ht, rfl, _, rfl⟩
  show wpAny _ _ (unpackItems (.ref t) (#[v, w] : Array Value).size none) _ _ _
  refine unpackItems_tuple (items := #[v, w]) hh hT fun h' he => ?_
  have R' : Rep C N₁ (.fr K m :: Φ) { s₁ with heap := h' } := R₁.grow fun b o e => he b o (Nat.ne_of_lt (Heap.lt_size e)) e
  show wpAny _ _ (assignInOrder [bindName env y, bindName env x] [w, v]) _ _ _
  refine assignInOrder_cons ?_
  refine (WS.bindName (v := w) (Q := fun _ N' m' => N' = N₁ ∧ m' = setLo m y w) hk hy ⟨rfl, rfl⟩).use R' fun _ s₂ N₂ m₂ R₂ pz0 => ?_
  obtain ⟨e1, e2⟩ := pz0
  subst e1; subst e2
  refine assignInOrder_cons ?_
  refine (WS.bindName (v := v) (Q := fun _ N' m' => N' = N₂ ∧ m' = setLo (setLo m y w) x v) hk hx ⟨rfl, rfl⟩).use R₂ fun _ s₃ N₃ m₃ R₃ pz0 => ?_
  obtain ⟨e1, e2⟩ := pz0
  subst e1; subst e2
  exact assignInOrder_nil ⟨_, _, R₃, hq⟩
theorem sgL_perm {a b : List Pc} (h : a.Perm b) : sgL a = sgL b := (h.map _).sum_nat
theorem sgL_le2 (ps : List Pc) : sgL ps ≤ 2 * ps.length := by
  unfold sgL
  induction ps with
  | nil => simp
  | cons p ps ih => have := sg_le p; simp only [List.map_cons, List.sum_cons, List.length_cons]; lia
set_option maxHeartbeats 4000000 in
theorem c_apart {v w : Value} {ps qs : List Pc} {Q : Value → Led → Prop} (H : All C mg mb) (T : TabF C mg mb) (V : IdxE mg mb) (ho : AOk A 12) (fr : FrOk A Φ) (hv : IsPL N v ps) (hw : IsPL N w qs)
    (h2 : 2 ≤ ps.length) (h64 : ps.length < 64) (h2' : 2 ≤ qs.length) (h64' : qs.length < 64) (q : ∀ N', Ext N N' → Q (.bool true) N') : WE C A (PySem.call (.ref 205) [v, w]) Q N Φ := by
  have G := H.G.P
  obtain ⟨a, vs, n, rfl, ha, hp⟩ := hv
  obtain ⟨b, us, n', rfl, hb, hq⟩ := hw
  obtain ⟨pm, hf⟩ := G.f_apart
  refine WE.call (CE.fnCells (binds := [("one", .ref a), ("two", .ref b)]) (cs := fun L => []) (k := 11) G.G ho hf.any rfl rfl rfl (fun _ => rfl) fun L => ?_)
  have ho' := ho.deeper (env := callEnvC (mkFd (stOf 23) 205 (stName (stOf 23)) [] Value.none pm Value.none) L 205)
  have fr' : ∀ m, FrOk (A.deeper (callEnvC (mkFd (stOf 23) 205 (stName (stOf 23)) [] .none pm .none) L 205)) (.fr ⟨L, []⟩ m :: Φ) := fun m => fr.deeper (fd := mkFd (stOf 23) 205 (stName (stOf 23)) [] .none pm .none) (L := L) (a := 205) (k := []) (m := m) (fun h => nomatch (show ScopeKind.function = ScopeKind.module from h))
  generalize hA' : A.deeper (callEnvC (mkFd (stOf 23) 205 (stName (stOf 23)) [] .none pm .none) L 205) = A' at ho' fr'
  have m1 : (bindM [("one", .ref a), ("two", .ref b)] fun _ => none : Lo) "one" = some (.ref a) := rfl
  have m2 : (bindM [("one", .ref a), ("two", .ref b)] fun _ => none : Lo) "two" = some (.ref b) := rfl
  generalize (bindM [("one", .ref a), ("two", .ref b)] fun _ => none : Lo) = m at m1 m2
  refine s_cons ?_
  refine s_pairS ho'.h (.inl ⟨rfl, rfl, rfl⟩) (.inl ⟨rfl, rfl, rfl⟩) ?_
  refine e_tuple ?_
  refine a_cons (e_call rfl (e_glob G.G G.g_acc (cw_acc H.W rfl (a_nil ?_))))
  refine new_acc0 H (ho'.le (by decide)) fun N1 r1 D1 k1 e1 hr1 hD1 hne1 row1 => ?_
  refine a_cons (e_call rfl (e_glob G.G G.g_acc (cw_acc H.W rfl (a_cons (e_int fun t3 => a_nil ?_)))))
  refine new_acc H (ho'.le (by decide)) fun N2 r2 D2 k2 e2 hr2 hD2 hne2 row2 => ?_
  refine a_nil ⟨sz_ok (by simp), fun t0 ht0 => ?_⟩
  refine ⟨t0, _, _, _, rfl, .inr (.head _), ?_⟩
  have x12 : r1 ≠ r2 := fun e => hr2 _ row1.obj (by rw [e])
  have x1D2 : r1 ≠ D2 := fun e => hD2 _ row1.obj (by rw [e])
  have xD12 : D1 ≠ r2 := fun e => by obtain ⟨_, _, _, _, h⟩ := row1.dict; exact hr2 _ h (by rw [e])
  have xD1D2 : D1 ≠ D2 := fun e => by obtain ⟨_, _, _, _, h⟩ := row1.dict; exact hD2 _ h (by rw [e])
  have row1' : Row ((t0, tup [.ref r1, .ref r2] 0) :: N2) r1 D1 0 [] k1 := row1.mono (e2.trans (Ext.cons _ _))
  have row2' : Row ((t0, tup [.ref r1, .ref r2] 0) :: N2) r2 D2 3 [] k2 := row2.mono (Ext.cons _ _)
  have e3 : Ext N ((t0, tup [.ref r1, .ref r2] 0) :: N2) := (e1.trans e2).c1
  generalize (t0, tup [.ref r1, .ref r2] 0) :: N2 = N3 at row1' row2' e3
  have mm1 : (setLo (setLo m "shown" (.ref r2)) "wanted" (.ref r1)) "one" = some (.ref a) := (setLo_ne (by decide)).trans ((setLo_ne (by decide)).trans m1)
  have mm2 : (setLo (setLo m "shown" (.ref r2)) "wanted" (.ref r1)) "two" = some (.ref b) := (setLo_ne (by decide)).trans ((setLo_ne (by decide)).trans m2)
  have mm4 : (setLo (setLo m "shown" (.ref r2)) "wanted" (.ref r1)) "shown" = some (.ref r2) := (setLo_ne (by decide)).trans (setLo_self ..)
  have mm3 : (setLo (setLo m "shown" (.ref r2)) "wanted" (.ref r1)) "wanted" = some (.ref r1) := setLo_self ..
  show WS C _ (execs _ _) _ _ _ _ _
  generalize setLo (setLo m "shown" (.ref r2)) "wanted" (.ref r1) = m' at mm1 mm2 mm3 mm4
  refine s_cons ?_
  refine s_expr ?_
  refine e_meth ?_
  refine e_local (v := .ref r1) mm3 ?_
  refine getMethod_R G.F H.G.f_reset row1' (by decide) G.F.reset ?_
  refine H.G.f_reset.cwc rfl ?_
  refine a_cons (e_call rfl (e_blt G.G G.n_sorted G.b_sorted (cw_blt rfl (a_cons (e_local (v := .ref a) mm1 (a_nil ?_))))))
  refine sorted_pcs (k := 9) ho' (.inr (e3 _ ha)) (hp.mono e3) h2 h64 fun N4 s1 j1 ws1 q1 e4 hs1 so1 hw1 => ?_
  refine a_nil ?_
  have hl1 := hw1.length
  have so1l := sorted_len so1
  refine WE.fn fun fn => ?_
  refine c_reset H (ho'.le (by decide)) (row1'.mono e4.c1) (.head _) (by rw [sizeLine_eq]; lia) fun N5 k5 hk5 row1a => ?_
  refine ⟨?_, fun _ h => nomatch h⟩
  have kp5 : KeepX [r1, D1] N4 N5 := fun p hp hn => hk5 p (.tail _ hp) (fun h => hn (by rw [h]; exact .head _)) (fun h => hn (by rw [h]; exact .tail _ (.head _)))
  have ep5 : ExP N4 N5 := kp5.exp (fun a o o' x y => fn a o o' (.tail _ x) (.tail _ y)) fun x hx => by
    rcases List.mem_cons.mp hx with rfl | hx
    · exact ⟨_, e4 _ row1'.obj, row_soft⟩
    · rw [List.mem_singleton.mp hx]
      refine Classical.byContradiction fun hn => ?_
      obtain ⟨_, _, _, _, h⟩ := row1'.dict
      refine hn ?_
      clear hn
      exact ⟨_, e4 _ h, szO_soft⟩
  have n3 : New r1 N := hr1
  have eN5 : Ext N N5 := fun p hp => kp5 p (e4 _ (e3 _ hp)) fun hm => by
    rcases List.mem_cons.mp hm with h | h
    · exact hr1 p hp h
    · exact hD1 p hp (List.mem_singleton.mp h)
  have row2a : Row N5 r2 D2 3 [] k2 := ⟨kp5 _ (e4 _ row2'.obj) (by simp; exact ⟨x12.symm, Ne.symm xD12⟩), let ⟨a, b, c, d, x⟩ := row2'.dict; ⟨a, b, c, d, kp5 _ (e4 _ x) (by simp; exact ⟨Ne.symm x1D2, Ne.symm xD1D2⟩)⟩⟩
  have hw1a : PcL N5 ws1 q1 := ep5.pcl hw1
  refine s_cons ?_
  refine s_expr ?_
  refine e_meth ?_
  refine e_local (v := .ref r2) mm4 ?_
  refine getMethod_R G.F H.G.f_reset row2a (by decide) G.F.reset ?_
  refine H.G.f_reset.cwc rfl ?_
  refine a_cons (e_call rfl (e_blt G.G G.n_sorted G.b_sorted (cw_blt rfl (a_cons (e_local (v := .ref b) mm2 (a_nil ?_))))))
  refine sorted_pcs (k := 9) ho' (.inr (eN5 _ hb)) (hq.mono eN5) h2' h64' fun N6 s2 j2 ws2 q2 e6 hs2 so2 hw2 => ?_
  refine a_nil ?_
  have hl2 := hw2.length
  have so2l := sorted_len so2
  refine WE.fn fun fn => ?_
  refine c_reset H (ho'.le (by decide)) (row2a.mono e6.c1) (.head _) (by rw [sizeLine_eq]; lia) fun N7 k7 hk7 row2b => ?_
  refine ⟨?_, fun _ h => nomatch h⟩
  have kp7 : KeepX [r2, D2] N6 N7 := fun p hp hn => hk7 p (.tail _ hp) (fun h => hn (by rw [h]; exact .head _)) (fun h => hn (by rw [h]; exact .tail _ (.head _)))
  have ep7 : ExP N6 N7 := kp7.exp (fun a o o' x y => fn a o o' (.tail _ x) (.tail _ y)) fun x hx => by
    rcases List.mem_cons.mp hx with rfl | hx
    · exact ⟨_, e6 _ row2a.obj, row_soft⟩
    · rw [List.mem_singleton.mp hx]
      refine Classical.byContradiction fun hn => ?_
      obtain ⟨_, _, _, _, h⟩ := row2a.dict
      refine hn ?_
      clear hn
      exact ⟨_, e6 _ h, szO_soft⟩
  have eN7 : Ext N N7 := fun p hp => kp7 p (e6 _ (eN5 _ hp)) fun hm => by
    rcases List.mem_cons.mp hm with h | h
    · exact hr2 p (e1 p hp) h
    · exact hD2 p (e1 p hp) (List.mem_singleton.mp h)
  have row1b : Row N7 r1 D1 0 ws1 k5 := ⟨kp7 _ (e6 _ row1a.obj) (by simp; exact ⟨x12, x1D2⟩), let ⟨a, b, c, d, x⟩ := row1a.dict; ⟨a, b, c, d, kp7 _ (e6 _ x) (by simp; exact ⟨xD12, xD1D2⟩)⟩⟩
  have hw1b : PcL N7 ws1 q1 := ep7.pcl (hw1a.mono e6)
  have hw2b : PcL N7 ws2 q2 := ep7.pcl hw2
  clear ep5 ep7 kp5 kp7 hk5 hk7 row1a row2a hw1a row1' row2' row1 row2
  have u1 := sorted_up so1
  have u2 := sorted_up so2
  -- told
  refine s_cons ?_
  refine s_assign (.inl ⟨rfl, rfl, rfl⟩) ?_
  refine e_list ?_
  refine a_cons (e_call rfl (e_glob G.G G.g_sld (cw_S G.f_sld rfl (a_cons (e_local (v := .ref r1) mm3 (a_cons (e_local (v := .ref r2) mm4 (a_nil ?_))))))))
  refine c_sld G V (ho'.le (by decide)) (fr' m') (.inr rfl) (.inr rfl) row1b.obj row2b.obj hw1b hw2b (by lia) (by lia) fun N8 t1 tn1 v1 v2 e8 ht1 hm1 hv1 hv2 => ?_
  refine a_cons (e_call rfl (e_glob G.G G.g_sld (cw_S G.f_sld rfl (a_cons (e_local (v := .ref r2) mm4 (a_cons (e_local (v := .ref r1) mm3 (a_nil ?_))))))))
  refine c_sld G V (ho'.le (by decide)) (fr' m') (.inr rfl) (.inr rfl) (e8 _ row2b.obj) (e8 _ row1b.obj) (hw2b.mono e8) (hw1b.mono e8) (by lia) (by lia) fun N9 t2 tn2 v3 v4 e9 ht2 hm2 hv3 hv4 => ?_
  refine a_nil ⟨sz_ok (by simp), fun tl htl => ?_⟩
  rw [sld_ownL u1 u2] at hv1 hv2
  rw [sld_ownL u2 u1] at hv3 hv4
  have e79 : Ext N7 ((tl, lst [.ref t1, .ref t2] 0) :: N9) := (e8.trans e9).c1
  have told : Rd ((tl, lst [.ref t1, .ref t2] 0) :: N9) (.ref tl) (toldD (ownL q1 q2) (ownL q2 q1)) :=
    Rd.lst (.head _) (RdL.cons (rd_pair (.tail _ (e9 _ hm1)) (hv1.mono e9.c1) (hv2.mono e9.c1)) (RdL.cons (rd_pair (.tail _ hm2) (hv3.mono (Ext.cons _ _)) (hv4.mono (Ext.cons _ _))) RdL.nil))
  have Rd.mono : ∀ {N N' : Led} {v : Value} {d : PyData}, Rd N v d → Ext N N' → Rd N' v d := fun h e hh k => h hh fun p hp => k p (e p hp)
  have eN10 : Ext N ((tl, lst [.ref t1, .ref t2] 0) :: N9) := eN7.trans e79
  have row1c := row1b.mono e79
  have row2c := row2b.mono e79
  have hw1c := hw1b.mono e79
  have hw2c := hw2b.mono e79
  generalize (tl, lst [.ref t1, .ref t2] 0) :: N9 = N10 at told eN10 row1c row2c hw1c hw2c
  have n1 : (setLo m' "told" (.ref tl)) "one" = some (.ref a) := (setLo_ne (by decide)).trans mm1
  have n2 : (setLo m' "told" (.ref tl)) "two" = some (.ref b) := (setLo_ne (by decide)).trans mm2
  have n3 : (setLo m' "told" (.ref tl)) "wanted" = some (.ref r1) := (setLo_ne (by decide)).trans mm3
  have n4 : (setLo m' "told" (.ref tl)) "shown" = some (.ref r2) := (setLo_ne (by decide)).trans mm4
  have n5 : (setLo m' "told" (.ref tl)) "told" = some (.ref tl) := setLo_self ..
  show WS C _ (execs _ _) _ _ _ _ _
  generalize setLo m' "told" (.ref tl) = m'' at n1 n2 n3 n4 n5
  refine s_cons ?_
  refine s_if ?_
  refine t_or3 ?_
  refine t_cmp ?_
  refine e_call rfl (e_glob G.G G.g_held (cw_S G.f_held rfl (a_cons (e_local (v := .ref r1) n3 (a_nil ?_)))))
  refine c_held G (ho'.le (by decide)) (.inr rfl) row1c.obj (by rw [sizeLine_eq]; lia) fun h1 kh1 hh1 => ?_
  refine e_call rfl (e_blt G.G G.n_sorted G.b_sorted (cw_blt rfl (a_cons (e_local (v := .ref a) n1 (a_nil ?_)))))
  refine sorted_pcs (k := 9) ho' (.inr (.tail _ (eN10 _ ha))) (hp.mono eN10.c1) h2 h64 fun N11 s3 j3 ws3 q3 e11 hs3 so3 hw3 => ?_
  have eq3 := sorted_uniq so3 so1
  subst eq3
  refine o_neD ho' (IsPL.rd ⟨h1, ws1, kh1, rfl, .tail _ (e11 _ (.head _)), hw1c.mono ((Ext.cons _ _).trans e11.c1)⟩) (IsPL.rd ⟨s3, ws3, j3, rfl, .head _, hw3.mono (Ext.cons _ _)⟩) (plD_lay _) (plD_lay _) (Nat.le_trans (plD_depth _) (by decide)) (Nat.le_trans (plD_depth _) (by decide)) ?_
  rw [plD_eqv, decide_eq_true rfl]
  refine o_tBool ?_
  refine ite_n (by decide) ?_
  have e11' : Ext N10 ((s3, lst ws3 j3) :: N11) := (Ext.cons _ _).trans e11.c1
  refine t_cmp ?_
  refine e_call rfl (e_glob G.G G.g_held (cw_S G.f_held rfl (a_cons (e_local (v := .ref r2) n4 (a_nil ?_)))))
  refine c_held G (ho'.le (by decide)) (.inr rfl) (e11' _ row2c.obj) (by rw [sizeLine_eq]; lia) fun h2' kh2 hh2 => ?_
  refine e_call rfl (e_blt G.G G.n_sorted G.b_sorted (cw_blt rfl (a_cons (e_local (v := .ref b) n2 (a_nil ?_)))))
  have eN11 : Ext N ((h2', lst ws2 kh2) :: (s3, lst ws3 j3) :: N11) := (eN10.trans e11').c1
  refine sorted_pcs (k := 9) ho' (.inr (eN11 _ hb)) (hq.mono eN11) (by assumption) h64' fun N12 s4 j4 ws4 q4 e12 hs4 so4 hw4 => ?_
  have eq4 := sorted_uniq so4 so2
  subst eq4
  refine o_neD ho' (IsPL.rd ⟨h2', ws2, kh2, rfl, .tail _ (e12 _ (.head _)), hw2c.mono (e11'.trans ((Ext.cons _ _).trans e12.c1))⟩) (IsPL.rd ⟨s4, ws4, j4, rfl, .head _, hw4.mono (Ext.cons _ _)⟩) (plD_lay _) (plD_lay _) (Nat.le_trans (plD_depth _) (by decide)) (Nat.le_trans (plD_depth _) (by decide)) ?_
  rw [plD_eqv, decide_eq_true rfl]
  refine o_tBool ?_
  refine ite_n (by decide) ?_
  have e12' : Ext N10 ((s4, lst ws4 j4) :: N12) := e11'.trans ((Ext.cons _ _).trans e12.c1)
  refine t_cmp ?_
  refine e_call rfl (e_blt G.G G.n_len G.b_len (cw_blt rfl (a_cons (e_local (v := .ref r2) n4 (a_nil ?_)))))
  have sgp := sgL_perm (sorted_perm so4)
  have sg2 := sgL_le2 q4
  refine len_R H T (ho'.le (by decide)) (row2c.mono e12') (hw2c.mono e12') (by decide) (by decide) (by lia) (by lia) fun N13 t13 e13 => ?_
  refine e_call rfl (e_glob G.G G.g_signs (cw_S G.f_signs rfl (a_cons (e_local (v := .ref b) n2 (a_nil ?_)))))
  have e13' : Ext N10 N13 := e12'.trans e13
  refine c_signs G (ps := qs) (ho'.le (by decide)) ⟨b, us, n', rfl, e13' _ (eN10 _ hb), hq.mono (eN10.trans e13')⟩ (by lia) fun N14 t14 e14 => ?_
  refine o_ne ?_
  have hz : ((0 : Int) + (sgL q4 : Nat) != ((sgL qs : Nat) : Int)) = false := by rw [sgp]; simp
  rw [hz]
  refine o_tBool ?_
  refine ite_n (by decide) ?_
  refine s_nil ?_
  have e14' : Ext N10 N14 := e13'.trans e14
  have eN14 : Ext N N14 := eN10.trans e14'
  -- first, second
  refine s_cons ?_
  refine s_pairS ho'.h (.inl ⟨rfl, rfl, rfl⟩) (.inl ⟨rfl, rfl, rfl⟩) ?_
  refine e_tuple ?_
  refine a_cons (e_call rfl (e_glob G.G G.g_own (cw_S G.f_own rfl (a_cons (e_call rfl (e_blt G.G G.n_sorted G.b_sorted (cw_blt rfl (a_cons (e_local (v := .ref a) n1 (a_nil ?_)))))))))) 
  refine sorted_pcs (k := 9) ho' (.inr (eN14 _ ha)) (hp.mono eN14) h2 h64 fun N15 s5 j5 ws5 q5 e15 hs5 so5 hw5 => ?_
  have eq5 := sorted_uniq so5 so3
  subst eq5
  refine a_cons (e_call rfl (e_blt G.G G.n_sorted G.b_sorted (cw_blt rfl (a_cons (e_local (v := .ref b) n2 (a_nil ?_))))))
  have eN15 := eN14.trans e15
  refine sorted_pcs (k := 9) ho' (.inr (.tail _ (eN15 _ hb))) (hq.mono eN15.c1) (by assumption) h64' fun N16 s6 j6 ws6 q6 e16 hs6 so6 hw6 => ?_
  have eq6 := sorted_uniq so6 so4
  subst eq6
  refine a_nil ?_
  have l5 := sorted_len so5
  have l6 := sorted_len so6
  refine c_own G (ho'.le (by decide)) ⟨s5, ws5, j5, rfl, .tail _ (e16 _ (.head _)), hw5.mono ((Ext.cons _ _).trans e16.c1)⟩ ⟨s6, ws6, j6, rfl, .head _, hw6.mono (Ext.cons _ _)⟩ (by lia) (by lia) fun N17 o1 wo1 ko1 e17 ho1 hwo1 => ?_
  refine a_cons (e_call rfl (e_glob G.G G.g_own (cw_S G.f_own rfl (a_cons (e_call rfl (e_blt G.G G.n_sorted G.b_sorted (cw_blt rfl (a_cons (e_local (v := .ref b) n2 (a_nil ?_))))))))))
  have e17' : Ext N15 ((o1, lst wo1 ko1) :: N17) := ((Ext.cons _ _).trans (e16.c1.trans e17)).c1
  have eN17 : Ext N ((o1, lst wo1 ko1) :: N17) := eN15.trans e17'
  refine sorted_pcs (k := 9) ho' (.inr (eN17 _ hb)) (hq.mono eN17) (by assumption) h64' fun N18 s7 j7 ws7 q7 e18 hs7 so7 hw7 => ?_
  have eq7 := sorted_uniq so7 so6
  subst eq7
  refine a_cons (e_call rfl (e_blt G.G G.n_sorted G.b_sorted (cw_blt rfl (a_cons (e_local (v := .ref a) n1 (a_nil ?_))))))
  have eN18 := eN17.trans e18
  refine sorted_pcs (k := 9) ho' (.inr (.tail _ (eN18 _ ha))) (hp.mono eN18.c1) h2 h64 fun N19 s8 j8 ws8 q8 e19 hs8 so8 hw8 => ?_
  have eq8 := sorted_uniq so8 so5
  subst eq8
  refine a_nil ?_
  refine c_own G (ho'.le (by decide)) ⟨s7, ws7, j7, rfl, .tail _ (e19 _ (.head _)), hw7.mono ((Ext.cons _ _).trans e19.c1)⟩ ⟨s8, ws8, j8, rfl, .head _, hw8.mono (Ext.cons _ _)⟩ (by lia) (by lia) fun N20 o2 wo2 ko2 e20 ho2 hwo2 => ?_
  refine a_nil ⟨sz_ok (by simp), fun tp htp => ?_⟩
  refine ⟨tp, _, _, _, rfl, .inr (.head _), ?_⟩
  have e1820 : Ext ((o1, lst wo1 ko1) :: N17) ((o2, lst wo2 ko2) :: N20) := (e18.trans ((Ext.cons _ _).trans (e19.c1.trans e20))).c1
  have p1 : IsPL ((tp, tup [.ref o1, .ref o2] 0) :: (o2, lst wo2 ko2) :: N20) (.ref o1) (ownL q8 q7) := ⟨o1, wo1, ko1, rfl, .tail _ (e1820 _ (.head _)), hwo1.mono ((Ext.cons _ _).trans (e1820.trans (Ext.cons _ _)))⟩
  have p2 : IsPL ((tp, tup [.ref o1, .ref o2] 0) :: (o2, lst wo2 ko2) :: N20) (.ref o2) (ownL q7 q8) := ⟨o2, wo2, ko2, rfl, .tail _ (.head _), hwo2.mono ((Ext.cons _ _).trans (Ext.cons _ _))⟩
  have told2 : Rd ((tp, tup [.ref o1, .ref o2] 0) :: (o2, lst wo2 ko2) :: N20) (.ref tl) (toldD (ownL q8 q7) (ownL q7 q8)) := Rd.mono told (e14'.trans (e15.trans (e17'.trans (e1820.trans (Ext.cons _ _)))))
  have eN20 : Ext N ((tp, tup [.ref o1, .ref o2] 0) :: (o2, lst wo2 ko2) :: N20) := eN17.trans (e1820.trans (Ext.cons _ _))
  generalize (tp, tup [.ref o1, .ref o2] 0) :: (o2, lst wo2 ko2) :: N20 = N21 at p1 p2 told2 eN20
  refine s_cons ?_
  refine s_ret ?_
  refine e_cmp ?_
  refine e_local (v := .ref tl) ((setLo_ne (by decide)).trans ((setLo_ne (by decide)).trans n5)) ?_
  refine e_list ?_
  refine a_cons (e_tuple (a_cons (e_local (v := .ref o1) (setLo_self ..) (a_cons (e_local (v := .ref o2) ((setLo_ne (by decide)).trans (setLo_self ..)) (a_nil ⟨sz_ok (by simp), fun x1 hx1 => ?_⟩))))))
  refine a_cons (e_tuple (a_cons (e_local (v := .ref o2) ((setLo_ne (by decide)).trans (setLo_self ..)) (a_cons (e_local (v := .ref o1) (setLo_self ..) (a_nil ⟨sz_ok (by simp), fun x2 hx2 => ?_⟩))))))
  refine a_nil ⟨sz_ok (by simp), fun x3 hx3 => ?_⟩
  have p1' := p1.mono ((Ext.refl _).c3 (a := (x3, lst [.ref x1, .ref x2] 0)) (b := (x2, tup [.ref o2, .ref o1] 0)) (c := (x1, tup [.ref o1, .ref o2] 0)))
  have p2' := p2.mono ((Ext.refl _).c3 (a := (x3, lst [.ref x1, .ref x2] 0)) (b := (x2, tup [.ref o2, .ref o1] 0)) (c := (x1, tup [.ref o1, .ref o2] 0)))
  refine o_eqD ho' (Rd.mono told2 (Ext.refl _).c3) (Rd.lst (.head _) (RdL.cons (rd_pair (.tail _ (.tail _ (.head _))) p1' p2') (RdL.cons (rd_pair (.tail _ (.head _)) p2' p1') RdL.nil))) (toldD_lay _ _) (toldD_lay _ _) (toldD_depth _ _) (toldD_depth _ _) ?_
  show Q (.bool (PyData.eqv (toldD _ _) (toldD _ _))) _
  rw [toldD_eqv]
  exact q _ (eN20.trans (Ext.refl _).c3)
end Mine.Internal
end
section
open PySem PySem.W PyProof.Rows PySem.Calls PySem.Spec PySem.Builtin.List PySem.Builtin
set_option maxRecDepth 100000
namespace Mine.Internal
variable {C : Cx} {N N' N'' : Led} {Φ : Frs} {A : Around} {mg mb : Lo} {s : Shared} {env : Env}
theorem RowP.ne2 {r D r' D' : Addr} {hd hd' : Int} {ps qs : List Pc} (fn : ∀ a o o', (a, o) ∈ N → (a, o') ∈ N → o = o') (h : RowP N r D hd ps) (h' : RowP N r' D' hd' qs) : D ≠ r' := by
  rintro rfl
  refine Classical.byContradiction fun hn => ?_
  obtain ⟨_, _, ⟨_, _, _, _, _, a⟩, _⟩ := h
  obtain ⟨_, _, ⟨b, _⟩, _⟩ := h'
  refine hn ?_
  clear hn
  have := fn _ _ _ a b
  cases this
structure Shop (N : Led) (rs : List (Addr × Addr)) (bags : List (List Pc)) (st Ds : Addr) (hd : Int) (sh : List Pc) : Prop where
  len : rs.length = bags.length
  rows : ∀ (i : Nat) (r : Addr × Addr) (b : List Pc), rs[i]? = some r → bags[i]? = some b → RowP N r.1 r.2 0 b
  stock : RowP N st Ds hd sh
  nd : (st :: rs.map (·.1)).Nodup
section
variable {rs : List (Addr × Addr)} {bags : List (List Pc)} {st Ds : Addr} {hd : Int} {sh sh' : List Pc}
theorem Shop.mono (S : Shop N rs bags st Ds hd sh) (e : Ext N N') : Shop N' rs bags st Ds hd sh := ⟨S.len, fun i r b h1 h2 => (S.rows i r b h1 h2).mono e, S.stock.mono e, S.nd⟩
theorem Shop.ne {i : Nat} {r : Addr × Addr} (S : Shop N rs bags st Ds hd sh) (h : rs[i]? = some r) : r.1 ≠ st := by
  intro e
  have := (List.nodup_cons.mp S.nd).1
  exact this (e ▸ List.mem_map.mpr ⟨r, List.mem_of_getElem? h, rfl⟩)
theorem Shop.ne2 {i j : Nat} {r r' : Addr × Addr} (S : Shop N rs bags st Ds hd sh) (h : rs[i]? = some r) (h' : rs[j]? = some r') (hij : i ≠ j) : r.1 ≠ r'.1 := by
  intro e
  have nd := (List.nodup_cons.mp S.nd).2
  have h1 : (rs.map (·.1))[i]? = some r.1 := by rw [List.getElem?_map, h]; rfl
  have h2 : (rs.map (·.1))[j]? = some r.1 := by rw [List.getElem?_map, h', e]; rfl
  have hi := (List.getElem?_eq_some_iff.mp h1).1
  have hj := (List.getElem?_eq_some_iff.mp h2).1
  have e1 := (List.getElem?_eq_some_iff.mp h1).2
  have e2 := (List.getElem?_eq_some_iff.mp h2).2
  have pw := List.pairwise_iff_getElem.mp nd
  rcases Nat.lt_or_gt_of_ne hij with h | h
  · exact pw i j hi hj h (by rw [e1, e2])
  · exact pw j i hj hi h (by rw [e1, e2])
theorem Shop.get {i : Nat} {r : Addr × Addr} (S : Shop N rs bags st Ds hd sh) (h : rs[i]? = some r) : ∃ b, bags[i]? = some b := by
  have := (List.getElem?_eq_some_iff.mp h).1
  exact ⟨_, List.getElem?_eq_getElem (by rw [← S.len]; exact this)⟩
theorem Shop.put {i : Nat} {r : Addr × Addr} {b : List Pc} (fn : ∀ a o o', (a, o) ∈ N → (a, o') ∈ N → o = o') (S : Shop N rs bags st Ds hd sh) (hi : rs[i]? = some r) (k : KeepX [r.1] N N') (ep : ExP N N') (h : RowP N' r.1 r.2 0 b) : Shop N' rs (bags.set i b) st Ds hd sh := by
  obtain ⟨b0, hb0⟩ := S.get hi
  have hr := S.rows i r b0 hi hb0
  refine ⟨by rw [List.length_set]; exact S.len, fun j r' b' h1 h2 => ?_, S.stock.keep k ep (by simp; exact (S.ne hi).symm) (by simp; exact S.stock.ne2 fn hr), S.nd⟩
  by_cases e : i = j
  · subst e
    rw [hi] at h1
    cases h1
    rw [List.getElem?_set_self (by have := (List.getElem?_eq_some_iff.mp hb0).1; exact this)] at h2
    cases h2
    exact h
  · rw [List.getElem?_set_ne e] at h2
    have hr' := S.rows j r' b' h1 h2
    exact hr'.keep k ep (by simp; exact (S.ne2 hi h1 e).symm) (by simp; exact hr'.ne2 fn hr)
theorem Shop.putS (fn : ∀ a o o', (a, o) ∈ N → (a, o') ∈ N → o = o') (S : Shop N rs bags st Ds hd sh) (k : KeepX [st] N N') (ep : ExP N N') (h : RowP N' st Ds hd sh') : Shop N' rs bags st Ds hd sh' :=
  ⟨S.len, fun j r' b' h1 h2 => (S.rows j r' b' h1 h2).keep k ep (by simp; exact S.ne h1) (by simp; exact (S.rows j r' b' h1 h2).ne2 fn S.stock), h, S.nd⟩
end
theorem push_P {row D : Addr} {hd : Int} {ps : List Pc} {p : Pc} {t u : Tok} {Q : Value → Led → Prop} (H : All C mg mb) (ho : AOk A 2) (r : RowP N row D hd ps) (hl : ps.length ≤ 2 ^ 10) (q : ∀ N', KeepX [row] N N' → ExP N N' → RowP N' row D hd (ps ++ [p]) → Q .none N') :
    WE C A (PySem.call (.ref 66) [.ref row, .str (S1 p) t, .str (S2 p) u]) Q N Φ := by
  refine WE.fn fun fn => ?_
  have hne := r.ne fn
  have hsoft := r.soft
  refine Classical.byContradiction fun hn => ?_
  obtain ⟨vs, n, hr, hp⟩ := r
  refine hn ?_
  clear hn
  have hpl := hp.length
  refine c_push H.G ho hr (by rw [sizeLine_eq]; lia) fun tt N' k hn U => ?_
  have kx : KeepX [row] N N' := fun x hx hm => U.but _ (.tail _ hx) (fun e => hm (by rw [e]; exact .head _))
  have ep : ExP N N' := kx.exp fn fun x hx => by rw [List.mem_singleton.mp hx]; exact hsoft
  refine q N' kx ep ⟨_, k, (hr.mono (Ext.cons _ _)).upd U hne, ?_⟩
  exact (U.pcl (hp.mono (Ext.cons _ _))).append ⟨U.pc _ _ ⟨tt, 0, t, u, rfl, .head _⟩, trivial⟩
noncomputable def mixL (bags dues : List (List Pc)) (k : Nat) : List (List Pc) := (List.zipWith (fun b d => b ++ d.reverse) bags dues).take k ++ bags.drop k
theorem mixL_get {bags dues : List (List Pc)} {k : Nat} (hl : bags.length = dues.length) (i : Nat) : (mixL bags dues k)[i]? = if i < k then (bags[i]?).bind fun b => (dues[i]?).map fun d => b ++ d.reverse else bags[i]? := by
  unfold mixL
  rw [td_get (by rw [List.length_zipWith, ← hl, Nat.min_self]), List.getElem?_zipWith]
  congr 1
  rcases bags[i]? with _ | b <;> rcases dues[i]? with _ | d <;> rfl
theorem mixL_zero (bags dues : List (List Pc)) : mixL bags dues 0 = bags := by simp [mixL]
theorem mixL_len {bags dues : List (List Pc)} {k : Nat} (hl : bags.length = dues.length) (hk : k ≤ bags.length) : (mixL bags dues k).length = bags.length := by
  unfold mixL
  exact td_len (by rw [List.length_zipWith, ← hl, Nat.min_self])
theorem mixL_succ {bags dues : List (List Pc)} {k : Nat} {b d : List Pc} (hl : bags.length = dues.length) (hb : bags[k]? = some b) (hd : dues[k]? = some d) : (mixL bags dues k).set k (b ++ d.reverse) = mixL bags dues (k + 1) := by
  have hk := (List.getElem?_eq_some_iff.mp hb).1
  refine List.ext_getElem? fun i => ?_
  rw [mixL_get hl]
  rcases Nat.lt_trichotomy i k with h | h | h
  · rw [List.getElem?_set_ne (by lia), mixL_get hl, if_pos h, if_pos (by lia)]
  · subst h
    rw [List.getElem?_set_self (by rw [mixL_len hl (by lia)]; exact hk), if_pos (by lia), hb, hd]
    rfl
  · rw [List.getElem?_set_ne (by lia), mixL_get hl, if_neg (by lia), if_neg (by lia)]
theorem mixL_full {bags dues : List (List Pc)} (hl : bags.length = dues.length) : mixL bags dues bags.length = List.zipWith (fun b d => b ++ d.reverse) bags dues := by
  unfold mixL
  rw [List.drop_length, List.append_nil, List.take_of_length_le (by rw [List.length_zipWith]; lia)]
set_option maxHeartbeats 4000000 in
theorem c_again {qa du st Ds : Addr} {nq ndu : Nat} {qv dv : List Value} {rs : List (Addr × Addr)} {bags dues : List (List Pc)} {hd : Int} {sh : List Pc} {Q : Value → Led → Prop} (H : All C mg mb) (ho : AOk A 6)
    (hq : (qa, lst qv nq) ∈ N) (hqv : All2 (fun v (r : Addr × Addr) => v = .ref r.1) qv rs) (hdu : (du, lst dv ndu) ∈ N) (hdv : PLs N dv dues) (hl : bags.length = dues.length) (S : Shop N rs bags st Ds hd sh)
    (b1 : rs.length ≤ 2 ^ 8) (b2 : ∀ b ∈ bags, b.length ≤ 2 ^ 8) (b3 : ∀ d ∈ dues, d.length ≤ 2 ^ 8) (b4 : (sh ++ dues.flatMap List.reverse).length ≤ 2 ^ 9)
    (q : ∀ N', ExP N N' → Shop N' rs (List.zipWith (fun b d => b ++ d.reverse) bags dues) st Ds hd (sh ++ dues.flatMap List.reverse) → Q .none N') : WE C A (PySem.call (.ref 212) [.ref qa, .ref du, .ref st]) Q N Φ := by
  have G := H.G.P
  obtain ⟨pm, hf⟩ := G.f_again
  have hql := hqv.length
  have hdl := hdv.length
  have hsl := S.len
  refine WE.call (CE.fnCells (binds := [("queue", .ref qa), ("due", .ref du), ("stock", .ref st)]) (cs := fun L => []) (k := 5) G.G ho hf.any rfl rfl rfl (fun _ => rfl) fun L => ?_)
  have ho' := ho.deeper (env := callEnvC (mkFd (stOf 24) 212 (stName (stOf 24)) [] Value.none pm Value.none) L 212)
  have m1 : (bindM [("queue", .ref qa), ("due", .ref du), ("stock", .ref st)] fun _ => none : Lo) "queue" = some (.ref qa) := rfl
  have m2 : (bindM [("queue", .ref qa), ("due", .ref du), ("stock", .ref st)] fun _ => none : Lo) "due" = some (.ref du) := rfl
  have m3 : (bindM [("queue", .ref qa), ("due", .ref du), ("stock", .ref st)] fun _ => none : Lo) "stock" = some (.ref st) := rfl
  generalize (bindM [("queue", .ref qa), ("due", .ref du), ("stock", .ref st)] fun _ => none : Lo) = m at m1 m2 m3
  refine s_cons ?_
  refine s_for ?_
  refine e_call rfl (e_blt G.G G.n_range G.b_range (cw_type rfl (a_cons ?_)))
  refine e_call rfl (e_blt G.G G.n_len G.b_len (cw_blt rfl (a_cons (e_local (v := .ref qa) m1 (a_nil ?_)))))
  refine len_L G.F (.inr hq) (by rw [sizeLine_eq]; lia) fun t1 => ?_
  refine a_nil ?_
  refine range1 fun r u1 v1 hr => ?_
  rw [hql]
  refine ⟨_, _, _, _, _, fun k N' m' => ExP N N' ∧ Shop N' rs (mixL bags dues k) st Ds hd (sh ++ (dues.take k).flatMap List.reverse) ∧ m' "queue" = some (.ref qa) ∧ m' "due" = some (.ref du) ∧ m' "stock" = some (.ref st),
    ItOf.range (n := rs.length) (small_up (by lia)) (size_up _), Iter.range ho'.h 0 1 rs.length, .inr (.head _), ⟨(Ext.cons _ _).exp, ?_, m1, m2, m3⟩, fun _ _ _ _ => trivial, ?_, ?_⟩
  · rw [mixL_zero, List.take_zero]
    simpa using S.mono (Ext.cons _ _)
  · rintro k N1 m' x I hk ⟨ep1, Sh1, g1, g2, g3⟩ ⟨t2, rfl⟩
    have hat : (0 : Int) + (k : Int) * 1 = (k : Int) := z_at _
    rw [hat]
    obtain ⟨b, hb⟩ : ∃ b, bags[k]? = some b := ⟨_, List.getElem?_eq_getElem (by lia)⟩
    obtain ⟨d, hd'⟩ : ∃ d, dues[k]? = some d := ⟨_, List.getElem?_eq_getElem (by lia)⟩
    obtain ⟨rr, hrr⟩ : ∃ rr, rs[k]? = some rr := ⟨_, List.getElem?_eq_getElem hk⟩
    refine Classical.byContradiction fun hn => ?_
    obtain ⟨xv, hxv, hxe⟩ := hqv.get hrr
    refine hn ?_
    clear hn
    subst hxe
    refine Classical.byContradiction fun hn => ?_
    obtain ⟨dval, hdval, hdp⟩ := hdv.get hd'
    refine hn ?_
    clear hn
    obtain ⟨da, dvs, dn, rfl, hda, hdpc⟩ := ep1.pl hdp
    have hdlen := hdpc.length
    have b3' := b3 d (List.mem_of_getElem? hd')
    have b2' := b2 b (List.mem_of_getElem? hb)
    have shl : (sh ++ (dues.take k).flatMap List.reverse).length + d.length ≤ 2 ^ 9 := by
      have e1 : dues = dues.take k ++ d :: dues.drop (k + 1) := by
        conv => lhs; rw [← List.take_append_drop k dues]
        congr 1
        have hk' : k < dues.length := by lia
        rw [List.drop_eq_getElem_cons hk']
        rw [List.getElem?_eq_getElem hk'] at hd'
        rw [Option.some.inj hd']
      rw [e1, List.flatMap_append, List.flatMap_cons] at b4
      simp only [List.length_append, List.length_reverse] at b4 ⊢
      lia
    refine as_name rfl (.inl ⟨rfl, rfl, rfl⟩) ?_
    refine s_cons ?_
    refine s_for_list G.F ho'.h ?_
    refine e_sub ?_
    refine e_sub ?_
    refine e_local (v := .ref du) ((setLo_ne (by decide)).trans g2) ?_
    refine e_local (v := .int k t2) (setLo_self ..) ?_
    refine subT_int G.F (.inl rfl) (.inr (ep1.lst hdu)) (Int.natCast_nonneg _) (x := .ref da) hdval (by rw [sizeLine_eq]; lia) ?_
    refine e_slice (e_part0 (e_part0 (e_part1 (e_un (e_int fun t4 => o_neg fun t5 => fun sl2 hsl2 => ?_)))))
    refine subT_slice G.F (.inl rfl) (.inr (.tail _ hda)) (.inr (.head _)) .none .none (.int _ _) (by decide) (by rw [sizeLine_eq]; lia) pick_rev fun l5 hl5 => ?_
    have hrp : PcL N1 dvs.reverse d.reverse := hdpc.reverse
    refine ⟨l5, _, none, dvs.reverse, 0, fun j N2 m2 => ExP N N2 ∧ (l5, lst dvs.reverse 0) ∈ N2 ∧ PcL N2 dvs.reverse d.reverse ∧ Shop N2 rs ((mixL bags dues k).set k (b ++ d.reverse.take j)) st Ds hd (sh ++ (dues.take k).flatMap List.reverse ++ d.reverse.take j) ∧
      m2 "queue" = some (.ref qa) ∧ m2 "due" = some (.ref du) ∧ m2 "stock" = some (.ref st) ∧ m2 "k" = some (.int k t2), rfl, .inl rfl, .inr (.head _), ⟨ep1.trans (Ext.refl _).c2.exp, .head _, hrp.mono (Ext.refl _).c2, ?_, (setLo_ne (by decide)).trans g1, (setLo_ne (by decide)).trans g2, (setLo_ne (by decide)).trans g3, setLo_self ..⟩, ?_, ?_, ?_⟩
    · have e0 : (mixL bags dues k).set k (b ++ d.reverse.take 0) = mixL bags dues k := by
        rw [List.take_zero, List.append_nil]
        have : (mixL bags dues k)[k]? = some b := by rw [mixL_get hl, if_neg (Nat.lt_irrefl _)]; exact hb
        obtain ⟨h1, h2⟩ := List.getElem?_eq_some_iff.mp this
        rw [← h2, List.set_getElem_self]
      rw [e0, List.take_zero, List.append_nil]
      exact Sh1.mono (Ext.refl _).c2
    · rintro j N2 m2 ⟨_, h, _⟩
      exact ⟨0, .inr h⟩
    · rintro j N2 m2 y I2 hj ⟨ep2, hl2, hp2, Sh2, f1, f2, f3, f4⟩ hy
      refine Classical.byContradiction fun hn => ?_
      obtain ⟨p, hpj, hyp⟩ := hp2.get' hy
      refine hn ?_
      clear hn
      obtain ⟨pb, np, tp, up, rfl, hpb⟩ := hyp
      have tk : d.reverse.take (j + 1) = d.reverse.take j ++ [p] := by rw [List.take_add_one, hpj]; rfl
      have htl : (d.reverse.take j).length ≤ d.length := by rw [List.length_take, List.length_reverse]; lia
      have hjd : (d.reverse.take j).length + 1 ≤ d.length := by
        have := (List.getElem?_eq_some_iff.mp hpj).1
        rw [List.length_reverse] at this
        rw [List.length_take, List.length_reverse]; lia
      refine as_pair (v := .str (S1 p) tp) (w := .str (S2 p) up) (n := np) ho'.h rfl (.inl ⟨rfl, rfl, rfl⟩) (.inl ⟨rfl, rfl, rfl⟩) (.inr hpb) ?_
      have a1 : (setLo (setLo m2 "ahead" (.str (S1 p) tp)) "part" (.str (S2 p) up)) "queue" = some (.ref qa) := (setLo_ne (by decide)).trans ((setLo_ne (by decide)).trans f1)
      have a2 : (setLo (setLo m2 "ahead" (.str (S1 p) tp)) "part" (.str (S2 p) up)) "due" = some (.ref du) := (setLo_ne (by decide)).trans ((setLo_ne (by decide)).trans f2)
      have a3 : (setLo (setLo m2 "ahead" (.str (S1 p) tp)) "part" (.str (S2 p) up)) "stock" = some (.ref st) := (setLo_ne (by decide)).trans ((setLo_ne (by decide)).trans f3)
      have a4 : (setLo (setLo m2 "ahead" (.str (S1 p) tp)) "part" (.str (S2 p) up)) "k" = some (.int k t2) := (setLo_ne (by decide)).trans ((setLo_ne (by decide)).trans f4)
      have a5 : (setLo (setLo m2 "ahead" (.str (S1 p) tp)) "part" (.str (S2 p) up)) "ahead" = some (.str (S1 p) tp) := (setLo_ne (by decide)).trans (setLo_self ..)
      have a6 : (setLo (setLo m2 "ahead" (.str (S1 p) tp)) "part" (.str (S2 p) up)) "part" = some (.str (S2 p) up) := setLo_self ..
      show WS C _ (execs _ _) _ _ _ _ _
      generalize setLo (setLo m2 "ahead" (.str (S1 p) tp)) "part" (.str (S2 p) up) = m3 at a1 a2 a3 a4 a5 a6
      have hset : ((mixL bags dues k).set k (b ++ d.reverse.take j))[k]? = some (b ++ d.reverse.take j) := List.getElem?_set_self (by rw [mixL_len hl (by lia)]; lia)
      have row1 := Sh2.rows k rr _ hrr hset
      refine Classical.byContradiction fun hn => ?_
      obtain ⟨wv, wn, rowr, _⟩ := id row1
      refine hn ?_
      clear hn
      refine s_cons ?_
      refine s_expr ?_
      refine e_meth ?_
      refine e_sub (e_local (v := .ref qa) a1 (e_local (v := .int k t2) a4 ?_))
      refine subT_int G.F (.inl rfl) (.inr (ep2.lst hq)) (Int.natCast_nonneg _) (x := .ref rr.1) hxv (by rw [sizeLine_eq]; lia) ?_
      refine getMethod_R G.F H.G.f_push rowr (by decide) G.F.push ?_
      refine H.G.f_push.cwc rfl ?_
      refine a_cons (e_local (v := .str (S1 p) tp) a5 (a_cons (e_local (v := .str (S2 p) up) a6 (a_nil ?_))))
      refine WE.fn fun fn => ?_
      refine push_P H (ho'.le (by decide)) row1 (by simp only [List.length_append]; lia) fun N3 kx3 ep3 row3 => ?_
      refine ⟨?_, fun _ h => nomatch h⟩
      have Sh3 := Sh2.put fn hrr kx3 ep3 row3
      rw [List.set_set, List.append_assoc, ← tk] at Sh3
      have hst := Sh3.stock
      refine Classical.byContradiction fun hn => ?_
      obtain ⟨wv2, wn2, rows2, _⟩ := id hst
      refine hn ?_
      clear hn
      refine s_cons ?_
      refine s_expr ?_
      refine e_meth ?_
      refine e_local (v := .ref st) a3 ?_
      refine getMethod_R G.F H.G.f_push rows2 (by decide) G.F.push ?_
      refine H.G.f_push.cwc rfl ?_
      refine a_cons (e_local (v := .str (S1 p) tp) a5 (a_cons (e_local (v := .str (S2 p) up) a6 (a_nil ?_))))
      refine WE.fn fun fn => ?_
      refine push_P H (ho'.le (by decide)) hst (by simp only [List.length_append] at shl ⊢; lia) fun N4 kx4 ep4 row4 => ?_
      refine ⟨?_, fun _ h => nomatch h⟩
      have Sh4 := Sh3.putS fn kx4 ep4 row4
      rw [List.append_assoc _ _ [p], ← tk] at Sh4
      refine s_nil ⟨.inl rfl, ep2.trans (ep3.trans ep4), (ep3.trans ep4).lst hl2, (ep3.trans ep4).pcl hp2, Sh4, a1, a2, a3, a4⟩
    · rintro N2 m2 ⟨ep2, hl2, hp2, Sh2, f1, f2, f3, f4⟩
      have hrl : dvs.reverse.length = d.reverse.length := by simp [hdlen]
      rw [hrl, List.take_length, mixL_succ hl hb hd'] at Sh2
      have tk : (dues.take (k + 1)).flatMap List.reverse = (dues.take k).flatMap List.reverse ++ d.reverse := by rw [List.take_add_one, hd', List.flatMap_append]; simp
      rw [List.append_assoc, ← tk] at Sh2
      exact s_nil ⟨.inl rfl, ep2, Sh2, f1, f2, f3⟩
  · rintro N1 m' ⟨ep1, Sh1, _⟩
    rw [hsl, mixL_full hl, hl, List.take_length] at Sh1
    exact s_nil (q N1 ep1 Sh1)
end Mine.Internal
end
section
open PySem PySem.W PyProof.Rows PySem.Calls PySem.Spec PySem.Builtin.List PySem.Builtin
set_option maxRecDepth 100000
namespace Mine.Internal
variable {C : Cx} {N N' N'' : Led} {Φ Φ' : Frs} {A : Around} {mg mb : Lo} {s : Shared} {env : Env}
theorem FrOk.deeperE {fd : FuncData} {L a : Addr} {k : List (Str × Addr)} {m : Lo} (h : FrOk A Φ) (hk : fd.scope.kind ≠ .module) : FrOk (A.deeper (callEnv fd L a)) (.fr ⟨L, k⟩ m :: Φ) := by
  refine Classical.byContradiction fun hn => ?_
  obtain ⟨l, e1, e2⟩ := h
  refine hn ?_
  clear hn
  refine ⟨callEnv fd L a :: l, by show A.frames.map _ = _; rw [e1]; rfl, fun env he => ?_⟩
  rcases List.mem_cons.mp he with rfl | he
  · exact ⟨hk, _, _, .head _, rfl⟩
  · obtain ⟨h1, k, m, h2, h3⟩ := e2 env he
    exact ⟨h1, k, m, .tail _ h2, h3⟩
theorem FrOk.mono (h : FrOk A Φ) (k : ∀ f ∈ Φ, f ∈ Φ') : FrOk A Φ' := by
  refine Classical.byContradiction fun hn => ?_
  obtain ⟨l, e1, e2⟩ := h
  refine hn ?_
  clear hn
  refine ⟨l, e1, fun env he => ?_⟩
  refine Classical.byContradiction fun hn => ?_
  obtain ⟨h1, q, m, h2, h3⟩ := e2 env he
  refine hn ?_
  clear hn
  exact ⟨h1, q, m, k _ h2, h3⟩
structure RedF (C : Cx) (mg mb : Lo) : Prop where
  f : ∃ dT o n, FnS C 11 142 (.ref dT) ∧ C.g dT = some o ∧ o.data = .seq #[.ref 134] n
  im : ∃ o, C.g 134 = some o ∧ o.cls = .type "object"
  n : mg "iter" = none
  b : mb "iter" = some (.builtin "iter")
theorem kind_iter : builtinKind "iter" = none := by decide +kernel
theorem plain_iter : plainId "iter" = true := by decide +kernel
theorem ev_iter {y : Str} {l : Addr} {vs : List Value} {n : Nat} {m : Lo} {L : Addr} {p1 p2 pos : Pos} {E : Value → Shared → Prop} {Q : Value → Shared → Prop} (G : Prg C mg mb) (RF : RedF C mg mb) (R : Rep C N (.fr ⟨L, []⟩ m :: Φ) s) (hm : m y = some (.ref l)) (hl : (l, lst vs n) ∈ N)
    (q : ∀ I s', Rep C N (.ob I (itO l 0) :: .fr ⟨L, []⟩ m :: Φ) s' → Q (.ref I) s') (hL : env.locals = L)
    (he : eval (.Call (.Name "iter" p1) [.Name y p2] [] pos) env = (do callWith pos (← eval (.Name "iter" p1) env) [] (backTo pos (starEach [.Name y p2] env)) (backToKw pos (keywordEach [] env))) := by rfl)
    (hg : env.globals = mainGlobals := by rfl) (hb : env.builtins = builtinsNs := by rfl) (hk : env.scope.kind = .function := by rfl) (hx : env.kindOf ("iter" : Str) = some .globalImplicit := by rfl) (hy : env.kindOf y = some .local := by rfl) (hd : (y == ("__debug__" : Str)) = false := by decide)
    (hse : starEach [.Name y p2] env = (false, eval (.Name y p2) env) :: starEach [] env := by rfl) : wpAny C.M A (eval (.Call (.Name "iter" p1) [.Name y p2] [] pos) env) Q E s := by
  subst hL
  rw [he]
  refine wpAny_bind ((e_blt (Q := fun v N' => v = .builtin "iter" ∧ N' = N) G.G RF.n RF.b ⟨rfl, rfl⟩ hg hb hk hx).use R fun v s1 N1 R1 pz0 => ?_)
  obtain ⟨e1, e2⟩ := pz0
  subst e1; subst e2
  have hs : (backTo pos (starEach [.Name y p2] env)).any (·.1) = false := by rw [hse]; rfl
  refine callWith_builtin hs ((evalArgs_we (A := A) (f := .builtin "iter") (Q := fun x N₂ => x.kw = [] ∧ x.pos = [.ref l] ∧ N₂ = N1) hs (a_cons (e_local (cs := []) (v := .ref l) hm (a_nil ⟨rfl, rfl, rfl⟩) hk hy rfl hd) hse)).use R1 fun x s2 N2 R2 pz0 => ?_)
  refine Classical.byContradiction fun hn => ?_
  obtain ⟨h1, h2, h3⟩ := pz0
  refine hn ?_
  clear hn
  subst h3
  obtain ⟨xp, xk⟩ := x
  dsimp only at h1 h2
  subst h1; subst h2
  refine Calls.call_function_entry kind_iter plain_iter PySem.W.kdk_entry_iter (PySem.W.kdk_args_iter _) ?_
  unfold Builtin.«iter»
  refine wpAny_bind (wpAny_pure ?_)
  dsimp only
  refine wpAny_bind (ItOf.list G.F (.inl rfl) R2 ⟨n, .inr hl⟩ fun I s3 R3 => ?_)
  exact wpAny_pure ⟨_, rfl, q I s3 R3⟩
set_option maxHeartbeats 2000000 in
theorem c_reduce {k : Nat} {lam l d0 : Addr} {vs ws : List Value} {n n0 : Nat} {fd : FuncData} {J : Nat → Value → Led → Prop} {Q : Value → Led → Prop} (G : Prg C mg mb) (RF : RedF C mg mb) (ho : AOk A (k + 1)) (fr : FrOk A Φ) (hl : (l, lst vs n) ∈ N) (h0 : (d0, lst ws n0) ∈ N)
    (hJ0 : J 0 (.ref d0) N) (hJl : ∀ i v N', J i v N' → (l, lst vs n) ∈ N' ∧ LamA N' lam fd)
    (turn : ∀ A' Φ' (i : Nat) (v x : Value) N', AOk A' k → FrOk A' Φ' → (∀ f ∈ Φ, f ∈ Φ') → vs[i]? = some x → J i v N' → WE C A' (PySem.call (.ref lam) [v, x]) (fun v' N'' => J (i + 1) v' N'') N' Φ')
    (q : ∀ v N', J vs.length v N' → Q v N') : WE C A (PySem.call (.ref 142) [.ref lam, .ref l, .ref d0]) Q N Φ := by
  refine Classical.byContradiction fun hn => ?_
  obtain ⟨dT, oT, nT, ⟨pm, hf⟩, hT, hTd⟩ := RF.f
  obtain ⟨oim, him, himc⟩ := RF.im
  refine hn ?_
  clear hn
  refine WE.call (CE.fnDef (binds := [("function", .ref lam), ("sequence", .ref l), ("initial", .ref d0)]) (k := k) G.G ho hf.any rfl (fun s R => .of_defaults (T := dT) rfl (R.st hT) hTd rfl rfl) fun L => ?_)
  have ho' := ho.deeper (env := callEnv (mkFd (stOf 11) 142 (stName (stOf 11)) [] (.ref dT) pm Value.none) L 142)
  have fr' : ∀ m, FrOk (A.deeper (callEnv (mkFd (stOf 11) 142 (stName (stOf 11)) [] (.ref dT) pm .none) L 142)) (.fr ⟨L, []⟩ m :: Φ) := fun m => fr.deeperE (fd := mkFd (stOf 11) 142 (stName (stOf 11)) [] (.ref dT) pm .none) (L := L) (a := 142) (k := []) (m := m) (fun h => nomatch (show ScopeKind.function = ScopeKind.module from h))
  have m1 : (bindM [("function", .ref lam), ("sequence", .ref l), ("initial", .ref d0)] fun _ => none : Lo) "function" = some (.ref lam) := rfl
  have m2 : (bindM [("function", .ref lam), ("sequence", .ref l), ("initial", .ref d0)] fun _ => none : Lo) "sequence" = some (.ref l) := rfl
  have m3 : (bindM [("function", .ref lam), ("sequence", .ref l), ("initial", .ref d0)] fun _ => none : Lo) "initial" = some (.ref d0) := rfl
  generalize (bindM [("function", .ref lam), ("sequence", .ref l), ("initial", .ref d0)] fun _ => none : Lo) = m at m1 m2 m3
  intro s E R
  -- it = iter(sequence)
  refine wpAny_execs_cons ?_
  refine wpAny_Assign_Name ?_ rfl
  refine ev_iter G RF R m2 hl (fun I s1 R1 => ?_) rfl
  have R1' := R1.perm (List.Perm.swap _ _ _)
  refine (WS.store (x := "it") (v := .ref I) (Q := fun _ N' m' => N' = N ∧ m' = setLo m "it" (.ref I)) rfl (.inl ⟨rfl, rfl, rfl⟩) ⟨rfl, rfl⟩).use R1' fun _ s2 N2 m' R2 pz0 => ?_
  obtain ⟨e1, e2⟩ := pz0
  subst e1
  have g1 : m' "function" = some (.ref lam) := by rw [e2]; exact (setLo_ne (by decide)).trans m1
  have g2 : m' "initial" = some (.ref d0) := by rw [e2]; exact (setLo_ne (by decide)).trans m3
  have g3 : m' "it" = some (.ref I) := by rw [e2]; exact setLo_self ..
  clear e2
  -- if initial is _initial_missing
  refine wpAny_execs_cons ?_
  have hif : WS C (A.deeper (callEnv (mkFd (stOf 11) 142 (stName (stOf 11)) [] (.ref dT) pm Value.none) L 142)) (exec ((stBody (stOf 11)).getD 1 (.Pass default)) (callEnv (mkFd (stOf 11) 142 (stName (stOf 11)) [] (.ref dT) pm Value.none) L 142)) (fun f N' m'' => f = .next ∧ N' = N2 ∧ m'' = setLo m' "value" (.ref d0)) N2 ⟨L, []⟩ m' (.ob I (itO l 0) :: Φ) := by
    refine s_if ?_
    refine t_cmp ?_
    refine e_local (v := .ref d0) g2 ?_
    refine e_glob G.G G.g_im ?_
    refine o_is ?_
    have hne : d0 ≠ 134 ∨ True := .inr trivial
    intro s' E' R'
    have hne : (d0 == (134 : Addr)) = false := by
      refine beq_false_of_ne fun e => ?_
      have h1 := R'.get h0
      have h2 := R'.st him
      rw [e, h2] at h1
      cases h1
      simp at himc
    refine (same_refs (Q := fun b N' => b = false ∧ N' = N2) (.inr h0) (.st him) (.inr rfl) ⟨hne, rfl⟩).use R' fun b s'' N'' R'' pz0 => ?_
    obtain ⟨e1, e2⟩ := pz0
    subst e1; subst e2
    refine ⟨_, R'', ?_⟩
    refine o_tBool ?_
    refine ite_n (by decide) ?_
    refine s_cons ?_
    refine s_assign (.inl ⟨rfl, rfl, rfl⟩) ?_
    refine e_local (v := .ref d0) g2 ?_
    exact s_nil ⟨rfl, rfl, rfl⟩
  refine hif.use R2 fun f s3 N3 m3' R3 pz0 => ?_
  refine Classical.byContradiction fun hn => ?_
  obtain ⟨e1, e2, e3⟩ := pz0
  refine hn ?_
  clear hn
  subst e1; subst e2
  have k1 : m3' "function" = some (.ref lam) := by rw [e3]; exact (setLo_ne (by decide)).trans g1
  have k2 : m3' "it" = some (.ref I) := by rw [e3]; exact (setLo_ne (by decide)).trans g3
  have k3 : m3' "value" = some (.ref d0) := by rw [e3]; exact setLo_self ..
  clear e3 hif
  -- for element in it
  refine wpAny_execs_cons ?_
  refine wpAny_For ?_ (by intro _; rfl)
  refine (e_local (env := callEnv (mkFd (stOf 11) 142 (stName (stOf 11)) [] (.ref dT) pm Value.none) L 142) (cs := []) (v := .ref I) (Q := fun v N' => v = .ref I ∧ N' = N3) k2 ⟨rfl, rfl⟩).use R3 fun v s4 N4 R4 pz0 => ?_
  obtain ⟨e1, e2⟩ := pz0
  subst e1; subst e2
  have hI := Iter.list (C := C) (A := A.deeper (callEnv (mkFd (stOf 11) 142 (stName (stOf 11)) [] (.ref dT) pm Value.none) L 142)) (l := l) (cl := .type "list") (d := none) (vs := vs) ho'.h
  have R4' := R4.perm (List.Perm.swap _ _ _)
  refine hI.self R4' ?_
  refine codeAny_forLoop_any (fun j s' => ∃ i N' m' v, i ≤ vs.length ∧ j = vs.length - i ∧ Rep C N' (.ob I (itO l i) :: .fr ⟨L, []⟩ m' :: Φ) s' ∧ J i v N' ∧ m' "function" = some (.ref lam) ∧ m' "value" = some v) (fun j s' hj => ?_) vs.length ⟨0, N4, m3', .ref d0, Nat.zero_le _, rfl, R4', hJ0, k1, k3⟩
  obtain ⟨i, N', m', v, hi, rfl, R', hj, w1, w2⟩ := hj
  obtain ⟨hl', hlam⟩ := hJl i v N' hj
  rcases Nat.lt_or_ge i vs.length with hlt | hge
  · refine hI.item hlt R' ⟨n, .inr hl'⟩ fun x s5 hx R5 => ?_
    refine hI.own R5 ?_
    have R5' := R5.perm (List.Perm.swap _ _ _)
    refine (as_name (x := "element") (v := x) (Q := fun _ N'' m'' => N'' = N' ∧ m'' = setLo m' "element" x) rfl (.inl ⟨rfl, rfl, rfl⟩) ⟨rfl, rfl⟩).use R5' fun _ s6 N6 m6 R6 pz0 => ?_
    obtain ⟨e1, e2⟩ := pz0
    subst e1
    have z1 : m6 "function" = some (.ref lam) := by rw [e2]; exact (setLo_ne (by decide)).trans w1
    have z2 : m6 "value" = some v := by rw [e2]; exact (setLo_ne (by decide)).trans w2
    have z3 : m6 "element" = some x := by rw [e2]; exact setLo_self ..
    clear e2
    have hbody : WS C (A.deeper (callEnv (mkFd (stOf 11) 142 (stName (stOf 11)) [] (.ref dT) pm Value.none) L 142)) (execs (match (stBody (stOf 11)).getD 2 (.Pass default) with | .For _ _ b _ _ => b | _ => []) (callEnv (mkFd (stOf 11) 142 (stName (stOf 11)) [] (.ref dT) pm Value.none) L 142))
        (fun f N'' m'' => f = .next ∧ m'' "function" = some (.ref lam) ∧ ∃ v', m'' "value" = some v' ∧ J (i + 1) v' N'') N6 ⟨L, []⟩ m6 (.ob I (itO l (i + 1)) :: Φ) := by
      refine s_cons ?_
      refine s_assign (.inl ⟨rfl, rfl, rfl⟩) ?_
      refine e_call rfl ?_
      refine e_local (v := .ref lam) z1 ?_
      refine Classical.byContradiction fun hn => ?_
      obtain ⟨ol, ol1, ol2, ol3⟩ := hlam.obj
      refine hn ?_
      clear hn
      refine cw_fn rfl ol3 ?_
      refine a_cons (e_local (v := v) z2 (a_cons (e_local (v := x) z3 (a_nil ⟨.inr ol1, ?_⟩))))
      refine (turn _ _ i v x N6 ho' ((fr' m6).mono fun f hf => ?_) (fun f hf => .tail _ (.tail _ hf)) hx hj).mono fun v' N'' h' => ?_
      · rcases List.mem_cons.mp hf with rfl | hf
        · exact .head _
        · exact .tail _ (.tail _ hf)
      · exact s_nil ⟨rfl, (setLo_ne (by decide)).trans z1, v', setLo_self .., h'⟩
    refine hbody.use R6 fun f s7 N7 m7 R7 pz0 => ?_
    refine Classical.byContradiction fun hn => ?_
    obtain ⟨e1, e2, v', e3, e4⟩ := pz0
    refine hn ?_
    clear hn
    subst e1
    exact ⟨vs.length - (i + 1), Nat.sub_succ_lt_self _ _ hlt, i + 1, N7, m7, v', hlt, rfl, R7.perm (List.Perm.swap _ _ _), e4, e2, e3⟩
  · obtain rfl : i = vs.length := Nat.le_antisymm hi hge
    refine hI.stop R' ⟨n, .inr hl'⟩ fun s5 R5 => ?_
    refine wpAny_execs_nil ?_
    have hret : WS C (A.deeper (callEnv (mkFd (stOf 11) 142 (stName (stOf 11)) [] (.ref dT) pm Value.none) L 142)) (execs ((stBody (stOf 11)).drop 3) (callEnv (mkFd (stOf 11) 142 (stName (stOf 11)) [] (.ref dT) pm Value.none) L 142)) (fun f N'' _ => Q (retOf f) N'') N' ⟨L, []⟩ m' Φ := by
      refine s_cons ?_
      refine s_ret ?_
      refine e_local (v := v) w2 ?_
      exact q v N' hj
    exact hret s5 _ R5
end Mine.Internal
end
section
open PySem PySem.W PyProof.Rows
namespace Mine.Internal
theorem sgL_cons (p : Pc) (r : List Pc) : sgL (p :: r) = sg p + sgL r := by simp [sgL]
noncomputable def askR : List Pc → List Pc
  | [] => []
  | p :: r => if sgL (p :: r) = 0 then [] else p :: askR r
theorem askR_c {p : Pc} {r : List Pc} : askR (p :: r) = if sgL (p :: r) = 0 then [] else p :: askR r := rfl
theorem askR_n : askR [] = [] := rfl
theorem askR_zero : ∀ {r : List Pc}, sgL r = 0 → askR r = []
  | [], _ => rfl
  | p :: r, h => by rw [askR_c, if_pos h]
theorem askI_R (ps : List Pc) : ∀ (k i : Nat), i + k = ps.length → askI ps i ++ askR (ps.reverse.drop i) = askI ps ps.length
  | 0, i, h => by
    have : i = ps.length := by lia
    subst this
    rw [List.drop_eq_nil_of_le (by simp), askR_n, List.append_nil]
  | k + 1, i, h => by
    have hi : i < ps.reverse.length := by rw [List.length_reverse]; lia
    rw [← askI_R ps k (i + 1) (by lia)]
    have hs : sgL (ps.reverse.drop i) = sgL (ps.take (ps.length - i)) := by rw [List.drop_reverse, sgL_reverse]
    have hd := List.drop_eq_getElem_cons hi
    have hg : ps[ps.length - 1 - i]? = some (ps.reverse[i]) := by
      rw [List.getElem_reverse, List.getElem?_eq_getElem (n_lt (List.length_reverse ▸ hi))]
    rw [askI_s]
    by_cases hz : sgL (ps.reverse.drop i) = 0
    · rw [askR_zero hz, if_neg (by rw [← hs]; lia)]
      have : sgL (ps.reverse.drop (i + 1)) = 0 := by rw [hd, sgL_cons] at hz; lia
      rw [askR_zero this]; simp
    · rw [if_pos (by rw [← hs]; lia), hg]
      conv => lhs; rw [hd]
      rw [hd] at hz
      rw [askR_c, if_neg hz]
      simp
theorem askd_R (ps : List Pc) : askd ps = askR ps.reverse := by
  have := askI_R ps ps.length 0 (Nat.zero_add _)
  rw [List.drop_zero] at this
  exact this.symm
noncomputable def lackE (q : List Pc) : List Pc → List Pc
  | [] => []
  | p :: a => (if p ∈ q then [] else [p]) ++ lackE (q.erase p) a
theorem lackE_c {q : List Pc} {p : Pc} {a : List Pc} : lackE q (p :: a) = (if p ∈ q then [] else [p]) ++ lackE (q.erase p) a := rfl
theorem uld_eq : ∀ (r q mi : List Pc), uldL r q mi = (r.drop (askR r).length, (askR r).foldl List.erase q, mi ++ lackE q (askR r))
  | [], q, mi => by rw [askR_n]; exact congrArg (([] : List Pc), q, ·) (List.append_nil mi).symm
  | p :: r, q, mi => by
    rw [uldL_c, askR_c]
    by_cases hz : sgL (p :: r) = 0
    · rw [if_pos hz, if_pos hz]; exact congrArg (p :: r, q, ·) (List.append_nil mi).symm
    · rw [if_neg hz, if_neg hz]
      by_cases hm : p ∈ q
      · rw [if_pos hm, uld_eq r]; simp [lackE_c, hm]
      · rw [if_neg hm, uld_eq r]; simp [lackE_c, hm, List.erase_of_not_mem]
theorem rest_zero : ∀ r : List Pc, sgL (r.drop (askR r).length) = 0
  | [] => rfl
  | p :: r => by
    rw [askR_c]
    by_cases hz : sgL (p :: r) = 0
    · rw [if_pos hz]; exact hz
    · rw [if_neg hz]; exact rest_zero r
theorem rest_bare (ps : List Pc) : (ps.reverse.drop (askR ps.reverse).length).reverse = bareL ps := by
  rw [List.drop_reverse, List.reverse_reverse, ← askd_R]
  rfl
theorem bare_zero (ps : List Pc) : sgL (bareL ps) = 0 := by rw [← rest_bare, sgL_reverse]; exact rest_zero _
theorem count_foldl (p : Pc) : ∀ (a s : List Pc), (a.foldl List.erase s).count p = s.count p - a.count p
  | [], s => by simp
  | x :: a, s => by
    rw [List.foldl_cons, count_foldl p a, List.count_erase, List.count_cons]
    lia
theorem lack_L (s : List Pc) : ∀ (ps a : List Pc), lackE (a.foldl List.erase s) ps = lackL s a ps
  | [], a => rfl
  | p :: ps, a => by
    rw [lackE_c, lackL_c]
    have e1 : (a.foldl List.erase s).erase p = (a ++ [p]).foldl List.erase s := by rw [List.foldl_append]; rfl
    rw [e1, lack_L s ps (a ++ [p])]
    congr 1
    have e2 : p ∈ a.foldl List.erase s ↔ ¬ s.count p ≤ a.count p := by
      rw [← List.count_pos_iff, count_foldl]; exact Nat.sub_pos_iff_lt.trans Nat.not_le.symm
    by_cases h : s.count p ≤ a.count p
    · rw [if_pos h, if_neg (fun hm => e2.mp hm h)]
    · rw [if_neg h, if_pos (e2.mpr h)]
noncomputable def keepC : List Pc → (Pc → Nat) → List Pc
  | [], _ => []
  | p :: s, c => if 0 < c p then keepC s (fun x => if x = p then c x - 1 else c x) else p :: keepC s c
theorem keepC_c {p : Pc} {s : List Pc} {c : Pc → Nat} : keepC (p :: s) c = if 0 < c p then keepC s (fun x => if x = p then c x - 1 else c x) else p :: keepC s c := rfl
theorem keepC_erase (p : Pc) : ∀ (s : List Pc) (c : Pc → Nat), (keepC s c).erase p = keepC s (fun x => if x = p then c x + 1 else c x)
  | [], c => rfl
  | y :: s, c => by
    rw [keepC_c, keepC_c]
    by_cases h : 0 < c y
    · rw [if_pos h, if_pos (by split <;> lia), keepC_erase p s]
      congr 1
      funext x
      by_cases h2 : x = y
      · subst h2
        by_cases h1 : x = p
        · simp [h1]; subst h1; lia
        · simp [h1]
      · by_cases h1 : x = p
        · subst h1; simp [h2]
        · simp [h1, h2]
    · rw [if_neg h]
      by_cases hp : y = p
      · subst hp
        rw [if_pos (by simp), List.erase_cons_head]
        congr 1
        funext x
        by_cases h1 : x = y <;> simp [h1]
      · rw [if_neg (by simp [hp]; lia), List.erase_cons_tail (by simpa using hp), keepC_erase p s]
theorem foldl_keep (s : List Pc) : ∀ (a : List Pc) (c : Pc → Nat), a.foldl List.erase (keepC s c) = keepC s (fun x => c x + a.count x)
  | [], c => by simp
  | p :: a, c => by
    rw [List.foldl_cons, keepC_erase, foldl_keep s a]
    congr 1
    funext x
    rw [List.count_cons]
    by_cases h : x = p
    · subst h; simp; lia
    · have : (p == x) = false := by simpa using fun e => h e.symm
      simp [h, this]
theorem keepC_zero : ∀ s : List Pc, keepC s (fun _ => 0) = s
  | [] => rfl
  | p :: s => by rw [keepC_c, if_neg (by simp), keepC_zero s]
noncomputable def leftS (a : List Pc) : List Pc → List Pc → List Pc
  | _, [] => []
  | pre, p :: s => (if a.count p ≤ pre.count p then [p] else []) ++ leftS a (pre ++ [p]) s
theorem leftS_c {a pre : List Pc} {p : Pc} {s : List Pc} : leftS a pre (p :: s) = (if a.count p ≤ pre.count p then [p] else []) ++ leftS a (pre ++ [p]) s := rfl
theorem leftS_n {a pre : List Pc} : leftS a pre [] = [] := rfl
theorem left_S (s a : List Pc) : ∀ (k i : Nat), i + k = s.length → leftI s a i ++ leftS a (s.take i) (s.drop i) = leftL s a
  | 0, i, h => by
    have : i = s.length := by lia
    subst this
    rw [List.drop_length, leftS_n, List.append_nil]; rfl
  | k + 1, i, h => by
    have hi : i < s.length := by lia
    rw [← left_S s a k (i + 1) (by lia), List.drop_eq_getElem_cons hi, leftS_c, leftI_s, List.getElem?_eq_getElem hi, List.take_add_one, List.getElem?_eq_getElem hi]
    simp only [Option.toList, List.filter_cons, List.filter_nil, List.append_assoc, decide_eq_true_eq, List.count_append, List.count_singleton, beq_self_eq_true, if_true]
    by_cases hc : a.count s[i] ≤ (s.take i).count s[i]
    · rw [if_pos hc, if_pos (by lia)]
    · rw [if_neg hc, if_neg (by lia)]
theorem leftS_keep (a : List Pc) : ∀ (s pre : List Pc), leftS a pre s = keepC s (fun p => a.count p - pre.count p)
  | [], _ => rfl
  | p :: s, pre => by
    rw [leftS_c, keepC_c, leftS_keep a s]
    have e : (fun q => a.count q - (pre ++ [p]).count q) = fun x => if x = p then (a.count x - pre.count x) - 1 else a.count x - pre.count x := by
      funext x
      rw [List.count_append, List.count_singleton]
      by_cases h : x = p
      · subst h; simp; lia
      · have : (p == x) = false := by simpa using fun e => h e.symm
        simp [h, this]
    rw [e]
    by_cases hc : a.count p ≤ pre.count p
    · rw [if_pos hc, if_neg (by rw [Nat.sub_eq_zero_of_le hc]; exact Nat.lt_irrefl 0), List.singleton_append]
      congr 2
      funext x
      by_cases h : x = p
      · subst h; rw [if_pos rfl, Nat.sub_eq_zero_of_le hc]
      · simp [h]
    · rw [if_neg hc, if_pos (Nat.sub_pos_of_lt (Nat.lt_of_not_le hc)), List.nil_append]
theorem left_eq (s a : List Pc) : leftL s a = a.foldl List.erase s := by
  have h := left_S s a s.length 0 (Nat.zero_add _)
  rw [← h]
  show leftS a [] s = _
  rw [leftS_keep]
  conv => rhs; rw [← keepC_zero s, foldl_keep]
  congr 1
  funext x
  simp
theorem serve_one (s a ps : List Pc) : uldL ps.reverse (a.foldl List.erase s) [] = ((bareL ps).reverse, (a ++ askd ps).foldl List.erase s, lackL s a (askd ps)) := by
  rw [uld_eq, ← askd_R, List.nil_append, lack_L, List.foldl_append]
  congr 1
  have := rest_bare ps
  rw [← askd_R] at this
  rw [← this, List.reverse_reverse]
theorem lack_nil (s : List Pc) : ∀ (ps a : List Pc), (∀ p, (a ++ ps).count p ≤ s.count p) → lackL s a ps = []
  | [], _, _ => rfl
  | p :: ps, a, h => by
    rw [lackL_c, lack_nil s ps (a ++ [p]) (fun x => by rw [List.append_assoc]; exact h x)]
    have := h p
    rw [List.count_append, List.count_cons_self] at this
    rw [if_neg (by lia)]; rfl
theorem due_nil (s : List Pc) : ∀ (bs : List (List Pc)) (a : List Pc), (∀ p, (a ++ bs.flatMap askd).count p ≤ s.count p) → dueL s a bs = bs.map fun _ => []
  | [], _, _ => rfl
  | b :: bs, a, h => by
    rw [dueL_c, due_nil s bs (a ++ askd b) (fun p => by have := h p; rw [List.flatMap_cons] at this; rw [List.append_assoc]; exact this)]
    rw [lack_nil s (askd b) a fun p => by
      have := h p
      rw [List.flatMap_cons, List.count_append, List.count_append] at this
      rw [List.count_append]; lia]
    rfl
theorem askR_pre (z : List Pc) (hz : sgL z = 0) (p : Pc) : ∀ d : List Pc, (askR (d ++ z)).count p ≤ d.count p
  | [] => by rw [List.nil_append, askR_zero hz]; exact Nat.le_refl _
  | x :: d => by
    rw [List.cons_append, askR_c]
    have := askR_pre z hz p d
    split
    · simp
    · rw [List.count_cons, List.count_cons]; lia
theorem count_flat (p : Pc) {f g : List Pc → List Pc} : ∀ {bs ds : List (List Pc)}, bs.length = ds.length → (∀ (i : Nat) (b d : List Pc), bs[i]? = some b → ds[i]? = some d → (f b).count p ≤ (g d).count p) → (bs.flatMap f).count p ≤ (ds.flatMap g).count p
  | [], [], _, _ => by simp
  | b :: bs, d :: ds, hl, h => by
    have h1 := h 0 b d rfl rfl
    have h2 := count_flat p (f := f) (g := g) (bs := bs) (ds := ds) (by simpa using hl) fun i b d x y => h (i + 1) b d (by simpa using x) (by simpa using y)
    rw [List.flatMap_cons, List.flatMap_cons, List.count_append, List.count_append]; lia
theorem again_due {told dues : List (List Pc)} (left : List Pc) (hl : told.length = dues.length) :
    dueL (left ++ dues.flatMap List.reverse) [] (List.zipWith (fun b d => b ++ d.reverse) (told.map bareL) dues).reverse = (List.zipWith (fun b d => b ++ d.reverse) (told.map bareL) dues).reverse.map fun _ => [] := by
  refine due_nil _ _ [] fun p => ?_
  rw [List.nil_append, List.count_append]
  have hp : ((List.zipWith (fun b d => b ++ d.reverse) (told.map bareL) dues).reverse.flatMap askd).count p = ((List.zipWith (fun b d => b ++ d.reverse) (told.map bareL) dues).flatMap askd).count p := ((List.reverse_perm _).flatMap_right _).count_eq _
  rw [hp]
  have h2 : ((List.zipWith (fun b d => b ++ d.reverse) (told.map bareL) dues).flatMap askd).count p ≤ (dues.flatMap List.reverse).count p := by
    refine count_flat p (by simp; lia) fun i b d hb hd => ?_
    rw [List.getElem?_zipWith] at hb
    rw [hd] at hb
    cases ht : (told.map bareL)[i]? with
    | none => rw [ht] at hb; cases hb
    | some t =>
      rw [ht] at hb
      cases hb
      rw [askd_R, List.reverse_append, List.reverse_reverse, List.count_reverse]
      refine askR_pre _ ?_ p d
      rw [List.getElem?_map] at ht
      obtain ⟨g, hg, rfl⟩ := Option.map_eq_some_iff.mp ht
      rw [sgL_reverse]; exact bare_zero g
  lia
end Mine.Internal
end
section
open PySem PySem.W PyProof.Rows PySem.Calls PySem.Spec PySem.Builtin.List PySem.Builtin
set_option maxRecDepth 100000
namespace Mine.Internal
variable {C : Cx} {N N' N'' : Led} {Φ Φ' : Frs} {A : Around} {mg mb : Lo} {s : Shared} {env : Env}
theorem subT_tup {value slice : Expr} {t : Addr} {k : Tok} {v w : Value} {n : Nat} {Q : Value → Led → Prop} (h : Has C N t (tup [v, w] n)) (q : Q w N) : WE C A (subT value slice (.ref t) (.int 1 k)) Q N Φ := by
  unfold subT
  refine WE.bind ?_
  unfold getitemInPython
  refine WE.bind (fun s E R => wpAny_specialOf (T := "tuple") ⟨_, R.has h, rfl⟩ PySem.F.slot_tuple_getitem.lookup ⟨N, R, ?_⟩)
  refine WE.pure ?_
  refine WE.bind ?_
  have q2 : WE C A (getItem (.ref t) (.int 1 k)) (fun r N' => WE C A (letTemporaryGo value (.ref t) r >>= fun _ => Pure.pure r) Q N' Φ) N Φ := fun s E R =>
    PyProof.Rows.getItem_tuple (items := #[v, w]) (j := 1) (x := w) ⟨_, R.has h, rfl, _, rfl⟩ (by lia) (by lia) (by rfl) rfl ⟨N, R, WE.bind (WE.letGo (WE.pure q))⟩
  rcases subscr slice (.ref t) (.int 1 k) with e | e <;> rw [e] <;> exact WE.operate q2
theorem Rd.int {i : Int} {t : Tok} : Rd N (.int i t) (PyData.int i) := fun _ _ => ⟨_, .int i t⟩
noncomputable def isD (is : List Int) : PyData := .list (is.map PyData.int)
theorem isD_lay (is : List Int) : (isD is).canLay0 = true := by simp only [isD, PyData.canLay0]; exact layAll_map (fun _ => rfl) is
theorem isD_depth (is : List Int) : (isD is).depth ≤ 8 := by
  simp only [isD, PyData.depth]
  have := depthAll_map (f := PyData.int) (k := 1) (fun a => by simp [PyData.depth]) is
  lia
theorem isD_eqv (is : List Int) : PyData.eqv (isD is) (isD is) = true := by
  simp only [isD, PyData.eqv]
  rw [eqvAll_map (f := PyData.int) (fun a b => by rw [PyData.eqv]; first | rfl | (simp [BEq.beq]; done) | (rw [Bool.eq_iff_iff]; simp))]
  simp
theorem rd_ints {a : Addr} {vs : List Value} {n : Nat} {is : List Int} (h : (a, lst vs n) ∈ N) (hi : All2 IsI vs is) : Rd N (.ref a) (isD is) :=
  Rd.lst h (RdL.of_all2 (fun v i x => by obtain ⟨t, rfl⟩ := x; exact Rd.int) hi)
theorem rd_pls {a : Addr} {vs : List Value} {n : Nat} {pss : List (List Pc)} (h : (a, lst vs n) ∈ N) (hi : PLs N vs pss) : Rd N (.ref a) (plsD pss) := Rd.lst h hi.rd
theorem o_nePls {a b : Addr} {vs ws : List Value} {n k j : Nat} {pss : List (List Pc)} {Q : Value → Led → Prop} (ho : AOk A j) (ha : (a, lst vs n) ∈ N) (hv : PLs N vs pss) (hb : (b, lst ws k) ∈ N) (hw : PLs N ws pss) (q : Q (.bool false) N) : WE C A (compareOp .NotEq (.ref a) (.ref b)) Q N Φ := by
  refine o_neD ho (rd_pls ha hv) (rd_pls hb hw) (plsD_lay _) (plsD_lay _) (Nat.le_trans (plsD_depth _) (by decide)) (Nat.le_trans (plsD_depth _) (by decide)) ?_
  rw [plsD_eqv, decide_eq_true rfl]
  exact q
section shop
variable {rs : List (Addr × Addr)} {bags : List (List Pc)} {st Ds : Addr} {hd : Int} {sh sh' : List Pc} {qv : List Value}
theorem Shop.at (S : Shop N rs bags st Ds hd sh) (hq : All2 (fun v (r : Addr × Addr) => v = .ref r.1) qv rs) {i : Nat} {v : Value} (hv : (qv ++ [.ref st])[i]? = some v) :
    ∃ row D b, v = .ref row ∧ (bags ++ [sh])[i]? = some b ∧ RowP N row D (if i < bags.length then 0 else hd) b ∧ (i < bags.length → bags[i]? = some b) ∧ (¬ i < bags.length → b = sh) := by
  have hl := hq.length
  have hsl := S.len
  by_cases hi : i < bags.length
  · rw [List.getElem?_append_left (by lia)] at hv
    obtain ⟨r, hr, e⟩ := hq.get' hv
    obtain ⟨b, hb⟩ := S.get hr
    refine ⟨r.1, r.2, b, e, by rw [List.getElem?_append_left hi]; exact hb, by rw [if_pos hi]; exact S.rows i r b hr hb, fun _ => hb, fun h => absurd hi h⟩
  · rw [List.getElem?_append_right (by lia)] at hv
    have h0 : i - qv.length = 0 := by
      rcases Nat.eq_zero_or_pos (i - qv.length) with h | h
      · exact h
      · rw [List.getElem?_eq_none (by simp; lia)] at hv; cases hv
    rw [h0] at hv
    cases hv
    refine ⟨st, Ds, sh, rfl, ?_, by rw [if_neg hi]; exact S.stock, fun h => absurd h hi, fun _ => rfl⟩
    rw [List.getElem?_append_right (by lia), show i - bags.length = 0 by lia]; rfl
theorem Shop.put2 {i : Nat} {r : Addr × Addr} {b : List Pc} (fn : ∀ a o o', (a, o) ∈ N → (a, o') ∈ N → o = o') (S : Shop N rs bags st Ds hd sh) (hi : rs[i]? = some r) (k : KeepX [r.1, st] N N') (ep : ExP N N') (h : RowP N' r.1 r.2 0 b) (h' : RowP N' st Ds hd sh') : Shop N' rs (bags.set i b) st Ds hd sh' := by
  obtain ⟨b0, hb0⟩ := S.get hi
  have hr := S.rows i r b0 hi hb0
  refine ⟨by rw [List.length_set]; exact S.len, fun j r' b' h1 h2 => ?_, h', S.nd⟩
  by_cases e : i = j
  · subst e
    rw [hi] at h1
    cases h1
    rw [List.getElem?_set_self (by have := (List.getElem?_eq_some_iff.mp hb0).1; exact this)] at h2
    cases h2
    exact h
  · rw [List.getElem?_set_ne e] at h2
    have hr' := S.rows j r' b' h1 h2
    exact hr'.keep k ep (by simp; exact ⟨(S.ne2 hi h1 e).symm, S.ne h1⟩) (by simp; exact ⟨hr'.ne2 fn hr, hr'.ne2 fn S.stock⟩)
end shop
end Mine.Internal
end
section
open PySem PySem.W PyProof.Rows PySem.Calls PySem.Spec PySem.Builtin.List PySem.Builtin
set_option maxRecDepth 100000
namespace Mine.Internal
variable {C : Cx} {N N' N'' : Led} {Φ Φ' : Frs} {A : Around} {mg mb : Lo} {s : Shared}
noncomputable abbrev heldScope : Scope := { kind := .function, names := [(".0", .local), ("row", .local), ("_law_held", .globalImplicit)], isGenerator := false, isCoroutine := false, more := [] }
noncomputable abbrev servEnv (pm : Value) (L : Addr) : Env := callEnvC (mkFd (stOf 21) 193 (stName (stOf 21)) [] Value.none pm Value.none) L 193
section
variable {rs : List (Addr × Addr)} {bags : List (List Pc)} {st Ds qa : Addr} {nq : Nat} {hd : Int} {sh sh' : List Pc} {qv : List Value} {pm : Value} {L : Addr} {m : Lo}
theorem e_held {p1 p2 p3 p4 p5 p6 p7 p8 p9 : Pos} {Q : Value → Led → Prop} (G : Prg C mg mb) (ho : AOk A 4) (S : Shop N rs bags st Ds hd sh) (hq : (qa, lst qv nq) ∈ N) (hqv : All2 (fun v (r : Addr × Addr) => v = .ref r.1) qv rs)
    (m1 : m "queue" = some (.ref qa)) (m2 : m "stock" = some (.ref st)) (hb : ∀ b ∈ bags ++ [sh], b.length ≤ 2 ^ 10) (hl : bags.length ≤ 2 ^ 8)
    (q : ∀ N' r ws k, Ext N N' → New r N' → PLs N' ws (bags ++ [sh]) → Q (.ref r) ((r, lst ws k) :: N')) :
    WE C A (eval (.ListComp (.Call (.Name "_law_held" p1) [.Name "row" p2] [] p3) [⟨.Name "row" p4, .BinOp (.Name "queue" p5) .Add (.List [.Name "stock" p6] p7) p8, [], 0⟩] heldScope p9) (servEnv pm L)) Q N (.fr ⟨L, [("stock", L + 1)]⟩ m :: Φ) := by
  have hql := hqv.length
  have hsl := S.len
  refine e_comp G.F ?_
  refine e_bin (e_local (v := .ref qa) m1 (e_list (a_cons (e_cell (v := .ref st) (.top (x := "stock") m2 rfl) (a_nil ⟨sz_ok (by simp), fun l1 hl1 => ?_⟩)))))
  refine o_addL G.F (.inr (.tail _ hq)) (.inr (.head _)) (by rw [sizeLine_eq]; simp; lia) fun l2 hl2 => ?_
  refine src_list G.F ho.h (.inl rfl) (.inr (.head _)) (fun i ys N' => Ext N N' ∧ (l2, lst (qv ++ [.ref st]) 0) ∈ N' ∧ PLs N' ys ((bags ++ [sh]).take i)) ⟨(Ext.refl _).c2, .head _, trivial⟩ ?_ (fun Cf => ?_) ?_
  · rintro i ys N' ⟨e, h, hy⟩
    have := hy.length
    rw [List.length_take, List.length_append] at this
    exact ⟨⟨0, .inr h⟩, by rw [sizeLine_eq]; simp at this; lia⟩
  · rintro i ys N' m x I D k hi ⟨e, h, hy⟩ hx
    obtain ⟨row, Dr, b, rfl, hbi, hrow, _⟩ := S.at hqv hx
    refine Classical.byContradiction fun hn => ?_
    obtain ⟨vs, n, r, hp⟩ := hrow.mono e
    refine hn ?_
    clear hn
    have hpl := hp.length
    have hbl := hb b (List.mem_of_getElem? hbi)
    refine as_name rfl (.inl ⟨rfl, rfl, rfl⟩) ?_
    refine tests_nil ?_
    refine e_call rfl (e_glob G.G G.g_held (cw_S G.f_held rfl (a_cons (e_local (v := .ref row) (setLo_self ..) (a_nil ?_)))))
    refine c_held G (ho.le (by decide)) (.inr rfl) r.obj (by rw [sizeLine_eq]; lia) fun r2 k2 hr2 => ?_
    refine ⟨e.c1, .tail _ h, ?_⟩
    rw [List.take_add_one, hbi]
    exact (hy.mono (Ext.cons _ _)).append ⟨⟨r2, vs, k2, rfl, .head _, hp.mono (Ext.cons _ _)⟩, trivial⟩
  · rintro ys N' D k ⟨e, h, hy⟩ hD
    have hl2' : (qv ++ [Value.ref st]).length = (bags ++ [sh]).length := by simp; lia
    rw [hl2', List.take_length] at hy
    exact q N' D ys k e hD hy
end
end Mine.Internal
end
section
open PySem PySem.W PyProof.Rows PySem.Calls PySem.Spec PySem.Builtin.List PySem.Builtin
set_option maxRecDepth 100000
namespace Mine.Internal
variable {C : Cx} {N N' N'' : Led} {Φ Φ' : Frs} {A : Around} {mg mb : Lo} {s : Shared}
theorem dueL_get (s : List Pc) : ∀ (bs : List (List Pc)) (a : List Pc) (i : Nat) (b : List Pc), bs[i]? = some b → (dueL s a bs)[i]? = some (lackL s (a ++ (bs.take i).flatMap askd) (askd b))
  | [], _, _, _, h => by simp at h
  | c :: bs, a, 0, b, h => by simp at h; subst h; rw [List.take_zero, List.flatMap_nil, List.append_nil]; rfl
  | c :: bs, a, i + 1, b, h => by
    rw [dueL_c, List.getElem?_cons_succ, dueL_get s bs (a ++ askd c) i b (by simpa using h), List.take_succ_cons, List.flatMap_cons, List.append_assoc]
noncomputable def mixB (bags : List (List Pc)) (k : Nat) : List (List Pc) := (bags.map bareL).take k ++ bags.drop k
theorem mixB_len {bags : List (List Pc)} {k : Nat} (hk : k ≤ bags.length) : (mixB bags k).length = bags.length := td_len (List.length_map _)
theorem mixB_get {bags : List (List Pc)} {k : Nat} (i : Nat) : (mixB bags k)[i]? = if i < k then (bags[i]?).map bareL else bags[i]? := by
  unfold mixB
  rw [td_get (List.length_map _), List.getElem?_map]
theorem mixB_succ {bags : List (List Pc)} {k : Nat} {b : List Pc} (hb : bags[k]? = some b) : (mixB bags k).set k (bareL b) = mixB bags (k + 1) := by
  have hk := (List.getElem?_eq_some_iff.mp hb).1
  refine List.ext_getElem? fun i => ?_
  rw [mixB_get]
  rcases Nat.lt_trichotomy i k with h | h | h
  · rw [List.getElem?_set_ne (by lia), mixB_get, if_pos h, if_pos (by lia)]
  · subst h
    rw [List.getElem?_set_self (by rw [mixB_len (by lia)]; exact hk), if_pos (by lia), hb]
    rfl
  · rw [List.getElem?_set_ne (by lia), mixB_get, if_neg (by lia), if_neg (by lia)]
noncomputable def ToldOk (N : Led) (st : Addr) (vs : List Value) (ls : List (List Pc)) : Prop := All2 (fun v l => ∃ t M n, v = .ref t ∧ (t, tup [.ref M, .ref st] n) ∈ N ∧ IsPL N (.ref M) l) vs ls
theorem ToldOk.exp {st : Addr} {vs : List Value} {ls : List (List Pc)} (e : ExP N N') (h : ToldOk N st vs ls) : ToldOk N' st vs ls := All2.imp (fun _ _ ⟨t, M, n, a, b, c⟩ => ⟨t, M, n, a, e _ b firm_tup, e.pl c⟩) h
theorem bareL_le (ps : List Pc) : (bareL ps).length ≤ ps.length := by unfold bareL; rw [List.length_take]; exact Nat.min_le_right _ _
theorem foldl_erase_le : ∀ (a s : List Pc), (a.foldl List.erase s).length ≤ s.length
  | [], s => Nat.le_refl _
  | p :: a, s => Nat.le_trans (foldl_erase_le a (s.erase p)) (List.length_erase_le ..)
theorem leftL_le (s a : List Pc) : (leftL s a).length ≤ s.length := by rw [left_eq]; exact foldl_erase_le a s
set_option maxHeartbeats 8000000 in
theorem c_served {P qa ba du : Addr} {nq nb nd : Nat} {qv bv dv : List Value} {rs : List (Addr × Addr)} {bags : List (List Pc)} {st Ds : Addr} {hd : Int} {th : Tok} {sh : List Pc} {shv : Value} {Q : Value → Led → Prop} (H : All C mg mb) (T : TabF C mg mb) (V : ValE mg mb) (RF : RedF C mg mb)
    (LF : LamF C 192 P "_law_served.<locals>.<lambda>") (ho : AOk A 14) (fr : FrOk A Φ) (hq : (qa, lst qv nq) ∈ N) (hqv : All2 (fun v (r : Addr × Addr) => v = .ref r.1) qv rs) (hb : (ba, lst bv nb) ∈ N) (hbs : PLs N bv bags) (hs : IsPL N shv sh) (hdu : (du, lst dv nd) ∈ N) (hdv : PLs N dv (dueL sh [] bags)) (S : Shop N rs bags st Ds hd sh)
    (h0 : 0 ≤ hd) (h1 : hd < 2 ^ 20) (l1 : bags.length ≤ 2 ^ 7) (l2 : ∀ b ∈ bags, b.length ≤ 2 ^ 6) (l3 : sh.length ≤ 2 ^ 8)
    (q : ∀ N', ExP N N' → Shop N' rs (bags.map bareL) st Ds hd (leftL sh (bags.flatMap askd)) → Q (.bool true) N') : WE C A (PySem.call (.ref 193) [.ref qa, .ref st, .int hd th, .ref ba, shv, .ref du]) Q N Φ := by
  have G := H.G.P
  obtain ⟨pm, hf⟩ := G.f_served
  have hql := hqv.length
  have hbl := hbs.length
  have hdl := hdv.length
  rw [dueL_length] at hdl
  have hsl := S.len
  refine WE.call (CE.fnCells (binds := [("queue", .ref qa), ("stock", .ref st), ("head", .int hd th), ("bags", .ref ba), ("shelf", shv), ("due", .ref du)]) (cs := fun L => [("stock", L + 1)]) (k := 13) G.G ho hf.any rfl rfl rfl (fun _ => rfl) fun L => ?_)
  have ho' := ho.deeper (env := servEnv pm L)
  have fr' : ∀ m, FrOk (A.deeper (servEnv pm L)) (.fr ⟨L, [("stock", L + 1)]⟩ m :: Φ) := fun m => fr.deeper (fd := mkFd (stOf 21) 193 (stName (stOf 21)) [] .none pm .none) (L := L) (a := 193) (k := [("stock", L + 1)]) (m := m) (fun h => nomatch (show ScopeKind.function = ScopeKind.module from h))
  have m1 : (bindM [("queue", .ref qa), ("stock", .ref st), ("head", .int hd th), ("bags", .ref ba), ("shelf", shv), ("due", .ref du)] fun _ => none : Lo) "queue" = some (.ref qa) := rfl
  have m2 : (bindM [("queue", .ref qa), ("stock", .ref st), ("head", .int hd th), ("bags", .ref ba), ("shelf", shv), ("due", .ref du)] fun _ => none : Lo) "stock" = some (.ref st) := rfl
  have m3 : (bindM [("queue", .ref qa), ("stock", .ref st), ("head", .int hd th), ("bags", .ref ba), ("shelf", shv), ("due", .ref du)] fun _ => none : Lo) "head" = some (.int hd th) := rfl
  have m4 : (bindM [("queue", .ref qa), ("stock", .ref st), ("head", .int hd th), ("bags", .ref ba), ("shelf", shv), ("due", .ref du)] fun _ => none : Lo) "bags" = some (.ref ba) := rfl
  have m5 : (bindM [("queue", .ref qa), ("stock", .ref st), ("head", .int hd th), ("bags", .ref ba), ("shelf", shv), ("due", .ref du)] fun _ => none : Lo) "shelf" = some shv := rfl
  have m6 : (bindM [("queue", .ref qa), ("stock", .ref st), ("head", .int hd th), ("bags", .ref ba), ("shelf", shv), ("due", .ref du)] fun _ => none : Lo) "due" = some (.ref du) := rfl
  generalize (bindM [("queue", .ref qa), ("stock", .ref st), ("head", .int hd th), ("bags", .ref ba), ("shelf", shv), ("due", .ref du)] fun _ => none : Lo) = m at m1 m2 m3 m4 m5 m6
  have hall : ∀ b ∈ bags ++ [sh], b.length ≤ 2 ^ 10 := fun b hb => by
    rcases List.mem_append.mp hb with hb | hb
    · have := l2 b hb; lia
    · rw [List.mem_singleton.mp hb]; lia
  -- the rows hold the bags
  refine s_cons ?_
  refine s_if ?_
  refine t_cmp ?_
  refine e_held G (ho'.le (by decide)) S hq hqv m1 m2 hall (by lia) fun N1 r1 ws1 k1 e1 hr1 hw1 => ?_
  refine e_bin (e_local (v := .ref ba) m4 (e_list (a_cons (e_local (v := shv) m5 (a_nil ⟨sz_ok (by simp), fun x1 hx1 => ?_⟩)))))
  refine o_addL G.F (.inr (.tail _ (.tail _ (e1 _ hb)))) (.inr (.head _)) (by rw [sizeLine_eq]; simp; lia) fun x2 hx2 => ?_
  refine o_nePls (k := 0) (n := k1) ho' (.tail _ (.tail _ (.head _))) (hw1.mono (Ext.refl _).c3) (.head _) ((hbs.mono e1.c3).append ⟨hs.mono e1.c3, trivial⟩) ?_
  refine o_tBool ?_
  refine ite_n (by decide) ?_
  refine s_nil ?_
  have e2 : Ext N ((x2, lst (bv ++ [shv]) 0) :: (x1, lst [shv] 0) :: (r1, lst ws1 k1) :: N1) := e1.c3
  generalize (x2, lst (bv ++ [shv]) 0) :: (x1, lst [shv] 0) :: (r1, lst ws1 k1) :: N1 = N2 at e2
  -- left
  refine s_cons ?_
  refine s_assign (.inl ⟨rfl, rfl, rfl⟩) ?_
  refine e_sub (e_call rfl (e_glob G.G G.g_due (cw_S G.f_due rfl (a_cons (e_local (v := .ref ba) m4 (a_cons (e_local (v := shv) m5 (a_nil ?_))))))))
  refine c_due G (ho'.le (by decide)) rfl (e2 _ hb) (hbs.mono e2) (hs.mono e2) (by lia) (fun g hg => by have := l2 g hg; lia) (by lia) fun N3 t3 du3 lv n3 e3 ht3 _ hlv _ _ => ?_
  refine e_int fun t4 => ?_
  refine subT_tup (.inr ht3) ?_
  have e3' := e2.trans e3
  have k1' : (setLo m "left" lv) "queue" = some (.ref qa) := (setLo_ne (by decide)).trans m1
  have k2 : (setLo m "left" lv) "stock" = some (.ref st) := (setLo_ne (by decide)).trans m2
  have k3 : (setLo m "left" lv) "head" = some (.int hd th) := (setLo_ne (by decide)).trans m3
  have k4 : (setLo m "left" lv) "bags" = some (.ref ba) := (setLo_ne (by decide)).trans m4
  have k6 : (setLo m "left" lv) "due" = some (.ref du) := (setLo_ne (by decide)).trans m6
  have k7 : (setLo m "left" lv) "left" = some lv := setLo_self ..
  show WS C _ (execs _ _) _ _ _ _ _
  generalize setLo m "left" lv = m' at k1' k2 k3 k4 k6 k7
  -- told
  refine s_cons ?_
  refine s_assign (.inl ⟨rfl, rfl, rfl⟩) ?_
  refine Classical.byContradiction fun hn => ?_
  obtain ⟨dT, oT, nT, hfr, _, _⟩ := id RF.f
  refine hn ?_
  clear hn
  refine e_call rfl (e_glob G.G G.g_red (cw_S hfr rfl (a_cons ?_)))
  refine e_lam G.G T LF.t LF.h LF.q fun lam c' ct N4 e4 hl4 hlam => ?_
  refine a_cons (e_local (v := .ref qa) k1' (a_cons (e_list (a_nil ⟨sz_ok (by simp), fun d0 hd0 => a_nil ?_⟩))))
  have e4' : Ext N ((d0, lst [] 0) :: N4) := (e3'.trans e4).c1
  have S5 := S.mono e4'
  have hlv5 : IsPL ((d0, lst [] 0) :: N4) lv (leftL sh (bags.flatMap askd)) := hlv.mono e4.c1
  have hlam5 := hlam.mono (Ext.cons (d0, lst [] 0) N4)
  have hd05 : (d0, lst [] 0) ∈ (d0, lst [] 0) :: N4 := .head _
  show WE C _ (PySem.call (.ref 142) [.ref lam, .ref qa, .ref d0]) _ ((d0, lst [] 0) :: N4) _
  generalize (d0, lst [] 0) :: N4 = N5 at e4' S5 hlv5 hlam5 hd05
  refine c_reduce (k := 12) (J := fun i v N' => ∃ a vs n, v = .ref a ∧ (a, lst vs n) ∈ N' ∧ ToldOk N' st vs ((dueL sh [] bags).take i) ∧ ExP N5 N' ∧ Shop N' rs (mixB bags i) st Ds hd (((bags.take i).flatMap askd).foldl List.erase sh))
    G RF ho' (fr' m') (e4' _ hq) hd05 ⟨d0, [], 0, rfl, hd05, trivial, ExP.refl _, by simpa [mixB] using S5⟩ (fun i v N' ⟨a, vs, n, _, _, _, ep, _⟩ => ⟨ep.lst (e4' _ hq), ep.lam hlam5⟩) ?_ ?_
  · rintro A' Φ' i v x N6 ho6 fr6 hsub hx ⟨a, vs, n, rfl, ha, htold, ep6, S6⟩
    obtain ⟨rr, hrr, rfl⟩ := hqv.get' hx
    refine Classical.byContradiction fun hn => ?_
    obtain ⟨b, hbi⟩ := S.get hrr
    have hilt := (List.getElem?_eq_some_iff.mp hbi).1
    have hb6 : (mixB bags i)[i]? = some b := by rw [mixB_get, if_neg (Nat.lt_irrefl _)]; exact hbi
    obtain ⟨rvs, rn, row1, hp1⟩ := S6.rows i rr b hrr hb6
    obtain ⟨svs, sn, rows, hps⟩ := id S6.stock
    refine hn ?_
    clear hn
    have hbl6 := l2 b (List.mem_of_getElem? hbi)
    have hfl := foldl_erase_le ((bags.take i).flatMap askd) sh
    have htl := htold.length
    rw [List.length_take, dueL_length] at htl
    have lam6 := ep6.lam hlam5
    refine WE.call (CE.fnLam (binds := [("done", .ref a), ("row", .ref rr.1)]) (k := 11) G.G ho6 lam6.has rfl rfl fun L' => ?_)
    have ho7 := ho6.deeper (env := callEnv (kla_fn "<lambda>" "_law_served.<locals>.<lambda>" (lamArgs (callArg 0 (asgVal ((stBody (stOf 21)).getD 2 (.Pass default))))) (lamBody (callArg 0 (asgVal ((stBody (stOf 21)).getD 2 (.Pass default))))) (lamScope (callArg 0 (asgVal ((stBody (stOf 21)).getD 2 (.Pass default))))) [("stock", L + 1)] ((mg "__name__").getD .none) (.ref c') ct) L' lam)
    refine e_bin (e_local (v := .ref a) rfl (e_list (a_cons ?_)))
    refine e_call rfl (e_glob G.G G.g_uld (cw_S G.f_uld rfl (a_cons (e_local (v := .ref rr.1) rfl (a_cons ?_)))))
    refine e_free (c := L + 1) (v := .ref st) (.fr (x := "stock") (.tail _ (hsub _ (.head _))) k2 rfl) (a_nil ?_)
    refine WE.fn fun fn => ?_
    refine c_uld H T V (ho7.le (by decide)) (fr6.deeperE (fun h => nomatch (show ScopeKind.function = ScopeKind.module from h))) row1 rows (S.ne hrr) (row1.ne fn) (rows.ne fn) (RowP.ne2 fn ⟨_, _, row1, hp1⟩ S6.stock) (RowP.ne2 fn S6.stock ⟨_, _, row1, hp1⟩) hp1 hps (by lia) (by lia) fun N7 t7 M7 tn7 keep7 hM7 hU ht7 => ?_
    obtain ⟨mu, U⟩ := hU
    have sv := serve_one sh ((bags.take i).flatMap askd) b
    rw [sv] at U
    have kx7 : KeepX [rr.1, st] N6 N7 := fun p hp hn => keep7 p hp (fun e => hn (by rw [e]; exact .head _)) (fun e => hn (by rw [e]; exact .tail _ (.head _)))
    have ep7 : ExP N6 N7 := kx7.exp fn fun y hy => by
      rcases List.mem_cons.mp hy with rfl | hy
      · exact ⟨_, row1.obj, row_soft⟩
      · rw [List.mem_singleton.mp hy]; exact ⟨_, rows.obj, row_soft⟩
    have tk : (bags.take (i + 1)).flatMap askd = (bags.take i).flatMap askd ++ askd b := by rw [List.take_add_one, hbi, List.flatMap_append]; simp
    refine Classical.byContradiction fun hn => ?_
    obtain ⟨xv, xn, xrow, xp⟩ := U.hex
    refine hn ?_
    clear hn
    rw [List.reverse_reverse] at xp
    refine Classical.byContradiction fun hn => ?_
    obtain ⟨yv, yn, yrow, yp⟩ := U.hst
    refine hn ?_
    clear hn
    have S7 := S6.put2 fn hrr kx7 ep7 ⟨xv, xn, xrow, xp⟩ ⟨yv, yn, yrow, yp⟩
    rw [mixB_succ hbi] at S7
    refine a_nil ⟨sz_ok (by simp), fun l8 hl8 => ?_⟩
    refine o_addL G.F (.inr (.tail _ (ep7.lst ha))) (.inr (.head _)) (by rw [sizeLine_eq]; simp; lia) fun l9 hl9 => ?_
    have e9 : Ext N7 ((l9, lst (vs ++ [.ref t7]) 0) :: (l8, lst [.ref t7] 0) :: N7) := (Ext.refl _).c2
    refine ⟨l9, vs ++ [.ref t7], 0, rfl, .head _, ?_, ep6.trans (ep7.trans e9.exp), ?_⟩
    · rw [List.take_add_one, dueL_get sh bags [] i b hbi]
      refine Classical.byContradiction fun hn => ?_
      obtain ⟨mv, mn, hm1, hm2⟩ := U.hmi
      refine hn ?_
      clear hn
      refine All2.append (htold.exp (ep7.trans e9.exp)) ⟨⟨t7, M7, tn7, rfl, e9 _ ht7, M7, mv, mn, rfl, e9 _ hm1, ?_⟩, trivial⟩
      rw [List.nil_append]
      exact hm2.mono e9
    · rw [tk]; exact S7.mono e9
  · rintro v N6 ⟨tl, tvs, tn, rfl, htl, htold, ep6, S6⟩
    have hqvl : qv.length = bags.length := by lia
    rw [hqvl, List.take_length, ← left_eq] at S6
    rw [hqvl, List.take_of_length_le (by rw [dueL_length]; lia)] at htold
    have hmb : mixB bags bags.length = bags.map bareL := by unfold mixB; rw [List.drop_length, List.append_nil, List.take_of_length_le (by simp)]
    rw [hmb] at S6
    have epN : ExP N N6 := e4'.exp.trans ep6
    have htll := htold.length
    rw [dueL_length] at htll
    have n1 : (setLo m' "told" (.ref tl)) "queue" = some (.ref qa) := (setLo_ne (by decide)).trans k1'
    have n2 : (setLo m' "told" (.ref tl)) "stock" = some (.ref st) := (setLo_ne (by decide)).trans k2
    have n3 : (setLo m' "told" (.ref tl)) "head" = some (.int hd th) := (setLo_ne (by decide)).trans k3
    have n4 : (setLo m' "told" (.ref tl)) "bags" = some (.ref ba) := (setLo_ne (by decide)).trans k4
    have n6 : (setLo m' "told" (.ref tl)) "due" = some (.ref du) := (setLo_ne (by decide)).trans k6
    have n7 : (setLo m' "told" (.ref tl)) "left" = some lv := (setLo_ne (by decide)).trans k7
    have n8 : (setLo m' "told" (.ref tl)) "told" = some (.ref tl) := setLo_self ..
    show WS C _ (execs _ _) _ _ _ _ _
    generalize setLo m' "told" (.ref tl) = m'' at n1 n2 n3 n4 n6 n7 n8
    have hlv6 := ep6.pl hlv5
    -- the lacked, and the rest
    refine s_cons ?_
    refine s_if ?_
    refine t_or2 ?_
    refine t_cmp ?_
    refine e_comp G.F ?_
    refine e_local (v := .ref tl) n8 ?_
    refine src_list G.F ho'.h (.inl rfl) (.inr htl) (fun i ys N' => N' = N6 ∧ PLs N6 ys ((dueL sh [] bags).take i)) ⟨rfl, trivial⟩ ?_ (fun Cf => ?_) ?_
    · rintro i ys N' ⟨rfl, hy⟩
      have := hy.length
      rw [List.length_take, dueL_length] at this
      exact ⟨⟨tn, .inr htl⟩, by rw [sizeLine_eq]; lia⟩
    · rintro i ys N' mm x I D k hi ⟨rfl, hy⟩ hx
      obtain ⟨l, hl, t, M, n, rfl, ht, hM⟩ := htold.get' hx
      refine as_pair (v := .ref M) (w := .ref st) (n := n) ho'.h rfl (.inl ⟨rfl, rfl, rfl⟩) (.inl ⟨rfl, rfl, rfl⟩) (.inr ht) ?_
      refine tests_nil ?_
      refine e_local (v := .ref M) ((setLo_ne (by decide)).trans (setLo_self ..)) ?_
      refine ⟨rfl, ?_⟩
      rw [List.take_add_one, hl]
      exact hy.append ⟨hM, trivial⟩
    rintro ys N' D kD ⟨rfl, hy⟩ hD
    rw [htll, List.take_of_length_le (by rw [dueL_length]; lia)] at hy
    refine e_local (v := .ref du) n6 ?_
    refine o_nePls (n := kD) ho' (.head _) (hy.mono (Ext.cons _ _)) (.tail _ (epN.lst hdu)) ((epN.pls hdv).mono (Ext.cons _ _)) ?_
    refine o_tBool ?_
    refine ite_n (by decide) ?_
    refine t_plain (fun _ => rfl) ?_
    have e7 : Ext N' ((D, lst ys kD) :: N') := Ext.cons _ _
    have htl7 := e7 _ htl
    have htold7 := htold.exp e7.exp
    have S7 := S6.mono e7
    have hlv7 := hlv6.mono e7
    have epN7 := epN.trans e7.exp
    generalize (D, lst ys kD) :: N' = N7 at htl7 htold7 S7 hlv7 epN7
    clear hlv6 S6 htold htl epN ep6 e7
    refine e_comp G.F ?_
    refine e_local (v := .ref tl) n8 ?_
    refine src_list G.F ho'.h (.inl rfl) (.inr htl7) (fun i ys N' => N' = N7 ∧ ys = []) ⟨rfl, rfl⟩ ?_ (fun Cf => ?_) ?_
    · rintro i ys N' ⟨rfl, rfl⟩
      exact ⟨⟨tn, .inr htl7⟩, by simp⟩
    · rintro i ys N' mm x I D2 k hi ⟨rfl, rfl⟩ hx
      obtain ⟨l, hl, t, M, n, rfl, ht, hM⟩ := htold7.get' hx
      refine Classical.byContradiction fun hn => ?_
      obtain ⟨svs, sn, srow, _⟩ := id S7.stock
      refine hn ?_
      clear hn
      refine as_pair (v := .ref M) (w := .ref st) (n := n) ho'.h rfl (.inl ⟨rfl, rfl, rfl⟩) (.inl ⟨rfl, rfl, rfl⟩) (.inr ht) ?_
      refine tests_one ?_
      refine t_cmp ?_
      refine e_local (v := .ref st) (setLo_self ..) ?_
      refine e_cell (v := .ref st) (.fr (x := "stock") (.tail _ (.tail _ (.tail _ (.head _)))) n2 rfl) ?_
      refine o_isNot ?_
      refine same_refs (.inr srow.obj) (.inr srow.obj) (.inl rfl) ?_
      refine o_tBool ?_
      rw [beq_self_eq_true]
      show (if false = true then _ else _)
      refine ite_n (by decide) ?_
      exact ⟨rfl, rfl⟩
    rintro ys2 N' D2 kD2 ⟨rfl, rfl⟩ hD2
    refine o_tList (.inr (.head _)) (by simp) ?_
    refine ite_n (by simp) ?_
    refine s_nil ?_
    have e8 : Ext N' ((D2, lst [] kD2) :: N') := Ext.cons _ _
    have S8 := S7.mono e8
    have hlv8 := hlv7.mono e8
    have epN8 := epN7.trans e8.exp
    generalize (D2, lst [] kD2) :: N' = N8 at S8 hlv8 epN8
    clear hlv7 S7 htold7 htl7 epN7 e8
    -- the rows are bare
    have hall2 : ∀ b ∈ bags.map bareL ++ [leftL sh (bags.flatMap askd)], b.length ≤ 2 ^ 10 := fun b hb => by
      rcases List.mem_append.mp hb with hb | hb
      · obtain ⟨c, hc, rfl⟩ := List.mem_map.mp hb
        have := l2 c hc; have := bareL_le c; lia
      · rw [List.mem_singleton.mp hb]; have := leftL_le sh (bags.flatMap askd); lia
    refine s_cons ?_
    refine s_if ?_
    refine t_cmp ?_
    refine e_held G (ho'.le (by decide)) S8 (epN8.lst hq) hqv n1 n2 hall2 (by simp; lia) fun N9 r9 ws9 k9 e9 hr9 hw9 => ?_
    have hb9 := e9.c1 (a := (r9, lst ws9 k9)) _ (epN8.lst hb)
    have hbs9 := (epN8.pls hbs).mono (e9.c1 (a := (r9, lst ws9 k9)))
    have hlv9 := hlv8.mono (e9.c1 (a := (r9, lst ws9 k9)))
    have S9 := S8.mono (e9.c1 (a := (r9, lst ws9 k9)))
    have epN9 := epN8.trans (e9.c1 (a := (r9, lst ws9 k9))).exp
    have hr9' : (r9, lst ws9 k9) ∈ (r9, lst ws9 k9) :: N9 := .head _
    have hw9' := hw9.mono (Ext.cons (r9, lst ws9 k9) N9)
    show WE C _ _ _ ((r9, lst ws9 k9) :: N9) _
    generalize (r9, lst ws9 k9) :: N9 = N10 at hb9 hbs9 hlv9 S9 epN9 hr9' hw9'
    refine e_bin (e_comp G.F ?_)
    refine e_local (v := .ref ba) n4 ?_
    refine src_list G.F ho'.h (.inl rfl) (.inr hb9) (fun i ys N' => Ext N10 N' ∧ PLs N' ys ((bags.map bareL).take i)) ⟨Ext.refl _, trivial⟩ ?_ (fun Cf => ?_) ?_
    · rintro i ys N' ⟨e, hy⟩
      have := hy.length
      rw [List.length_take, List.length_map] at this
      exact ⟨⟨nb, .inr (e _ hb9)⟩, by rw [sizeLine_eq]; lia⟩
    · rintro i ys N' mm x I D3 k hi ⟨e, hy⟩ hx
      refine Classical.byContradiction fun hn => ?_
      obtain ⟨b, hbi, hxb⟩ := hbs9.get' hx
      refine hn ?_
      clear hn
      have hbl6 := l2 b (List.mem_of_getElem? hbi)
      refine as_name rfl (.inl ⟨rfl, rfl, rfl⟩) ?_
      refine tests_nil ?_
      refine e_call rfl (e_glob G.G G.g_bare (cw_S G.f_bare rfl (a_cons (e_local (v := x) (setLo_self ..) (a_nil ?_)))))
      refine c_bare G (ho'.le (by decide)) (hxb.mono e) (by lia) fun N11 r11 w11 k11 e11 hr11 hw11 => ?_
      refine ⟨(e.trans e11).c1, ?_⟩
      rw [List.take_add_one, List.getElem?_map, hbi]
      exact (hy.mono e11.c1).append ⟨⟨r11, w11, k11, rfl, .head _, hw11.mono (Ext.cons _ _)⟩, trivial⟩
    rintro ys3 N11 D3 kD3 ⟨e11, hy3⟩ hD3
    rw [hbl, List.take_of_length_le (by simp)] at hy3
    refine e_list (a_cons (e_local (v := lv) n7 (a_nil ⟨sz_ok (by simp), fun x4 hx4 => ?_⟩)))
    have hy3l := hy3.length
    rw [List.length_map] at hy3l
    refine o_addL G.F (.inr (.tail _ (.head _))) (.inr (.head _)) (by rw [sizeLine_eq]; simp; lia) fun x5 hx5 => ?_
    have e12 : Ext N10 ((x5, lst (ys3 ++ [lv]) 0) :: (x4, lst [lv] 0) :: (D3, lst ys3 kD3) :: N11) := e11.c3
    refine o_nePls (k := 0) (n := k9) ho' (e12 _ hr9') (hw9'.mono e12) (.head _) ((hy3.mono (Ext.refl _).c3).append ⟨hlv9.mono e12, trivial⟩) ?_
    refine o_tBool ?_
    refine ite_n (by decide) ?_
    refine s_nil ?_
    have hb12 := e12 _ hb9
    have hbs12 := hbs9.mono e12
    have hlv12 := hlv9.mono e12
    have S12 := S9.mono e12
    have epN12 := epN9.trans e12.exp
    generalize (x5, lst (ys3 ++ [lv]) 0) :: (x4, lst [lv] 0) :: (D3, lst ys3 kD3) :: N11 = N12 at hb12 hbs12 hlv12 S12 epN12
    clear hb9 hbs9 hlv9 S9 epN9 hr9' hw9' e12 hy3
    -- the lens
    have hsgl := sgL_le2 (leftL sh (bags.flatMap askd))
    have hlfl := leftL_le sh (bags.flatMap askd)
    refine s_cons ?_
    refine s_ret ?_
    refine e_cmp ?_
    refine e_comp G.F ?_
    refine e_bin (e_local (v := .ref qa) n1 (e_list (a_cons (e_cell (v := .ref st) (.top (x := "stock") n2 rfl) (a_nil ⟨sz_ok (by simp), fun y1 hy1 => ?_⟩)))))
    refine o_addL G.F (.inr (.tail _ (epN12.lst hq))) (.inr (.head _)) (by rw [sizeLine_eq]; simp; lia) fun y2 hy2 => ?_
    refine src_list G.F ho'.h (.inl rfl) (.inr (.head _)) (fun i ys N' => Ext N12 N' ∧ (y2, lst (qv ++ [.ref st]) 0) ∈ N' ∧ All2 IsI ys ((bags.map (fun _ => (0 : Int)) ++ [hd + ((sgL (leftL sh (bags.flatMap askd)) : Nat) : Int)]).take i)) ⟨(Ext.refl _).c2, .head _, trivial⟩ ?_ (fun Cf => ?_) ?_
    · rintro i ys N' ⟨e, h, hy⟩
      have := hy.length
      rw [List.length_take, List.length_append, List.length_map] at this
      exact ⟨⟨0, .inr h⟩, by rw [sizeLine_eq]; simp at this; lia⟩
    · rintro i ys N' mm x I D4 k hi ⟨e, h, hy⟩ hx
      obtain ⟨row, Dr, b, rfl, hbi, hrow, hin, hout⟩ := S12.at hqv hx
      rw [List.length_map] at hin hout hrow
      refine Classical.byContradiction fun hn => ?_
      obtain ⟨vs, n, r, hp⟩ := hrow.mono e
      refine hn ?_
      clear hn
      have hpl := hp.length
      have hbl10 := hall2 b (List.mem_of_getElem? hbi)
      have hsb := sgL_le2 b
      refine as_name rfl (.inl ⟨rfl, rfl, rfl⟩) ?_
      refine tests_nil ?_
      refine e_call rfl (e_blt G.G G.n_len G.b_len (cw_blt rfl (a_cons (e_local (v := .ref row) (setLo_self ..) (a_nil ?_)))))
      refine len_R H T (ho'.le (by decide)) r hp (by split <;> lia) (by split <;> lia) (by lia) (by lia) fun N13 t13 e13 => ?_
      refine ⟨e.trans e13, e13 _ h, ?_⟩
      rw [List.take_add_one]
      by_cases hic : i < bags.length
      · have hb2 := hin hic
        rw [List.getElem?_map] at hb2
        obtain ⟨c, hc, rfl⟩ := Option.map_eq_some_iff.mp hb2
        rw [List.getElem?_append_left (by simpa using hic), List.getElem?_map, hc, if_pos hic, bare_zero]
        exact hy.append ⟨⟨t13, rfl⟩, trivial⟩
      · have hb2 := hout hic
        subst hb2
        have hil : i = bags.length := by
          simp at hi; lia
        rw [List.getElem?_append_right (by simp; lia), if_neg hic]
        rw [show i - (bags.map fun _ => (0 : Int)).length = 0 by simp; lia]
        exact hy.append ⟨⟨t13, rfl⟩, trivial⟩
    rintro ys5 N13 D5 kD5 ⟨e13, _, hy5⟩ hD5
    have hqb : (qv ++ [Value.ref st]).length = (bags.map (fun _ => (0 : Int)) ++ [hd + ((sgL (leftL sh (bags.flatMap askd)) : Nat) : Int)]).length := by simp; lia
    rw [hqb, List.take_length] at hy5
    refine e_bin (e_comp G.F ?_)
    refine e_local (v := .ref ba) n4 ?_
    refine src_list G.F ho'.h (.inl rfl) (.inr (.tail _ (e13 _ hb12))) (fun i ys N' => N' = (D5, lst ys5 kD5) :: N13 ∧ All2 IsI ys ((bags.map (fun _ => (0 : Int))).take i)) ⟨rfl, trivial⟩ ?_ (fun Cf => ?_) ?_
    · rintro i ys N' ⟨rfl, hy⟩
      have := hy.length
      rw [List.length_take, List.length_map] at this
      exact ⟨⟨nb, .inr (.tail _ (e13 _ hb12))⟩, by rw [sizeLine_eq]; lia⟩
    · rintro i ys N' mm x I D6 k hi ⟨rfl, hy⟩ hx
      refine Classical.byContradiction fun hn => ?_
      obtain ⟨b, hbi, hxb⟩ := hbs12.get' hx
      refine hn ?_
      clear hn
      refine as_name rfl (.inl ⟨rfl, rfl, rfl⟩) ?_
      refine tests_nil ?_
      refine e_int fun t6 => ?_
      refine ⟨rfl, ?_⟩
      rw [List.take_add_one, List.getElem?_map, hbi]
      exact hy.append ⟨⟨t6, rfl⟩, trivial⟩
    rintro ys6 N14 D6 kD6 ⟨rfl, hy6⟩ hD6
    rw [hbl, List.take_of_length_le (by simp)] at hy6
    have hy6l := hy6.length
    rw [List.length_map] at hy6l
    refine e_list (a_cons (e_bin (e_local (v := .int hd th) n3 ?_)))
    refine e_call rfl (e_glob G.G G.g_signs (cw_S G.f_signs rfl (a_cons (e_local (v := lv) n7 (a_nil ?_)))))
    refine c_signs G (ho'.le (by decide)) (hlv12.mono e13.c2) (by lia) fun N15 t15 e15 => ?_
    refine o_add fun t16 => ?_
    refine a_nil ⟨sz_ok (by simp), fun z1 hz1 => ?_⟩
    refine o_addL G.F (.inr (.tail _ (e15 _ (.head _)))) (.inr (.head _)) (by rw [sizeLine_eq]; simp; lia) fun z2 hz2 => ?_
    refine o_eqD ho' (rd_ints (.tail _ (.tail _ (e15 _ (.tail _ (.head _))))) hy5) (rd_ints (.head _) (hy6.append (qs := [hd + ((sgL (leftL sh (bags.flatMap askd)) : Nat) : Int)]) ⟨⟨t16, rfl⟩, trivial⟩)) (isD_lay _) (isD_lay _) (isD_depth _) (isD_depth _) ?_
    rw [isD_eqv]
    have efin : Ext N12 ((z2, lst (ys6 ++ [.int (hd + ((sgL (leftL sh (bags.flatMap askd)) : Nat) : Int)) t16]) 0) :: (z1, lst [.int (hd + ((sgL (leftL sh (bags.flatMap askd)) : Nat) : Int)) t16] 0) :: N15) := (e13.c2.trans e15).c2
    exact q _ (epN12.trans efin.exp) (S12.mono efin)
end Mine.Internal
end
section
open PySem PySem.W PyProof.Rows PySem.Calls PySem.Spec PySem.Builtin.List PySem.Builtin
set_option maxRecDepth 100000
namespace Mine.Internal
variable {C : Cx} {N N' N'' : Led} {Φ Φ' : Frs} {A : Around} {mg mb : Lo} {s : Shared}
noncomputable abbrev lawEnv (pm : Value) (L : Addr) : Env := callEnvC (mkFd (stOf 25) 217 (stName (stOf 25)) [] Value.none pm Value.none) L 217
noncomputable abbrev lawCs (L : Addr) : List (Str × Addr) := [("due", L + 6), ("told", L + 5), ("line", L + 4), ("queue", L + 3), ("orders", L + 2), ("bags", L + 1)]
theorem dueL_mem (s : List Pc) : ∀ (bs : List (List Pc)) (a d : List Pc), d ∈ dueL s a bs → ∃ b ∈ bs, d.length ≤ b.length
  | [], _, _, h => nomatch h
  | b :: bs, a, d, h => by
    rw [dueL_c] at h
    rcases List.mem_cons.mp h with rfl | h
    · exact ⟨b, .head _, Nat.le_trans (lackL_le _ _ _) (askd_le b)⟩
    · obtain ⟨c, hc, hd⟩ := dueL_mem s bs _ d h
      exact ⟨c, .tail _ hc, hd⟩
theorem flat_len {α β : Type} {f : α → List β} {k : Nat} : ∀ (l : List α), (∀ x ∈ l, (f x).length ≤ k) → (l.flatMap f).length ≤ l.length * k
  | [], _ => by simp
  | x :: l, h => by
    have h1 := h x (.head _)
    have h2 := flat_len (f := f) (k := k) l fun y hy => h y (.tail _ hy)
    rw [List.flatMap_cons, List.length_append, List.length_cons, Nat.add_mul]; lia
section
variable {rs : List (Addr × Addr)} {bags : List (List Pc)} {st Ds : Addr} {hd : Int} {sh : List Pc}
theorem Shop.rev (S : Shop N rs bags st Ds hd sh) : Shop N rs.reverse bags.reverse st Ds hd sh := by
  refine ⟨by simp [S.len], fun i r b h1 h2 => ?_, S.stock, ?_⟩
  · have hi : i < rs.length := by have := (List.getElem?_eq_some_iff.mp h1).1; simpa using this
    rw [List.getElem?_reverse hi] at h1
    rw [List.getElem?_reverse (by rw [← S.len]; exact hi), ← S.len] at h2
    exact S.rows _ r b h1 h2
  · have h := S.nd
    rw [List.nodup_cons] at h ⊢
    rw [List.map_reverse]
    exact ⟨fun hm => h.1 (List.mem_reverse.mp hm), (List.reverse_perm _).nodup_iff.mpr h.2⟩
end
theorem same_nil : ∀ {α β : Type} {l : List α} {m : List β}, l.length = m.length → (l.map fun _ => ([] : List Pc)) = m.map fun _ => []
  | _, _, [], [], _ => rfl
  | _, _, _ :: l, _ :: m, h => by rw [List.map_cons, List.map_cons, same_nil (l := l) (m := m) (by simpa using h)]
set_option maxHeartbeats 8000000 in
theorem law_C {P qa ta ba L : Addr} {nq nt nb : Nat} {pm : Value} {qv tv bv : List Value} {rs : List (Addr × Addr)} {told : List (List Pc)} {st Ds : Addr} {hd : Int} {th : Tok} {sh : List Pc} {shv : Value} {m : Lo} (H : All C mg mb) (T : TabF C mg mb) (V : ValE mg mb) (RF : RedF C mg mb)
    (LF : LamF C 192 P "_law_served.<locals>.<lambda>") (ho : AOk A 16) (fr : ∀ m, FrOk A (.fr ⟨L, lawCs L⟩ m :: Φ)) (hq : (qa, lst qv nq) ∈ N) (hqv : All2 (fun v (r : Addr × Addr) => v = .ref r.1) qv rs) (ht : (ta, lst tv nt) ∈ N) (hts : PLs N tv told) (hs : IsPL N shv sh) (hb : (ba, lst bv nb) ∈ N) (hbl : bv.length = told.length)
    (S : Shop N rs told st Ds hd sh) (h0 : 0 ≤ hd) (h1 : hd < 2 ^ 20) (l1 : told.length ≤ 8) (l2 : ∀ b ∈ told, b.length ≤ 3) (l3 : sh.length ≤ 6)
    (m1 : m "queue" = some (.ref qa)) (m2 : m "stock" = some (.ref st)) (m3 : m "head" = some (.int hd th)) (m4 : m "told" = some (.ref ta)) (m5 : m "shelf" = some shv) (m6 : m "bags" = some (.ref ba)) :
    WS C A (execs ((stBody (stOf 25)).drop 12) (lawEnv pm L)) (fun f N' _ => f = .ret (.bool true) ∧ ExP N N') N ⟨L, lawCs L⟩ m Φ := by
  have G := H.G.P
  have hql := hqv.length
  have htl := hts.length
  have hsl := S.len
  have hflat : (told.flatMap askd).length ≤ 24 := by
    have := flat_len (f := askd) (k := 3) told fun b hb => Nat.le_trans (askd_le b) (l2 b hb)
    lia
  -- due, left
  refine s_cons ?_
  refine s_pair ho.h (.inr ⟨_, rfl, rfl, rfl⟩) (.inl ⟨rfl, rfl, rfl⟩) ?_
  refine e_call rfl (e_glob G.G G.g_due (cw_S G.f_due rfl (a_cons (e_cell (v := .ref ta) (.top (x := "told") m4 rfl) (a_cons (e_local (v := shv) m5 (a_nil ?_)))))))
  refine c_due G (ho.le (by decide)) rfl ht hts hs (by lia) (fun g hg => by have := l2 g hg; lia) (by lia) fun N1 t1 du lv n1 e1 ht1 hdu hlv _ _ => ?_
  refine Classical.byContradiction fun hn => ?_
  obtain ⟨dv, nd, hdu, hdv⟩ := hdu
  refine hn ?_
  clear hn
  refine ⟨t1, _, _, _, rfl, .inr ht1, ?_⟩
  have k1 : (setLo (setLo m "due" (.ref du)) "left" lv) "queue" = some (.ref qa) := (setLo_ne (by decide)).trans ((setLo_ne (by decide)).trans m1)
  have k2 : (setLo (setLo m "due" (.ref du)) "left" lv) "stock" = some (.ref st) := (setLo_ne (by decide)).trans ((setLo_ne (by decide)).trans m2)
  have k3 : (setLo (setLo m "due" (.ref du)) "left" lv) "head" = some (.int hd th) := (setLo_ne (by decide)).trans ((setLo_ne (by decide)).trans m3)
  have k4 : (setLo (setLo m "due" (.ref du)) "left" lv) "told" = some (.ref ta) := (setLo_ne (by decide)).trans ((setLo_ne (by decide)).trans m4)
  have k5 : (setLo (setLo m "due" (.ref du)) "left" lv) "shelf" = some shv := (setLo_ne (by decide)).trans ((setLo_ne (by decide)).trans m5)
  have k6 : (setLo (setLo m "due" (.ref du)) "left" lv) "bags" = some (.ref ba) := (setLo_ne (by decide)).trans ((setLo_ne (by decide)).trans m6)
  have k7 : (setLo (setLo m "due" (.ref du)) "left" lv) "due" = some (.ref du) := (setLo_ne (by decide)).trans (setLo_self ..)
  have k8 : (setLo (setLo m "due" (.ref du)) "left" lv) "left" = some lv := setLo_self ..
  show WS C _ (execs _ _) _ _ _ _ _
  generalize setLo (setLo m "due" (.ref du)) "left" lv = m' at k1 k2 k3 k4 k5 k6 k7 k8
  have hdl := hdv.length
  rw [dueL_length] at hdl
  have hdm : ∀ d ∈ dueL sh [] told, d.length ≤ 3 := fun d hd => by
    refine Classical.byContradiction fun hn => ?_
    obtain ⟨b, hb, h⟩ := dueL_mem sh told [] d hd
    refine hn ?_
    clear hn
    have := l2 b hb; lia
  have hmore : ((dueL sh [] told).flatMap List.reverse).length ≤ 24 := by
    have := flat_len (f := List.reverse) (k := 3) (dueL sh [] told) fun d hd => by rw [List.length_reverse]; exact hdm d hd
    rw [dueL_length] at this; lia
  have hleft := leftL_le sh (told.flatMap askd)
  -- served
  refine s_cons ?_
  refine s_if ?_
  refine t_not ?_
  refine t_plain (fun _ => rfl) ?_
  refine e_call rfl (e_glob G.G G.g_served (cw_S G.f_served rfl (a_cons (e_cell (v := .ref qa) (.top (x := "queue") k1 rfl) (a_cons (e_local (v := .ref st) k2 (a_cons (e_local (v := .int hd th) k3 ?_))))))))
  refine a_cons (e_cell (v := .ref ta) (.top (x := "told") k4 rfl) (a_cons (e_local (v := shv) k5 (a_cons (e_cell (v := .ref du) (.top (x := "due") k7 rfl) (a_nil ?_))))))
  refine c_served H T V RF LF (ho.le (by decide)) (fr m') (e1 _ hq) hqv (e1 _ ht) (hts.mono e1) (hs.mono e1) hdu hdv (S.mono e1) h0 h1 (by lia) (fun b hb => by have := l2 b hb; lia) (by lia) fun N2 ep2 S2 => ?_
  refine o_tBool ?_
  show (if false = true then _ else _)
  refine ite_n (by decide) ?_
  refine s_nil ?_
  -- again
  refine s_cons ?_
  refine s_expr ?_
  refine e_call rfl (e_glob G.G G.g_again (cw_S G.f_again rfl (a_cons (e_cell (v := .ref qa) (.top (x := "queue") k1 rfl) (a_cons (e_cell (v := .ref du) (.top (x := "due") k7 rfl) (a_cons (e_local (v := .ref st) k2 (a_nil ?_)))))))))
  refine c_again H (ho.le (by decide)) (ep2.lst (e1 _ hq)) hqv (ep2.lst hdu) (ep2.pls hdv) (by rw [List.length_map, dueL_length]) S2 (by lia) (fun b hb => by
    obtain ⟨c, hc, rfl⟩ := List.mem_map.mp hb
    have := bareL_le c; have := l2 c hc; lia) (fun d hd => by have := hdm d hd; lia) (by rw [List.length_append]; lia) fun N3 ep3 S3 => ?_
  refine ⟨?_, fun _ h => nomatch h⟩
  have ep13 := ep2.trans ep3
  have ht3 := ep13.lst (e1 _ ht)
  have hts3 := ep13.pls (hts.mono e1)
  have hq3 := ep13.lst (e1 _ hq)
  have hb3 := ep13.lst (e1 _ hb)
  have hdu3 := ep13.lst hdu
  have hdv3 := ep13.pls hdv
  have hlv3 := ep13.pl hlv
  have EP3 := e1.exp.trans ep13
  clear ep13 ep3 S2 ep2 hdv hdu ht hts hq hb hlv S hs e1 ht1
  generalize hdues : dueL sh [] told = dues at hdv3 S3 hdm hmore hdl
  have hdul : dues.length = told.length := by rw [← hdues, dueL_length]
  generalize hagain : List.zipWith (fun b d => b ++ d.reverse) (told.map bareL) dues = again at S3
  have hagl : again.length = told.length := by rw [← hagain]; simp; lia
  have hagm : ∀ b ∈ again, b.length ≤ 6 := fun b hb => by
    rw [← hagain] at hb
    obtain ⟨i, hi⟩ := List.getElem?_of_mem hb
    rw [List.getElem?_zipWith, List.getElem?_map] at hi
    cases ht : told[i]? with
    | none => rw [ht] at hi; cases hi
    | some t => cases hd : dues[i]? with
      | none => rw [ht, hd] at hi; cases hi
      | some d =>
        rw [ht, hd] at hi
        cases hi
        have := bareL_le t; have := l2 t (List.mem_of_getElem? ht); have := hdm d (List.mem_of_getElem? hd)
        rw [List.length_append, List.length_reverse]; lia
  -- again = ..
  refine s_cons ?_
  refine s_assign_comp G.F (.inl ⟨rfl, rfl, rfl⟩) ?_
  refine e_call rfl (e_blt G.G G.n_range G.b_range (cw_type rfl (a_cons ?_)))
  refine e_call rfl (e_blt G.G G.n_len G.b_len (cw_blt rfl (a_cons (e_cell (v := .ref ta) (.top (x := "told") k4 rfl) (a_nil ?_)))))
  refine len_L G.F (.inr ht3) (by rw [sizeLine_eq]; lia) fun t4 => ?_
  refine a_nil ?_
  refine range1 fun r4 u4 v4 hr4 => ?_
  rw [htl]
  refine src_range (n := told.length) ho.h (.inr (.head _)) (small_up (by lia)) (size_up _) (fun i ys N' => Ext N3 N' ∧ PLs N' ys (again.take i)) ⟨Ext.cons _ _, trivial⟩ ?_ (fun Cf => ?_) ?_
  · rintro i ys N' ⟨e, hy⟩
    have := hy.length
    rw [List.length_take] at this
    rw [sizeLine_eq]; lia
  · rintro i ys N' mm x I D k hi ⟨e, hy⟩ ⟨t5, rfl⟩
    have hat : (0 : Int) + (i : Int) * 1 = (i : Int) := z_at _
    rw [hat]
    obtain ⟨b, hbi⟩ : ∃ b, told[i]? = some b := ⟨_, List.getElem?_eq_getElem hi⟩
    obtain ⟨d, hdi⟩ : ∃ d, dues[i]? = some d := ⟨_, List.getElem?_eq_getElem (by lia)⟩
    refine Classical.byContradiction fun hn => ?_
    obtain ⟨xb, hxb, hxbp⟩ := hts3.get hbi
    obtain ⟨xd, hxd, hxdp⟩ := hdv3.get hdi
    refine hn ?_
    clear hn
    have hbl3 := l2 b (List.mem_of_getElem? hbi)
    have hdl3 := hdm d (List.mem_of_getElem? hdi)
    refine as_name rfl (.inl ⟨rfl, rfl, rfl⟩) ?_
    refine tests_nil ?_
    refine e_bin ?_
    refine e_call rfl (e_glob G.G G.g_bare (cw_S G.f_bare rfl (a_cons ?_)))
    refine e_sub (e_cell (v := .ref ta) (.fr (x := "told") (.tail _ (.tail _ (.tail _ (.head _)))) k4 rfl) (e_local (v := .int i t5) (setLo_self ..) ?_))
    refine subT_int G.F (.inl rfl) (.inr (e _ ht3)) (Int.natCast_nonneg _) (x := xb) hxb (by rw [sizeLine_eq]; lia) ?_
    refine a_nil ?_
    refine c_bare G (ho.le (by decide)) (hxbp.mono e) (by lia) fun N4 r5 w5 k5' e5 hr5 hw5 => ?_
    have hw5l := hw5.length
    have hbb := bareL_le b
    have e5' : Ext N3 ((r5, lst w5 k5') :: N4) := (e.trans e5).c1
    refine e_sub (e_sub (e_cell (v := .ref du) (.fr (x := "due") (.tail _ (.tail _ (.tail _ (.head _)))) k7 rfl) (e_local (v := .int i t5) (setLo_self ..) ?_)))
    refine subT_int G.F (.inl rfl) (.inr (e5' _ hdu3)) (Int.natCast_nonneg _) (x := xd) hxd (by rw [sizeLine_eq]; lia) ?_
    obtain ⟨da, dvs, dn, rfl, hda, hdp⟩ := hxdp.mono e5'
    have hdpl := hdp.length
    refine e_slice (e_part0 (e_part0 (e_part1 (e_un (e_int fun t6 => o_neg fun t7 => fun sl6 hsl6 => ?_)))))
    refine subT_slice G.F (.inl rfl) (.inr (.tail _ hda)) (.inr (.head _)) .none .none (.int _ _) (by decide) (by rw [sizeLine_eq]; lia) pick_rev fun l6 hl6 => ?_
    refine o_addL G.F (.inr (.tail _ (.tail _ (.head _)))) (.inr (.head _)) (by rw [sizeLine_eq]; simp; lia) fun l7 hl7 => ?_
    have e7 : Ext ((r5, lst w5 k5') :: N4) ((l7, lst (w5 ++ dvs.reverse) 0) :: (l6, lst dvs.reverse 0) :: (sl6, slc .none .none (.int (-1) t7)) :: (r5, lst w5 k5') :: N4) := (Ext.refl _).c3
    refine ⟨e5'.trans e7, ?_⟩
    have hai : again[i]? = some (bareL b ++ d.reverse) := by rw [← hagain, List.getElem?_zipWith, List.getElem?_map, hbi, hdi]; rfl
    rw [List.take_add_one, hai]
    refine (hy.mono (e5.c1.trans e7)).append ⟨⟨l7, _, 0, rfl, .head _, ?_⟩, trivial⟩
    exact ((hw5.mono (Ext.cons _ _)).mono e7).append ((hdp.mono e7).reverse)
  rintro agv N4 aga nag ⟨e4, hagv⟩ haga
  rw [List.take_of_length_le (by lia)] at hagv
  have hagvl := hagv.length
  have j1 : (setLo m' "again" (.ref aga)) "queue" = some (.ref qa) := (setLo_ne (by decide)).trans k1
  have j2 : (setLo m' "again" (.ref aga)) "stock" = some (.ref st) := (setLo_ne (by decide)).trans k2
  have j3 : (setLo m' "again" (.ref aga)) "head" = some (.int hd th) := (setLo_ne (by decide)).trans k3
  have j6 : (setLo m' "again" (.ref aga)) "bags" = some (.ref ba) := (setLo_ne (by decide)).trans k6
  have j7 : (setLo m' "again" (.ref aga)) "due" = some (.ref du) := (setLo_ne (by decide)).trans k7
  have j8 : (setLo m' "again" (.ref aga)) "left" = some lv := (setLo_ne (by decide)).trans k8
  have j9 : (setLo m' "again" (.ref aga)) "again" = some (.ref aga) := setLo_self ..
  show WS C _ (execs _ _) _ _ _ _ _
  generalize setLo m' "again" (.ref aga) = m5' at j1 j2 j3 j6 j7 j8 j9
  have e4' : Ext N3 ((aga, lst agv nag) :: N4) := e4.c1
  have EP5 := EP3.trans e4'.exp
  have hq4 := e4' _ hq3
  have hb4 := e4' _ hb3
  have hdu4 := e4' _ hdu3
  have hdv4 := hdv3.mono e4'
  have hlv4 := hlv3.mono e4'
  have S4 := S3.mono e4'
  have hag4 : (aga, lst agv nag) ∈ (aga, lst agv nag) :: N4 := .head _
  have hagv4 := hagv.mono (Ext.cons (aga, lst agv nag) N4)
  generalize (aga, lst agv nag) :: N4 = N5 at EP5 hq4 hb4 hdu4 hdv4 hlv4 S4 hag4 hagv4
  clear e4' hq3 hb3 hdu3 hdv3 hlv3 S3 ht3 hts3 hagv haga e4
  -- more
  refine s_cons ?_
  refine s_assign_comp2 G.F (.inl ⟨rfl, rfl, rfl⟩) ?_
  refine e_cell (v := .ref du) (.top (x := "due") j7 rfl) ?_
  refine src_list2 G.F ho.h (.inl rfl) (.inr hdu4) (fun i ys N' => Ext N5 N' ∧ PcL N' ys ((dues.take i).flatMap List.reverse) ∧ i ≤ dues.length) ⟨Ext.refl _, trivial, Nat.zero_le _⟩ ?_ (fun Cf => ?_) ?_
  · rintro i ys N' ⟨e, hy⟩
    exact ⟨nd, .inr (e _ hdu4)⟩
  · rintro i ys N' mm x I D k hi ⟨e, hy, hid⟩ hx
    refine Classical.byContradiction fun hn => ?_
    obtain ⟨d, hdi, hxd⟩ := hdv4.get' hx
    refine hn ?_
    clear hn
    have hdl3 := hdm d (List.mem_of_getElem? hdi)
    have hyl := hy.length
    have hyl2 : ((dues.take i).flatMap List.reverse).length ≤ 24 := by
      have := flat_len (f := List.reverse) (k := 3) (dues.take i) fun d hd => by rw [List.length_reverse]; exact hdm d (List.mem_of_mem_take hd)
      rw [List.length_take] at this; lia
    obtain ⟨da, dvs, dn, rfl, hda, hdp⟩ := hxd.mono e
    have hdpl := hdp.length
    refine as_name rfl (.inl ⟨rfl, rfl, rfl⟩) ?_
    refine e_sub (e_local (v := .ref da) (setLo_self ..) ?_)
    refine e_slice (e_part0 (e_part0 (e_part1 (e_un (e_int fun t6 => o_neg fun t7 => fun sl6 hsl6 => ?_)))))
    refine subT_slice G.F (.inl rfl) (.inr (.tail _ hda)) (.inr (.head _)) .none .none (.int _ _) (by decide) (by rw [sizeLine_eq]; lia) pick_rev fun l6 hl6 => ?_
    refine ⟨_, _, _, _, _, fun j zs N'' => Ext N5 N'' ∧ (l6, lst dvs.reverse 0) ∈ N'' ∧ PcL N'' dvs.reverse d.reverse ∧ PcL N'' zs ((dues.take i).flatMap List.reverse ++ d.reverse.take j) ∧ j ≤ dvs.reverse.length, ItOf.list G.F (.inl rfl), Iter.list (vs := dvs.reverse) (cl := .type "list") (d := none) ho.h, ⟨0, .inr (.head _)⟩, ⟨e.trans (Ext.refl _).c2, .head _, (hdp.mono (Ext.refl _).c2).reverse, ?_, Nat.zero_le _⟩, ?_, ?_, ?_⟩
    · rw [List.take_zero, List.append_nil]; exact hy.mono (Ext.refl _).c2
    · rintro j zs N'' ⟨ee, hl, _, hz, hj⟩
      have hzl := hz.length
      rw [List.length_append, List.length_take] at hzl
      rw [List.length_reverse] at hj
      exact ⟨⟨0, .inr hl⟩, by rw [sizeLine_eq]; rw [List.length_reverse] at hzl; lia⟩
    · rintro j zs N'' mm2 y I2 D2 k2' hj ⟨ee, hl, hdp2, hz, _⟩ hy2
      refine Classical.byContradiction fun hn => ?_
      obtain ⟨p, hpj, hyp⟩ := hdp2.get' hy2
      refine hn ?_
      clear hn
      refine as_name rfl (.inl ⟨rfl, rfl, rfl⟩) ?_
      refine tests_nil ?_
      refine e_local (v := y) (setLo_self ..) ?_
      refine ⟨ee, hl, hdp2, ?_, hj⟩
      rw [List.take_add_one, hpj, ← List.append_assoc]
      exact hz.append ⟨hyp, trivial⟩
    · rintro zs N'' ⟨ee, hl, hdp2, hz, _⟩
      refine ⟨ee, ?_, by have := (List.getElem?_eq_some_iff.mp hdi).1; lia⟩
      have hrl : dvs.reverse.length = d.reverse.length := by simp [hdpl]
      rw [hrl, List.take_length] at hz
      rw [List.take_add_one, hdi, List.flatMap_append]
      simpa using hz
  rintro mov N6 moa nmo ⟨e6, hmov, _⟩ hmoa
  rw [hdl, hdul.symm, List.take_length] at hmov
  have hmovl := hmov.length
  have i1 : (setLo m5' "more" (.ref moa)) "queue" = some (.ref qa) := (setLo_ne (by decide)).trans j1
  have i2 : (setLo m5' "more" (.ref moa)) "stock" = some (.ref st) := (setLo_ne (by decide)).trans j2
  have i3 : (setLo m5' "more" (.ref moa)) "head" = some (.int hd th) := (setLo_ne (by decide)).trans j3
  have i6 : (setLo m5' "more" (.ref moa)) "bags" = some (.ref ba) := (setLo_ne (by decide)).trans j6
  have i8 : (setLo m5' "more" (.ref moa)) "left" = some lv := (setLo_ne (by decide)).trans j8
  have i9 : (setLo m5' "more" (.ref moa)) "again" = some (.ref aga) := (setLo_ne (by decide)).trans j9
  have i10 : (setLo m5' "more" (.ref moa)) "more" = some (.ref moa) := setLo_self ..
  show WS C _ (execs _ _) _ _ _ _ _
  generalize setLo m5' "more" (.ref moa) = m6' at i1 i2 i3 i6 i8 i9 i10
  have e6' : Ext N5 ((moa, lst mov nmo) :: N6) := e6.c1
  have EP7 := EP5.trans e6'.exp
  have hq6 := e6' _ hq4
  have hb6 := e6' _ hb4
  have hlv6 := hlv4.mono e6'
  have S6 := S4.mono e6'
  have hag6 := e6' _ hag4
  have hagv6 := hagv4.mono e6'
  have hmo6 : (moa, lst mov nmo) ∈ (moa, lst mov nmo) :: N6 := .head _
  have hmov6 := hmov.mono (Ext.cons (moa, lst mov nmo) N6)
  generalize (moa, lst mov nmo) :: N6 = N7 at EP7 hq6 hb6 hlv6 S6 hag6 hagv6 hmo6 hmov6
  clear e6' hq4 hb4 hdu4 hdv4 hlv4 S4 hag4 hagv4 hmov e6
  -- served anew
  refine s_cons ?_
  refine s_ret ?_
  refine e_call rfl (e_glob G.G G.g_served (cw_S G.f_served rfl (a_cons ?_)))
  refine e_sub (e_cell (v := .ref qa) (.top (x := "queue") i1 rfl) ?_)
  refine e_slice (e_part0 (e_part0 (e_part1 (e_un (e_int fun t6 => o_neg fun t7 => fun sl6 hsl6 => ?_)))))
  refine subT_slice G.F (.inl rfl) (.inr (.tail _ hq6)) (.inr (.head _)) .none .none (.int _ _) (by decide) (by rw [sizeLine_eq]; lia) pick_rev fun qa2 hqa2 => ?_
  refine a_cons (e_local (v := .ref st) i2 (a_cons (e_local (v := .int hd th) i3 (a_cons ?_))))
  refine e_sub (e_local (v := .ref aga) i9 ?_)
  refine e_slice (e_part0 (e_part0 (e_part1 (e_un (e_int fun t8 => o_neg fun t9 => fun sl8 hsl8 => ?_)))))
  refine subT_slice G.F (.inl rfl) (.inr (.tail _ (.tail _ (.tail _ hag6)))) (.inr (.head _)) .none .none (.int _ _) (by decide) (by rw [sizeLine_eq]; lia) pick_rev fun ag2 hag2 => ?_
  refine a_cons ?_
  obtain ⟨la, lvs, ln, rfl, hla, hlp⟩ := hlv6
  have hlpl := hlp.length
  refine e_bin (e_local (v := .ref la) i8 (e_local (v := .ref moa) i10 ?_))
  refine o_addL G.F (.inr (.tail _ (.tail _ (.tail _ (.tail _ hla))))) (.inr (.tail _ (.tail _ (.tail _ (.tail _ hmo6))))) (by rw [sizeLine_eq]; lia) fun sh2 hsh2 => ?_
  have e8 : Ext N7 ((sh2, lst (lvs ++ mov) 0) :: (ag2, lst agv.reverse 0) :: (sl8, slc .none .none (.int (-1) t9)) :: (qa2, lst qv.reverse 0) :: (sl6, slc .none .none (.int (-1) t7)) :: N7) := (Ext.refl _).c5
  have hqa8 : (qa2, lst qv.reverse 0) ∈ ((sh2, lst (lvs ++ mov) 0) :: (ag2, lst agv.reverse 0) :: (sl8, slc .none .none (.int (-1) t9)) :: (qa2, lst qv.reverse 0) :: (sl6, slc .none .none (.int (-1) t7)) :: N7) := .tail _ (.tail _ (.tail _ (.head _)))
  have hag8 : (ag2, lst agv.reverse 0) ∈ ((sh2, lst (lvs ++ mov) 0) :: (ag2, lst agv.reverse 0) :: (sl8, slc .none .none (.int (-1) t9)) :: (qa2, lst qv.reverse 0) :: (sl6, slc .none .none (.int (-1) t7)) :: N7) := .tail _ (.head _)
  have hsh8 : (sh2, lst (lvs ++ mov) 0) ∈ ((sh2, lst (lvs ++ mov) 0) :: (ag2, lst agv.reverse 0) :: (sl8, slc .none .none (.int (-1) t9)) :: (qa2, lst qv.reverse 0) :: (sl6, slc .none .none (.int (-1) t7)) :: N7) := .head _
  have hshp := PcL.mono (hlp.append hmov6) e8
  have hagv8 := (hagv6.mono e8).reverse
  have S8 := S6.mono e8
  have hb8 := e8 _ hb6
  have EP8 := EP7.trans e8.exp
  show WE C A _ _ ((sh2, lst (lvs ++ mov) 0) :: (ag2, lst agv.reverse 0) :: (sl8, slc .none .none (.int (-1) t9)) :: (qa2, lst qv.reverse 0) :: (sl6, slc .none .none (.int (-1) t7)) :: N7) _
  generalize (sh2, lst (lvs ++ mov) 0) :: (ag2, lst agv.reverse 0) :: (sl8, slc .none .none (.int (-1) t9)) :: (qa2, lst qv.reverse 0) :: (sl6, slc .none .none (.int (-1) t7)) :: N7 = N8 at hqa8 hag8 hsh8 hshp hagv8 S8 hb8 EP8
  refine a_cons ?_
  refine e_comp G.F ?_
  refine e_cell (v := .ref ba) (.top (x := "bags") i6 rfl) ?_
  refine src_list G.F ho.h (.inl rfl) (.inr hb8) (fun i ys N' => Ext N8 N' ∧ PLs N' ys ((bv.map fun _ => ([] : List Pc)).take i)) ⟨Ext.refl _, trivial⟩ ?_ (fun Cf => ?_) ?_
  · rintro i ys N' ⟨e, hy⟩
    have := hy.length
    rw [List.length_take, List.length_map] at this
    exact ⟨⟨nb, .inr (e _ hb8)⟩, by rw [sizeLine_eq]; lia⟩
  · rintro i ys N' mm x I D k hi ⟨e, hy⟩ hx
    refine as_name rfl (.inl ⟨rfl, rfl, rfl⟩) ?_
    refine tests_nil ?_
    refine e_list (a_nil ⟨sz_ok (by simp), fun z hz => ?_⟩)
    refine ⟨e.c1, ?_⟩
    rw [List.take_add_one, List.getElem?_map, hx]
    exact (hy.mono (Ext.cons _ _)).append ⟨⟨z, [], 0, rfl, .head _, trivial⟩, trivial⟩
  rintro nv N9 na nna ⟨e9, hnv⟩ hna
  rw [List.take_of_length_le (by simp)] at hnv
  refine a_nil ?_
  have hdue2 : (bv.map fun _ => ([] : List Pc)) = dueL (leftL sh (told.flatMap askd) ++ dues.flatMap List.reverse) [] again.reverse := by
    rw [← hagain, again_due _ (by lia), hagain]
    exact same_nil (by rw [List.length_reverse]; lia)
  rw [hdue2] at hnv
  have hqv2 : All2 (fun v (r : Addr × Addr) => v = .ref r.1) qv.reverse rs.reverse := hqv.reverse
  refine c_served H T V RF LF (ho.le (by decide)) (fr m6') (e9.c1 _ hqa8) hqv2 (e9.c1 _ hag8) (PLs.mono hagv8 e9.c1) ⟨sh2, _, 0, rfl, e9.c1 _ hsh8, PcL.mono hshp e9.c1⟩ (.head _) (hnv.mono (Ext.cons _ _)) (S8.rev.mono e9.c1) h0 h1 (by rw [List.length_reverse]; lia) (fun b hb => by have := hagm b (List.mem_reverse.mp hb); lia) (by rw [List.length_append]; lia) fun N10 ep10 S10 => ?_
  exact ⟨rfl, EP8.trans (e9.c1.exp.trans ep10)⟩
end Mine.Internal
end
section
open PySem PySem.W PyProof.Rows PySem.Calls PySem.Spec PySem.Builtin.List PySem.Builtin
set_option maxRecDepth 100000
namespace Mine.Internal
variable {C : Cx} {N N' N'' : Led} {Φ Φ' : Frs} {A : Around} {mg mb : Lo} {s : Shared}
theorem getD_get {α : Type} {l : List α} {i : Nat} {d : α} (h : i < l.length) : l[i]? = some (l.getD i d) := by rw [List.getD_eq_getElem?_getD, List.getElem?_eq_getElem h]; rfl
section
variable {rs : List (Addr × Addr)} {bags : List (List Pc)} {st Ds : Addr} {hd : Int} {sh : List Pc}
theorem Shop.perm (S : Shop N rs bags st Ds hd sh) {p : List Nat} (hp : p.Perm (List.range bags.length)) : Shop N (p.map fun i => rs.getD i (0, 0)) (p.map fun i => bags.getD i []) st Ds hd sh := by
  have hlt : ∀ x ∈ p, x < bags.length := fun x hx => List.mem_range.mp (hp.mem_iff.mp hx)
  refine ⟨by simp, fun i r b h1 h2 => ?_, S.stock, ?_⟩
  · rw [List.getElem?_map] at h1 h2
    obtain ⟨j, hj, rfl⟩ := Option.map_eq_some_iff.mp h1
    rw [hj] at h2
    cases h2
    have hjl := hlt j (List.mem_of_getElem? hj)
    exact S.rows j _ _ (getD_get (by rw [S.len]; exact hjl)) (getD_get hjl)
  · have e : (List.range bags.length).map (fun i => rs.getD i (0, 0)) = rs := by
      refine List.ext_getElem (by simp [S.len]) fun i h1 h2 => ?_
      rw [List.getElem_map, List.getElem_range, List.getD_eq_getElem?_getD, List.getElem?_eq_getElem h2]
      rfl
    have hpp : (p.map fun i => rs.getD i (0, 0)).Perm rs := by
      have := hp.map (fun i => rs.getD i (0, 0))
      rwa [e] at this
    exact ((hpp.map (·.1)).cons st).nodup_iff.mpr S.nd
end
set_option maxHeartbeats 8000000 in
theorem law_B {P Pl oa ba L cM x Sl f0 f1 f2 f3 f4 f5 y Ek lam c' : Addr} {no nb : Nat} {pm ct : Value} {ov bv : List Value} {rs : List (Addr × Addr)} {bags : List (List Pc)} {st Ds : Addr} {hd : Int} {th : Tok} {sh : List Pc} {shv : Value} {m : Lo} {oc : Obj} {q0 : Str} {pmL : Value} (H : All C mg mb) (T : TabF C mg mb) (V : ValE mg mb) (RF : RedF C mg mb)
    (LF : LamF C 192 P "_law_served.<locals>.<lambda>") (LL : LamF C 175 Pl "_law_line.<locals>.<lambda>") (ho : AOk A 16) (fr : ∀ m, FrOk A (.fr ⟨L, lawCs L⟩ m :: Φ)) (hor : (oa, lst ov no) ∈ N) (hov : All2 (fun v (r : Addr × Addr) => v = .ref r.1) ov rs) (hb : (ba, lst bv nb) ∈ N) (hbs : PLs N bv bags) (hs : IsPL N shv sh)
    (HK : KCls C N cM x Sl f0 f1 f2 f3 f4 f5 y Ek) (hc : (cM, oc) ∈ N) (hcd : oc.data = .cell (some (.ref lam))) (hlam : LamA N lam (lamFd lamCmp q0 [] pmL c' ct))
    (S : Shop N rs bags st Ds hd sh) (h0 : 0 ≤ hd) (h1 : hd < 2 ^ 20) (g2 : 2 ≤ bags.length) (l1 : bags.length ≤ 8) (l2 : ∀ b ∈ bags, b.length ≤ 3) (l3 : sh.length ≤ 6)
    (m1 : m "orders" = some (.ref oa)) (m2 : m "stock" = some (.ref st)) (m3 : m "head" = some (.int hd th)) (m4 : m "key" = some (.ref x)) (m5 : m "shelf" = some shv) (m6 : m "bags" = some (.ref ba)) :
    WS C A (execs ((stBody (stOf 25)).drop 8) (lawEnv pm L)) (fun f N' _ => f = .ret (.bool true) ∧ ExP N N') N ⟨L, lawCs L⟩ m Φ := by
  have G := H.G.P
  have hol := hov.length
  have hbl := hbs.length
  have hsl := S.len
  have bget : ∀ i, i < bags.length → bags[i]? = some (bags.getD i []) := fun i hi => getD_get hi
  -- queue
  refine s_cons ?_
  refine s_assign (.inr ⟨_, rfl, rfl, rfl⟩) ?_
  refine e_sortedK G ?_
  refine e_cell (v := .ref oa) (.top (x := "orders") m1 rfl) ?_
  refine e_local (v := .ref x) m4 ?_
  refine sorted_key (vs := ov) (κ := oneType') (lt := fun i j => decide (cmpZ 0 (bags.getD i []) 0 (bags.getD j []) < 0)) (KR := fun i k N' => ∃ b dd r, k = .ref b ∧ rs[i]? = some r ∧ (b, kIns x dd #[some (.ref r.1)]) ∈ N')
    (.inr hor) (by lia) (by lia) (Ord.cmp (fun _ => 0) _) (fun i k N1 N2 ⟨b, dd, r, h1, h2, h3⟩ e => ⟨b, dd, r, h1, h2, e _ h3⟩) ?_ ?_ ?_ ?_
  · intro i v N1 o1 o2 a1 a2 hv e1
    obtain ⟨r, hr, rfl⟩ := hov.get' hv
    exact WF.toWE (wf_inst G.G (ho.in1.in1.le (by decide)) (HK.mono e1) fun b dd N2 hb e2 hm => ⟨rfl, ⟨b, dd, r, rfl, hr, hm⟩, e2⟩)
  · intro N1 ks Ψ e1 hkl hks
    refine kind_one (T := .ref x) (by lia) (fun v hv s R => ?_) (by rfl) (by simp)
    obtain ⟨i, hi⟩ := List.getElem?_of_mem hv
    obtain ⟨b, dd, r, rfl, _, hm⟩ := hks i v hi
    exact looks_ty (R.get hm)
  · intro i j u v N1 o1 o2 a1 a2 hi hj hu hv e1
    obtain ⟨b, dd, r, rfl, hr, hm⟩ := hu
    obtain ⟨b', dd', r', rfl, hr', hm'⟩ := hv
    have hbi := bget i (by lia)
    have hbj := bget j (by lia)
    have hli := l2 _ (List.mem_of_getElem? hbi)
    have hlj := l2 _ (List.mem_of_getElem? hbj)
    have si := sgL_le2 (bags.getD i [])
    have sj := sgL_le2 (bags.getD j [])
    refine klt_ins (k := 9) (z := cmpZ 0 (bags.getD i []) 0 (bags.getD j [])) G.G (ho.in1.in1.le (by decide)) (HK.mono e1) hm hm' (e1 _ hc) hcd (hlam.mono e1).has (fun A' Φ' Q' ho' hq' => ?_) fun N2 e2 => ⟨rfl, e2⟩
    refine Classical.byContradiction fun hn => ?_
    obtain ⟨vs1, n1, r1, p1⟩ := (S.mono e1).rows i r _ hr hbi
    obtain ⟨vs2, n2, r2, p2⟩ := (S.mono e1).rows j r' _ hr' hbj
    refine hn ?_
    clear hn
    exact c_lamCmp (k := 0) H T ho' (hlam.mono e1).has r1 r2 p1 p2 (by decide) (by decide) (by decide) (by decide) (by lia) (by lia) (by lia) (by lia) fun t N2 e2 => hq' t N2 e2
  intro N1 qa nq p e1 hqa hp hpw
  have hp' : p.Perm (List.range bags.length) := by rwa [show ov.length = bags.length by lia] at hp
  have hplt : ∀ i ∈ p, i < bags.length := fun i hi => List.mem_range.mp (hp'.mem_iff.mp hi)
  have hpl : p.length = bags.length := by rw [hp'.length_eq]; simp
  have k1 : (setLo m "queue" (.ref qa)) "orders" = some (.ref oa) := (setLo_ne (by decide)).trans m1
  have k2 : (setLo m "queue" (.ref qa)) "stock" = some (.ref st) := (setLo_ne (by decide)).trans m2
  have k3 : (setLo m "queue" (.ref qa)) "head" = some (.int hd th) := (setLo_ne (by decide)).trans m3
  have k5 : (setLo m "queue" (.ref qa)) "shelf" = some shv := (setLo_ne (by decide)).trans m5
  have k6 : (setLo m "queue" (.ref qa)) "bags" = some (.ref ba) := (setLo_ne (by decide)).trans m6
  have k7 : (setLo m "queue" (.ref qa)) "queue" = some (.ref qa) := setLo_self ..
  show WS C _ (execs _ _) _ _ _ _ _
  generalize setLo m "queue" (.ref qa) = m' at k1 k2 k3 k5 k6 k7
  have e1' : Ext N ((qa, lst (p.map fun i => ov.getD i .none) nq) :: N1) := e1.c1
  have hqa1 : (qa, lst (p.map fun i => ov.getD i .none) nq) ∈ (qa, lst (p.map fun i => ov.getD i .none) nq) :: N1 := .head _
  generalize (qa, lst (p.map fun i => ov.getD i .none) nq) :: N1 = N2 at e1' hqa1
  -- line
  refine s_cons ?_
  refine s_assign (.inr ⟨_, rfl, rfl, rfl⟩) ?_
  refine e_call rfl (e_glob G.G G.g_line (cw_S G.f_line rfl (a_cons (e_cell (v := .ref ba) (.top (x := "bags") k6 rfl) (a_nil ?_)))))
  refine c_line H T LL (ho.le (by decide)) (e1' _ hb) (hbs.mono e1') g2 (by lia) (fun g hg => by have := l2 g hg; lia) fun N3 la lv nl line e3 hla hline hlv => ?_
  have hpe : p = line := by
    obtain ⟨q1, q2, a1, a2, a3, a4, rfl⟩ := hline
    exact line_eq (fun i => bags.getD i []) a1 a2 a3 a4 hp' hpw
  subst hpe
  have j1 : (setLo m' "line" (.ref la)) "orders" = some (.ref oa) := (setLo_ne (by decide)).trans k1
  have j2 : (setLo m' "line" (.ref la)) "stock" = some (.ref st) := (setLo_ne (by decide)).trans k2
  have j3 : (setLo m' "line" (.ref la)) "head" = some (.int hd th) := (setLo_ne (by decide)).trans k3
  have j5 : (setLo m' "line" (.ref la)) "shelf" = some shv := (setLo_ne (by decide)).trans k5
  have j6 : (setLo m' "line" (.ref la)) "bags" = some (.ref ba) := (setLo_ne (by decide)).trans k6
  have j7 : (setLo m' "line" (.ref la)) "queue" = some (.ref qa) := (setLo_ne (by decide)).trans k7
  have j8 : (setLo m' "line" (.ref la)) "line" = some (.ref la) := setLo_self ..
  show WS C _ (execs _ _) _ _ _ _ _
  generalize setLo m' "line" (.ref la) = m'' at j1 j2 j3 j5 j6 j7 j8
  have e3' : Ext N ((la, lst lv nl) :: N3) := (e1'.trans e3).c1
  have hqa3 : (qa, lst (p.map fun i => ov.getD i .none) nq) ∈ (la, lst lv nl) :: N3 := .tail _ (e3 _ hqa1)
  have hla3 : (la, lst lv nl) ∈ (la, lst lv nl) :: N3 := .head _
  generalize (la, lst lv nl) :: N3 = N4 at e3' hqa3 hla3
  have hlvl := hlv.length
  -- the very orders
  refine s_cons ?_
  refine s_if ?_
  refine t_plain (fun _ => rfl) ?_
  refine e_comp G.F ?_
  refine e_call rfl (e_blt G.G G.n_range G.b_range (cw_type rfl (a_cons ?_)))
  refine e_call rfl (e_blt G.G G.n_len G.b_len (cw_blt rfl (a_cons (e_cell (v := .ref ba) (.top (x := "bags") j6 rfl) (a_nil ?_)))))
  refine len_L G.F (.inr (e3' _ hb)) (by rw [sizeLine_eq]; lia) fun t4 => ?_
  refine a_nil ?_
  refine range1 fun r4 u4 v4 hr4 => ?_
  rw [hbl]
  have e5 : Ext N4 ((r4, rngO 0 bags.length 1 u4 t4 v4) :: N4) := Ext.cons _ _
  have hr5 : (r4, rngO 0 bags.length 1 u4 t4 v4) ∈ (r4, rngO 0 bags.length 1 u4 t4 v4) :: N4 := .head _
  generalize (r4, rngO 0 bags.length 1 u4 t4 v4) :: N4 = N5 at e5 hr5
  have e5' : Ext N N5 := e3'.trans e5
  refine src_range (n := bags.length) ho.h (.inr hr5) (small_up (by lia)) (size_up _) (fun i ys N' => N' = N5 ∧ ys = []) ⟨rfl, rfl⟩ ?_ (fun Cf => ?_) ?_
  · rintro i ys N' ⟨rfl, rfl⟩
    simp
  · rintro i ys N' mm xx I D k hi ⟨rfl, rfl⟩ ⟨t5, rfl⟩
    have hat : (0 : Int) + (i : Int) * 1 = (i : Int) := z_at _
    rw [hat]
    obtain ⟨pi, hpi⟩ : ∃ pi, p[i]? = some pi := ⟨_, List.getElem?_eq_getElem (by lia)⟩
    have hpil := hplt pi (List.mem_of_getElem? hpi)
    obtain ⟨w, hw, t6, rfl⟩ := hlv.get hpi
    have hov1 : ov[pi]? = some (ov.getD pi .none) := getD_get (by lia)
    refine Classical.byContradiction fun hn => ?_
    obtain ⟨r, hr, hre⟩ := hov.get' hov1
    have hqi : (p.map fun i => ov.getD i .none)[i]? = some (.ref r.1) := by rw [List.getElem?_map, hpi]; exact congrArg some hre
    obtain ⟨vs1, n1, r1, p1⟩ := (S.mono e5').rows pi r _ hr (bget pi hpil)
    refine hn ?_
    clear hn
    rw [hre] at hov1
    refine as_name rfl (.inl ⟨rfl, rfl, rfl⟩) ?_
    refine tests_one ?_
    refine t_cmp ?_
    refine e_sub (e_cell (v := .ref qa) (.fr (x := "queue") (.tail _ (.tail _ (.tail _ (.head _)))) j7 rfl) (e_local (v := .int i t5) (setLo_self ..) ?_))
    refine subT_int G.F (.inl rfl) (.inr (e5 _ hqa3)) (Int.natCast_nonneg _) (x := .ref r.1) hqi (by rw [sizeLine_eq]; simp; lia) ?_
    refine e_sub (e_cell (v := .ref oa) (.fr (x := "orders") (.tail _ (.tail _ (.tail _ (.head _)))) j1 rfl) (e_sub (e_cell (v := .ref la) (.fr (x := "line") (.tail _ (.tail _ (.tail _ (.head _)))) j8 rfl) (e_local (v := .int i t5) (setLo_self ..) ?_))))
    refine subT_int G.F (.inl rfl) (.inr (e5 _ hla3)) (Int.natCast_nonneg _) (x := .int pi t6) hw (by rw [sizeLine_eq]; lia) ?_
    refine subT_int G.F (.inl rfl) (.inr (e5' _ hor)) (Int.natCast_nonneg _) (x := .ref r.1) hov1 (by rw [sizeLine_eq]; lia) ?_
    refine o_isNot ?_
    refine same_refs (.inr r1.obj) (.inr r1.obj) (.inl rfl) ?_
    refine o_tBool ?_
    rw [beq_self_eq_true]
    show (if false = true then _ else _)
    refine ite_n (by decide) ?_
    exact ⟨rfl, rfl⟩
  rintro ys5 N' D5 kD5 ⟨rfl, rfl⟩ hD5
  refine o_tList (.inr (.head _)) (by simp) ?_
  refine ite_n (by simp) ?_
  refine s_nil ?_
  have e6 : Ext N ((D5, lst [] kD5) :: N') := e5'.c1
  have hqa6 := e5.c1 (a := (D5, lst [] kD5)) _ hqa3
  have hla6 := e5.c1 (a := (D5, lst [] kD5)) _ hla3
  generalize (D5, lst [] kD5) :: N' = N6 at e6 hqa6 hla6
  clear e5 e5' hr5 hqa3 hla3 e3' e1' hqa1 e3 e1
  -- told
  refine s_cons ?_
  refine s_assign (.inr ⟨_, rfl, rfl, rfl⟩) ?_
  refine e_comp G.F ?_
  refine e_cell (v := .ref la) (.top (x := "line") j8 rfl) ?_
  refine src_list G.F ho.h (.inl rfl) (.inr hla6) (fun i ys N' => N' = N6 ∧ PLs N6 ys ((p.map fun i => bags.getD i []).take i)) ⟨rfl, trivial⟩ ?_ (fun Cf => ?_) ?_
  · rintro i ys N' ⟨rfl, hy⟩
    have := hy.length
    rw [List.length_take, List.length_map] at this
    exact ⟨⟨nl, .inr hla6⟩, by rw [sizeLine_eq]; lia⟩
  · rintro i ys N' mm xx I D k hi ⟨rfl, hy⟩ hx
    obtain ⟨pi, hpi, t6, rfl⟩ := hlv.get' hx
    have hpil := hplt pi (List.mem_of_getElem? hpi)
    refine Classical.byContradiction fun hn => ?_
    obtain ⟨w, hw, hwp⟩ := hbs.get (bget pi hpil)
    refine hn ?_
    clear hn
    refine as_name rfl (.inl ⟨rfl, rfl, rfl⟩) ?_
    refine tests_nil ?_
    refine e_sub (e_cell (v := .ref ba) (.fr (x := "bags") (.tail _ (.tail _ (.tail _ (.head _)))) j6 rfl) (e_local (v := .int pi t6) (setLo_self ..) ?_))
    refine subT_int G.F (.inl rfl) (.inr (e6 _ hb)) (Int.natCast_nonneg _) (x := w) hw (by rw [sizeLine_eq]; lia) ?_
    refine ⟨rfl, ?_⟩
    rw [List.take_add_one, List.getElem?_map, hpi]
    exact hy.append ⟨hwp.mono e6, trivial⟩
  rintro tv N' ta nt ⟨rfl, htv⟩ hta
  rw [List.take_of_length_le (by simp; lia)] at htv
  have e7 : Ext N ((ta, lst tv nt) :: N') := e6.c1
  refine WS.mono (Q := fun f N'' _ => f = .ret (.bool true) ∧ ExP ((ta, lst tv nt) :: N') N'') ?_ fun f N'' m'' h => ⟨h.1, e7.exp.trans h.2⟩
  refine law_C (pm := pm) (rs := p.map fun i => rs.getD i (0, 0)) (told := p.map fun i => bags.getD i []) (hd := hd) (th := th) H T V RF LF ho fr (.tail _ hqa6) ?_ (.head _) (PLs.mono htv (Ext.cons _ _)) (hs.mono e7) (e7 _ hb) (by simp; lia) ((S.mono e7).perm hp') h0 h1 (by simp; lia) (fun b hb => ?_) l3
    ((setLo_ne (by decide)).trans j7) ((setLo_ne (by decide)).trans j2) ((setLo_ne (by decide)).trans j3) (setLo_self ..) ((setLo_ne (by decide)).trans j5) ((setLo_ne (by decide)).trans j6)
  · exact getD_all2 (d := (0, 0)) hov p fun i hi => by have := hplt i hi; lia
  · obtain ⟨i, hi, rfl⟩ := List.mem_map.mp hb
    exact l2 _ (List.mem_of_getElem? (bget i (hplt i hi)))
end Mine.Internal
end
section
open PySem PySem.W PyProof.Rows PySem.Calls PySem.Spec PySem.Builtin.List PySem.Builtin
set_option maxRecDepth 100000
namespace Mine.Internal
variable {C : Cx} {N N' N'' : Led} {Φ Φ' : Frs} {A : Around} {mg mb : Lo} {s : Shared}
noncomputable def bagZ (n : Int) (k : Nat) : List Pc := (List.range k).map fun i => pcOf ((n.fdiv ((4 ^ i : Nat) : Int)).fmod 4).toNat
theorem fmod_nat (n : Int) (k : Nat) (hk : 0 < k) : ∃ w : Nat, w < k ∧ n.fmod k = (w : Int) := by
  have h1 := Int.fmod_nonneg_of_pos n (show (0 : Int) < k by omega)
  have h2 := Int.fmod_lt_of_pos n (show (0 : Int) < k by omega)
  exact ⟨(n.fmod k).toNat, by omega, by omega⟩
theorem c_bagZ {n : Int} {k : Nat} {t u : Tok} {Q : Value → Led → Prop} (G : Prg C mg mb) (ho : AOk A 3) (hk : k ≤ 6)
    (q : ∀ N' r ws j, Ext N N' → New r N' → PcL N' ws (bagZ n k) → Q (.ref r) ((r, lst ws j) :: N')) : WE C A (PySem.call (.ref 147) [.int n t, .int k u]) Q N Φ := by
  obtain ⟨pm, hf⟩ := G.f_bag
  refine WE.call (CE.fnCells (binds := [("n", .int n t), ("many", .int k u)]) (cs := fun L => [("n", L + 1)]) (k := 2) G.G ho hf.any rfl rfl rfl (fun _ => rfl) fun L => ?_)
  refine s_cons ?_
  refine s_ret ?_
  refine e_comp G.F ?_
  refine e_call rfl ?_
  refine e_blt G.G G.n_range G.b_range ?_
  refine cw_type rfl ?_
  refine a_cons ?_
  refine e_local (v := .int k u) rfl ?_
  refine a_nil ?_
  refine range1 fun r u1 v1 hr => ?_
  refine src_range (n := k) ho.h (.inr (.head _)) (small_up (by omega)) (size_up _) (fun i ys N' => Ext N N' ∧ PcL N' ys (bagZ n i) ∧ i ≤ k) ⟨Ext.cons _ _, trivial, Nat.zero_le _⟩ ?_ (fun Cf => ?_) ?_
  · rintro i ys N' ⟨e, hy, hi⟩
    have h1 := hy.length
    rw [bagZ, List.length_map, List.length_range] at h1
    rw [sizeLine_eq]; omega
  · rintro i ys N' m x I D j hi ⟨e, hy, _⟩ ⟨t8, rfl⟩
    have hi0 : (0 : Int) + (i : Int) * 1 = (i : Int) := z_at _
    rw [hi0]
    refine as_name rfl (.inl ⟨rfl, rfl, rfl⟩) ?_
    refine tests_nil ?_
    refine e_sub ?_
    refine e_list ?_
    refine a_cons ?_
    refine e_tuple ?_
    refine a_cons (e_str fun a1 => a_cons (e_str fun a2 => a_nil ⟨sz_ok (by simp), fun p0 hp0 => ?_⟩))
    refine a_cons ?_
    refine e_tuple ?_
    refine a_cons (e_str fun b1 => a_cons (e_str fun b2 => a_nil ⟨sz_ok (by simp), fun p1 hp1 => ?_⟩))
    refine a_cons ?_
    refine e_tuple ?_
    refine a_cons (e_str fun c1 => a_cons (e_str fun c2 => a_nil ⟨sz_ok (by simp), fun p2 hp2 => ?_⟩))
    refine a_cons ?_
    refine e_tuple ?_
    refine a_cons (e_str fun d1 => a_cons (e_str fun d2 => a_nil ⟨sz_ok (by simp), fun p3 hp3 => ?_⟩))
    refine a_nil ⟨sz_ok (by simp), fun l hl => ?_⟩
    refine e_bin ?_
    refine e_bin ?_
    refine e_cell (v := .int n t) (.fr (x := "n") (.tail _ (.tail _ (.tail _ (.head _)))) rfl rfl) ?_
    refine e_bin ?_
    refine e_int fun t9 => ?_
    refine e_local (v := .int i t8) rfl ?_
    refine o_pow (by omega) (by rw [intBits4]; omega) fun t10 => ?_
    have h4 : (4 : Int) ^ (i : Int).toNat = ((4 ^ i : Nat) : Int) := by simp
    rw [h4]
    have h4p : 0 < 4 ^ i := Nat.pow_pos (by decide)
    have h4b : 4 ^ i ≤ 4 ^ 6 := Nat.pow_le_pow_right (by decide) (by omega)
    refine o_div (by omega) (PyProof.noPylong_small (by omega)) fun t11 => ?_
    refine e_int fun t12 => ?_
    refine o_mod (by decide) fun t13 => ?_
    have hbag : bagZ n (i + 1) = bagZ n i ++ [pcOf ((n.fdiv ((4 ^ i : Nat) : Int)).fmod 4).toNat] := by simp [bagZ, List.range_succ]
    refine Classical.byContradiction fun hn => ?_
    obtain ⟨w, hlt, hw⟩ := fmod_nat (n.fdiv ((4 ^ i : Nat) : Int)) 4 (by decide)
    refine hn ?_
    clear hn
    have hw' : (n.fdiv ((4 ^ i : Nat) : Int)).fmod 4 = (w : Int) := hw
    rw [hw'] at hbag ⊢
    rw [Int.toNat_natCast] at hbag
    clear hw hw'
    have e4 : Ext N' ((l, lst [.ref p0, .ref p1, .ref p2, .ref p3] 0) :: (p3, tup [.str " " d1, .str "a" d2] 0) :: (p2, tup [.str "" c1, .str "a" c2] 0) :: (p1, tup [.str " " b1, .str "" b2] 0) :: (p0, tup [.str "" a1, .str "" a2] 0) :: N') :=
      (Ext.cons _ _).trans ((Ext.cons _ _).trans ((Ext.cons _ _).trans ((Ext.cons _ _).trans (Ext.cons _ _))))
    have fin : ∀ v, IsPc ((l, lst [.ref p0, .ref p1, .ref p2, .ref p3] 0) :: (p3, tup [.str " " d1, .str "a" d2] 0) :: (p2, tup [.str "" c1, .str "a" c2] 0) :: (p1, tup [.str " " b1, .str "" b2] 0) :: (p0, tup [.str "" a1, .str "" a2] 0) :: N') v (pcOf w) →
      Ext N ((l, lst [.ref p0, .ref p1, .ref p2, .ref p3] 0) :: (p3, tup [.str " " d1, .str "a" d2] 0) :: (p2, tup [.str "" c1, .str "a" c2] 0) :: (p1, tup [.str " " b1, .str "" b2] 0) :: (p0, tup [.str "" a1, .str "" a2] 0) :: N') ∧
      PcL ((l, lst [.ref p0, .ref p1, .ref p2, .ref p3] 0) :: (p3, tup [.str " " d1, .str "a" d2] 0) :: (p2, tup [.str "" c1, .str "a" c2] 0) :: (p1, tup [.str " " b1, .str "" b2] 0) :: (p0, tup [.str "" a1, .str "" a2] 0) :: N') (ys ++ [v]) (bagZ n (i + 1)) ∧ i + 1 ≤ k := fun v hv => ⟨e.trans e4, by rw [hbag]; exact (hy.mono e4).append ⟨hv, trivial⟩, hi⟩
    match w, hlt with
    | 0, _ => exact subT_int G.F (.inl rfl) (.inr (.head _)) (by omega) (x := .ref p0) rfl (sz_ok (by simp)) (fin _ ⟨p0, _, a1, a2, rfl, .tail _ (.tail _ (.tail _ (.tail _ (.head _))))⟩)
    | 1, _ => exact subT_int G.F (.inl rfl) (.inr (.head _)) (by omega) (x := .ref p1) rfl (sz_ok (by simp)) (fin _ ⟨p1, _, b1, b2, rfl, .tail _ (.tail _ (.tail _ (.head _)))⟩)
    | 2, _ => exact subT_int G.F (.inl rfl) (.inr (.head _)) (by omega) (x := .ref p2) rfl (sz_ok (by simp)) (fin _ ⟨p2, _, c1, c2, rfl, .tail _ (.tail _ (.head _))⟩)
    | 3, _ => exact subT_int G.F (.inl rfl) (.inr (.head _)) (by omega) (x := .ref p3) rfl (sz_ok (by simp)) (fin _ ⟨p3, _, d1, d2, rfl, .tail _ (.head _)⟩)
  · rintro ys N' D j ⟨e, hy, _⟩ hD
    exact q _ _ _ _ e hD hy
end Mine.Internal
end
section
open PySem PySem.W PyProof.Rows PySem.Calls PySem.Spec PySem.Builtin.List PySem.Builtin
set_option maxRecDepth 100000
namespace Mine.Internal
variable {C : Cx} {N N' N'' : Led} {Φ Φ' : Frs} {A : Around} {mg mb : Lo} {s : Shared}
noncomputable def ExC (N N' : Led) : Prop := ∀ p ∈ N, p.2.cls ≠ .none → p ∈ N'
theorem ExC.lst {a : Addr} {vs : List Value} {n : Nat} (e : ExC N N') (h : (a, Mine.Internal.lst vs n) ∈ N) : (a, Mine.Internal.lst vs n) ∈ N' := e _ h (by simp)
theorem ExC.pc {v : Value} {p : Pc} (e : ExC N N') (h : IsPc N v p) : IsPc N' v p := let ⟨a, n, t, u, x, y⟩ := h; ⟨a, n, t, u, x, e _ y (by simp)⟩
theorem ExC.pcl {vs : List Value} {ps : List Pc} (e : ExC N N') (h : PcL N vs ps) : PcL N' vs ps := All2.imp (fun _ _ x => e.pc x) h
theorem ExC.pl {v : Value} {ps : List Pc} (e : ExC N N') (h : IsPL N v ps) : IsPL N' v ps := let ⟨a, vs, n, x, y, z⟩ := h; ⟨a, vs, n, x, e _ y (by simp), e.pcl z⟩
theorem ExC.pls {vs : List Value} {pss : List (List Pc)} (e : ExC N N') (h : PLs N vs pss) : PLs N' vs pss := All2.imp (fun _ _ x => e.pl x) h
theorem ExC.row {row D : Addr} {hd : Int} {ps : List Pc} (e : ExC N N') (h : RowP N row D hd ps) : RowP N' row D hd ps :=
  let ⟨vs, n, ⟨a, hs, tk, t, ept, b⟩, c⟩ := h; ⟨vs, n, ⟨e _ a (by simp), hs, tk, t, ept, e _ b (by simp)⟩, e.pcl c⟩
theorem ExC.shop {rs : List (Addr × Addr)} {bags : List (List Pc)} {st Ds : Addr} {hd : Int} {sh : List Pc} (e : ExC N N') (S : Shop N rs bags st Ds hd sh) : Shop N' rs bags st Ds hd sh := ⟨S.len, fun i r b h1 h2 => e.row (S.rows i r b h1 h2), e.row S.stock, S.nd⟩
structure KeyF (C : Cx) (mg mb : Lo) (P0 : Addr) : Prop where
  Y : Sys C
  F : MkF C mg
  f : FnS C 9 133 .none
  nm : ∃ vn, mg ("__name__" : Str) = some vn
  ob : mg ("object" : Str) = none
  ob' : mb ("object" : Str) = some (.type "object")
  bc : mb ("__build_class__" : Str) = some (.builtin "__build_class__")
  cd : ∀ N Φ s, (P0, tabObj #[]) ∈ N → Rep C N Φ s → CodeHd s.heap 132 P0
theorem Shop.snoc {rs : List (Addr × Addr)} {bags : List (List Pc)} {st Ds row D : Addr} {hd : Int} {sh b : List Pc} (S : Shop N rs bags st Ds hd sh) (h : RowP N row D 0 b) (hn : row ∉ st :: rs.map (·.1)) : Shop N (rs ++ [(row, D)]) (bags ++ [b]) st Ds hd sh := by
  refine ⟨by simp [S.len], fun i r c h1 h2 => ?_, S.stock, ?_⟩
  · by_cases hi : i < rs.length
    · rw [List.getElem?_append_left hi] at h1
      rw [List.getElem?_append_left (by rw [← S.len]; exact hi)] at h2
      exact S.rows i r c h1 h2
    · have hi' : i - rs.length = 0 := by
        rcases Nat.eq_zero_or_pos (i - rs.length) with h | h
        · exact h
        · rw [List.getElem?_append_right (by lia), List.getElem?_eq_none (by simp; lia)] at h1; cases h1
      rw [List.getElem?_append_right (by lia), hi'] at h1
      rw [List.getElem?_append_right (by rw [← S.len]; lia), ← S.len, hi'] at h2
      cases h1; cases h2
      exact h
  · have := S.nd
    rw [List.map_append, ← List.cons_append]
    exact List.nodup_append.mpr ⟨this, by simp, fun a ha b hb e => hn (by
      have hb' : b = row := by simpa using hb
      rw [← hb', ← e]; exact ha)⟩
noncomputable def bagOf (n : Int) : List Pc := bagZ (n.fdiv 4) (n.fmod 4).toNat
theorem bagOf_le (n : Int) : (bagOf n).length ≤ 3 := by
  unfold bagOf bagZ
  rw [List.length_map, List.length_range]
  exact Int.toNat_le.mpr (Int.le_of_lt_add_one (Int.fmod_lt_of_pos n (show (0 : Int) < 4 by decide)))
theorem bag179 : bagOf 179 = [(false, false), (true, true), (false, true)] := by decide +kernel
theorem ask179 : (askd (bagOf 179)).length = 2 := by rw [bag179]; decide +kernel
end Mine.Internal
end
section
open PySem PySem.W PyProof.Rows PySem.Calls PySem.Spec PySem.Builtin.List PySem.Builtin
set_option maxRecDepth 100000
namespace Mine.Internal
variable {C : Cx} {N N' N'' : Led} {Φ Φ' : Frs} {A : Around} {mg mb : Lo} {s : Shared}
set_option maxHeartbeats 8000000 in
theorem c_law {P Pl Pw P0 sc : Addr} {n : Nat} {vals : List Value} {ns : List Int} (H : All C mg mb) (T : TabF C mg mb) (V : ValE mg mb) (VI : IdxE mg mb) (RF : RedF C mg mb) (KF : KeyF C mg mb P0)
    (LF : LamF C 192 P "_law_served.<locals>.<lambda>") (LL : LamF C 175 Pl "_law_line.<locals>.<lambda>") (LW : LamF C 216 Pw "law.<locals>.<lambda>") (ho : AOk A 17) (fr : FrOk A Φ)
    (hsc : Has C N sc (lst vals n)) (hvals : All2 IsI vals ns) (hvl : vals.length ≤ 63) (hP0 : (P0, tabObj #[]) ∈ N) :
    WE C A (PySem.call (.ref 217) [.ref sc]) (fun v N' => v = .bool true ∧ ∃ tb, (P0, tabObj tb) ∈ N') N Φ := by
  have G := H.G.P
  obtain ⟨pm, hf⟩ := G.f_law
  refine WE.call (CE.fnCells (binds := [("script", .ref sc)]) (cs := fun L => lawCs L) (k := 16) G.G ho hf.any rfl rfl rfl (fun _ => rfl) fun L => ?_)
  have ho' := ho.deeper (env := lawEnv pm L)
  have fr' : ∀ m, FrOk (A.deeper (lawEnv pm L)) (.fr ⟨L, lawCs L⟩ m :: Φ) := fun m => fr.deeper (fd := mkFd (stOf 25) 217 (stName (stOf 25)) [] .none pm .none) (L := L) (a := 217) (k := lawCs L) (m := m) (fun h => nomatch (show ScopeKind.function = ScopeKind.module from h))
  generalize hA' : A.deeper (lawEnv pm L) = A' at ho' fr'
  have m1 : (bindM [("script", .ref sc)] fun _ => none : Lo) "script" = some (.ref sc) := rfl
  generalize (bindM [("script", .ref sc)] fun _ => none : Lo) = m at m1
  -- numbers
  refine s_cons ?_
  refine s_assign (.inl ⟨rfl, rfl, rfl⟩) ?_
  refine e_sub (WE.mono (Q := fun v N1 => ∃ a vs k ns', v = .ref a ∧ Has C N1 a (lst vs k) ∧ All2 IsI vs ns' ∧ ns' ≠ [] ∧ vs.length ≤ 63 ∧ Ext N N1) ?_ ?_)
  · refine e_or2 (e_local (v := .ref sc) m1 ?_)
    refine o_tList hsc (by rw [sizeLine_eq]; lia) ?_
    by_cases hne : vals = []
    · refine ite_n (by simp [hne]) ?_
      refine e_list (a_cons (e_int fun t1 => a_cons (e_int fun t2 => a_cons (e_int fun t3 => a_cons (e_int fun t4 => a_nil ⟨sz_ok (by simp), fun a ha => ?_⟩)))))
      exact ⟨a, _, 0, [51, 187, 6, 39], rfl, .inr (.head _), ⟨⟨t1, rfl⟩, ⟨t2, rfl⟩, ⟨t3, rfl⟩, ⟨t4, rfl⟩, trivial⟩, by simp, by simp, Ext.cons _ _⟩
    · refine ite_y (by simp [hne]) ?_
      refine ⟨sc, vals, n, ns, rfl, hsc, hvals, fun e => ?_, hvl, Ext.refl _⟩
      have := hvals.length
      rw [e] at this
      exact hne (List.eq_nil_of_length_eq_zero this)
  rintro _ N1 ⟨a, vs, k, ns', rfl, ha, hvs, hne, hvsl, e1⟩
  refine e_slice (e_part0 (e_part1 (e_int fun t1 => e_part0 fun sl hsl => ?_)))
  refine subT_slice G.F (.inl rfl) (ha.mono (Ext.cons _ _)) (.inr (.head _)) .none (.int _ _) .none (by decide) (by rw [sizeLine_eq]; lia) (pick_upto 4) fun na hna => ?_
  have hP1 := (e1.trans ((Ext.cons (sl, slc .none (.int 4 t1) .none) N1).trans (Ext.cons (na, lst (vs.take 4) 0) _))) _ hP0
  have hnu : (na, lst (vs.take 4) 0) ∈ (na, lst (vs.take 4) 0) :: (sl, slc .none (.int 4 t1) .none) :: N1 := .head _
  have hnv : All2 IsI (vs.take 4) (ns'.take 4) := hvs.take 4
  have hn4 : (ns'.take 4) ≠ [] := by
    cases ns' with
    | nil => exact absurd rfl hne
    | cons => simp
  have hn4l : (ns'.take 4).length ≤ 4 := by rw [List.length_take]; lia
  have hvt : (vs.take 4).length ≤ 4 := by rw [List.length_take]; lia
  generalize (na, lst (vs.take 4) 0) :: (sl, slc .none (.int 4 t1) .none) :: N1 = N2 at hP1 hnu
  generalize vs.take 4 = nv at hnu hnv hvt
  generalize ns'.take 4 = nn at hnv hn4 hn4l
  have m2 : (setLo m "numbers" (.ref na)) "numbers" = some (.ref na) := setLo_self ..
  show WS C _ (execs _ _) _ _ _ _ _
  generalize setLo m "numbers" (.ref na) = m' at m2
  obtain ⟨f, rest, rfl⟩ : ∃ f rest, nn = f :: rest := by
    cases nn with
    | nil => exact absurd rfl hn4
    | cons f rest => exact ⟨f, rest, rfl⟩
  obtain ⟨v0, nv0, rfl, ⟨t0, rfl⟩, hrest⟩ : ∃ v0 nv0, nv = v0 :: nv0 ∧ IsI v0 f ∧ All2 IsI nv0 rest := by
    cases nv with
    | nil => exact hnv.elim
    | cons v0 nv0 => exact ⟨v0, nv0, rfl, hnv.1, hnv.2⟩
  -- first
  refine s_cons ?_
  refine s_assign (.inl ⟨rfl, rfl, rfl⟩) ?_
  refine e_sub (e_local (v := .ref na) m2 (e_int fun t2 => ?_))
  refine subT_int G.F (.inl rfl) (.inr hnu) (by decide) (x := .int f t0) rfl (by rw [sizeLine_eq]; lia) ?_
  have m3 : (setLo m' "first" (.int f t0)) "numbers" = some (.ref na) := (setLo_ne (by decide)).trans m2
  have m4 : (setLo m' "first" (.int f t0)) "first" = some (.int f t0) := setLo_self ..
  show WS C _ (execs _ _) _ _ _ _ _
  generalize setLo m' "first" (.int f t0) = m'' at m3 m4
  -- shelf, head
  refine s_cons ?_
  refine s_pairS ho'.h (.inl ⟨rfl, rfl, rfl⟩) (.inl ⟨rfl, rfl, rfl⟩) ?_
  refine e_tuple ?_
  refine a_cons (e_call rfl (e_glob G.G G.g_bag (cw_S G.f_bag rfl (a_cons (e_bin (e_local (v := .int f t0) m4 (e_int fun t3 => ?_)))))))
  refine o_div (by decide) (PyProof.noPylong_small (by decide)) fun t4 => ?_
  refine a_cons (e_bin (e_int fun t5 => e_bin (e_local (v := .int f t0) m4 (e_int fun t6 => ?_))))
  refine o_mod (by decide) fun t7 => ?_
  refine o_add fun t8 => ?_
  refine a_nil ?_
  refine Classical.byContradiction fun hn => ?_
  obtain ⟨w5, hw5, hw5e⟩ := fmod_nat f 5 (by decide)
  refine hn ?_
  clear hn
  have hmany : (2 : Int) + f.fmod 5 = ((2 + w5 : Nat) : Int) := by
    have : f.fmod 5 = (w5 : Int) := hw5e
    rw [this]; lia
  rw [hmany]
  refine c_bagZ G (ho'.le (by decide)) (by lia) fun N3 ra rv rj e3 hra hrv => ?_
  refine a_cons (e_bin (e_bin (e_local (v := .int f t0) m4 (e_int fun t9 => ?_))))
  refine o_div (by decide) (PyProof.noPylong_small (by decide)) fun t10 => ?_
  refine e_int fun t11 => ?_
  refine o_mod (by decide) fun t12 => ?_
  refine Classical.byContradiction fun hn => ?_
  obtain ⟨w3, hw3, hw3e⟩ := fmod_nat (f.fdiv 5) 3 (by decide)
  refine hn ?_
  clear hn
  have hhead : (f.fdiv 5).fmod 3 = (w3 : Int) := hw3e
  rw [hhead]
  refine a_nil ⟨sz_ok (by simp), fun tp htp => ?_⟩
  refine ⟨tp, _, _, _, rfl, .inr (.head _), ?_⟩
  have hshl : (bagZ (f.fdiv 15) (2 + w5)).length = 2 + w5 := by unfold bagZ; rw [List.length_map, List.length_range]
  have k1 : (setLo (setLo m'' "head" (.int (w3 : Int) t12)) "shelf" (.ref ra)) "numbers" = some (.ref na) := (setLo_ne (by decide)).trans ((setLo_ne (by decide)).trans m3)
  have k2 : (setLo (setLo m'' "head" (.int (w3 : Int) t12)) "shelf" (.ref ra)) "head" = some (.int (w3 : Int) t12) := (setLo_ne (by decide)).trans (setLo_self ..)
  have k3 : (setLo (setLo m'' "head" (.int (w3 : Int) t12)) "shelf" (.ref ra)) "shelf" = some (.ref ra) := setLo_self ..
  show WS C _ (execs _ _) _ _ _ _ _
  generalize setLo (setLo m'' "head" (.int (w3 : Int) t12)) "shelf" (.ref ra) = m3' at k1 k2 k3
  have e4 : Ext N2 ((tp, tup [.ref ra, .int (w3 : Int) t12] 0) :: (ra, lst rv rj) :: N3) := e3.c2
  have hs4 : IsPL ((tp, tup [.ref ra, .int (w3 : Int) t12] 0) :: (ra, lst rv rj) :: N3) (.ref ra) (bagZ (f.fdiv 15) (2 + w5)) := ⟨ra, rv, rj, rfl, .tail _ (.head _), hrv.mono (Ext.refl _).c2⟩
  have hP4 := e4 _ hP1
  have hnu4 := e4 _ hnu
  generalize (tp, tup [.ref ra, .int (w3 : Int) t12] 0) :: (ra, lst rv rj) :: N3 = N4 at e4 hs4 hP4 hnu4
  generalize hsh : bagZ (f.fdiv 15) (2 + w5) = sh at hs4 hshl
  clear e4 hP1 hnu e3
  -- bags
  refine s_cons ?_
  refine s_assign (.inr ⟨_, rfl, rfl, rfl⟩) ?_
  refine e_comp G.F ?_
  refine e_bin (e_sub (e_local (v := .ref na) k1 (e_slice (e_part1 (e_int fun t13 => e_part0 (e_part0 fun sl2 hsl2 => ?_))))))
  refine subT_slice G.F (.inl rfl) (.inr (.tail _ hnu4)) (.inr (.head _)) (.int _ _) .none .none (by decide) (by rw [sizeLine_eq]; lia) (pick_from 1) fun da hda => ?_
  refine e_list (a_cons (e_int fun t14 => a_cons (e_int fun t15 => a_nil ⟨sz_ok (by simp), fun ea hea => ?_⟩)))
  have hvt' : nv0.length ≤ 3 := by simp at hvt; lia
  refine o_addL G.F (.inr (.tail _ (.head _))) (.inr (.head _)) (by rw [sizeLine_eq]; simp; lia) fun za hza => ?_
  have e5 : Ext N4 ((za, lst ((Value.int f t0 :: nv0).drop 1 ++ [.int 179 t14, .int 10 t15]) 0) :: (ea, lst [.int 179 t14, .int 10 t15] 0) :: (da, lst ((Value.int f t0 :: nv0).drop 1) 0) :: (sl2, slc (.int 1 t13) .none .none) :: N4) := (Ext.refl _).c4
  have hz5 : (za, lst ((Value.int f t0 :: nv0).drop 1 ++ [.int 179 t14, .int 10 t15]) 0) ∈ (za, lst ((Value.int f t0 :: nv0).drop 1 ++ [.int 179 t14, .int 10 t15]) 0) :: (ea, lst [.int 179 t14, .int 10 t15] 0) :: (da, lst ((Value.int f t0 :: nv0).drop 1) 0) :: (sl2, slc (.int 1 t13) .none .none) :: N4 := .head _
  have hzv : All2 IsI ((Value.int f t0 :: nv0).drop 1 ++ [.int 179 t14, .int 10 t15]) (rest ++ [179, 10]) := All2.append (by simpa using hrest) ⟨⟨t14, rfl⟩, ⟨t15, rfl⟩, trivial⟩
  generalize (za, lst ((Value.int f t0 :: nv0).drop 1 ++ [.int 179 t14, .int 10 t15]) 0) :: (ea, lst [.int 179 t14, .int 10 t15] 0) :: (da, lst ((Value.int f t0 :: nv0).drop 1) 0) :: (sl2, slc (.int 1 t13) .none .none) :: N4 = N5 at e5 hz5
  generalize (Value.int f t0 :: nv0).drop 1 ++ [.int 179 t14, .int 10 t15] = zv at hz5 hzv
  obtain ⟨zs, hzs⟩ : ∃ zs : List Int, zs = rest ++ [179, 10] := ⟨_, rfl⟩
  rw [← hzs] at hzv
  have hrl : rest.length ≤ 3 := by simp at hn4l; lia
  have hzsl : zs.length = rest.length + 2 := by rw [hzs]; simp
  have hzl' : zv.length = rest.length + 2 := by rw [hzv.length, hzsl]
  refine src_list G.F ho'.h (.inl rfl) (.inr hz5) (fun i ys N' => Ext N5 N' ∧ PLs N' ys ((zs.map bagOf).take i)) ⟨Ext.refl _, trivial⟩ ?_ (fun Cf => ?_) ?_
  · rintro i ys N' ⟨e, hy⟩
    have := hy.length
    rw [List.length_take, List.length_map] at this
    exact ⟨⟨0, .inr (e _ hz5)⟩, by rw [sizeLine_eq]; lia⟩
  · rintro i ys N' mm x I D k hi ⟨e, hy⟩ hx
    obtain ⟨z, hz, t16, rfl⟩ := hzv.get' hx
    refine as_name rfl (.inl ⟨rfl, rfl, rfl⟩) ?_
    refine tests_nil ?_
    refine e_call rfl (e_glob G.G G.g_bag (cw_S G.f_bag rfl (a_cons (e_bin (e_local (v := .int z t16) (setLo_self ..) (e_int fun t17 => ?_))))))
    refine o_div (by decide) (PyProof.noPylong_small (by decide)) fun t18 => ?_
    refine a_cons (e_bin (e_local (v := .int z t16) (setLo_self ..) (e_int fun t19 => ?_)))
    refine o_mod (by decide) fun t20 => ?_
    refine a_nil ?_
    refine Classical.byContradiction fun hn => ?_
    obtain ⟨w4, hw4, hw4e⟩ := fmod_nat z 4 (by decide)
    refine hn ?_
    clear hn
    have hw4' : z.fmod 4 = (w4 : Int) := hw4e
    rw [hw4']
    refine c_bagZ G (ho'.le (by decide)) (by lia) fun N6 r6 v6 j6 e6 hr6 hv6 => ?_
    refine ⟨(e.trans e6).c1, ?_⟩
    rw [List.take_add_one, List.getElem?_map, hz]
    refine (hy.mono e6.c1).append ⟨⟨r6, v6, j6, rfl, .head _, ?_⟩, trivial⟩
    have : bagOf z = bagZ (z.fdiv 4) w4 := by unfold bagOf; rw [hw4']; rfl
    rw [this]
    exact hv6.mono (Ext.cons _ _)
  rintro bv N6 ba nb ⟨e6, hbv⟩ hba
  rw [List.take_of_length_le (by simp; lia)] at hbv
  have e7 : Ext N4 ((ba, lst bv nb) :: N6) := (e5.trans e6).c1
  have hb7 : (ba, lst bv nb) ∈ (ba, lst bv nb) :: N6 := .head _
  have hbv7 := PLs.mono hbv (Ext.cons (ba, lst bv nb) N6)
  have hs7 := hs4.mono e7
  have hP7 := e7 _ hP4
  show WS C _ (execs _ _) _ _ _ _ _
  generalize (ba, lst bv nb) :: N6 = N7 at e7 hb7 hbv7 hs7 hP7
  clear e7 hbv e6 e5 hz5 hs4 hP4 hnu4
  have j2 : (setLo m3' "bags" (.ref ba)) "head" = some (.int (w3 : Int) t12) := (setLo_ne (by decide)).trans k2
  have j3 : (setLo m3' "bags" (.ref ba)) "shelf" = some (.ref ra) := (setLo_ne (by decide)).trans k3
  have j4 : (setLo m3' "bags" (.ref ba)) "bags" = some (.ref ba) := setLo_self ..
  show WS C _ (execs _ _) _ _ _ _ _
  generalize setLo m3' "bags" (.ref ba) = m4' at j2 j3 j4
  have hbagl : (zs.map bagOf).length = rest.length + 2 := by rw [List.length_map, hzsl]
  have hbag3 : ∀ b ∈ zs.map bagOf, b.length ≤ 3 := fun b hb => by
    obtain ⟨z, _, rfl⟩ := List.mem_map.mp hb
    exact bagOf_le z
  have hask2 : 2 ≤ ((zs.map bagOf).flatMap askd).length := by
    rw [hzs, List.map_append, List.flatMap_append, List.length_append, List.map_cons, List.flatMap_cons, List.length_append, ask179]
    lia
  have hask15 : ((zs.map bagOf).flatMap askd).length ≤ 15 := by
    have := flat_len (f := askd) (k := 3) (zs.map bagOf) fun b hb => Nat.le_trans (askd_le b) (hbag3 b hb)
    lia
  generalize zs.map bagOf = bags at hbv7 hbagl hbag3 hask2 hask15
  have hbvl := hbv7.length
  -- stock
  refine s_cons ?_
  refine s_assign (.inl ⟨rfl, rfl, rfl⟩) ?_
  refine e_call rfl (e_glob G.G G.g_row (cw_S G.f_row rfl (a_cons (e_local (v := .ref ra) j3 (a_cons (e_local (v := .int (w3 : Int) t12) j2 (a_nil ?_)))))))
  refine c_row H (ho'.le (by decide)) hs7 (by lia) fun N8 st Ds sv sn e8 hst hDs hsrow hsp => ?_
  have i2 : (setLo m4' "stock" (.ref st)) "head" = some (.int (w3 : Int) t12) := (setLo_ne (by decide)).trans j2
  have i3 : (setLo m4' "stock" (.ref st)) "shelf" = some (.ref ra) := (setLo_ne (by decide)).trans j3
  have i4 : (setLo m4' "stock" (.ref st)) "bags" = some (.ref ba) := (setLo_ne (by decide)).trans j4
  have i5 : (setLo m4' "stock" (.ref st)) "stock" = some (.ref st) := setLo_self ..
  show WS C _ (execs _ _) _ _ _ _ _
  generalize setLo m4' "stock" (.ref st) = m5' at i2 i3 i4 i5
  -- orders
  refine s_cons ?_
  refine s_assign (.inr ⟨_, rfl, rfl, rfl⟩) ?_
  refine e_comp G.F ?_
  refine e_cell (v := .ref ba) (.top (x := "bags") i4 rfl) ?_
  refine src_list G.F ho'.h (.inl rfl) (.inr (e8 _ hb7)) (fun i ys N' => Ext N8 N' ∧ ∃ rs, All2 (fun v (r : Addr × Addr) => v = .ref r.1) ys rs ∧ Shop N' rs (bags.take i) st Ds (w3 : Int) sh) ⟨Ext.refl _, [], trivial, ⟨rfl, fun i r b h => by simp at h, ⟨sv, sn, hsrow, hsp⟩, by simp⟩⟩ ?_ (fun Cf => ?_) ?_
  · rintro i ys N' ⟨e, rs, hy, S⟩
    have h1 := hy.length
    have h2 := S.len
    rw [List.length_take] at h2
    exact ⟨⟨nb, .inr (e _ (e8 _ hb7))⟩, by rw [sizeLine_eq]; lia⟩
  · rintro i ys N' mm x I D k hi ⟨e, rs, hy, S⟩ hx
    refine Classical.byContradiction fun hn => ?_
    obtain ⟨b, hbi, hxb⟩ := hbv7.get' hx
    refine hn ?_
    clear hn
    have hb3 := hbag3 b (List.mem_of_getElem? hbi)
    refine as_name rfl (.inl ⟨rfl, rfl, rfl⟩) ?_
    refine tests_nil ?_
    refine e_call rfl (e_glob G.G G.g_row (cw_S G.f_row rfl (a_cons (e_local (v := x) (setLo_self ..) (a_cons (e_int fun t17 => a_nil ?_))))))
    refine c_row H (ho'.le (by decide)) (hxb.mono (e8.trans e)) (by lia) fun N9 row Dr rv9 rn9 e9 hrow hDr hrr hrp => ?_
    refine ⟨e.trans e9, rs ++ [(row, Dr)], hy.append ⟨rfl, trivial⟩, ?_⟩
    rw [List.take_add_one, hbi]
    refine (S.mono e9).snoc ⟨rv9, rn9, hrr, hrp⟩ fun hm => ?_
    rcases List.mem_cons.mp hm with h | h
    · obtain ⟨_, _, r1, _⟩ := S.stock
      exact hrow _ r1.obj h.symm
    · obtain ⟨r, hr, hre⟩ := List.mem_map.mp h
      refine Classical.byContradiction fun hn => ?_
      obtain ⟨j, hj⟩ := List.getElem?_of_mem hr
      obtain ⟨c, hc⟩ := S.get hj
      obtain ⟨_, _, r1, _⟩ := S.rows j r c hj hc
      refine hn ?_
      clear hn
      exact hrow _ r1.obj hre
  rintro ov N9 oa no ⟨e9, rs, hov, S⟩ hoa
  rw [hbvl, List.take_length] at S
  have e10 : Ext N7 ((oa, lst ov no) :: N9) := (e8.trans e9).c1
  have ho10 : (oa, lst ov no) ∈ (oa, lst ov no) :: N9 := .head _
  have S10 := S.mono (Ext.cons (oa, lst ov no) N9)
  have hb10 := e10 _ hb7
  have hbv10 := PLs.mono hbv7 e10
  have hs10 := hs7.mono e10
  have hP10 := e10 _ hP7
  show WS C _ (execs _ _) _ _ _ _ _
  generalize (oa, lst ov no) :: N9 = N10 at ho10 S10 hb10 hbv10 hs10 hP10
  clear e10 S e9 e8 hb7 hbv7 hs7 hP7 hsrow hsp
  have u2 : (setLo m5' "orders" (.ref oa)) "head" = some (.int (w3 : Int) t12) := (setLo_ne (by decide)).trans i2
  have u3 : (setLo m5' "orders" (.ref oa)) "shelf" = some (.ref ra) := (setLo_ne (by decide)).trans i3
  have u4 : (setLo m5' "orders" (.ref oa)) "bags" = some (.ref ba) := (setLo_ne (by decide)).trans i4
  have u5 : (setLo m5' "orders" (.ref oa)) "stock" = some (.ref st) := (setLo_ne (by decide)).trans i5
  have u6 : (setLo m5' "orders" (.ref oa)) "orders" = some (.ref oa) := setLo_self ..
  show WS C _ (execs _ _) _ _ _ _ _
  generalize setLo m5' "orders" (.ref oa) = m6' at u2 u3 u4 u5 u6
  -- apart
  refine s_cons ?_
  refine s_if ?_
  refine t_not ?_
  refine t_plain (fun _ => rfl) ?_
  refine e_call rfl (e_glob G.G G.g_apart (cw_S G.f_apart rfl (a_cons ?_)))
  refine e_comp2 G.F ?_
  refine e_cell (v := .ref ba) (.top (x := "bags") u4 rfl) ?_
  refine src_list2 G.F ho'.h (.inl rfl) (.inr hb10) (fun i ys N' => Ext N10 N' ∧ PcL N' ys ((bags.take i).flatMap askd)) ⟨Ext.refl _, trivial⟩ ?_ (fun Cf => ?_) ?_
  · rintro i ys N' ⟨e, hy⟩
    exact ⟨nb, .inr (e _ hb10)⟩
  · rintro i ys N' mm x I D k hi ⟨e, hy⟩ hx
    refine Classical.byContradiction fun hn => ?_
    obtain ⟨b, hbi, hxb⟩ := hbv10.get' hx
    refine hn ?_
    clear hn
    have hb3 := hbag3 b (List.mem_of_getElem? hbi)
    have hyl := hy.length
    have hyl2 : ((bags.take i).flatMap askd).length ≤ 15 := by
      have := flat_len (f := askd) (k := 3) (bags.take i) fun b hb => Nat.le_trans (askd_le b) (hbag3 b (List.mem_of_mem_take hb))
      rw [List.length_take] at this; lia
    refine as_name rfl (.inl ⟨rfl, rfl, rfl⟩) ?_
    refine e_call rfl (e_glob G.G G.g_asked (cw_S G.f_asked rfl (a_cons (e_local (v := x) (setLo_self ..) (a_nil ?_)))))
    refine c_asked G (ho'.le (by decide)) (hxb.mono e) (by lia) fun N11 l6 w6 k6 e11 hl6 hw6 => ?_
    have hwl := hw6.length
    have hal := askd_le b
    refine ⟨_, _, _, _, _, fun j zs N'' => Ext N10 N'' ∧ (l6, lst w6 k6) ∈ N'' ∧ PcL N'' w6 (askd b) ∧ PcL N'' zs ((bags.take i).flatMap askd ++ (askd b).take j) ∧ j ≤ w6.length, ItOf.list G.F (.inl rfl), Iter.list (vs := w6) (cl := .type "list") (d := none) ho'.h, ⟨k6, .inr (.head _)⟩, ⟨(e.trans e11).c1, .head _, hw6.mono (Ext.cons _ _), ?_, Nat.zero_le _⟩, ?_, ?_, ?_⟩
    · rw [List.take_zero, List.append_nil]; exact hy.mono e11.c1
    · rintro j zs N'' ⟨ee, hl, _, hz, hj⟩
      have hzl := hz.length
      rw [List.length_append, List.length_take] at hzl
      exact ⟨⟨k6, .inr hl⟩, by rw [sizeLine_eq]; lia⟩
    · rintro j zs N'' mm2 y I2 D2 k2' hj ⟨ee, hl, hdp2, hz, _⟩ hy2
      refine Classical.byContradiction fun hn => ?_
      obtain ⟨p, hpj, hyp⟩ := hdp2.get' hy2
      refine hn ?_
      clear hn
      refine as_name rfl (.inl ⟨rfl, rfl, rfl⟩) ?_
      refine tests_nil ?_
      refine e_local (v := y) (setLo_self ..) ?_
      refine ⟨ee, hl, hdp2, ?_, hj⟩
      rw [List.take_add_one, hpj, ← List.append_assoc]
      exact hz.append ⟨hyp, trivial⟩
    · rintro zs N'' ⟨ee, hl, hdp2, hz, _⟩
      refine ⟨ee, ?_⟩
      rw [hwl, List.take_length] at hz
      rw [List.take_add_one, hbi, List.flatMap_append]
      simpa using hz
  rintro av N11 aa na2 ⟨e11, hav⟩ haa
  rw [hbvl, List.take_length] at hav
  refine a_cons (e_local (v := .ref ra) u3 (a_nil ?_))
  refine c_apart H T VI (ho'.le (by decide)) (fr' m6') ⟨aa, av, na2, rfl, .head _, hav.mono (Ext.cons _ _)⟩ (hs10.mono e11.c1) hask2 (by lia) (by lia) (by lia) fun N12 e12 => ?_
  refine o_tBool ?_
  show (if false = true then _ else _)
  refine ite_n (by decide) ?_
  refine s_nil ?_
  have e12' : Ext N10 N12 := e11.c1.trans e12
  -- key
  refine s_cons ?_
  refine s_assign (.inl ⟨rfl, rfl, rfl⟩) ?_
  obtain ⟨vn, hvn⟩ := KF.nm
  refine e_call rfl (e_glob G.G G.g_key (cw_S KF.f rfl (a_cons ?_)))
  refine e_lam G.G T LW.t LW.h LW.q fun lam c' ct N13 e13 hl13 hlam => ?_
  refine a_nil ?_
  have e13' := e12'.trans e13
  have hP13 := e13' _ hP10
  refine WE.fn fun fn => ?_
  refine c_key G.G KF.Y KF.F (ho'.le (by decide)) KF.f hvn KF.ob KF.ob' KF.bc KF.cd hP13 fun cM o tb x Sl f0 f1 f2 f3 f4 f5 y Ek N14 hod hcM e14 HK => ?_
  have kx : KeepX [P0] N13 N14 := fun p hp hn => e14 p (updL_but _ _ _ p hp fun e => hn (by rw [e]; exact .head _))
  have ec : ExC N13 N14 := fun p hp hc => kx p hp fun hm => hc (by
    have h0 := List.mem_singleton.mp hm
    have : p.2 = tabObj #[] := fn p.1 p.2 (tabObj #[]) hp (by rw [h0]; exact hP13)
    rw [this])
  have hlam14 : LamA N14 lam (lamFd lamCmp "law.<locals>.<lambda>" [] ((mg "__name__").getD .none) c' ct) := by
    refine ⟨?_, ?_⟩
    · obtain ⟨ol, a, b, c⟩ := hlam.obj
      exact ⟨ol, ec _ a (by rw [show (lam, ol).2.cls = ol.cls from rfl, b]; simp), b, c⟩
    · obtain ⟨c, oc, a, b, hic⟩ := hlam.code
      refine ⟨c, oc, a, kx _ b fun hm => ?_, hic⟩
      have h0 : c = P0 := List.mem_singleton.mp hm
      have : oc = tabObj #[] := fn c oc (tabObj #[]) b (by rw [h0]; exact hP13)
      refine Classical.byContradiction fun hn => ?_
      obtain ⟨vs, t, hd, hv⟩ := hic
      refine hn ?_
      clear hn
      rw [this] at hd
      cases hd
      cases hv
  refine WS.mono (Q := fun f N' _ => f = .ret (.bool true) ∧ ExP N14 N') ?_ ?_
  · exact law_B (pm := pm) (th := t12) (shv := .ref ra) H T V RF LF LL ho' fr' (ec.lst (e13' _ ho10)) hov (ec.lst (e13' _ hb10)) (ec.pls (PLs.mono hbv10 e13')) (ec.pl (hs10.mono e13')) HK hcM hod hlam14 (ec.shop (S10.mono e13')) (by lia) (by lia) (by lia) (by lia) hbag3 (by lia)
      ((setLo_ne (by decide)).trans u6) ((setLo_ne (by decide)).trans u5) ((setLo_ne (by decide)).trans u2) (setLo_self ..) ((setLo_ne (by decide)).trans u3) ((setLo_ne (by decide)).trans u4)
  · rintro f N' m' ⟨rfl, ep⟩
    exact ⟨rfl, tb, ep _ (e14 _ (updL_self _ _ _)) (.inr (.inl ⟨_, rfl⟩))⟩
end Mine.Internal
end
section
open PySem PySem.W PyProof.Rows PySem.Calls PySem.Spec PySem.Builtin.List PySem.Builtin
set_option maxRecDepth 100000
namespace Mine.Internal
noncomputable def exclA : List Addr := [84, 171, 190, 214, 128]
noncomputable def restF (h : Heap) : Frag := (List.range 219).filterMap fun b => if exclA.contains b then none else (h.get? b).map fun o => (b, o)
noncomputable def mkK (K₁ : Frag) (h : Heap) : Frag := K₁.filter (fun p => !(exclA.contains p.1)) ++ restF h
noncomputable def mkC (prog : Program) (w : World) (K : Frag) (os : OsState) : Cx where
  prog := prog
  w := w
  K := K
  tabs := [84, 171, 190, 214]
  qual := fun a => if a = 84 then "_Accumulator.__len__.<locals>.<genexpr>" else if a = 171 then "_law_line.<locals>.<lambda>" else if a = 190 then "_law_served.<locals>.<lambda>" else "law.<locals>.<lambda>"
  os := os
noncomputable def fdQ (K : Frag) (a : Addr) : Option FuncData := match ((K.lookup a).map fun o => o.data : Option Data) with | some (.func fd) => some fd | _ => none
noncomputable def pmQ (K : Frag) (a : Addr) : Value := (fdQ K a).elim .none (·.pyModule)
noncomputable def ctQ (K : Frag) (a : Addr) : Value := (fdQ K a).elim .none (·.closureTuple)
noncomputable def fnQ (K : Frag) (a : Addr) : Option (Value × Data) := (K.lookup a).map fun o => (o.cls, o.data)
noncomputable def fieldsD : Data → Array Value
  | .fields vs => vs
  | _ => #[]
theorem fieldsD_or (d : Data) : d = .fields (fieldsD d) ∨ fieldsD d = #[] := by cases d <;> first | exact .inl rfl | exact .inr rfl
noncomputable def strV : Value → Option Str
  | .str q _ => some q
  | _ => none
theorem strV_or (v : Value) : (∃ q t, v = .str q t) ∨ strV v = none := by cases v <;> first | exact .inl ⟨_, _, rfl⟩ | exact .inr rfl
noncomputable def seqD : Data → Option (Array Value)
  | .seq vs _ => some vs
  | _ => none
theorem seqD_or (d : Data) : (∃ vs n, d = .seq vs n) ∨ seqD d = none := by cases d <;> first | exact .inl ⟨_, _, rfl⟩ | exact .inr rfl
noncomputable def strQ (K : Frag) (c : Addr) (i : Nat) : Option Str := ((K.lookup c).bind fun o => (fieldsD o.data)[i]?).bind strV
noncomputable def seqQ (K : Frag) (a : Addr) : Option (Array Value) := (K.lookup a).bind fun o => seqD o.data
noncomputable def intQ : Value → Option Int
  | .int i _ => some i
  | _ => none
theorem intQ_or (v : Value) : (∃ q t, v = .int q t) ∨ intQ v = none := by cases v <;> first | exact .inl ⟨_, _, rfl⟩ | exact .inr rfl
theorem intQ_is {v : Value} {i : Int} (h : intQ v = some i) : ∃ t, v = .int i t := by
  rcases intQ_or v with ⟨q, t, rfl⟩ | e
  · cases h; exact ⟨_, rfl⟩
  · cases e.symm.trans h
structure FnK (K : Frag) (a : Addr) (fd : FuncData) : Prop where
  o : fnQ K a = some (.type "function", .func fd)
  c : strQ K (a - 1) 1 = some fd.qualname
noncomputable abbrev sFd (K : Frag) (i : Nat) (a : Addr) (dv : Value) : FuncData := mkFd (stOf i) a (stName (stOf i)) [] dv (pmQ K a) .none
noncomputable abbrev cFd (K : Frag) (j : Nat) (a : Addr) (clo : List (Str × Addr)) (dv : Value) : FuncData := mkFd (clOf j) a (("_Accumulator." : Str) ++ stName (clOf j)) clo dv (pmQ K a) (ctQ K a)
theorem strQ_is {K : Frag} {c : Addr} {i : Nat} {q : Str} (h : strQ K c i = some q) : ∃ o vs t, K.lookup c = some o ∧ o.data = .fields vs ∧ vs[i]? = some (.str q t) := by
  obtain ⟨v, hv, hq⟩ := Option.bind_eq_some_iff.mp h
  obtain ⟨o, ho, hi⟩ := Option.bind_eq_some_iff.mp hv
  rcases strV_or v with ⟨q, t, rfl⟩ | e
  · cases hq
    rcases fieldsD_or o.data with e | e
    · exact ⟨o, _, t, ho, e, hi⟩
    · rw [e] at hi; cases hi
  · cases e.symm.trans hq
theorem seqQ_is {K : Frag} {a : Addr} {vs : Array Value} (h : seqQ K a = some vs) : ∃ o n, K.lookup a = some o ∧ o.data = .seq vs n := by
  obtain ⟨o, ho, hi⟩ := Option.bind_eq_some_iff.mp h
  rcases seqD_or o.data with ⟨us, n, e⟩ | e
  · rw [e] at hi; cases hi; exact ⟨o, n, ho, e⟩
  · cases e.symm.trans hi
theorem fnQ_is {K : Frag} {a : Addr} {c : Value} {d : Data} (h : fnQ K a = some (c, d)) : ∃ o, K.lookup a = some o ∧ o.cls = c ∧ o.data = d := by
  unfold fnQ at h
  refine Classical.byContradiction fun hn => ?_
  obtain ⟨o, h1, h2⟩ := Option.map_eq_some_iff.mp h
  refine hn ?_
  clear hn
  cases h2
  exact ⟨o, h1, rfl, rfl⟩
variable {C : Cx} {N : Led} {Φ : Frs} {mg mb : Lo}
theorem FnK.has {a : Addr} {fd : FuncData} (h : FnK C.K a fd) (hc : fd.code = .ref (a - 1)) : HasFn C [] a fd := by
  refine Classical.byContradiction fun hn => ?_
  obtain ⟨o, h1, h2, h3⟩ := fnQ_is h.o
  obtain ⟨oc, vs, t, h4, h5, h6⟩ := strQ_is h.c
  refine hn ?_
  clear hn
  exact ⟨⟨o, .inl h1, h3⟩, ⟨o, .inl h1, h2⟩, ⟨a - 1, oc, hc, .inl h4, vs, t, h5, h6⟩⟩
theorem FnK.s {i : Nat} {a : Addr} {dv : Value} (h : FnK C.K a (sFd C.K i a dv)) : FnS C i a dv := ⟨_, h.has rfl⟩
theorem FnK.m {j : Nat} {a : Addr} {clo : List (Str × Addr)} {dv : Value} (h : FnK C.K a (cFd C.K j a clo dv)) : FnC C j a clo dv := ⟨_, _, h.has rfl⟩
structure Chk (C : Cx) : Prop where
  accF : AccF C
  s_opq : nsIn C.K cStatics "thirdparty.any" = some none
  s_cd : (clsIn C.K accA).map (fun cd => (cd.mro, cd.qualname, cd.hasDict, cd.abstract, cd.hasDel)) = some (accMro, ("_Accumulator" : Str), true, false, false)
  s_mty : typeIn C.K (.ref accA) = some (.type "type")
  s_modu : mroIn C.K accA (.type "module") = some false
  s_self : mroIn C.K accA (.ref accA) = some true
  s_pop : alongIn C.K "pop" [.type "list", .type "object"] = some (some (.builtin "list.pop"))
  s_len : alongIn C.K "__len__" [.type "list", .type "object"] = some (some (.builtin "list.__len__"))
  s_init : alongIn C.K "__init__" [.type "list", .type "object"] = some (some (.builtin "list.__init__"))
  t_set : findIn C.K (.ref accA) "__setattr__" = some (some (.builtin "object.__setattr__"))
  t_obj : mroIn C.K accA (.type "object") = some true
  w_sl : (C.K.lookup accA).map (fun o => (o.slots.toList[4]?).join) = some (some (.builtin "list.__new__"))
  w_call : specialIn C.K (.ref accA) "__call__" = some (some (.builtin "type.__call__"))
  w_typ : instIn C.K (.ref accA) (.type "type") = some true
  k_sld : FnK C.K 28 (sFd C.K 2 28 .none)
  k_uld : FnK C.K 35 (sFd C.K 3 35 .none)
  k_cmp : FnK C.K 42 (sFd C.K 4 42 .none)
  k_bag : FnK C.K 147 (sFd C.K 13 147 .none)
  k_row : FnK C.K 154 (sFd C.K 14 154 .none)
  k_held : FnK C.K 159 (sFd C.K 15 159 .none)
  k_signs : FnK C.K 164 (sFd C.K 16 164 .none)
  k_asked : FnK C.K 169 (sFd C.K 17 169 .none)
  k_line : FnK C.K 176 (sFd C.K 18 176 .none)
  k_due : FnK C.K 181 (sFd C.K 19 181 .none)
  k_bare : FnK C.K 188 (sFd C.K 20 188 .none)
  k_served : FnK C.K 193 (sFd C.K 21 193 .none)
  k_own : FnK C.K 198 (sFd C.K 22 198 .none)
  k_apart : FnK C.K 205 (sFd C.K 23 205 .none)
  k_again : FnK C.K 212 (sFd C.K 24 212 .none)
  k_law : FnK C.K 217 (sFd C.K 25 217 .none)
  k_key : FnK C.K 133 (sFd C.K 9 133 .none)
  k_red : FnK C.K 142 (sFd C.K 11 142 (.ref 135))
  m_init : FnK C.K 59 (cFd C.K 0 59 [("__class__", 46)] (.ref 51))
  m_push : FnK C.K 66 (cFd C.K 1 66 [] .none)
  m_pop : FnK C.K 82 (cFd C.K 3 82 [("__class__", 46)] .none)
  m_len : FnK C.K 89 (cFd C.K 4 89 [] .none)
  m_reset : FnK C.K 104 (cFd C.K 6 104 [] (.ref 97))
  m_pc : FnK C.K 119 (cFd C.K 8 119 [("__class__", 46)] .none)
  file58 : (strQ C.K 58 2).map (fun f => C.prog.main.file == f) = some true
  file81 : (strQ C.K 81 2).map (fun f => C.prog.main.file == f) = some true
  file118 : (strQ C.K 118 2).map (fun f => C.prog.main.file == f) = some true
  cell : fnQ C.K 46 = some (.type "cell", .cell (some (.ref accA)))
  top : (C.prog.main.scope.names.lookup ("super" : Str)).isSome = false
  d97 : seqQ C.K 97 = some #[.none]
  d51 : (seqQ C.K 51).map (fun vs => vs.toList.map intQ) = some [some 0]
  d135 : seqQ C.K 135 = some #[.ref 134]
  im : (C.K.lookup 134).map (·.cls) = some (.type "object")
  bm : nsIn C.K mainGlobals "__builtins__" = some (some (.ref 4))
  bmo : (C.K.lookup 4).map (fun o => (o.cls, o.dict, o.data)) = some (.type "module", some builtinsNs, .plain)
  st : (C.K.lookup cStatics).isSome = true
  gm : (C.K.lookup mainGlobals).isSome = true
  bn : (C.K.lookup builtinsNs).isSome = true
  sm : (C.K.lookup sysModules).isSome = true
  nm : (nsIn C.K mainGlobals "__name__").map (·.isSome) = some true
  h84 : codeHdIn C.K 88 84 = true
  h171 : codeHdIn C.K 175 171 = true
  h190 : codeHdIn C.K 192 190 = true
  h214 : codeHdIn C.K 216 214 = true
  h128 : codeHdIn C.K 132 128 = true
  g_bag : nsIn C.K mainGlobals "_law_bag" = some (some (.ref 147))
  g_row : nsIn C.K mainGlobals "_law_row" = some (some (.ref 154))
  g_held : nsIn C.K mainGlobals "_law_held" = some (some (.ref 159))
  g_signs : nsIn C.K mainGlobals "_law_signs" = some (some (.ref 164))
  g_asked : nsIn C.K mainGlobals "_law_asked" = some (some (.ref 169))
  g_line : nsIn C.K mainGlobals "_law_line" = some (some (.ref 176))
  g_due : nsIn C.K mainGlobals "_law_due" = some (some (.ref 181))
  g_bare : nsIn C.K mainGlobals "_law_bare" = some (some (.ref 188))
  g_served : nsIn C.K mainGlobals "_law_served" = some (some (.ref 193))
  g_own : nsIn C.K mainGlobals "_law_own" = some (some (.ref 198))
  g_apart : nsIn C.K mainGlobals "_law_apart" = some (some (.ref 205))
  g_again : nsIn C.K mainGlobals "_law_again" = some (some (.ref 212))
  g_sld : nsIn C.K mainGlobals "sorted_list_difference" = some (some (.ref 28))
  g_uld : nsIn C.K mainGlobals "unorderable_list_difference" = some (some (.ref 35))
  g_cmp : nsIn C.K mainGlobals "three_way_cmp" = some (some (.ref 42))
  g_acc : nsIn C.K mainGlobals "_Accumulator" = some (some (.ref 122))
  g_key : nsIn C.K mainGlobals "cmp_to_key" = some (some (.ref 133))
  g_red : nsIn C.K mainGlobals "reduce" = some (some (.ref 142))
  g_im : nsIn C.K mainGlobals "_initial_missing" = some (some (.ref 134))
  n_len : nsIn C.K mainGlobals "len" = some none
  n_sum : nsIn C.K mainGlobals "sum" = some none
  n_range : nsIn C.K mainGlobals "range" = some none
  n_sorted : nsIn C.K mainGlobals "sorted" = some none
  n_list : nsIn C.K mainGlobals "list" = some none
  n_super : nsIn C.K mainGlobals "super" = some none
  n_ValueError : nsIn C.K mainGlobals "ValueError" = some none
  n_IndexError : nsIn C.K mainGlobals "IndexError" = some none
  n_iter : nsIn C.K mainGlobals "iter" = some none
  n_object : nsIn C.K mainGlobals "object" = some none
  b_len : nsIn C.K builtinsNs "len" = some (some (.builtin "len"))
  b_sum : nsIn C.K builtinsNs "sum" = some (some (.builtin "sum"))
  b_range : nsIn C.K builtinsNs "range" = some (some (.type "range"))
  b_sorted : nsIn C.K builtinsNs "sorted" = some (some (.builtin "sorted"))
  b_list : nsIn C.K builtinsNs "list" = some (some (.type "list"))
  b_super : nsIn C.K builtinsNs "super" = some (some (.type "super"))
  b_ValueError : nsIn C.K builtinsNs "ValueError" = some (some (.type "ValueError"))
  b_IndexError : nsIn C.K builtinsNs "IndexError" = some (some (.type "IndexError"))
  b_iter : nsIn C.K builtinsNs "iter" = some (some (.builtin "iter"))
  b_object : nsIn C.K builtinsNs "object" = some (some (.type "object"))
  b___build_class__ : nsIn C.K builtinsNs "__build_class__" = some (some (.builtin "__build_class__"))
structure Nms (C : Cx) (mg mb : Lo) : Prop where
  g : ∀ x r, nsIn C.K mainGlobals x = some r → mg x = r
  b : ∀ x r, nsIn C.K builtinsNs x = some r → mb x = r
theorem Chk.prg (X : Chk C) (G : Glo C mg mb) (n : Nms C mg mb) : Prg C mg mb where
  G := G
  F := X.accF
  g_bag := n.g _ _ X.g_bag
  g_row := n.g _ _ X.g_row
  g_held := n.g _ _ X.g_held
  g_signs := n.g _ _ X.g_signs
  g_asked := n.g _ _ X.g_asked
  g_line := n.g _ _ X.g_line
  g_due := n.g _ _ X.g_due
  g_bare := n.g _ _ X.g_bare
  g_served := n.g _ _ X.g_served
  g_own := n.g _ _ X.g_own
  g_apart := n.g _ _ X.g_apart
  g_again := n.g _ _ X.g_again
  g_sld := n.g _ _ X.g_sld
  g_uld := n.g _ _ X.g_uld
  g_cmp := n.g _ _ X.g_cmp
  g_acc := n.g _ _ X.g_acc
  g_key := n.g _ _ X.g_key
  g_red := n.g _ _ X.g_red
  g_im := n.g _ _ X.g_im
  n_len := n.g _ _ X.n_len
  b_len := n.b _ _ X.b_len
  n_sum := n.g _ _ X.n_sum
  b_sum := n.b _ _ X.b_sum
  n_range := n.g _ _ X.n_range
  b_range := n.b _ _ X.b_range
  n_sorted := n.g _ _ X.n_sorted
  b_sorted := n.b _ _ X.b_sorted
  n_list := n.g _ _ X.n_list
  b_list := n.b _ _ X.b_list
  f_sld := X.k_sld.s
  f_uld := X.k_uld.s
  f_cmp := X.k_cmp.s
  f_bag := X.k_bag.s
  f_row := X.k_row.s
  f_held := X.k_held.s
  f_signs := X.k_signs.s
  f_asked := X.k_asked.s
  f_line := X.k_line.s
  f_due := X.k_due.s
  f_bare := X.k_bare.s
  f_served := X.k_served.s
  f_own := X.k_own.s
  f_apart := X.k_apart.s
  f_again := X.k_again.s
  f_law := X.k_law.s
theorem Chk.cd (X : Chk C) : ∃ cd, clsIn C.K accA = some cd ∧ cd.mro = accMro ∧ cd.qualname = "_Accumulator" ∧ cd.hasDict = true ∧ cd.abstract = false ∧ cd.hasDel = false := by
  refine Classical.byContradiction fun hn => ?_
  obtain ⟨cd, h1, h2⟩ := Option.map_eq_some_iff.mp X.s_cd
  refine hn ?_
  clear hn
  simp only [Prod.mk.injEq] at h2
  exact ⟨cd, h1, h2.1, h2.2.1, h2.2.2.1, h2.2.2.2.1, h2.2.2.2.2⟩
theorem Chk.sup (X : Chk C) : SupF C where
  opq := X.s_opq
  cd := let ⟨cd, h1, h2, _⟩ := X.cd; ⟨cd, h1, h2⟩
  qual := fun cd h => by
    refine Classical.byContradiction fun hn => ?_
    obtain ⟨cd', h1, _, h3, _⟩ := X.cd
    refine hn ?_
    clear hn
    rw [h1] at h; cases h; exact h3
  mty := X.s_mty
  modu := X.s_modu
  self := X.s_self
  pop := X.s_pop
  len := X.s_len
  init := X.s_init
theorem Chk.att (X : Chk C) : AttF C where
  set := X.t_set
  obj := X.t_obj
  dict := fun cd h => by
    refine Classical.byContradiction fun hn => ?_
    obtain ⟨cd', h1, _, _, h3, _⟩ := X.cd
    refine hn ?_
    clear hn
    rw [h1] at h; cases h; exact h3
theorem Chk.new (X : Chk C) : NewF C where
  cls := by
    refine Classical.byContradiction fun hn => ?_
    obtain ⟨cd, h1, h2, _, _, h5, h6⟩ := X.cd
    refine hn ?_
    clear hn
    have hs := X.w_sl
    obtain ⟨oc, od, sl, hk⟩ := clsIn_some h1
    rw [hk] at hs
    exact ⟨oc, od, cd, sl, hk, h5, h6, Option.some.inj hs, h2⟩
  call := X.w_call
  typ := X.w_typ
theorem codeFile_of {c : Addr} (h : (strQ C.K c 2).map (fun f => C.prog.main.file == f) = some true) : CodeFile C c := by
  refine Classical.byContradiction fun hn => ?_
  obtain ⟨f, h1, h2⟩ := Option.map_eq_some_iff.mp h
  obtain ⟨o, vs, t, h3, h4, h5⟩ := strQ_is h1
  refine hn ?_
  clear hn
  exact ⟨o, vs, f, t, h3, h4, h5, h2⟩
theorem Chk.accP (X : Chk C) (G : Glo C mg mb) (n : Nms C mg mb) : AccP C mg mb where
  P := X.prg G n
  S := X.sup
  f_init := X.m_init.m
  f_push := X.m_push.m
  f_pop := X.m_pop.m
  f_len := X.m_len.m
  f_reset := X.m_reset.m
  f_pc := X.m_pc.m
  c_init := codeFile_of X.file58
  c_pop := codeFile_of X.file81
  c_pc := codeFile_of X.file118
  cell := let ⟨o, h1, _, h3⟩ := fnQ_is X.cell; ⟨o, h1, h3⟩
  top := X.top
  n_super := n.g _ _ X.n_super
  b_super := n.b _ _ X.b_super
  d_reset := let ⟨o, n, h1, h2⟩ := seqQ_is X.d97; ⟨o, n, h1, h2⟩
  d_init := by
    refine Classical.byContradiction fun hn => ?_
    obtain ⟨vs, h1, h2⟩ := Option.map_eq_some_iff.mp X.d51
    obtain ⟨o, n, h3, h4⟩ := seqQ_is h1
    obtain ⟨l⟩ := vs
    refine hn ?_
    clear hn
    cases l with
    | nil => cases h2
    | cons v l => cases l with
      | cons w l => exact absurd (congrArg List.length h2) (by simp)
      | nil =>
        have h5 : intQ v = some 0 := by injection h2
        obtain ⟨t, rfl⟩ := intQ_is h5
        exact ⟨o, n, t, h3, h4⟩
theorem Chk.all (X : Chk C) (G : Glo C mg mb) (n : Nms C mg mb) : All C mg mb := ⟨X.accP G n, X.att, X.new⟩
theorem isSome_ex {α : Type} {o : Option α} (h : o.isSome = true) : ∃ x, o = some x := by
  cases o with
  | none => cases h
  | some x => exact ⟨x, rfl⟩
theorem Chk.tab (X : Chk C) (n : Nms C mg mb) (h : 84 ∈ C.tabs) (hq : C.qual 84 = "_Accumulator.__len__.<locals>.<genexpr>") : TabF C mg mb where
  bmain := by
    refine Classical.byContradiction fun hn => ?_
    obtain ⟨o, h1, h2⟩ := Option.map_eq_some_iff.mp X.bmo
    refine hn ?_
    clear hn
    simp only [Prod.mk.injEq] at h2
    exact ⟨4, o, n.g _ _ X.bm, by decide, by decide, h1, h2.1, h2.2.1, h2.2.2⟩
  cst := isSome_ex X.st
  t84 := h
  h84 := X.h84
  q84 := hq
theorem Chk.valE (X : Chk C) (n : Nms C mg mb) : ValE mg mb := ⟨n.g _ _ X.n_ValueError, n.b _ _ X.b_ValueError⟩
theorem Chk.idxE (X : Chk C) (n : Nms C mg mb) : IdxE mg mb := ⟨n.g _ _ X.n_IndexError, n.b _ _ X.b_IndexError⟩
theorem Chk.redF (X : Chk C) (n : Nms C mg mb) : RedF C mg mb where
  f := let ⟨o, k, h1, h2⟩ := seqQ_is X.d135; ⟨135, o, k, X.k_red.s, h1, h2⟩
  im := let ⟨o, h1, h2⟩ := Option.map_eq_some_iff.mp X.im; ⟨o, h1, h2⟩
  n := n.g _ _ X.n_iter
  b := n.b _ _ X.b_iter
theorem Chk.keyF (X : Chk C) (G : Glo C mg mb) (n : Nms C mg mb) : KeyF C mg mb 128 where
  Y := ⟨isSome_ex X.sm, X.s_opq⟩
  F := ⟨G.g, by
    refine Classical.byContradiction fun hn => ?_
    obtain ⟨o, h1, h2⟩ := Option.map_eq_some_iff.mp X.bmo
    refine hn ?_
    clear hn
    simp only [Prod.mk.injEq] at h2
    exact ⟨4, o, n.g _ _ X.bm, by decide, by decide, h1, h2.1, h2.2.1, h2.2.2⟩, isSome_ex X.gm⟩
  f := X.k_key.s
  nm := by
    refine Classical.byContradiction fun hn => ?_
    obtain ⟨r, h1, h2⟩ := Option.map_eq_some_iff.mp X.nm
    refine hn ?_
    clear hn
    obtain ⟨v, rfl⟩ := isSome_ex h2
    exact ⟨v, n.g _ _ h1⟩
  ob := n.g _ _ X.n_object
  ob' := n.b _ _ X.b_object
  bc := n.b _ _ X.b___build_class__
  cd := fun N Φ s _ R => codeHd_of_K R.inK X.h128
end Mine.Internal
end
section
open PySem PySem.W PyProof.Rows PySem.Calls PySem.Spec PySem.Builtin.List PySem.Builtin
set_option maxRecDepth 100000
namespace Mine.Internal
theorem lookup_filter {q : Addr → Bool} {a : Addr} : ∀ {K : Frag}, (K.filter (fun p => q p.1)).lookup a = if q a = true then K.lookup a else none
  | [] => by simp
  | (b, o) :: K => by
    rw [List.filter_cons]
    by_cases hb : q b = true
    · rw [if_pos hb, List.lookup_cons, List.lookup_cons, lookup_filter (K := K)]
      cases e : a == b with
      | true =>
        have := eq_of_beq e
        subst this
        simp [hb]
      | false => rfl
    · rw [if_neg hb, lookup_filter (K := K), List.lookup_cons]
      cases e : a == b with
      | true =>
        have := eq_of_beq e
        subst this
        simp [hb]
      | false => rfl
theorem lookup_app {a : Addr} {M : Frag} : ∀ {K : Frag}, (K ++ M).lookup a = (K.lookup a).or (M.lookup a)
  | [] => rfl
  | (b, o) :: K => by
    rw [List.cons_append, List.lookup_cons, List.lookup_cons, lookup_app (K := K)]
    cases a == b <;> rfl
theorem rest_lookup {h : Heap} {a : Addr} : ∀ {l : List Addr}, (l.filterMap fun b => if exclA.contains b then none else (h.get? b).map fun o => (b, o)).lookup a = if a ∈ l ∧ exclA.contains a = false then h.get? a else none
  | [] => by simp
  | b :: l => by
    have ih := rest_lookup (h := h) (a := a) (l := l)
    rw [List.filterMap_cons]
    by_cases hb : exclA.contains b = true
    · rw [if_pos hb]
      dsimp only
      rw [ih]
      by_cases hc : a ∈ l ∧ exclA.contains a = false
      · rw [if_pos hc, if_pos ⟨.tail _ hc.1, hc.2⟩]
      · rw [if_neg hc, if_neg]
        rintro ⟨h1, h2⟩
        rcases List.mem_cons.mp h1 with rfl | h1
        · rw [hb] at h2; cases h2
        · exact hc ⟨h1, h2⟩
    · rw [if_neg hb]
      cases ho : h.get? b with
      | none =>
        dsimp only [Option.map_none]
        rw [ih]
        by_cases hc : a ∈ l ∧ exclA.contains a = false
        · rw [if_pos hc, if_pos ⟨.tail _ hc.1, hc.2⟩]
        · rw [if_neg hc]
          split
          · rename_i h1
            rcases List.mem_cons.mp h1.1 with rfl | h3
            · exact ho.symm
            · exact absurd ⟨h3, h1.2⟩ hc
          · rfl
      | some o =>
        dsimp only [Option.map_some]
        rw [List.lookup_cons, ih]
        cases e : a == b with
        | true =>
          have := eq_of_beq e
          subst this
          dsimp only
          rw [if_pos ⟨.head _, by simpa using hb⟩, ho]
        | false =>
          dsimp only
          have hne : a ≠ b := by simpa using e
          by_cases hc : a ∈ l ∧ exclA.contains a = false
          · rw [if_pos hc, if_pos ⟨.tail _ hc.1, hc.2⟩]
          · rw [if_neg hc, if_neg]
            rintro ⟨h1, h2⟩
            rcases List.mem_cons.mp h1 with h3 | h3
            · exact hne h3
            · exact hc ⟨h3, h2⟩
theorem mkK_lookup {K₁ : Frag} {h : Heap} {a : Addr} : (mkK K₁ h).lookup a = (if exclA.contains a = false then K₁.lookup a else none).or (if a < 219 ∧ exclA.contains a = false then h.get? a else none) := by
  unfold mkK restF
  rw [lookup_app, lookup_filter (q := fun b => !(exclA.contains b)), rest_lookup]
  simp only [List.mem_range]
  congr 1
  cases exclA.contains a <;> rfl
theorem mkK_in {K₁ : Frag} {h : Heap} (KX : K₁.In h) : (mkK K₁ h).In h := by
  intro a o e
  rw [mkK_lookup] at e
  cases hc : (if exclA.contains a = false then K₁.lookup a else none) with
  | some o' =>
    rw [hc] at e
    cases e
    split at hc
    · exact KX a _ hc
    · cases hc
  | none =>
    rw [hc] at e
    have e : (if a < 219 ∧ exclA.contains a = false then h.get? a else none) = some o := e
    split at e
    · exact e
    · cases e
theorem mkK_excl {K₁ : Frag} {h : Heap} {a : Addr} (he : exclA.contains a = true) : (mkK K₁ h).lookup a = none := by
  rw [mkK_lookup, he]
  simp
theorem mkK_all {K₁ : Frag} {h : Heap} (KX : K₁.In h) {a : Addr} {o : Obj} (ha : a < 219) (he : exclA.contains a = false) (e : h.get? a = some o) : (mkK K₁ h).lookup a = some o := by
  have : (mkK K₁ h).lookup a ≠ none := by
    rw [mkK_lookup, if_pos he, if_pos ⟨ha, he⟩, e]
    cases K₁.lookup a <;> simp
  cases hk : (mkK K₁ h).lookup a with
  | none => exact absurd hk this
  | some o' =>
    have := mkK_in KX a o' hk
    rw [e] at this
    rw [Option.some.inj this]
theorem nms_of {K : Frag} {h : Heap} {D : Addr} {m : Lo} (KI : K.In h) (hn : h.Ns D m) {x : Str} {r : Option Value} (e : nsIn K D x = some r) : m x = r := by
  obtain ⟨c, d, es, ep, sl, hk, hv⟩ := nsIn_some e
  obtain ⟨o, es', ep', ho, hd, _, hf⟩ := hn
  rw [KI _ _ hk] at ho
  cases ho
  cases hd
  rw [← hf x]
  unfold nsFind findBy
  rw [← Array.find?_toList]
  rcases hv with ⟨e, he, rfl⟩ | ⟨he, _, rfl⟩ <;> rw [he] <;> rfl
theorem ns_keep {C : Cx} {h : Heap} {D : Addr} {m : Lo} (KI : C.K.In h) (hn : h.Ns D m) (hs : (C.K.lookup D).isSome = true) : ∀ h' : Heap, (∀ b o, C.g b = some o → h'.get? b = some o) → h'.Ns D m := by
  intro h' hk
  obtain ⟨o, es, ep, ho, r⟩ := hn
  obtain ⟨o', ho'⟩ := isSome_ex hs
  have := KI _ _ ho'
  rw [ho] at this
  cases this
  exact ⟨o, es, ep, hk _ _ ho', r⟩
theorem ints_all2 : ∀ {vs : List Value} {ns : List Int}, IntsAre vs ns → All2 IsI vs ns
  | _, _, .nil => trivial
  | _, _, .cons n t h => ⟨⟨t, rfl⟩, ints_all2 h⟩
theorem caller_ok : AOk callerA 17 := ⟨by decide, by decide, rfl⟩
theorem tabs_excl : ∀ P ∈ ([84, 171, 190, 214] : List Addr), exclA.contains P = true := by decide
theorem tabs_ne : ∀ P ∈ ([84, 171, 190, 214] : List Addr), (128 : Addr) ≠ P := by decide
theorem tabs_mem : ∀ P ∈ ([84, 171, 190, 214] : List Addr), P ∈ exclA := by decide
theorem excl_or {b : Addr} (h : b ∈ exclA) : b = 128 ∨ b ∈ ([84, 171, 190, 214] : List Addr) := by
  have h : b ∈ ([84, 171, 190, 214] ++ [128] : List Addr) := h
  rcases List.mem_append.mp h with h | h
  · exact .inr h
  · exact .inl (List.mem_singleton.mp h)
theorem fin_call {prog : Program} {w : World} {s₁ : Shared} {K₁ : Frag} {mg mb : Lo} {c : ClaimW} {cl : Str → Option Addr} {mean : ExcName → Option Value} {args : List WData} {vals : List Value} {ns : List Int} {k : Nat} {E : Value → Shared → Prop}
    (X : Chk (mkC prog w (mkK K₁ s₁.heap) s₁.os)) (KX : K₁.In s₁.heap) (htm : exclA.map (fun P => K₁.lookup P) = exclA.map fun _ => some (tabObj #[])) (T1 : s₁.heap.Ns mainGlobals mg) (T2 : s₁.heap.Ns builtinsNs mb) (T3 : s₁.heap.NoLimit) (hsz : s₁.heap.objs.size = 219) (hg : s₁.gens = #[])
    (hsc : s₁.heap.get? 218 = some (lst vals k)) (hi : IntsAre vals ns) (hl : vals.length ≤ 63) (hr : ∀ cls, c.raises args cls = false) (hp : c.post args (.bool true) args = true) :
    wpAny (model prog w) callerA (PySem.call (.ref 217) [.ref 218]) (fun v s' => GoodWG c cl mean args s₁ (.ok (.ret v)) s') E s₁ := by
  have KI : (mkK K₁ s₁.heap).In s₁.heap := mkK_in KX
  have ht : ∀ P ∈ exclA, K₁.lookup P = some (tabObj #[]) := List.map_inj_left.mp htm
  have tb0 : ∀ P ∈ exclA, s₁.heap.get? P = some (tabObj #[]) := fun P hP => KX _ _ (ht P hP)
  have R : Rep (mkC prog w (mkK K₁ s₁.heap) s₁.os) [(128, tabObj #[])] [] s₁ := by
    refine ⟨⟨fun b => (mkK K₁ s₁.heap).lookup b, ?_⟩, rfl, .of_eq hg⟩
    refine ⟨fun b o e => e, fun b o e => KI b o e, fun p hp => ?_, fun p hp => ?_, (fun f hf => nomatch hf), (fun a ha => nomatch ha), (fun a ha => nomatch ha), List.nodup_nil, fun P hP => ⟨?_, fun p hp => ?_, (fun h => nomatch h), #[], ?_, trivial, (fun pos cv e => nomatch e)⟩⟩
    · rw [List.mem_singleton.mp hp]; exact tb0 128 (by decide)
    · rw [List.mem_singleton.mp hp]; exact .inl (mkK_excl (by decide))
    · exact mkK_excl (tabs_excl P hP)
    · rw [List.mem_singleton.mp hp]
      exact tabs_ne P hP
    · exact tb0 P (tabs_mem P hP)
  have n : Nms (mkC prog w (mkK K₁ s₁.heap) s₁.os) mg mb := ⟨fun x r e => nms_of KI T1 e, fun x r e => nms_of KI T2 e⟩
  have G : Glo (mkC prog w (mkK K₁ s₁.heap) s₁.os) mg mb := ⟨ns_keep KI T1 X.gm, ns_keep KI T2 X.bn, fun h' hk => by
    obtain ⟨mc, h1, h2⟩ := T3
    exact ⟨mc, ns_keep (C := mkC prog w (mkK K₁ s₁.heap) s₁.os) KI h1 X.st h' hk, h2⟩⟩
  have T := X.tab n (by show (84 : Addr) ∈ [84, 171, 190, 214]; decide) rfl
  refine (c_law (P := 190) (Pl := 171) (Pw := 214) (P0 := 128) (sc := 218) (X.all G n) T (X.valE n) (X.idxE n) (X.redF n) (X.keyF G n) ⟨by show (190 : Addr) ∈ [84, 171, 190, 214]; decide, X.h190, rfl⟩ ⟨by show (171 : Addr) ∈ [84, 171, 190, 214]; decide, X.h171, rfl⟩ ⟨by show (214 : Addr) ∈ [84, 171, 190, 214]; decide, X.h214, rfl⟩ caller_ok ⟨[], rfl, fun _ h => nomatch h⟩
    (.inl (mkK_all KX (by decide) (by decide) hsc)) (ints_all2 hi) hl (.head _)).use R fun v s' N' R' ⟨e, tb, htb⟩ => ?_
  subst e
  refine ⟨.inl ⟨_, _, [], rfl, hr, ReadsW.bool true, hp, fun _ => ⟨List.nodup_nil, fun _ hm => nomatch hm⟩⟩, ⟨fun b o e => ?_, fun b o e => ?_⟩, R'.os, R'.gens⟩
  all_goals
    have hb : b < 219 := by rw [← hsz]; exact Heap.lt_size e
    by_cases he : exclA.contains b = true
  · have hbm : b ∈ exclA := by simpa using he
    have h0 := tb0 b hbm
    rw [e] at h0
    have h0 := Option.some.inj h0
    subst h0
    have CT : isCodeTable s₁.heap b := by
      have cc : ∀ c P, codeHdIn (mkK K₁ s₁.heap) c P = true → s₁.heap.get? P = some (tabObj #[]) → isCodeTable s₁.heap P := fun c P h1 h2 => ((codeHd_of_K KI h1).tab h2).isCodeTable
      have hb5 : b = 84 ∨ b = 171 ∨ b = 190 ∨ b = 214 ∨ b = 128 := by
        have : b ∈ ([84, 171, 190, 214, 128] : List Addr) := hbm
        simpa using this
      rcases hb5 with rfl | rfl | rfl | rfl | rfl
      · exact cc 88 84 X.h84 e
      · exact cc 175 171 X.h171 e
      · exact cc 192 190 X.h190 e
      · exact cc 216 214 X.h214 e
      · exact cc 132 128 X.h128 e
    by_cases h128 : b = 128
    · subst h128
      exact .inr (.inl ⟨CT, rfl, #[], tb, rfl, by rw [R'.get htb]; simp [tabObj]⟩)
    · obtain ⟨ps, h1, _, _⟩ := R'.tabAt (P := b) ((excl_or hbm).resolve_left h128)
      exact .inr (.inl ⟨CT, rfl, #[], ps, rfl, by rw [h1]; simp⟩)
  · exact .inl (R'.st (mkK_all KX hb (by simpa using he) e))
  · have hbm : b ∈ exclA := by simpa using he
    by_cases h128 : b = 128
    · subst h128
      exact ⟨_, R'.get htb⟩
    · obtain ⟨ps, h1, _, _⟩ := R'.tabAt (P := b) ((excl_or hbm).resolve_left h128)
      exact ⟨_, h1⟩
  · exact ⟨_, R'.st (mkK_all KX hb (by simpa using he) e)⟩
end Mine.Internal
end
section
open PySem PySem.W PySem.W.X PyProof.Rows PySem.Calls
set_option maxRecDepth 100000
namespace Mine.Internal
noncomputable def lawQ : Program := { PySem.Challenge.pw_il0050_01 with main := { PySem.Challenge.pw_il0050_01.main with body := PySem.Challenge.pw_il0050_01.main.body.drop 25 } }
noncomputable def lawLoose : List Str := ["_wall", "sorted_list_difference", "unorderable_list_difference", "three_way_cmp", "EMPTYSTRING", "_Accumulator", "cmp_to_key", "_initial_missing", "reduce", "_law_bag", "_law_row", "_law_held", "_law_signs", "_law_asked", "_law_line", "_law_due", "_law_bare", "_law_served", "_law_own", "_law_apart", "_law_again"]
noncomputable def heapOf (x : Option Shared) : Heap := match x with | some s => s.heap | none => {}
noncomputable def endH (w : World) : Heap := heapOf (openEnds treeTable PySem.Challenge.pw_il0050_01 w 2404)
theorem left_of {β : Type} {x : Option Shared} {f : Shared → β} {g : β} (h : x.map (fun s => (f s, ())) = some (g, ())) : x.map (fun s => (f s, s.heap)) = some (g, heapOf x) := by
  cases x with
  | none => cases h
  | some s => exact congrArg (fun y => some (y, s.heap)) (congrArg Prod.fst (Option.some.inj h))
noncomputable def fragH (h : Heap) (n : Nat) : Frag := (List.range n).filterMap fun b => (h.get? b).map fun o => (b, o)
noncomputable def headK (w : World) : Frag := fragH (endH w) 218
structure HeadOk (w : World) : Prop where
  left : (openEnds treeTable PySem.Challenge.pw_il0050_01 w 2404).map (fun s => (openSeen lawQ lawLoose (importedModules PySem.Challenge.pw_il0050_01.main.body) (fun s => xlAt lawQ [] s && recOk [] s) true s, ())) = some (openGood lawQ lawLoose, ())
  chk : ∀ h os, Chk (mkC PySem.Challenge.pw_il0050_01 w (mkK (headK w) h) os)
  tm : exclA.map (fun P => (headK w).lookup P) = exclA.map fun _ => some (tabObj #[])
  sz : (endH w).objs.size = 218
  law : nsIn (headK w) mainGlobals "law" = some (some (.ref 217))
theorem headOk (w : World) : HeadOk w where
  left := by kernel_rfl
  chk := fun h os => by
    constructor
    all_goals first | kernel_rfl | (constructor <;> kernel_rfl)
  tm := by kernel_rfl
  sz := by kernel_rfl
  law := by kernel_rfl
theorem lawLeft : LeftO PySem.Challenge.pw_il0050_01 lawQ lawLoose (fun s => xlAt lawQ [] s && recOk [] s) (fun s => s.heap) endH 2404 := fun w => left_of (headOk w).left
theorem fragH_lookup {h : Heap} {a : Addr} : ∀ {l : List Addr} {o : Obj}, (l.filterMap fun b => (h.get? b).map fun o => (b, o)).lookup a = some o → h.get? a = some o
  | [], _, e => nomatch e
  | b :: l, o, e => by
    rw [List.filterMap_cons] at e
    cases hb : h.get? b with
    | none => rw [hb] at e; exact fragH_lookup (l := l) e
    | some o' =>
      rw [hb] at e
      dsimp only [Option.map_some] at e
      rw [List.lookup_cons] at e
      cases eb : a == b with
      | true => rw [eb] at e; rw [eq_of_beq eb, hb]; exact e
      | false => rw [eb] at e; exact fragH_lookup (l := l) e
end Mine.Internal
end
open PySem PySem.W PySem.W.X PySem.W.ZRun PyProof.Rows PySem.Calls
set_option Elab.async false
set_option maxRecDepth 100000 in
set_option maxHeartbeats 0 in
theorem PySem.Challenge.cw_il0050_01_holds : PySem.Challenge.rw_il0050_01.Holds := by
  refine holds_law (by decide +kernel) fun said => ?_
  refine holds_openX (q := Mine.Internal.lawQ) (loose := Mine.Internal.lawLoose) (Xt := fun s => xlAt Mine.Internal.lawQ [] s && recOk [] s) (XP := XL Mine.Internal.lawQ []) (Yf := fun s => s.heap) (Ya := Mine.Internal.endH) (N := 2404) Mine.Internal.lawLeft (fun s e => xl_of s (Bool.and_eq_true_iff.mp e).1) XL.keeps (by rfl) (by rfl) (by rfl) (fun s e => recFacts_of (Bool.and_eq_true_iff.mp e).2) (by rfl) said (by decide +kernel) ⟨rfl, rfl, rfl, rfl, rfl, by decide +kernel⟩ ?hw ?hc
  case hw => w_witness2
  intro w s₀ s₁ mg mb G y fa o pm cd doc dV kV ho hd hcd hD hmg hg args vals as L hpre hlay hrd hwl hlo
  have y : s₀.heap = Mine.Internal.endH w := y
  have KX : (Mine.Internal.headK w).In s₁.heap := fun a o e => L.keeps a o (by rw [y]; exact Mine.Internal.fragH_lookup e)
  refine Ground.open G ?_
  intro T B D TE TW
  wrow_args hpre hlay hrd hwl hlo
  obtain ⟨hat, hsz⟩ := script_at L
  rw [y, (Mine.Internal.headOk w).sz] at hat hsz
  subst hat
  have hfa := hmg.symm.trans (Mine.Internal.nms_of KX T.g (Mine.Internal.headOk w).law)
  cases hfa
  all_lens
  refine Mine.Internal.fin_call ((Mine.Internal.headOk w).chk _ _) KX (Mine.Internal.headOk w).tm T.g T.b T.nolimit hsz hg (script_obj L (by assumption)) (by assumption) (by omega) (fun _ => rfl) ?_
  first | rfl | wrow_post
