import PyProof.Rows.All
import Wide.All
import OpenK.AllK
import Wide.FinOn
import PySem.Challenge.RW_xl0005_01
set_option compiler.extract_closed false
set_option genSizeOf false
set_option genInjectivity false
section
open PySem PySem.W PySem.Calls PyProof.Rows PySem.Spec
set_option Elab.async false
set_option maxRecDepth 100000
namespace Mine
inductive V where
  | none
  | bool (b : Bool)
  | int (i : Int)
  | str (s : Str)
  | bytes (b : Array UInt8)
  | type (n : String)
  | bi (n : String)
  | ref (a : Addr)
  | tup (l : List V)
noncomputable def tupObj (vs : List Value) : Obj := { cls := .type "tuple", data := .seq vs.toArray }
mutual
noncomputable def VR (h : Heap) : V → Value → Prop
  | .none, v => v = .none
  | .bool b, v => v = .bool b
  | .int i, v => ∃ t, v = .int i t
  | .str s, v => ∃ t, v = .str s t
  | .bytes b, v => ∃ t, v = .bytes b t
  | .type n, v => v = .type n
  | .bi n, v => v = .builtin n
  | .ref a, v => v = .ref a
  | .tup l, v => ∃ a vs, v = .ref a ∧ h.get? a = some (tupObj vs) ∧ VRs h l vs
noncomputable def VRs (h : Heap) : List V → List Value → Prop
  | [], vs => vs = []
  | x :: l, vs => ∃ v r, vs = v :: r ∧ VR h x v ∧ VRs h l r
end
noncomputable def isTup (o : Obj) : Prop := o.cls = .type "tuple" ∧ ∃ xs n, o.data = .seq xs n
noncomputable def TK (h h' : Heap) : Prop := ∀ a o, h.get? a = some o → isTup o → h'.get? a = some o
theorem TK.refl (h : Heap) : TK h h := fun _ _ e _ => e
theorem TK.trans {h h' h'' : Heap} (a : TK h h') (b : TK h' h'') : TK h h'' := fun x o e c => b x o (a x o e c) c
theorem TK.push {h : Heap} (o : Obj) : TK h (h.push o) := fun _ _ e _ => Heap.get?_push_of_some _ e
mutual
theorem VR.mono {h h' : Heap} (k : TK h h') : ∀ {x : V} {v : Value}, VR h x v → VR h' x v
  | .none, _, H => by simpa only [VR] using H
  | .bool _, _, H => by simpa only [VR] using H
  | .int _, _, H => by simpa only [VR] using H
  | .str _, _, H => by simpa only [VR] using H
  | .bytes _, _, H => by simpa only [VR] using H
  | .type _, _, H => by simpa only [VR] using H
  | .bi _, _, H => by simpa only [VR] using H
  | .ref _, _, H => by simpa only [VR] using H
  | .tup l, v, H => by
    simp only [VR] at H ⊢
    obtain ⟨a, vs, e, g, r⟩ := H
    exact ⟨a, vs, e, k _ _ g ⟨rfl, _, _, rfl⟩, VRs.mono k r⟩
theorem VRs.mono {h h' : Heap} (k : TK h h') : ∀ {l : List V} {vs : List Value}, VRs h l vs → VRs h' l vs
  | [], _, H => by simpa only [VRs] using H
  | x :: l, vs, H => by
    simp only [VRs] at H ⊢
    obtain ⟨v, r, e, a, b⟩ := H
    exact ⟨v, r, e, VR.mono k a, VRs.mono k b⟩
end
noncomputable def Pl (o : Obj) : Prop := ¬ isTup o
theorem Pl.data {o : Obj} (h : ∀ xs n, o.data ≠ .seq xs n) (_ : ∀ vs, o.data ≠ .fields vs) : Pl o := fun ⟨_, xs, n, e⟩ => h xs n e
theorem Pl.seq {o : Obj} {xs n} (h : o.cls ≠ .type "tuple") (_ : o.data = .seq xs n) : Pl o := fun e => h e.1
theorem Pl.rec {o : Obj} {vs} (d : o.data = .fields vs) : Pl o := fun ⟨_, xs, n, e⟩ => (by rw [d] at e; cases e)
theorem Pl.fields {o : Obj} {vs} (d : o.data = .fields vs) (_ : o.cls ≠ .none) : Pl o := Pl.rec d
theorem Pl.dict {o : Obj} {es ep} (d : o.data = .dict es ep) : Pl o := .data (by rw [d]; intro _ _ e; cases e) (by rw [d]; intro _ e; cases e)
theorem Pl.cell {o : Obj} {u} (d : o.data = .cell u) : Pl o := .data (by rw [d]; intro _ _ e; cases e) (by rw [d]; intro _ e; cases e)
theorem Pl.func {o : Obj} {u} (d : o.data = .func u) : Pl o := .data (by rw [d]; intro _ _ e; cases e) (by rw [d]; intro _ e; cases e)
theorem VRs.length {h : Heap} : ∀ {l : List V} {vs : List Value}, VRs h l vs → vs.length = l.length
  | [], _, H => by simp only [VRs] at H; subst H; rfl
  | x :: l, vs, H => by
    simp only [VRs] at H
    obtain ⟨v, r, e, a, b⟩ := H
    subst e; simp [VRs.length b]
theorem VRs.cons {h : Heap} {x : V} {l : List V} {v : Value} {vs : List Value} (a : VR h x v) (b : VRs h l vs) : VRs h (x :: l) (v :: vs) := by
  simp only [VRs]; exact ⟨v, vs, rfl, a, b⟩
theorem VRs.nil {h : Heap} : VRs h [] [] := by simp only [VRs]
theorem VRs.append {h : Heap} : ∀ {l l' : List V} {vs vs' : List Value}, VRs h l vs → VRs h l' vs' → VRs h (l ++ l') (vs ++ vs')
  | [], _, _, _, H, H' => by simp only [VRs] at H; subst H; exact H'
  | x :: l, l', vs, vs', H, H' => by
    simp only [VRs] at H
    obtain ⟨v, r, e, a, b⟩ := H
    subst e
    exact VRs.cons a (VRs.append b H')
theorem VRs.get {h : Heap} : ∀ {l : List V} {vs : List Value} {i : Nat} {x : V}, VRs h l vs → l[i]? = some x → ∃ v, vs[i]? = some v ∧ VR h x v
  | x :: l, vs, 0, y, H, e => by
    simp only [VRs] at H
    obtain ⟨v, r, e', a, b⟩ := H
    subst e'
    simp only [List.getElem?_cons_zero, Option.some.injEq] at e
    subst e
    exact ⟨v, rfl, a⟩
  | x :: l, vs, i + 1, y, H, e => by
    simp only [VRs] at H
    obtain ⟨v, r, e', a, b⟩ := H
    subst e'
    simp only [List.getElem?_cons_succ] at e ⊢
    exact VRs.get b e
  | [], _, _, _, _, e => by simp at e
theorem VRs.take {h : Heap} : ∀ {l : List V} {vs : List Value} (n : Nat), VRs h l vs → VRs h (l.take n) (vs.take n)
  | [], vs, n, H => by simp only [VRs] at H; subst H; simp [VRs.nil]
  | x :: l, vs, 0, H => by simp [VRs.nil]
  | x :: l, vs, n + 1, H => by
    simp only [VRs] at H
    obtain ⟨v, r, e', a, b⟩ := H
    subst e'
    exact VRs.cons a (VRs.take n b)
theorem VRs.drop {h : Heap} : ∀ {l : List V} {vs : List Value} (n : Nat), VRs h l vs → VRs h (l.drop n) (vs.drop n)
  | [], vs, n, H => by simp only [VRs] at H; subst H; simp [VRs.nil]
  | x :: l, vs, 0, H => H
  | x :: l, vs, n + 1, H => by
    simp only [VRs] at H
    obtain ⟨v, r, e', a, b⟩ := H
    subst e'
    exact VRs.drop n b
theorem VRs.set {h : Heap} : ∀ {l : List V} {vs : List Value} {i : Nat} {x : V} {v : Value}, VRs h l vs → VR h x v → VRs h (l.set i x) (vs.set i v)
  | [], vs, i, x, v, H, _ => by simp only [VRs] at H; subst H; simp [VRs.nil]
  | y :: l, vs, 0, x, v, H, hx => by
    simp only [VRs] at H
    obtain ⟨w, r, e', a, b⟩ := H
    subst e'
    exact VRs.cons hx b
  | y :: l, vs, i + 1, x, v, H, hx => by
    simp only [VRs] at H
    obtain ⟨w, r, e', a, b⟩ := H
    subst e'
    exact VRs.cons a (VRs.set b hx)
structure AO where
  P : Heap → Obj → Prop
  mono : ∀ {h h' : Heap} {o : Obj}, TK h h' → P h o → P h' o
noncomputable abbrev Led := List (Addr × AO)
structure Cx where
  prog : Program
  w : World
  K : Frag
  h₀ : Heap
  os : OsState
  mg : Str → Option Value
  mb : Str → Option Value
  gt : List (Addr × Addr)
  kp : List (Addr × Obj)
  gs : Array GenState
structure Cx.Low (C : Cx) : Prop where
  K : ∀ a o, C.K.lookup a = some o → C.h₀.get? a ≠ none
  g : C.h₀.get? mainGlobals ≠ none
  b : C.h₀.get? builtinsNs ≠ none
  s : C.h₀.get? cStatics ≠ none
  t : ∀ p ∈ C.gt, C.h₀.get? p.1 ≠ none ∧ C.h₀.get? p.2 ≠ none
  gt : ∀ p ∈ C.gt, ∃ ps, C.h₀.TableAt p.1 p.2 ps
  ts : ∀ p ∈ C.gt, p.2 ≠ cStatics
theorem oldK_ext {h₀ h h' : Heap} (K : OldK h₀ h) {a : Addr} (ha : h₀.get? a = none) (hx : Heap.ExtBut a h h') : OldK h₀ h' := by
  have ne : ∀ b o, h₀.get? b = some o → b ≠ a := fun b o e q => by rw [q, ha] at e; cases e
  refine ⟨fun b o e => ?_, fun b o e => let ⟨o', ho'⟩ := K.there b o e; ⟨o', hx b o' (ne b o e) ho'⟩⟩
  rcases K.old b o e with x | ⟨t, hc, vs, more, hv, x⟩ | ⟨rfl, hc, ⟨o', es, n, ho', r⟩, z⟩
  · exact .inl (hx b _ (ne b o e) x)
  · exact .inr (.inl ⟨t, hc, vs, more, hv, hx b _ (ne b o e) x⟩)
  · exact .inr (.inr ⟨rfl, hc, ⟨o', es, n, hx _ _ (ne _ o e) ho', r⟩, fun key => by rw [OldK.staticOf_congr ((hx _ _ (ne _ o e) ho').trans ho'.symm) key]; exact z key⟩)
structure Bg (C : Cx) (h : Heap) : Prop where
  low : C.Low
  old : OldK C.h₀ h
  kin : C.K.In h
  gl : h.Ns mainGlobals C.mg
  bl : h.Ns builtinsNs C.mb
  nl : h.NoLimit
  gt : ∀ p ∈ C.gt, ∃ ps, h.IsCode p.1 p.2 ps ∧ h.TableAt p.1 p.2 ps
  kept : ∀ q ∈ C.kp, h.get? q.1 = some q.2
  kpf : ∀ q ∈ C.kp, C.h₀.get? q.1 = none
noncomputable def Cx.Free (C : Cx) (a : Addr) : Prop := C.h₀.get? a = none ∧ ∀ q ∈ C.kp, q.1 ≠ a
theorem Bg.grow {C : Cx} {h h' : Heap} (B : Bg C h) (k : ∀ b o, h.get? b = some o → h'.get? b = some o) : Bg C h' where
  low := B.low
  old := B.old.step_keeps k
  kin := B.kin.keeps k
  gl := B.gl.keeps k
  bl := B.bl.keeps k
  nl := B.nl.keeps k
  gt := fun p hp => let ⟨ps, a, b⟩ := B.gt p hp; ⟨ps, a.keeps k, b.keeps k⟩
  kept := fun q hq => k _ _ (B.kept q hq)
  kpf := B.kpf
theorem Bg.ext {C : Cx} {h h' : Heap} {a : Addr} (B : Bg C h) (hf : C.Free a) (hs : Heap.ExtBut a h h') : Bg C h' :=
  have ha := hf.1
  have ne : ∀ {b}, C.h₀.get? b ≠ none → b ≠ a := fun {b} e q => e (q ▸ ha)
  { low := B.low
    old := oldK_ext B.old ha hs
    kin := fun b o e => hs _ _ (ne (B.low.K b o e)) (B.kin b o e)
    gl := B.gl.extBut hs (ne B.low.g)
    bl := B.bl.extBut hs (ne B.low.b)
    nl := let ⟨mc, x, y⟩ := B.nl; ⟨mc, x.extBut hs (ne B.low.s), y⟩
    gt := fun p hp => let ⟨ps, x, y⟩ := B.gt p hp
      ⟨ps, x.extBut hs (ne (B.low.t p hp).1) (ne (B.low.t p hp).2), y.extBut hs (ne (B.low.t p hp).1) (ne (B.low.t p hp).2)⟩
    kept := fun q hq => hs _ _ (hf.2 q hq) (B.kept q hq)
    kpf := B.kpf }
theorem Bg.new {C : Cx} {h : Heap} (B : Bg C h) {a : Addr} (ha : h.objs.size ≤ a) : C.Free a := by
  refine ⟨?_, fun q hq e => absurd (Heap.lt_size (B.kept q hq)) (by rw [e]; exact Nat.not_lt.mpr ha)⟩
  cases e : C.h₀.get? a with
  | none => rfl
  | some o =>
    obtain ⟨o', e'⟩ := B.old.there a o e
    exact absurd (Heap.lt_size e') (Nat.not_lt.mpr ha)
structure HR (C : Cx) (σ : Led) (s : Shared) : Prop where
  bg : Bg C s.heap
  own : ∀ p ∈ σ, ∃ o, s.heap.get? p.1 = some o ∧ Pl o ∧ p.2.P s.heap o
  fresh : ∀ p ∈ σ, C.Free p.1
  nd : (σ.map Prod.fst).Nodup
  gens : AllBare s.gens ∧ ∀ (i : Nat) (x : GenState), C.gs[i]? = some x → s.gens[i]? = some x
  os : s.os = C.os
theorem HR.sub {C : Cx} {σ σ' : Led} {s : Shared} (H : HR C σ s) (k : List.Sublist σ' σ) : HR C σ' s :=
  ⟨H.bg, fun p hp => H.own p (k.subset hp), fun p hp => H.fresh p (k.subset hp), (k.map _).nodup H.nd, H.gens, H.os⟩
theorem HR.perm {C : Cx} {σ σ' : Led} {s : Shared} (H : HR C σ s) (k : List.Perm σ' σ) : HR C σ' s :=
  ⟨H.bg, fun p hp => H.own p (k.subset hp), fun p hp => H.fresh p (k.subset hp), ((k.map Prod.fst).nodup_iff).mpr H.nd, H.gens, H.os⟩
inductive Pick (p : Addr × AO) : Led → Led → Prop
  | head {σ} : Pick p (p :: σ) σ
  | tail {q σ σ'} : Pick p σ σ' → Pick p (q :: σ) (q :: σ')
inductive Sb : Led → Led → Prop
  | refl {σ} : Sb σ σ
  | nil {σ} : Sb [] σ
  | take {p σ σ' τ} : Pick p σ σ' → Sb τ σ' → Sb (p :: τ) σ
  | skip {p σ τ} : Sb τ σ → Sb τ (p :: σ)
theorem Pick.perm {p : Addr × AO} {σ σ' : Led} (h : Pick p σ σ') : List.Perm (p :: σ') σ := by
  induction h with
  | head => exact .refl _
  | tail _ ih => exact (List.Perm.swap ..).trans (ih.cons _)
theorem Sb.both {σ σ' : Led} (h : Sb σ' σ) : (∀ p ∈ σ', p ∈ σ) ∧ ((σ.map Prod.fst).Nodup → (σ'.map Prod.fst).Nodup) := by
  induction h with
  | refl => exact ⟨fun _ h => h, fun h => h⟩
  | nil => exact ⟨fun _ h => (nomatch h), fun _ => List.nodup_nil⟩
  | take hp _ ih =>
    have pm := hp.perm
    refine ⟨fun q hq => ?_, fun nd => ?_⟩
    · rcases List.mem_cons.mp hq with rfl | hq
      · exact pm.subset (by simp)
      · exact pm.subset (List.mem_cons_of_mem _ (ih.1 q hq))
    · have nd' := ((pm.map Prod.fst).nodup_iff).mpr nd
      rw [List.map_cons] at nd'
      obtain ⟨n1, n2⟩ := List.nodup_cons.mp nd'
      rw [List.map_cons]
      refine List.nodup_cons.mpr ⟨fun hm => n1 ?_, ih.2 n2⟩
      obtain ⟨q, hq, e⟩ := List.mem_map.mp hm
      rw [← e]
      exact List.mem_map_of_mem (ih.1 q hq)
  | skip _ ih =>
    refine ⟨fun q hq => List.mem_cons_of_mem _ (ih.1 q hq), fun nd => ?_⟩
    rw [List.map_cons] at nd
    exact ih.2 (List.nodup_cons.mp nd).2
theorem HR.sb {C : Cx} {s : Shared} {σ σ' : Led} (k : Sb σ' σ) (H : HR C σ s) : HR C σ' s :=
  ⟨H.bg, fun p hp => H.own p (k.both.1 p hp), fun p hp => H.fresh p (k.both.1 p hp), k.both.2 H.nd, H.gens, H.os⟩
theorem HR.toks {C : Cx} {σ : Led} {h : Heap} {g : Array GenState} {d d' : Drawn} {t t' : Nat} {os : OsState} (H : HR C σ ⟨h, g, d, t, os⟩) : HR C σ ⟨h, g, d', t', os⟩ :=
  ⟨H.bg, H.own, H.fresh, H.nd, H.gens, H.os⟩
theorem HR.grow {C : Cx} {σ : Led} {s s' : Shared} (H : HR C σ s) (k : ∀ b o, s.heap.get? b = some o → s'.heap.get? b = some o)
    (hg : s'.gens = s.gens) (ho : s'.os = s.os) : HR C σ s' :=
  ⟨H.bg.grow k, fun p hp => let ⟨o, a, b, c⟩ := H.own p hp; ⟨o, k _ _ a, b, p.2.mono (fun _ _ e _ => k _ _ e) c⟩, H.fresh, H.nd, hg ▸ H.gens, ho ▸ H.os⟩
theorem HR.add {C : Cx} {σ : Led} {s s' : Shared} {a : Addr} {o : Obj} {X : AO} (H : HR C σ s) (k : ∀ b o, s.heap.get? b = some o → s'.heap.get? b = some o)
    (ha : s.heap.objs.size ≤ a) (hn : s'.heap.get? a = some o) (hc : Pl o) (hx : X.P s'.heap o) (hg : s'.gens = s.gens) (ho : s'.os = s.os) : HR C ((a, X) :: σ) s' := by
  have H' := H.grow k hg ho
  refine ⟨H'.bg, ?_, ?_, ?_, H'.gens, H'.os⟩
  · intro p hp
    rcases List.mem_cons.mp hp with rfl | hp
    · exact ⟨o, hn, hc, hx⟩
    · exact H'.own p hp
  · intro p hp
    rcases List.mem_cons.mp hp with rfl | hp
    · exact H.bg.new ha
    · exact H.fresh p hp
  · rw [List.map_cons]
    refine List.nodup_cons.mpr ⟨fun hm => ?_, H.nd⟩
    obtain ⟨p, hp, e⟩ := List.mem_map.mp hm
    obtain ⟨o', g, _⟩ := H.own p hp
    have := Heap.lt_size g
    rw [e] at this
    exact absurd ha (Nat.not_le.mpr this)
inductive LU (a : Addr) (X X' : AO) : Led → Led → Prop
  | head {σ} : LU a X X' ((a, X) :: σ) ((a, X') :: σ)
  | tail {p σ σ'} : LU a X X' σ σ' → LU a X X' (p :: σ) (p :: σ')
theorem LU.split {a : Addr} {X X' : AO} {σ σ' : Led} (h : LU a X X' σ σ') : ∃ pre post, σ = pre ++ (a, X) :: post ∧ σ' = pre ++ (a, X') :: post := by
  induction h with
  | head => exact ⟨[], _, rfl, rfl⟩
  | @tail p _ _ _ ih => obtain ⟨pre, post, e, e'⟩ := ih; exact ⟨p :: pre, post, congrArg _ e, congrArg _ e'⟩
theorem LU.mem {a : Addr} {X X' : AO} {σ σ' : Led} (U : LU a X X' σ σ') : (a, X) ∈ σ := by
  obtain ⟨pre, post, e, _⟩ := U.split
  rw [e]; simp
theorem HR.upd {C : Cx} {σ σ' : Led} {s s' : Shared} {a : Addr} {o' : Obj} {X X' : AO} (H : HR C σ s) (U : LU a X X' σ σ') (hs : Heap.SameBut a s.heap s'.heap)
    (hn : s'.heap.get? a = some o') (hc : Pl o') (hx : X'.P s'.heap o') (hg : s'.gens = s.gens) (ho : s'.os = s.os) : HR C σ' s' ∧ TK s.heap s'.heap := by
  obtain ⟨pre, post, rfl, rfl⟩ := U.split
  obtain ⟨o, g, nt, _⟩ := H.own (a, X) (by simp)
  have tk : TK s.heap s'.heap := fun b ob e c => by
    by_cases hb : b = a
    · subst hb; rw [g] at e; cases e; exact absurd c nt
    · exact (hs.2 b hb).trans e
  have nd := H.nd
  have ha : ∀ p ∈ pre ++ post, p.1 ≠ a := by
    intro p hp e
    simp only [List.map_append, List.map_cons] at nd
    have nd' := (List.perm_middle.nodup_iff).mp nd
    exact (List.nodup_cons.mp nd').1 (by rw [← List.map_append]; exact e ▸ List.mem_map_of_mem hp)
  refine ⟨⟨H.bg.ext (H.fresh (a, X) (by simp)) hs.extBut, fun p hp => ?_, fun p hp => ?_, ?_, hg ▸ H.gens, ho ▸ H.os⟩, tk⟩
  · rcases List.mem_append.mp hp with q | q
    · obtain ⟨op, x, y, z⟩ := H.own p (List.mem_append_left _ q)
      exact ⟨op, (hs.2 _ (ha p (List.mem_append_left _ q))).trans x, y, p.2.mono tk z⟩
    · rcases List.mem_cons.mp q with rfl | q
      · exact ⟨o', hn, hc, hx⟩
      · obtain ⟨op, x, y, z⟩ := H.own p (List.mem_append_right _ (.tail _ q))
        exact ⟨op, (hs.2 _ (ha p (List.mem_append_right _ q))).trans x, y, p.2.mono tk z⟩
  · rcases List.mem_append.mp hp with q | q
    · exact H.fresh p (List.mem_append_left _ q)
    · rcases List.mem_cons.mp q with rfl | q
      · exact H.fresh (a, X) (by simp)
      · exact H.fresh p (List.mem_append_right _ (.tail _ q))
  · simpa only [List.map_append, List.map_cons] using nd
theorem HR.tkUpd {C : Cx} {σ σ' : Led} {s : Shared} {h' : Heap} {a : Addr} {X X' : AO} (H : HR C σ s) (U : LU a X X' σ σ') (hs : Heap.SameBut a s.heap h') : TK s.heap h' := by
  obtain ⟨o, g, nt, _⟩ := H.own (a, X) U.mem
  intro b ob e c
  by_cases hb : b = a
  · subst hb; rw [g] at e; cases e; exact absurd c nt
  · exact (hs.2 b hb).trans e
theorem HR.del {C : Cx} {σ : Led} {s s' : Shared} {a : Addr} {X : AO} (H : HR C ((a, X) :: σ) s) (hs : Heap.ExtBut a s.heap s'.heap) (hg : s'.gens = s.gens) (ho : s'.os = s.os) : HR C σ s' ∧ TK s.heap s'.heap := by
  obtain ⟨o, g, nt, _⟩ := H.own (a, X) (by simp)
  have tk : TK s.heap s'.heap := fun b ob e c => by
    by_cases hb : b = a
    · subst hb; rw [g] at e; cases e; exact absurd c nt
    · exact hs b _ hb e
  have nd := H.nd
  rw [List.map_cons] at nd
  have hn := (List.nodup_cons.mp nd).1
  refine ⟨⟨H.bg.ext (H.fresh (a, X) (by simp)) hs, fun p hp => ?_, fun p hp => H.fresh p (.tail _ hp), (List.nodup_cons.mp nd).2, hg ▸ H.gens, ho ▸ H.os⟩, tk⟩
  obtain ⟨op, x, y, z⟩ := H.own p (.tail _ hp)
  have ne : p.1 ≠ a := fun e => hn (by have q := List.mem_map_of_mem (f := Prod.fst) hp; rw [e] at q; exact q)
  exact ⟨op, hs _ _ ne x, y, p.2.mono tk z⟩
noncomputable def Post (C : Cx) {α β : Type} (R : Heap → β → α → Prop) (h : Heap) (Q : β → Led → Prop) (a : α) (s' : Shared) : Prop :=
  ∃ b σ', HR C σ' s' ∧ R s'.heap b a ∧ TK h s'.heap ∧ Q b σ'
noncomputable abbrev No : Value → Shared → Prop := fun _ _ => False
noncomputable def WP (C : Cx) {α β : Type} (R : Heap → β → α → Prop) (A : Around) (s : Shared) (t : Sem α) (Q : β → Led → Prop) : Prop :=
  wpAny (model C.prog C.w) A t (Post C R s.heap Q) No s
noncomputable def Tr (C : Cx) {α β : Type} (R : Heap → β → α → Prop) (A : Around) (σ : Led) (t : Sem α) (Q : β → Led → Prop) : Prop := ∀ s, HR C σ s → WP C R A s t Q
section
variable {C : Cx} {α β γ δ : Type} {R : Heap → β → α → Prop} {R' : Heap → δ → γ → Prop} {A : Around} {s : Shared} {σ : Led} {Q Q' : β → Led → Prop}
theorem Post.up {h h' : Heap} {a : α} {s' : Shared} (k : TK h h') (p : Post C R h' Q a s') : Post C R h Q a s' := by
  obtain ⟨b, σ', x, y, z, q⟩ := p; exact ⟨b, σ', x, y, k.trans z, q⟩
theorem WP.mono (H : WP C R A s t Q) (k : ∀ b σ, Q b σ → Q' b σ) : WP C R A s t Q' :=
  wpAny_mono H (fun _ _ ⟨b, σ', x, y, z, q⟩ => ⟨b, σ', x, y, z, k _ _ q⟩) fun _ _ e => e
theorem WP.run {t : Sem α} {P : α → Shared → Prop} {E : Value → Shared → Prop} (H : WP C R A s t Q) (k : ∀ a s₁ b σ₁, HR C σ₁ s₁ → R s₁.heap b a → TK s.heap s₁.heap → Q b σ₁ → P a s₁) :
    wpAny (model C.prog C.w) A t P E s :=
  wpAny_mono H (fun a s₁ ⟨b, σ₁, x, y, z, q⟩ => k a s₁ b σ₁ x y z q) fun _ _ e => e.elim
theorem WP.up {t : Sem α} {h : Heap} {E : Value → Shared → Prop} (H : WP C R A s t Q) (k : TK h s.heap) : wpAny (model C.prog C.w) A t (Post C R h Q) E s :=
  wpAny_mono H (fun _ _ p => p.up k) fun _ _ e => e.elim
end
noncomputable def Cx.hold (C : Cx) (kp : List (Addr × Obj)) (gs : Array GenState) : Cx := { C with kp := kp, gs := gs }
noncomputable def Drop {β : Type} (Q : β → Led → Prop) : β → Led → Prop := fun b σ => ∃ σ', Sb σ' σ ∧ Q b σ'
theorem WP.drop {C : Cx} {α β : Type} {R : Heap → β → α → Prop} {A : Around} {s : Shared} {t : Sem α} {Q : β → Led → Prop} (H : WP C R A s t (Drop Q)) : WP C R A s t Q :=
  wpAny_mono H (fun _ _ ⟨b, σ', x, y, z, σ'', k, q⟩ => ⟨b, σ'', HR.sb k x, y, z, q⟩) fun _ _ e => e
noncomputable def Fit (n : Nat) (A : Around) : Prop := A.handled = none ∧ A.depth + n ≤ 900 ∧ A.units + 12 * n ≤ 9600
theorem Fit.le {n m : Nat} {A : Around} (h : Fit n A) (k : m ≤ n := by decide) : Fit m A := ⟨h.1, by have := h.2.1; lia, by have := h.2.2; lia⟩
theorem Fit.in1 {n : Nat} {A : Around} (h : Fit (n + 1) A) : Fit n A.in1 := ⟨h.1, by have := h.2.1; show A.depth + n ≤ 900; lia, by have := h.2.2; show A.units + 1 + 12 * n ≤ 9600; lia⟩
theorem Fit.deeper {n : Nat} {A : Around} {env : Env} (h : Fit (n + 1) A) : Fit n (A.deeper env) := ⟨h.1, by have := h.2.1; show A.depth + 1 + n ≤ 900; lia, by have := h.2.2; show A.units + 3 + 12 * n ≤ 9600; lia⟩
theorem Fit.room {n : Nat} {A : Around} (h : Fit n A) : A.depth < recursionLimit := by have := h.2.1; show A.depth < 1000; lia
theorem Fit.units {n : Nat} {A : Around} (h : Fit n A) : A.units < cLine := by have := h.2.2; show A.units < 9900; lia
end Mine
end
section
open PySem PySem.W PySem.Calls PyProof.Rows PySem.Spec
set_option Elab.async false
set_option maxRecDepth 100000
set_option linter.unusedVariables false
namespace Mine
section
variable {h : Heap} {v : Value}
theorem vr_none : VR h .none v ↔ v = .none := Iff.rfl
theorem vr_bool {b} : VR h (.bool b) v ↔ v = .bool b := Iff.rfl
theorem vr_int {i} : VR h (.int i) v ↔ ∃ t, v = .int i t := Iff.rfl
theorem vr_str {x} : VR h (.str x) v ↔ ∃ t, v = .str x t := Iff.rfl
theorem vr_bytes {x} : VR h (.bytes x) v ↔ ∃ t, v = .bytes x t := Iff.rfl
theorem vr_type {x} : VR h (.type x) v ↔ v = .type x := Iff.rfl
theorem vr_bi {x} : VR h (.bi x) v ↔ v = .builtin x := Iff.rfl
theorem vr_ref {x} : VR h (.ref x) v ↔ v = .ref x := Iff.rfl
theorem vr_tup {l} : VR h (.tup l) v ↔ ∃ a vs, v = .ref a ∧ h.get? a = some (tupObj vs) ∧ VRs h l vs := Iff.rfl
end
noncomputable def RB (_ : Heap) (b a : Bool) : Prop := a = b
noncomputable def RU (_ : Heap) (_ _ : Unit) : Prop := True
inductive AF where
  | next | brk | cont
  | ret (x : V)
noncomputable def FR (h : Heap) : AF → Flow → Prop
  | .next, f => f = .next
  | .brk, f => f = .brk
  | .cont, f => f = .cont
  | .ret x, f => ∃ v, f = .ret v ∧ VR h x v
noncomputable def RO (h : Heap) : Option V → Option Value → Prop
  | none, o => o = none
  | some x, o => ∃ v, o = some v ∧ VR h x v
structure FrIs (ks : List Str) (vs : List (Option V)) (h : Heap) (o : Obj) : Prop where
  nd : ks.Nodup
  ns : ∃ es ep, o.data = .dict es ep ∧ StrKeys es ∧ ∀ p ∈ ks.zip vs, ∀ x, p.2 = some x → ∃ w, nsFind es p.1 = some w ∧ VR h x w
theorem FrIs.mono {ks vs} {h h' : Heap} {o : Obj} (k : TK h h') (H : FrIs ks vs h o) : FrIs ks vs h' o :=
  ⟨H.nd, let ⟨es, ep, a, b, c⟩ := H.ns; ⟨es, ep, a, b, fun p hp x e => let ⟨w, q, r⟩ := c p hp x e; ⟨w, q, r.mono k⟩⟩⟩
noncomputable def AO.fr (ks : List Str) (vs : List (Option V)) : AO := ⟨fun h o => FrIs ks vs h o, FrIs.mono⟩
noncomputable def AO.cell (v : Option V) : AO := ⟨fun h o => ∃ u, o.data = .cell u ∧ RO h v u, fun {h h'} _ k ⟨u, e, r⟩ => ⟨u, e, by
  cases v with
  | none => exact r
  | some x => exact let ⟨w, e, q⟩ := r; ⟨w, e, q.mono k⟩⟩⟩
noncomputable def AO.seq (T : Value) (dc : Option Addr) (l : List V) : AO := ⟨fun h o => (o.cls = T ∧ o.dict = dc) ∧ ∃ (vs : List Value) (n : Nat), o.data = .seq vs.toArray n ∧ VRs h l vs, fun k ⟨c, vs, n, d, r⟩ => ⟨c, vs, n, d, r.mono k⟩⟩
noncomputable def AO.list (l : List V) : AO := AO.seq (.type "list") none l
inductive At (x : Str) (v : V) : List Str → List (Option V) → Prop
  | head {ks vs} : At x v (x :: ks) (some v :: vs)
  | tail {y ks u vs} : At x v ks vs → At x v (y :: ks) (u :: vs)
inductive Put (x : Str) (v : V) : List Str → List (Option V) → List (Option V) → Prop
  | head {ks u vs} : Put x v (x :: ks) (u :: vs) (some v :: vs)
  | tail {y ks u vs vs'} : Put x v ks vs vs' → Put x v (y :: ks) (u :: vs) (u :: vs')
theorem At.mem {x : Str} {v : V} {ks : List Str} {vs : List (Option V)} (h : At x v ks vs) : (x, some v) ∈ ks.zip vs := by
  induction h with
  | head => exact .head _
  | tail _ ih => exact .tail _ ih
theorem Put.key {x : Str} {v : V} {ks : List Str} {vs vs' : List (Option V)} (h : Put x v ks vs vs') : x ∈ ks := by
  induction h with
  | head => exact .head _
  | tail _ ih => exact .tail _ ih
theorem Put.mem {x : Str} {v : V} {ks : List Str} {vs vs' : List (Option V)} (h : Put x v ks vs vs') (nd : ks.Nodup) : ∀ p ∈ ks.zip vs', p = (x, some v) ∨ (p.1 ≠ x ∧ p ∈ ks.zip vs) := by
  induction h with
  | head =>
    intro p hp
    rcases List.mem_cons.mp hp with rfl | hp
    · exact .inl rfl
    · refine .inr ⟨fun e => (List.nodup_cons.mp nd).1 (e ▸ (List.of_mem_zip hp).1), ?_⟩
      exact List.mem_cons_of_mem _ hp
  | @tail y _ u _ _ h ih =>
    intro p hp
    rcases List.mem_cons.mp hp with rfl | hp
    · exact .inr ⟨fun e => (List.nodup_cons.mp nd).1 (by have e' : y = x := e; rw [e']; exact h.key), List.mem_cons_self ..⟩
    · rcases ih (List.nodup_cons.mp nd).2 p hp with e | ⟨a, b⟩
      · exact .inl e
      · exact .inr ⟨a, List.mem_cons_of_mem _ b⟩
theorem FrIs.nsOf {ks vs} {h : Heap} {a : Addr} {o : Obj} (H : FrIs ks vs h o) (ho : h.get? a = some o) : ∃ m, h.Ns a m ∧ ∀ x v, At x v ks vs → ∃ w, m x = some w ∧ VR h v w := by
  obtain ⟨es, ep, d, k, f⟩ := H.ns
  exact ⟨fun n => nsFind es n, ⟨o, es, ep, ho, d, k, fun _ => rfl⟩, fun x v hx => f _ hx.mem v rfl⟩
section
variable {C : Cx} {A : Around} {σ : Led} {env : Env} {x : Str} {pos : Pos} {v : V} {Q : V → Led → Prop}
theorem n_loc' {ks vs} {s : Shared} {P : Value → Shared → Prop} {E : Value → Shared → Prop} (H : HR C σ s) (hm : (env.locals, AO.fr ks vs) ∈ σ) (hv : At x v ks vs) (h : ∀ w, VR s.heap v w → P w s)
    (hk : env.scope.kind = .function) (hl : env.kindOf x = some .local) : wpAny (model C.prog C.w) A (loadName env x) P E s := by
  obtain ⟨o, g, _, F⟩ := H.own _ hm
  obtain ⟨m, N, f⟩ := FrIs.nsOf F g
  obtain ⟨w, e, r⟩ := f x v hv
  exact wpAny_loadName_local hk hl N e (h w r)
theorem n_loc {ks vs} (hm : (env.locals, AO.fr ks vs) ∈ σ) (hv : At x v ks vs) (h : Q v σ)
    (hk : env.scope.kind = .function := by rfl) (hl : env.kindOf x = some .local := by rfl) (hd : (x == ("__debug__" : Str)) = false := by decide) : Tr C VR A σ (eval (.Name x pos) env) Q :=
  fun s H => wpAny_Name (n_loc' H hm hv (fun w r => ⟨v, σ, H, r, TK.refl _, h⟩) hk hl) hd
theorem cellOf {c : Addr} {s : Shared} {u : Option V} (H : HR C σ s) (hm : (c, AO.cell u) ∈ σ) : ∃ w, s.heap.IsCell c w ∧ RO s.heap u w := by
  obtain ⟨o, g, _, w, d, r⟩ := H.own _ hm
  exact ⟨w, ⟨o, g, d⟩, r⟩
theorem n_cell {c : Addr} (hc : env.cells.lookup x = some c) (hm : (c, AO.cell (some v)) ∈ σ) (h : Q v σ)
    (hk : env.scope.kind = .function := by rfl) (hl : env.kindOf x = some .cell := by rfl) (hd : (x == ("__debug__" : Str)) = false := by decide) : Tr C VR A σ (eval (.Name x pos) env) Q := by
  intro s H
  obtain ⟨w, ic, u, e, r⟩ := cellOf H hm
  subst e
  exact wpAny_Name (wpAny_loadName_cell hk hl hc ic ⟨v, σ, H, r, TK.refl _, h⟩) hd
theorem n_free {c : Addr} (hc : env.cells.lookup x = some c) (hm : (c, AO.cell (some v)) ∈ σ) (h : Q v σ)
    (hk : env.scope.kind = .function := by rfl) (hl : env.kindOf x = some .free := by rfl) (hd : (x == ("__debug__" : Str)) = false := by decide) (hn : (x == ("__classdict__" : Str)) = false := by decide) : Tr C VR A σ (eval (.Name x pos) env) Q := by
  intro s H
  obtain ⟨w, ic, u, e, r⟩ := cellOf H hm
  subst e
  exact wpAny_Name (wpAny_loadName_free hk hl hc ic ⟨v, σ, H, r, TK.refl _, h⟩ hn) hd
noncomputable def flat : Value → Option V
  | .none => some .none
  | .bool b => some (.bool b)
  | .int i _ => some (.int i)
  | .str s _ => some (.str s)
  | .bytes b _ => some (.bytes b)
  | .type n => some (.type n)
  | .builtin n => some (.bi n)
  | .ref a => some (.ref a)
  | _ => Option.none
theorem flat_vr {u : Value} {v : V} {h : Heap} (e : flat u = some v) : VR h v u := by
  cases u <;> first | (cases e; first | exact rfl | exact ⟨_, rfl⟩) | cases e
theorem n_glob {u : Value} (e : C.mg x = some u) (hf : flat u = some v) (h : Q v σ) (hg : env.globals = mainGlobals := by rfl)
    (hk : env.scope.kind = .function := by rfl) (hx : env.kindOf x = some .globalImplicit := by rfl) (hd : (x == ("__debug__" : Str)) = false := by decide) : Tr C VR A σ (eval (.Name x pos) env) Q :=
  fun s H => Name_function_global hk hx (loadGlobal_global (hg ▸ H.bg.gl) e ⟨v, σ, H, flat_vr hf, TK.refl _, h⟩) hd
theorem n_built {u : Value} (e : C.mg x = none) (e' : C.mb x = some u) (hf : flat u = some v) (h : Q v σ) (hg : env.globals = mainGlobals := by rfl) (hb : env.builtins = builtinsNs := by rfl)
    (hk : env.scope.kind = .function := by rfl) (hx : env.kindOf x = some .globalImplicit := by rfl) (hd : (x == ("__debug__" : Str)) = false := by decide) : Tr C VR A σ (eval (.Name x pos) env) Q :=
  fun s H => Name_function_global hk hx (loadGlobal_builtin (hg ▸ H.bg.gl) e (hb ▸ H.bg.bl) e' ⟨v, σ, H, flat_vr hf, TK.refl _, h⟩) hd
end
section
variable {C : Cx} {A : Around} {σ σ' : Led} {env : Env} {x : Str} {v : V}
noncomputable def St (C : Cx) (A : Around) (σ : Led) (t : Value → Sem Unit) (v : V) (Q : Unit → Led → Prop) : Prop := ∀ s a, HR C σ s → VR s.heap v a → WP C RU A s (t a) Q
theorem st_loc {ks vs vs'} {Q : Unit → Led → Prop} (U : LU env.locals (AO.fr ks vs) (AO.fr ks vs') σ σ') (hv : Put x v ks vs vs') (h : Q () σ')
    (hk : env.scope.kind = .function := by rfl) (hl : env.kindOf x = some .local := by rfl) : St C A σ (storeName env x) v Q := by
  intro s a H ra
  obtain ⟨o, g, nt, F⟩ := H.own _ U.mem
  obtain ⟨es, ep, d, k, f⟩ := F.ns
  have N : s.heap.Ns env.locals (fun n => nsFind es n) := ⟨o, es, ep, g, d, k, fun _ => rfl⟩
  refine wpAny_storeName_local hl N (fun h' hn hs => ?_) (by rw [hk]; rfl)
  obtain ⟨o', es', ep', g', d', k', f'⟩ := hn
  have nt' : Pl o' := Pl.dict d'
  have tk : TK s.heap h' := HR.tkUpd H U hs
  have fi : FrIs ks vs' h' o' := ⟨F.nd, es', ep', d', k', fun p hp y e => by
    rcases hv.mem F.nd p hp with rfl | ⟨n, hp'⟩
    · cases e
      exact ⟨a, by rw [f']; simp, ra.mono tk⟩
    · obtain ⟨w, e1, e2⟩ := f p hp' y e
      exact ⟨w, by rw [f']; show (if p.1 = x then _ else _) = _; rw [if_neg n]; exact e1, e2.mono tk⟩⟩
  exact ⟨(), σ', (H.upd (s' := { s with heap := h', toks := s.toks + 1 }) U hs g' nt' fi rfl rfl).1, trivial, tk, h⟩
theorem st_cell {c : Addr} {u : Option V} {Q : Unit → Led → Prop} (hc : env.cells.lookup x = some c) (U : LU c (AO.cell u) (AO.cell (some v)) σ σ') (h : Q () σ')
    (hk : env.scope.kind = .function := by rfl) (hl : env.kindOf x = some .cell := by rfl) : St C A σ (storeName env x) v Q := by
  intro s a H ra
  obtain ⟨w, ic, _⟩ := cellOf H U.mem
  refine wpAny_storeName_cell hk hl hc ic (fun h' hc' hs => ?_)
  obtain ⟨o', g', d'⟩ := hc'
  have tk : TK s.heap h' := HR.tkUpd H U hs
  exact ⟨(), σ', (H.upd (s' := { s with heap := h' }) U hs g' (Pl.cell d') ⟨_, d', a, rfl, ra.mono tk⟩ rfl rfl).1, trivial, tk, h⟩
end
section
variable {C : Cx} {A : Around} {σ : Led} {env : Env} {Q : V → Led → Prop} {k : Nat} {pos : Pos}
noncomputable def constV : Const → Option V
  | .none => some .none
  | .bool b => some (.bool b)
  | .int i => some (.int i)
  | .str s => some (.str s)
  | .bytes b => some (.bytes b.toArray)
  | _ => Option.none
theorem e_const {c : Const} {v : V} (hc : constV c = some v) (h : Q v σ) : Tr C VR A σ (eval (.Constant c k pos) env) Q := by
  intro s H
  cases c with
  | none => cases hc; exact wpAny_pure ⟨.none, σ, H, vr_none.mpr rfl, TK.refl _, h⟩
  | bool b => cases hc; exact wpAny_pure ⟨.bool b, σ, H, vr_bool.mpr rfl, TK.refl _, h⟩
  | int i => cases hc; exact wpAny_bind (wpAny_fresh (wpAny_pure ⟨.int i, σ, H.toks, vr_int.mpr ⟨_, rfl⟩, TK.refl _, h⟩))
  | str i => cases hc; exact wpAny_bind (wpAny_fresh (wpAny_pure ⟨.str i, σ, H.toks, vr_str.mpr ⟨_, rfl⟩, TK.refl _, h⟩))
  | bytes i => cases hc; exact wpAny_bind (wpAny_fresh (wpAny_pure ⟨.bytes i.toArray, σ, H.toks, vr_bytes.mpr ⟨_, rfl⟩, TK.refl _, h⟩))
  | _ => cases hc
noncomputable def Op1 {α β : Type} (C : Cx) (R : Heap → β → α → Prop) (A : Around) (σ : Led) (t : Value → Sem α) (x : V) (Q : β → Led → Prop) : Prop :=
  ∀ s a, HR C σ s → VR s.heap x a → WP C R A s (t a) Q
noncomputable def Op2 {α β : Type} (C : Cx) (R : Heap → β → α → Prop) (A : Around) (σ : Led) (t : Value → Value → Sem α) (x y : V) (Q : β → Led → Prop) : Prop :=
  ∀ s a b, HR C σ s → VR s.heap x a → VR s.heap y b → WP C R A s (t a b) Q
noncomputable def Op3 {α β : Type} (C : Cx) (R : Heap → β → α → Prop) (A : Around) (σ : Led) (t : Value → Value → Value → Sem α) (x y z : V) (Q : β → Led → Prop) : Prop :=
  ∀ s a b c, HR C σ s → VR s.heap x a → VR s.heap y b → VR s.heap z c → WP C R A s (t a b c) Q
noncomputable def OpL {α β : Type} (C : Cx) (R : Heap → β → α → Prop) (A : Around) (σ : Led) (t : List Value → Sem α) (x : List V) (Q : β → Led → Prop) : Prop :=
  ∀ s a, HR C σ s → VRs s.heap x a → WP C R A s (t a) Q
noncomputable def Bin (C : Cx) (A : Around) (σ : Led) (op : Operator) (x y : V) (Q : V → Led → Prop) : Prop := Op2 C VR A σ (binaryOp op) x y Q
noncomputable def Cmp (C : Cx) (A : Around) (σ : Led) (op : CmpOp) (x y : V) (Q : V → Led → Prop) : Prop := Op2 C VR A σ (compareOp op) x y Q
noncomputable def Inp (C : Cx) (A : Around) (σ : Led) (op : Operator) (x y : V) (Q : V → Led → Prop) : Prop := Op2 C VR A σ (inplaceOp op) x y Q
noncomputable def Tru (C : Cx) (A : Around) (σ : Led) (x : V) (Q : Bool → Led → Prop) : Prop := Op1 C RB A σ truthy x Q
noncomputable def Una (C : Cx) (A : Around) (σ : Led) (op : UnaryOp) (x : V) (Q : V → Led → Prop) : Prop := Op1 C VR A σ (unaryOp op) x Q
variable {l r : Expr} {op : Operator} {cop : CmpOp} {uop : UnaryOp}
theorem e_bin (h : Tr C VR A σ (eval l env) (fun x σ₁ => Tr C VR A σ₁ (eval r env) (fun y σ₂ => Bin C A σ₂ op x y Q))) : Tr C VR A σ (eval (.BinOp l op r pos) env) Q :=
  fun s H => wpAny_BinOp ((h s H).run fun a s₁ x σ₁ H₁ r₁ k₁ q₁ => (q₁ s₁ H₁).run fun b s₂ y σ₂ H₂ r₂ k₂ q₂ => (q₂ s₂ a b H₂ (r₁.mono k₂) r₂).up (k₁.trans k₂))
theorem e_cmp (h : Tr C VR A σ (eval l env) (fun x σ₁ => Tr C VR A σ₁ (eval r env) (fun y σ₂ => Cmp C A σ₂ cop x y Q))) (hm : behindInMarks cop r = false := by rfl) :
    Tr C VR A σ (eval (.Compare l [cop] [r] pos) env) Q :=
  fun s H => wpAny_Compare1 ((h s H).run fun a s₁ x σ₁ H₁ r₁ k₁ q₁ => (q₁ s₁ H₁).run fun b s₂ y σ₂ H₂ r₂ k₂ q₂ => (q₂ s₂ a b H₂ (r₁.mono k₂) r₂).up (k₁.trans k₂)) hm
theorem e_una (h : Tr C VR A σ (eval l env) (fun x σ₁ => Una C A σ₁ uop x Q)) : Tr C VR A σ (eval (.UnaryOp uop l pos) env) Q :=
  fun s H => wpAny_UnaryOp ((h s H).run fun a s₁ x σ₁ H₁ r₁ k₁ q₁ => (q₁ s₁ a H₁ r₁).up k₁)
theorem e_if {t b o : Expr} (h : Tr C RB A σ (isTrue t env (eval t env)) (fun c σ₁ => if c = true then Tr C VR A σ₁ (eval b env) Q else Tr C VR A σ₁ (eval o env) Q)) : Tr C VR A σ (eval (.IfExp t b o pos) env) Q :=
  fun s H => wpAny_IfExp ((h s H).run fun a s₁ c σ₁ H₁ r₁ k₁ q₁ => by
    cases r₁
    cases a with
    | true => simp only [if_true] at q₁ ⊢; exact (q₁ s₁ H₁).up k₁
    | false => simp only [Bool.false_eq_true, if_false] at q₁ ⊢; exact (q₁ s₁ H₁).up k₁)
variable {Qb : Bool → Led → Prop} {e : Expr} {es : List Expr}
theorem t_cmp {whole} (h : Tr C VR A σ (eval l env) (fun x σ₁ => Tr C VR A σ₁ (eval r env) (fun y σ₂ => Cmp C A σ₂ cop x y (fun z σ₃ => Tru C A σ₃ z Qb)))) (hm : behindInMarks cop r = false := by rfl) :
    Tr C RB A σ (isTrue (.Compare l [cop] [r] pos) env whole) Qb :=
  fun s H => wpAny_isTrue_Compare1 ((h s H).run fun a s₁ x σ₁ H₁ r₁ k₁ q₁ => (q₁ s₁ H₁).run fun b s₂ y σ₂ H₂ r₂ k₂ q₂ => (q₂ s₂ a b H₂ (r₁.mono k₂) r₂).run fun c s₃ z σ₃ H₃ r₃ k₃ q₃ => (q₃ s₃ c H₃ r₃).up (k₁.trans (k₂.trans k₃))) hm
theorem t_value (h : Tr C VR A σ (eval e env) (fun x σ₁ => Tru C A σ₁ x Qb))
    (he : isTrue e env (eval e env) = (do let v ← eval e env; standAt e.pos; holding [v] (truthy v)) := by rfl) : Tr C RB A σ (isTrue e env (eval e env)) Qb :=
  fun s H => wpAny_isTrue_value ((h s H).run fun a s₁ x σ₁ H₁ r₁ k₁ q₁ => (q₁ s₁ a H₁ r₁).up k₁) he
theorem t_and {vs : List Expr} {whole} (h : Tr C RB A σ (allTrue .And vs env) Qb) : Tr C RB A σ (isTrue (.BoolOp .And vs pos) env whole) Qb := fun s H => wpAny_isTrue_BoolOp (h s H)
theorem t_or {vs : List Expr} {whole} (h : Tr C RB A σ (allTrue .Or vs env) Qb) : Tr C RB A σ (isTrue (.BoolOp .Or vs pos) env whole) Qb := fun s H => wpAny_isTrue_BoolOp (h s H)
theorem all_nil (h : Qb true σ) : Tr C RB A σ (allTrue .And [] env) Qb := fun s H => wpAny_pure ⟨true, σ, H, rfl, TK.refl _, h⟩
theorem any_nil (h : Qb false σ) : Tr C RB A σ (allTrue .Or [] env) Qb := fun s H => wpAny_pure ⟨false, σ, H, rfl, TK.refl _, h⟩
theorem all_cons {x : Expr} {rest : List Expr} (h : Tr C RB A σ (isTrue x env (eval x env)) (fun b σ₁ => if b = true then Tr C RB A σ₁ (allTrue .And rest env) Qb else Qb false σ₁)) : Tr C RB A σ (allTrue .And (x :: rest) env) Qb :=
  fun s H => wpAny_allTrue_And_cons ((h s H).run fun a s₁ b σ₁ H₁ r₁ k₁ q₁ => by
    cases r₁
    cases a with
    | true => simp only [if_true] at q₁ ⊢; exact (q₁ s₁ H₁).up k₁
    | false => simp only [Bool.false_eq_true, if_false] at q₁ ⊢; exact ⟨false, σ₁, H₁, rfl, k₁, q₁⟩)
theorem any_cons {x : Expr} {rest : List Expr} (h : Tr C RB A σ (isTrue x env (eval x env)) (fun b σ₁ => if b = true then Qb true σ₁ else Tr C RB A σ₁ (allTrue .Or rest env) Qb)) : Tr C RB A σ (allTrue .Or (x :: rest) env) Qb :=
  fun s H => wpAny_allTrue_Or_cons ((h s H).run fun a s₁ b σ₁ H₁ r₁ k₁ q₁ => by
    cases r₁
    cases a with
    | true => simp only [if_true] at q₁ ⊢; exact ⟨true, σ₁, H₁, rfl, k₁, q₁⟩
    | false => simp only [Bool.false_eq_true, if_false] at q₁ ⊢; exact (q₁ s₁ H₁).up k₁)
theorem e_and2 {x y : Expr} (h : Tr C VR A σ (eval x env) (fun v σ₁ => Tru C A σ₁ v (fun b σ₂ => if b = true then Tr C VR A σ₂ (eval y env) Q else Q v σ₂))) : Tr C VR A σ (eval (.BoolOp .And [x, y] pos) env) Q :=
  fun s H => wpAny_And2 ((h s H).run fun a s₁ v σ₁ H₁ r₁ k₁ q₁ => (q₁ s₁ a H₁ r₁).run fun c s₂ b σ₂ H₂ r₂ k₂ q₂ => by
    cases r₂
    cases c with
    | true => simp only [if_true] at q₂ ⊢; exact (q₂ s₂ H₂).up (k₁.trans k₂)
    | false => simp only [Bool.false_eq_true, if_false] at q₂ ⊢; exact ⟨v, σ₂, H₂, r₁.mono k₂, k₁.trans k₂, q₂⟩)
theorem es_nil {Ql : List V → Led → Prop} (h : Ql [] σ) : Tr C VRs A σ (spliced (backTo pos (starEach [] env))) Ql := fun s H => wpAny_pure ⟨[], σ, H, VRs.nil, TK.refl _, h⟩
theorem es_cons {Ql : List V → Led → Prop} (h : Tr C VR A σ (eval e env) (fun x σ₁ => Tr C VRs A σ₁ (spliced (backTo pos (starEach es env))) (fun xs σ₂ => Ql (x :: xs) σ₂)))
    (hs : starEach (e :: es) env = (false, eval e env) :: starEach es env := by rfl) : Tr C VRs A σ (spliced (backTo pos (starEach (e :: es) env))) Ql := by
  intro s H
  rw [hs]
  show wpAny _ _ (spliced ((false, eval e env) :: backTo pos (starEach es env))) _ _ s
  unfold spliced
  refine wpAny_bind ((h s H).run fun a s₁ x σ₁ H₁ r₁ k₁ q₁ => ?_)
  refine wpAny_bind (wpAny_pure (wpAny_bind (wpAny_holding ((q₁ s₁ H₁).run fun b s₂ y σ₂ H₂ r₂ k₂ q₂ => ?_))))
  exact wpAny_pure ⟨x :: y, σ₂, H₂, VRs.cons (r₁.mono k₂) r₂, k₁.trans k₂, q₂⟩
theorem newTuple_ {l : List V} (hz : l.length ≤ sizeLine) (h : Q (.tup l) σ) : OpL C VR A σ newTuple l Q := by
  intro s a H r
  have hz' : a.length ≤ sizeLine := by rw [r.length]; exact hz
  refine wpAny_newObj_type ?_ (by show a.toArray.size ≤ sizeLine; rw [List.size_toArray]; exact hz')
  have H' : HR C σ { s with heap := s.heap.push (tupObj a) } := H.grow (fun b o e => Heap.get?_push_of_some _ e) rfl rfl
  have tk : TK s.heap (s.heap.push (tupObj a)) := TK.push _
  exact ⟨.tup l, σ, H', ⟨_, a, rfl, Heap.get?_push_size _ rfl, r.mono tk⟩, tk, h⟩
theorem e_tuple {n : Nat} (h : Tr C VRs A σ (spliced (backTo pos (starEach es env))) (fun l σ₁ => l.length ≤ sizeLine ∧ Q (.tup l) σ₁)) : Tr C VR A σ (eval (.Tuple es n pos) env) Q := by
  intro s H
  show wpAny _ _ (standAt pos >>= fun _ => spliced (backTo pos (starEach es env)) >>= newTuple) _ _ s
  exact wpAny_bind (wpAny_standAt (wpAny_bind ((h s H).run fun a s₁ x σ₁ H₁ r₁ k₁ q₁ => (newTuple_ q₁.1 q₁.2 s₁ a H₁ r₁).up k₁)))
theorem newList_ {l : List V} (hz : l.length ≤ sizeLine) (h : ∀ a, Q (.ref a) ((a, AO.list l) :: σ)) : OpL C VR A σ newList l Q := by
  intro s a H r
  have hz' : a.length ≤ sizeLine := by rw [r.length]; exact hz
  refine wpAny_newObj_type ?_ (by show a.toArray.size ≤ sizeLine; rw [List.size_toArray]; exact hz')
  have tk : TK s.heap (s.heap.push { cls := .type "list", data := .seq a.toArray }) := TK.push _
  refine ⟨.ref s.heap.objs.size, _, H.add (X := AO.list l) (fun b o e => Heap.get?_push_of_some _ e) (Nat.le_refl _) (Heap.get?_push_size _ rfl)
    (Pl.seq (show Value.type "list" ≠ Value.type "tuple" by decide) rfl) ⟨⟨rfl, rfl⟩, a, 0, rfl, r.mono tk⟩ rfl rfl, vr_ref.mpr rfl, tk, h _⟩
theorem e_list (h : Tr C VRs A σ (spliced (backTo pos (starEach es env))) (fun l σ₁ => l.length ≤ sizeLine ∧ ∀ a, Q (.ref a) ((a, AO.list l) :: σ₁))) : Tr C VR A σ (eval (.List es pos) env) Q := by
  intro s H
  show wpAny _ _ (standAt pos >>= fun _ => spliced (backTo pos (starEach es env)) >>= newList) _ _ s
  exact wpAny_bind (wpAny_standAt (wpAny_bind ((h s H).run fun a s₁ x σ₁ H₁ r₁ k₁ q₁ => (newList_ q₁.1 q₁.2 s₁ a H₁ r₁).up k₁)))
end
end Mine
end
section
open PySem PySem.W PySem.Calls PyProof.Rows PySem.Spec
set_option Elab.async false
set_option maxRecDepth 100000
set_option linter.unusedVariables false
namespace Mine
noncomputable def FQ (Qn : Led → Prop) (Qr : V → Led → Prop) (Qb Qc : Led → Prop) : AF → Led → Prop
  | .next, σ => Qn σ
  | .ret x, σ => Qr x σ
  | .brk, σ => Qb σ
  | .cont, σ => Qc σ
noncomputable def X (C : Cx) (A : Around) (env : Env) (σ : Led) (st : Stmt) (Qn : Led → Prop) (Qr : V → Led → Prop) (Qb Qc : Led → Prop) : Prop := Tr C FR A σ (exec st env) (FQ Qn Qr Qb Qc)
noncomputable def Xs (C : Cx) (A : Around) (env : Env) (σ : Led) (st : List Stmt) (Qn : Led → Prop) (Qr : V → Led → Prop) (Qb Qc : Led → Prop) : Prop := Tr C FR A σ (execs st env) (FQ Qn Qr Qb Qc)
noncomputable def Asg (C : Cx) (A : Around) (env : Env) (σ : Led) (t : Expr) (v : V) (Q : Led → Prop) : Prop := St C A σ (assign t env) v (fun _ σ' => Q σ')
section
variable {C : Cx} {A : Around} {σ : Led} {env : Env} {Qn : Led → Prop} {Qr : V → Led → Prop} {Qb Qc : Led → Prop} {pos : Pos} {e : Expr} {st : Stmt} {rest : List Stmt}
theorem post_next {h : Heap} {s : Shared} {σ : Led} (H : HR C σ s) (k : TK h s.heap) (q : Qn σ) : Post C FR h (FQ Qn Qr Qb Qc) .next s := ⟨.next, σ, H, rfl, k, q⟩
theorem post_ret {h : Heap} {s : Shared} {σ : Led} {x : V} {v : Value} (H : HR C σ s) (r : VR s.heap x v) (k : TK h s.heap) (q : Qr x σ) : Post C FR h (FQ Qn Qr Qb Qc) (.ret v) s := ⟨.ret x, σ, H, ⟨v, rfl, r⟩, k, q⟩
theorem xs_nil (h : Qn σ) : Xs C A env σ [] Qn Qr Qb Qc := fun s H => wpAny_execs_nil (post_next H (TK.refl _) h)
theorem xs_cons (h : X C A env σ st (fun σ₁ => Xs C A env σ₁ rest Qn Qr Qb Qc) Qr Qb Qc) : Xs C A env σ (st :: rest) Qn Qr Qb Qc :=
  fun s H => wpAny_execs_cons ((h s H).run fun f s₁ b σ₁ H₁ r₁ k₁ q₁ => by
    cases b with
    | next => cases r₁; exact (q₁ s₁ H₁).up k₁
    | brk => cases r₁; exact ⟨.brk, σ₁, H₁, rfl, k₁, q₁⟩
    | cont => cases r₁; exact ⟨.cont, σ₁, H₁, rfl, k₁, q₁⟩
    | ret x => obtain ⟨v, rfl, r⟩ := r₁; exact ⟨.ret x, σ₁, H₁, ⟨v, rfl, r⟩, k₁, q₁⟩)
theorem x_expr (h : Tr C VR A σ (eval e env) (fun _ σ₁ => Qn σ₁)) (hi : interactive env = false := by rfl) (hs : swapsWith e none pos.line env = pure false := by rfl) : X C A env σ (.Expr e pos) Qn Qr Qb Qc :=
  fun s H => wpAny_Expr_any ((h s H).run fun a s₁ x σ₁ H₁ r₁ k₁ q₁ => post_next H₁ k₁ q₁) hi hs
theorem x_name {x : Str} {p' : Pos} (h : Tr C VR A σ (eval e env) (fun v σ₁ => St C A σ₁ (storeName env x) v (fun _ σ₂ => Qn σ₂))) (hs : swapsWith e (some (.Name x p')) pos.line env = pure false := by rfl) :
    X C A env σ (.Assign [.Name x p'] e pos) Qn Qr Qb Qc :=
  fun s H => wpAny_Assign_Name ((h s H).run fun a s₁ v σ₁ H₁ r₁ k₁ q₁ => (q₁ s₁ a H₁ r₁).run fun _ s₂ _ σ₂ H₂ _ k₂ q₂ => post_next H₂ (k₁.trans k₂) q₂) hs
theorem x_aug {x : Str} {p' : Pos} {op : Operator} (h : Tr C VR A σ (loadName env x) (fun o σ₁ => Tr C VR A σ₁ (eval e env) (fun v σ₂ => Inp C A σ₂ op o v (fun r σ₃ => St C A σ₃ (storeName env x) r (fun _ σ₄ => Qn σ₄))))) :
    X C A env σ (.AugAssign (.Name x p') op e pos) Qn Qr Qb Qc :=
  fun s H => wpAny_AugAssign_Name ((h s H).run fun a s₁ o σ₁ H₁ r₁ k₁ q₁ => (q₁ s₁ H₁).run fun b s₂ v σ₂ H₂ r₂ k₂ q₂ => (q₂ s₂ a b H₂ (r₁.mono k₂) r₂).run fun c s₃ z σ₃ H₃ r₃ k₃ q₃ =>
    (q₃ s₃ c H₃ r₃).run fun _ s₄ _ σ₄ H₄ _ k₄ q₄ => post_next H₄ (k₁.trans (k₂.trans (k₃.trans k₄))) q₄)
theorem l_loc {x : Str} {v : V} {Q : V → Led → Prop} {ks vs} (hm : (env.locals, AO.fr ks vs) ∈ σ) (hv : At x v ks vs) (h : Q v σ)
    (hk : env.scope.kind = .function := by rfl) (hl : env.kindOf x = some .local := by rfl) : Tr C VR A σ (loadName env x) Q :=
  fun s H => n_loc' H hm hv (fun w r => ⟨v, σ, H, r, TK.refl _, h⟩) hk hl
theorem x_if {t : Expr} {b o : List Stmt} (h : Tr C RB A σ (isTrue t env (eval t env)) (fun c σ₁ => if c = true then Xs C A env σ₁ b Qn Qr Qb Qc else Xs C A env σ₁ o Qn Qr Qb Qc)) : X C A env σ (.If t b o pos) Qn Qr Qb Qc :=
  fun s H => wpAny_If ((h s H).run fun a s₁ c σ₁ H₁ r₁ k₁ q₁ => by
    cases r₁
    cases a with
    | true => simp only [if_true] at q₁ ⊢; exact (q₁ s₁ H₁).up k₁
    | false => simp only [Bool.false_eq_true, if_false] at q₁ ⊢; exact (q₁ s₁ H₁).up k₁)
theorem x_ret (h : Tr C VR A σ (eval e env) Qr) : X C A env σ (.Return (some e) pos) Qn Qr Qb Qc :=
  fun s H => wpAny_Return_some ((h s H).run fun a s₁ v σ₁ H₁ r₁ k₁ q₁ => post_ret H₁ r₁ k₁ q₁)
theorem x_cont (h : Qc σ) : X C A env σ (.Continue pos) Qn Qr Qb Qc := fun s H => wpAny_Continue ⟨.cont, σ, H, rfl, TK.refl _, h⟩
theorem x_attr {o : Expr} {attr : Str} {p' : Pos} (h : Tr C VR A σ (eval e env) (fun v σ₁ => Tr C VR A σ₁ (eval o env) (fun ov σ₂ => Op2 C RU A σ₂ (fun a b => setAttr a attr b) ov v (fun _ σ₃ => Qn σ₃))))
    (hs : swapsWith e (some (o.Attribute attr p')) pos.line env = pure false := by rfl) : X C A env σ (.Assign [.Attribute o attr p'] e pos) Qn Qr Qb Qc :=
  fun s H => plainObj_wpAny_Assign_Attribute ((h s H).run fun a s₁ v σ₁ H₁ r₁ k₁ q₁ => (q₁ s₁ H₁).run fun b s₂ ov σ₂ H₂ r₂ k₂ q₂ => (q₂ s₂ b a H₂ r₂ (r₁.mono k₂)).run fun _ s₃ _ σ₃ H₃ _ k₃ q₃ => post_next H₃ (k₁.trans (k₂.trans k₃)) q₃) hs
theorem x_sub {o i : Expr} {p' : Pos} (h : Tr C VR A σ (eval e env) (fun v σ₁ => Tr C VR A σ₁ (eval o env) (fun ov σ₂ => Tr C VR A σ₂ (eval i env) (fun iv σ₃ => Op3 C RU A σ₃ setItem ov iv v (fun _ σ₄ => Qn σ₄)))))
    (hs : swapsWith e (some (o.Subscript i p')) pos.line env = pure false := by rfl) : X C A env σ (.Assign [.Subscript o i p'] e pos) Qn Qr Qb Qc :=
  fun s H => wpAny_Assign_Subscript ((h s H).run fun a s₁ v σ₁ H₁ r₁ k₁ q₁ => (q₁ s₁ H₁).run fun b s₂ ov σ₂ H₂ r₂ k₂ q₂ => (q₂ s₂ H₂).run fun c s₃ iv σ₃ H₃ r₃ k₃ q₃ =>
    (q₃ s₃ b c a H₃ (r₂.mono k₃) r₃ (r₁.mono (k₂.trans k₃))).run fun _ s₄ _ σ₄ H₄ _ k₄ q₄ => post_next H₄ (k₁.trans (k₂.trans (k₃.trans k₄))) q₄) hs
theorem x_augsub {o i : Expr} {p' : Pos} {op : Operator} (h : Tr C VR A σ (eval o env) (fun ov σ₁ => Tr C VR A σ₁ (eval i env) (fun iv σ₂ => Op2 C VR A σ₂ getItem ov iv (fun old σ₃ => Tr C VR A σ₃ (eval e env) (fun v σ₄ =>
      Inp C A σ₄ op old v (fun nw σ₅ => Op3 C RU A σ₅ setItem ov iv nw (fun _ σ₆ => Qn σ₆)))))))
    (hs : ∀ (ov iv new : Value), augStore i ov iv new = (do holding [new, ov, iv] (setItem ov iv new); release [new, ov, iv] []; pure Flow.next) := by intro _ _ _; rfl) :
    X C A env σ (.AugAssign (.Subscript o i p') op e pos) Qn Qr Qb Qc :=
  fun s H => wpAny_AugAssign_SubscriptAny ((h s H).run fun b s₁ ov σ₁ H₁ r₁ k₁ q₁ => (q₁ s₁ H₁).run fun c s₂ iv σ₂ H₂ r₂ k₂ q₂ => (q₂ s₂ b c H₂ (r₁.mono k₂) r₂).run fun d s₃ old σ₃ H₃ r₃ k₃ q₃ =>
    (q₃ s₃ H₃).run fun f s₄ v σ₄ H₄ r₄ k₄ q₄ => (q₄ s₄ d f H₄ (r₃.mono k₄) r₄).run fun g s₅ nw σ₅ H₅ r₅ k₅ q₅ =>
      (q₅ s₅ b c g H₅ (r₁.mono (k₂.trans (k₃.trans (k₄.trans k₅)))) (r₂.mono (k₃.trans (k₄.trans k₅))) r₅).run fun _ s₆ _ σ₆ H₆ _ k₆ q₆ => post_next H₆ (k₁.trans (k₂.trans (k₃.trans (k₄.trans (k₅.trans k₆))))) q₆) hs
theorem x_augattr {o : Expr} {attr : Str} {p' : Pos} {op : Operator} (h : Tr C VR A σ (eval o env) (fun ov σ₁ => Op1 C VR A σ₁ (fun a => getAttr a attr true) ov (fun old σ₂ => Tr C VR A σ₂ (eval e env) (fun v σ₃ =>
      Inp C A σ₃ op old v (fun nw σ₄ => Op2 C RU A σ₄ (fun a b => setAttr a attr b) ov nw (fun _ σ₅ => Qn σ₅)))))) :
    X C A env σ (.AugAssign (.Attribute o attr p') op e pos) Qn Qr Qb Qc :=
  fun s H => wpAny_AugAssign_AttributeAny ((h s H).run fun b s₁ ov σ₁ H₁ r₁ k₁ q₁ => (q₁ s₁ b H₁ r₁).run fun c s₂ old σ₂ H₂ r₂ k₂ q₂ => (q₂ s₂ H₂).run fun d s₃ v σ₃ H₃ r₃ k₃ q₃ =>
    (q₃ s₃ c d H₃ (r₂.mono k₃) r₃).run fun f s₄ nw σ₄ H₄ r₄ k₄ q₄ => (q₄ s₄ b f H₄ (r₁.mono (k₂.trans (k₃.trans k₄))) r₄).run fun _ s₅ _ σ₅ H₅ _ k₅ q₅ => post_next H₅ (k₁.trans (k₂.trans (k₃.trans (k₄.trans k₅)))) q₅)
theorem x_while {t : Expr} {body : List Stmt} (J : Nat → Led → Prop) (n : Nat) (h0 : J n σ)
    (turn : ∀ n σ, J n σ → Tr C RB A σ (isTrue t env (eval t env)) (fun c σ₁ => if c = true then Xs C A env σ₁ body (fun σ₂ => ∃ m, m < n ∧ J m σ₂) Qr Qn (fun σ₂ => ∃ m, m < n ∧ J m σ₂) else Qn σ₁)) :
    X C A env σ (.While t body [] pos) Qn Qr Qb Qc := by
  intro s H
  refine wpAny_While (codeAny_whileLoop (fun n s' => ∃ σ, HR C σ s' ∧ TK s.heap s'.heap ∧ J n σ) (fun n s' ⟨σ, H, k, j⟩ => ?_) n ⟨σ, H, TK.refl _, h0⟩)
  refine (turn n σ j s' H).run fun c s₁ b σ₁ H₁ r₁ k₁ q₁ => ?_
  cases r₁
  cases c with
  | false => simp only [Bool.false_eq_true, if_false] at q₁ ⊢; exact wpAny_execs_nil (post_next H₁ (k.trans k₁) q₁)
  | true =>
    simp only [if_true] at q₁ ⊢
    refine (q₁ s₁ H₁).run fun f s₂ b σ₂ H₂ r₂ k₂ q₂ => ?_
    cases b with
    | next => cases r₂; obtain ⟨m, hm, j⟩ := q₂; exact ⟨m, hm, σ₂, H₂, k.trans (k₁.trans k₂), j⟩
    | cont => cases r₂; obtain ⟨m, hm, j⟩ := q₂; exact ⟨m, hm, σ₂, H₂, k.trans (k₁.trans k₂), j⟩
    | brk => cases r₂; exact post_next H₂ (k.trans (k₁.trans k₂)) q₂
    | ret x => obtain ⟨v, rfl, r⟩ := r₂; exact post_ret H₂ r (k.trans (k₁.trans k₂)) q₂
noncomputable def Nx (C : Cx) (A : Around) (σ : Led) (it : V) (Q : Option V → Led → Prop) : Prop := Op1 C RO A σ pyNext it Q
noncomputable def It (C : Cx) (A : Around) (σ : Led) (x : V) (Q : V → Led → Prop) : Prop := Op1 C VR A σ pyIter x Q
theorem x_for {target iter : Expr} {body : List Stmt}
    (h : Tr C VR A σ (eval iter env) (fun x σ₁ => It C A σ₁ x (fun it σ₂ => ∃ (J : Nat → Led → Prop) (n : Nat), J n σ₂ ∧ ∀ n σ, J n σ → Nx C A σ it (fun o σ₃ => match o with
      | none => Qn σ₃
      | some y => Asg C A env σ₃ target y (fun σ₄ => Xs C A env σ₄ body (fun σ₅ => ∃ m, m < n ∧ J m σ₅) Qr Qn (fun σ₅ => ∃ m, m < n ∧ J m σ₅))))))
    (ht : ∀ it v, letOwnedTupleGo target it v = pure () := by intro _ _; rfl) (hs : ∀ x, foldedSetIterable iter env x = pure x := by intro _; rfl) :
    X C A env σ (.For target iter body [] pos) Qn Qr Qb Qc := by
  intro s H
  refine wpAny_For ((h s H).run fun a s₁ x σ₁ H₁ r₁ k₁ q₁ => (q₁ s₁ a H₁ r₁).run fun itv s₂ it σ₂ H₂ r₂ k₂ q₂ => ?_) hs
  obtain ⟨J, n, j0, turn⟩ := q₂
  refine codeAny_forLoop (fun n s' => ∃ σ, HR C σ s' ∧ TK s₂.heap s'.heap ∧ J n σ) (fun n s' ⟨σ, H, k, j⟩ => ?_) n ⟨σ₂, H₂, TK.refl _, j0⟩ (ht itv)
  refine (turn n σ j s' itv H (r₂.mono k)).run fun o s₃ b σ₃ H₃ r₃ k₃ q₃ => ?_
  have kk := k₁.trans (k₂.trans (k.trans k₃))
  cases b with
  | none => cases r₃; exact wpAny_execs_nil (post_next H₃ kk q₃)
  | some y =>
    obtain ⟨v, rfl, rv⟩ := r₃
    refine (q₃ s₃ v H₃ rv).run fun _ s₄ _ σ₄ H₄ _ k₄ q₄ => (q₄ s₄ H₄).run fun f s₅ b σ₅ H₅ r₅ k₅ q₅ => ?_
    have kj := k.trans (k₃.trans (k₄.trans k₅))
    have ke := kk.trans (k₄.trans k₅)
    cases b with
    | next => cases r₅; obtain ⟨m, hm, j⟩ := q₅; exact ⟨m, hm, σ₅, H₅, kj, j⟩
    | cont => cases r₅; obtain ⟨m, hm, j⟩ := q₅; exact ⟨m, hm, σ₅, H₅, kj, j⟩
    | brk => cases r₅; exact post_next H₅ ke q₅
    | ret x => obtain ⟨v, rfl, r⟩ := r₅; exact post_ret H₅ r ke q₅
theorem asg_name {x : Str} {p : Pos} {v : V} {Q : Led → Prop} (h : St C A σ (storeName env x) v (fun _ σ' => Q σ')) : Asg C A env σ (.Name x p) v Q :=
  fun s a H r => wpAny_assign_Name (h s a H r)
end
end Mine
end
section
open PySem PySem.W PySem.Calls PyProof.Rows PySem.Spec
set_option Elab.async false
set_option maxRecDepth 100000
set_option linter.unusedVariables false
namespace Mine
section
variable {C : Cx} {A : Around} {σ σ' : Led} {env : Env} {pos : Pos} {Q : V → Led → Prop} {i j : Int} {x y : Str}
theorem done_int {s : Shared} {t : Tok} {h : Heap} {d : Drawn} {tk : Nat} (H : HR C σ s) (q : Q (.int i) σ) : Post C VR s.heap Q (.int i t) ⟨s.heap, s.gens, d, tk, s.os⟩ :=
  ⟨.int i, σ, H.toks, vr_int.mpr ⟨t, rfl⟩, TK.refl _, q⟩
theorem done_str {s : Shared} {t : Tok} {d : Drawn} {tk : Nat} (H : HR C σ s) (q : Q (.str x) σ) : Post C VR s.heap Q (.str x t) ⟨s.heap, s.gens, d, tk, s.os⟩ :=
  ⟨.str x, σ, H.toks, vr_str.mpr ⟨t, rfl⟩, TK.refl _, q⟩
theorem done_bool {b : Bool} {s : Shared} (H : HR C σ s) (q : Q (.bool b) σ) : Post C VR s.heap Q (.bool b) s := ⟨.bool b, σ, H, vr_bool.mpr rfl, TK.refl _, q⟩
theorem bin_add (h : Q (.int (i + j)) σ) : Bin C A σ .Add (.int i) (.int j) Q := by
  rintro s a b H ⟨t, rfl⟩ ⟨u, rfl⟩; exact PyProof.Rows.add_int (done_int (h := s.heap) (d := s.drawn) H h)
theorem bin_sub (h : Q (.int (i - j)) σ) : Bin C A σ .Sub (.int i) (.int j) Q := by
  rintro s a b H ⟨t, rfl⟩ ⟨u, rfl⟩; exact PyProof.Rows.sub_int (done_int (h := s.heap) (d := s.drawn) H h)
theorem bin_mul (h : Q (.int (i * j)) σ) (hm : IntMulOk i j) : Bin C A σ .Mult (.int i) (.int j) Q := by
  rintro s a b H ⟨t, rfl⟩ ⟨u, rfl⟩; exact PySem.P.mul_int (done_int (h := s.heap) (d := s.drawn) H h) hm
theorem bin_fdiv (h : Q (.int (i.fdiv j)) σ) (hb : j ≠ 0) (hs : j.natAbs.log2 < 9000) : Bin C A σ .FloorDiv (.int i) (.int j) Q := by
  rintro s a b H ⟨t, rfl⟩ ⟨u, rfl⟩; exact PyProof.Rows.floordiv_int hb (done_int (h := s.heap) (d := s.drawn) H h) (.inl (PyProof.noPylong_of_log2 hs))
theorem bin_mod (h : Q (.int (i.fmod j)) σ) (hb : j ≠ 0) : Bin C A σ .Mod (.int i) (.int j) Q := by
  rintro s a b H ⟨t, rfl⟩ ⟨u, rfl⟩; exact PyProof.Rows.mod_int' hb (done_int (h := s.heap) (d := s.drawn) H h)
theorem inp_add (h : Q (.int (i + j)) σ) : Inp C A σ .Add (.int i) (.int j) Q := by
  rintro s a b H ⟨t, rfl⟩ ⟨u, rfl⟩; exact PyProof.Rows.iadd_int (done_int (h := s.heap) (d := s.drawn) H h)
theorem una_neg (h : Q (.int (-i)) σ) : Una C A σ .USub (.int i) Q := by
  rintro s a H ⟨t, rfl⟩; exact PySem.P.neg_int (done_int (h := s.heap) (d := s.drawn) H h)
theorem cmp_eq (h : Q (.bool (i == j)) σ) : Cmp C A σ .Eq (.int i) (.int j) Q := by
  rintro s a b H ⟨t, rfl⟩ ⟨u, rfl⟩; exact PyProof.Rows.eq_int (done_bool H h)
theorem cmp_lt (h : Q (.bool (decide (i < j))) σ) : Cmp C A σ .Lt (.int i) (.int j) Q := by
  rintro s a b H ⟨t, rfl⟩ ⟨u, rfl⟩; exact PyProof.Rows.lt_int (done_bool H h)
theorem cmp_gt (h : Q (.bool (decide (j < i))) σ) : Cmp C A σ .Gt (.int i) (.int j) Q := by
  rintro s a b H ⟨t, rfl⟩ ⟨u, rfl⟩; exact PyProof.Rows.gt_int (done_bool H h)
theorem tru_int {Qb : Bool → Led → Prop} (h : Qb (i != 0) σ) : Tru C A σ (.int i) Qb := by
  rintro s a H ⟨t, rfl⟩; exact PySem.P.truthy_int ⟨_, σ, H, rfl, TK.refl _, h⟩
theorem tru_bool {Qb : Bool → Led → Prop} {b : Bool} (h : Qb b σ) : Tru C A σ (.bool b) Qb := by
  rintro s a H rfl; exact wpAny_truthy_bool ⟨_, σ, H, rfl, TK.refl _, h⟩
theorem str_post {s : Shared} {t u : Tok} (H : HR C σ s) (hz : (x ++ y).length ≤ sizeLine) (h : Q (.str (x ++ y)) σ) :
    (if x.length == 0 then Made.val (.str y u) else if y.length == 0 then Made.val (.str x t) else Made.str (x ++ y)).post (Post C VR s.heap Q) s := by
  by_cases hx : x.length = 0
  · have ex : x = Str.empty := by
      apply Str.ext'; apply Array.eq_empty_of_size_eq_zero; exact hx
    rw [if_pos (by simp [hx])]
    subst ex
    rw [Str.empty_append] at h
    exact ⟨_, σ, H, vr_str.mpr ⟨u, rfl⟩, TK.refl _, h⟩
  · rw [if_neg (by simpa using hx)]
    by_cases hy : y.length = 0
    · have ey : y = Str.empty := by
        apply Str.ext'; apply Array.eq_empty_of_size_eq_zero; exact hy
      rw [if_pos (by simp [hy])]
      subst ey
      have e : x ++ Str.empty = x := by
        apply Str.ext'; rw [Str.cps_append]; simp [Str.empty]
      rw [e] at h
      exact ⟨_, σ, H, vr_str.mpr ⟨t, rfl⟩, TK.refl _, h⟩
    · rw [if_neg (by simpa using hy)]
      exact ⟨hz, ⟨_, σ, H.toks, vr_str.mpr ⟨_, rfl⟩, TK.refl _, h⟩⟩
theorem bin_cat (hz : (x ++ y).length ≤ sizeLine) (h : Q (.str (x ++ y)) σ) : Bin C A σ .Add (.str x) (.str y) Q := by
  rintro s a b H ⟨t, rfl⟩ ⟨u, rfl⟩; exact PySem.P.add_str (str_post H hz h)
theorem inp_cat (hz : (x ++ y).length ≤ sizeLine) (h : Q (.str (x ++ y)) σ) : Inp C A σ .Add (.str x) (.str y) Q := by
  rintro s a b H ⟨t, rfl⟩ ⟨u, rfl⟩; exact PySem.P.iadd_str (str_post H hz h)
theorem cmp_seq (h : Q (.bool (x.cps.toList == y.cps.toList)) σ) : Cmp C A σ .Eq (.str x) (.str y) Q := by
  rintro s a b H ⟨t, rfl⟩ ⟨u, rfl⟩; exact PySem.P.eq_str (done_bool H h)
theorem cmp_sin (h : Q (.bool !(Builtin.Str.occurrences x y 0 x.length 1).isEmpty) σ) : Cmp C A σ .In (.str y) (.str x) Q := by
  rintro s a b H ⟨t, rfl⟩ ⟨u, rfl⟩; exact PySem.P.in_str (done_bool H h)
noncomputable def Call (C : Cx) (A : Around) (σ : Led) (f : V) (xs : List V) (Q : V → Led → Prop) : Prop :=
  ∀ s fv vs, HR C σ s → VR s.heap f fv → VRs s.heap xs vs → WP C VR A s (call fv vs) Q
noncomputable def CallC (C : Cx) (A : Around) (σ : Led) (f : V) (xs : List V) (Q : V → Led → Prop) : Prop :=
  ∀ s fv vs, HR C σ s → VR s.heap f fv → VRs s.heap xs vs → codeAny (model C.prog C.w) A (.call fv ⟨vs, []⟩) (wants (Post C VR s.heap Q) No) s
theorem CallC.call {f : V} {xs : List V} (h : CallC C A σ f xs Q) : Call C A σ f xs Q := fun s fv vs H r rr => wpAny_call (h s fv vs H r rr)
noncomputable def Kp (C : Cx) (σ : Led) (f : V) : Prop := ∀ s v, HR C σ s → VR s.heap f v → ∃ k, Looks (model C.prog C.w) s.heap (keeperOf v) k
theorem evalArgs_ {as : List Expr} {fv : Value} {s : Shared} {P : Args → Shared → Prop} {E : Value → Shared → Prop} (hs : (starEach as env).all (fun x => !x.1) = true)
    (h : wpAny (model C.prog C.w) A (spliced (backTo pos (starEach as env))) (fun vs s' => P ⟨vs, []⟩ s') E s) : wpAny (model C.prog C.w) A (evalArgs fv true (backTo pos (starEach as env)) []) P E s := by
  cases hb : starEach as env with
  | nil =>
    rw [hb] at h
    show wpAny _ A (evalArgs fv true [] []) P E s
    unfold evalArgs
    show wpAny _ A (spliced [] >>= _) P E s
    refine wpAny_bind (wpAny_mono h (fun vs s' h' => ?_) fun _ _ x => x)
    refine wpAny_bind (wpAny_pure (wpAny_holding ?_))
    exact wpAny_bind (wpAny_pure (wpAny_bind (wpAny_pure (wpAny_pure h'))))
  | cons p r =>
    rw [hb] at h hs
    obtain ⟨b, t⟩ := p
    cases b with
    | true => simp at hs
    | false => exact evalArgs_plain h
theorem callWith_ {as : List Expr} {fv : Value} {first : List Value} {s : Shared} {P : Value → Shared → Prop} {E : Value → Shared → Prop} (hs : (starEach as env).all (fun x => !x.1) = true)
    (h : wpAny (model C.prog C.w) A (spliced (backTo pos (starEach as env))) (fun vs s' => (∃ k, Looks (model C.prog C.w) s'.heap (keeperOf fv) k) ∧ wpAny (model C.prog C.w) A (call fv (first ++ vs)) P E s') E s) :
    wpAny (model C.prog C.w) A (callWith pos fv first (backTo pos (starEach as env)) []) P E s := by
  unfold callWith
  refine wpAny_bind (wpAny_holding (evalArgs_ hs (wpAny_mono h (fun vs s' h' => wpAny_bind (wpAny_standAt ?_)) fun _ _ x => x)))
  obtain ⟨⟨k, L⟩, hc⟩ := h'
  have hplain : ((backTo pos (starEach as env)).any (·.1) || ([] : List (Option Str × Sem Value)).any (·.1.isNone)) = false := by
    rw [List.any_nil, Bool.or_false, List.any_eq_false]
    intro p hp
    simp only [backTo, List.mem_map] at hp
    obtain ⟨q, hq, rfl⟩ := hp
    have := List.all_eq_true.mp hs q hq
    simpa using this
  simp only [hplain]
  refine wpAny_bind (L.here ?_)
  have tail : ∀ {t : Sem Value}, wpAny (model C.prog C.w) A t P E s' → wpAny (model C.prog C.w) A (t >>= fun r => holding [r] point >>= fun _ => pure r) P E s' :=
    fun ht => wpAny_bind (wpAny_mono ht (fun r s₂ hr => wpAny_bind (wpAny_holding (wpAny_point (wpAny_pure hr)))) fun _ _ x => x)
  have marked (mk : Value) : wpAny (model C.prog C.w) A (callMarked mk fv (first ++ vs) []) P E s' := by unfold callMarked; exact Calls.wpAny_keep hc
  have oper : ∀ l : List Value, wpAny (model C.prog C.w) A (operate l (call fv (first ++ vs) [])) P E s' := fun l => wpAny_operateT hc
  cases k <;> dsimp only <;> first | exact tail hc | (split <;> first | exact tail hc | exact tail (marked _)) | exact tail (oper _)
theorem e_call {f : Expr} {as : List Expr} (h : Tr C VR A σ (eval f env) (fun fv σ₁ => Tr C VRs A σ₁ (spliced (backTo pos (starEach as env))) (fun xs σ₂ => Kp C σ₂ fv ∧ Call C A σ₂ fv xs Q)))
    (he : eval (.Call f as [] pos) env = (do callWith pos (← eval f env) [] (backTo pos (starEach as env)) []) := by rfl) (hs : (starEach as env).all (fun x => !x.1) = true := by rfl) : Tr C VR A σ (eval (.Call f as [] pos) env) Q := by
  intro s H
  unfold WP
  rw [he]
  refine wpAny_bind ((h s H).run fun fv s₁ f' σ₁ H₁ r₁ k₁ q₁ => callWith_ hs ((q₁ s₁ H₁).run fun vs s₂ xs σ₂ H₂ r₂ k₂ q₂ => ⟨q₂.1 s₂ fv H₂ (r₁.mono k₂), ?_⟩))
  exact (q₂.2 s₂ fv vs H₂ (r₁.mono k₂) r₂).up (k₁.trans k₂)
noncomputable def RP (h : Heap) (p : V × List V) (q : Value × List Value) : Prop := VR h p.1 q.1 ∧ VRs h p.2 q.2
noncomputable def Mth (C : Cx) (A : Around) (σ : Led) (o : V) (name : Str) (Q : V → List V → Led → Prop) : Prop :=
  ∀ s a pl, HR C σ s → VR s.heap o a → WP C RP A s (getMethod a name pl) (fun p σ' => Q p.1 p.2 σ')
theorem e_meth {o : Expr} {name : Str} {ap : Pos} {as : List Expr}
    (h : Tr C VR A σ (eval o env) (fun ov σ₁ => Mth C A σ₁ ov name (fun f first σ₂ => Tr C VRs A σ₂ (spliced (backTo pos (starEach as env))) (fun xs σ₃ => Kp C σ₃ f ∧ Call C A σ₃ f (first ++ xs) Q))))
    (hb : attributeBase o name env (eval o env) = eval o env := by rfl) (hl : (ap.endLine == pos.line) = true := by rfl) (hs : (starEach as env).all (fun x => !x.1) = true := by rfl)
    (hf : methodCallForm (as.length + ([] : List Keyword).length) (backTo pos (starEach as env)) (backToKw pos (keywordEach [] env)) = true := by rfl) :
    Tr C VR A σ (eval (.Call (.Attribute o name ap) as [] pos) env) Q := by
  intro s H
  have e : eval (.Call (.Attribute o name ap) as [] pos) env = (do
      let ov ← attributeBase o name env (eval o env)
      standAt ap.atName
      methodCall o name ap pos env ov (as.length + ([] : List Keyword).length) (backTo pos (starEach as env)) (backToKw pos (keywordEach [] env))) := rfl
  unfold WP
  rw [e, hb]
  refine wpAny_bind ((h s H).run fun ov s₁ x σ₁ H₁ r₁ k₁ q₁ => wpAny_bind (wpAny_standAt ?_))
  unfold methodCall
  rw [hf]
  refine wpAny_bind (wpAny_holding ?_)
  show wpAny _ A (getMethod ov name _) _ _ s₁
  refine (q₁ s₁ ov _ H₁ r₁).run fun p s₂ q σ₂ H₂ r₂ k₂ q₂ => ?_
  obtain ⟨fv, first⟩ := p
  have ep : methodCallPos true o env ap pos = pure pos := by unfold methodCallPos; rw [hl]; rfl
  show wpAny _ A (methodCallPos true o env ap pos >>= _) _ _ s₂
  rw [ep]
  refine wpAny_bind (wpAny_pure ?_)
  refine callWith_ hs ((q₂ s₂ H₂).run fun vs s₃ xs σ₃ H₃ r₃ k₃ q₃ => ⟨q₃.1 s₃ fv H₃ (r₂.1.mono k₃), ?_⟩)
  exact (q₃.2 s₃ fv _ H₃ (r₂.1.mono k₃) ((r₂.2.mono k₃).append r₃)).up (k₁.trans (k₂.trans k₃))
end
noncomputable def FrOk (h : Heap) (ks : List Str) (vs : List (Option V)) (binds : List (Str × Value)) : Prop := ∀ p ∈ ks.zip vs, ∀ x, p.2 = some x → ∃ w, binds.reverse.lookup p.1 = some w ∧ VR h x w
theorem FrOk.nil {h : Heap} {ks : List Str} {b} : FrOk h ks [] b := fun p hp => by simp at hp
theorem FrOk.none {h : Heap} {k : Str} {ks : List Str} {vs} {b} (H : FrOk h ks vs b) : FrOk h (k :: ks) (Option.none :: vs) b := fun p hp x e => by
  rcases List.mem_cons.mp hp with rfl | hp
  · cases e
  · exact H p hp x e
theorem FrOk.some {h : Heap} {k : Str} {ks : List Str} {x : V} {w : Value} {vs} {b} (H : FrOk h ks vs b) (e : b.reverse.lookup k = some w) (r : VR h x w) : FrOk h (k :: ks) (Option.some x :: vs) b := fun p hp y e' => by
  rcases List.mem_cons.mp hp with rfl | hp
  · cases e'; exact ⟨w, e, r⟩
  · exact H p hp y e'
section
variable {C : Cx} {A : Around} {σ : Led} {Q : V → Led → Prop}
variable {name qual : Str} {params : Arguments} {body : List Stmt} {scope : Scope} {cl : List (Str × Addr)} {dV kV doc pm cdv ct oc : Value} {an od : Option Addr} {osl : Array (Option Value)} {f : Addr} {xs : List V} {n : Nat}
theorem call_defC {ks : List Str} {vs : List (Option V)} (ho : C.K.lookup f = some ⟨oc, od, .func (fnX name qual params body scope cl dV kV doc pm an cdv ct), osl⟩) (hcd : codeIn C.K cdv qual = true) (hfit : Fit (n + 1) A)
    (nd : ks.Nodup) (hcell : ∀ x ∈ scope.names, x.2 ≠ .cell)
    (hbind : ∀ s as, C.K.In s.heap → VRs s.heap xs as → ∃ binds, BindsTo s (fnX name qual params body scope cl dV kV doc pm an cdv ct) ⟨as, []⟩ binds ∧ (∀ y ∈ binds, scope.names.lookup y.1 = some .local) ∧ FrOk s.heap ks vs binds)
    (h : ∀ L A', Fit n A' → Xs C A' (envX qual scope L f cdv cl) ((L, AO.fr ks vs) :: σ) body (fun σ' => Drop Q .none σ') (fun v σ' => Drop Q v σ') (fun _ => False) (fun _ => False))
    (hco : scope.isCoroutine = false := by rfl) (hgen : scope.isGenerator = false := by rfl) (hk : scope.kind = .function := by rfl) : CallC C A σ (.ref f) xs Q := by
  rintro s fv as H rfl ra
  obtain ⟨binds, hb, hl, hf⟩ := hbind s as H.bg.kin ra
  refine (codeAny_call_def (fd := fnX name qual params body scope cl dV kV doc pm an cdv ct) (body := body) (binds := binds) hfit.room (H.bg.kin _ _ ho) rfl H.bg.nl (codeRec_of H.bg.kin hcd) rfl hb hcell hl (fun h₀ hns hk₁ => ?_) hco hgen hk)
  obtain ⟨o, es, ep, g, d, kk, fe⟩ := hns
  have lt : s.heap.objs.size < h₀.objs.size := Heap.lt_size g
  have tk : TK s.heap h₀ := fun _ _ e _ => hk₁ _ _ e
  have H' : HR C ((s.heap.objs.size, AO.fr ks vs) :: σ) { s with heap := h₀, toks := s.toks + binds.length } :=
    H.add (o := o) hk₁ (Nat.le_refl _) g (Pl.dict d)
      ⟨nd, es, ep, d, kk, fun p hp x e => by obtain ⟨w, e1, e2⟩ := hf p hp x e; exact ⟨w, by rw [fe]; exact e1, e2.mono tk⟩⟩ rfl rfl
  refine ((h s.heap.objs.size (A.deeper (envX qual scope s.heap.objs.size f cdv cl)) hfit.deeper) _ H').run fun fl s₁ b σ₁ H₁ r₁ k₁ q₁ => ?_
  cases b with
  | next => cases r₁; obtain ⟨σ₂, k₂, q⟩ := q₁; exact ⟨.none, σ₂, HR.sb k₂ H₁, vr_none.mpr rfl, tk.trans k₁, q⟩
  | brk => exact q₁.elim
  | cont => exact q₁.elim
  | ret x => obtain ⟨v, rfl, r⟩ := r₁; obtain ⟨σ₂, k₂, q⟩ := q₁; exact ⟨x, σ₂, HR.sb k₂ H₁, r, tk.trans k₁, q⟩
theorem call_def {ks : List Str} {vs : List (Option V)} (ho : C.K.lookup f = some ⟨oc, od, .func (fnX name qual params body scope cl dV kV doc pm an cdv ct), osl⟩) (hcd : codeIn C.K cdv qual = true) (hfit : Fit (n + 1) A)
    (nd : ks.Nodup) (hcell : ∀ x ∈ scope.names, x.2 ≠ .cell)
    (hbind : ∀ s as, C.K.In s.heap → VRs s.heap xs as → ∃ binds, BindsTo s (fnX name qual params body scope cl dV kV doc pm an cdv ct) ⟨as, []⟩ binds ∧ (∀ y ∈ binds, scope.names.lookup y.1 = some .local) ∧ FrOk s.heap ks vs binds)
    (h : ∀ L A', Fit n A' → Xs C A' (envX qual scope L f cdv cl) ((L, AO.fr ks vs) :: σ) body (fun σ' => Drop Q .none σ') (fun v σ' => Drop Q v σ') (fun _ => False) (fun _ => False))
    (hco : scope.isCoroutine = false := by rfl) (hgen : scope.isGenerator = false := by rfl) (hk : scope.kind = .function := by rfl) : Call C A σ (.ref f) xs Q :=
  (call_defC ho hcd hfit nd hcell hbind h hco hgen hk).call
end
end Mine
end
section
open PySem PySem.W PySem.Calls PyProof.Rows PySem.Spec
set_option Elab.async false
set_option maxRecDepth 100000
set_option linter.unusedVariables false
namespace Mine
structure Cx.Is (C : Cx) (K : Frag) : Prop where
  isK : C.K = K
  glob : ∀ x v, nsIn K mainGlobals x = some (some v) → C.mg x = some v
  globN : ∀ x, nsIn K mainGlobals x = some none → C.mg x = none
  blt : ∀ x : Str, x ≠ "__name__" → C.mb x = bootBuiltins x
  bm : ∃ bm o, C.mg "__builtins__" = some (.ref bm) ∧ bm ≠ builtinsNs ∧ bm ≠ mainGlobals ∧ C.h₀.get? bm = some o ∧ o.cls = .type "module" ∧ o.dict = some builtinsNs ∧ o.data = .plain
section
variable {C : Cx} {K : Frag} {A : Around} {σ : Led} {env : Env} {x : Str} {pos : Pos} {v : V} {Q : V → Led → Prop}
theorem n_globK {u : Value} (hC : C.Is K) (e : nsIn K mainGlobals x = some (some u)) (hf : flat u = some v) (h : Q v σ) (hg : env.globals = mainGlobals := by rfl)
    (hk : env.scope.kind = .function := by rfl) (hx : env.kindOf x = some .globalImplicit := by rfl) (hd : (x == ("__debug__" : Str)) = false := by decide) : Tr C VR A σ (eval (.Name x pos) env) Q :=
  n_glob (hC.glob _ _ e) hf h hg hk hx hd
theorem n_builtK {u : Value} (hC : C.Is K) (e : nsIn K mainGlobals x = some none) (e' : bootBuiltins x = some u) (hn : x ≠ "__name__") (hf : flat u = some v) (h : Q v σ) (hg : env.globals = mainGlobals := by rfl) (hb : env.builtins = builtinsNs := by rfl)
    (hk : env.scope.kind = .function := by rfl) (hx : env.kindOf x = some .globalImplicit := by rfl) (hd : (x == ("__debug__" : Str)) = false := by decide) : Tr C VR A σ (eval (.Name x pos) env) Q :=
  n_built (hC.globN _ e) ((hC.blt x hn).trans e') hf h hg hb hk hx hd
theorem kp_bi {n : String} : Kp C σ (.bi n) := fun s v H r => by cases vr_bi.mp r; exact ⟨.machine, Looks.of_pure rfl⟩
theorem kp_type {n : String} : Kp C σ (.type n) := fun s v H r => by cases vr_type.mp r; exact ⟨.machine, Looks.of_pure rfl⟩
theorem kp_K {a : Addr} (hC : C.Is K) (e : keepIn K (.ref a) = true) : Kp C σ (.ref a) := fun s v H r => by
  cases vr_ref.mp r
  obtain ⟨k, _, L⟩ := looks_keep (M := model C.prog C.w) e (hC.isK ▸ H.bg.kin)
  exact ⟨k, L⟩
end
section
variable {C : Cx} {K : Frag} {A : Around} {σ : Led} {Q : V → Led → Prop}
variable {name qual : Str} {params : Arguments} {body : List Stmt} {scope : Scope} {cl : List (Str × Addr)} {dV kV doc pm cdv ct oc : Value} {an od : Option Addr} {osl : Array (Option Value)} {f : Addr} {xs : List V} {n : Nat}
theorem call_defK {ks : List Str} {vs : List (Option V)} (hC : C.Is K) (ho : K.lookup f = some ⟨oc, od, .func (fnX name qual params body scope cl dV kV doc pm an cdv ct), osl⟩) (hcd : codeIn K cdv qual = true) (hfit : Fit (n + 1) A)
    (nd : ks.Nodup) (hcell : ∀ x ∈ scope.names, x.2 ≠ .cell)
    (hbind : ∀ s as, K.In s.heap → VRs s.heap xs as → ∃ binds, BindsTo s (fnX name qual params body scope cl dV kV doc pm an cdv ct) ⟨as, []⟩ binds ∧ (∀ y ∈ binds, scope.names.lookup y.1 = some .local) ∧ FrOk s.heap ks vs binds)
    (h : ∀ L A', Fit n A' → Xs C A' (envX qual scope L f cdv cl) ((L, AO.fr ks vs) :: σ) body (fun σ' => Drop Q .none σ') (fun v σ' => Drop Q v σ') (fun _ => False) (fun _ => False))
    (hco : scope.isCoroutine = false := by rfl) (hgen : scope.isGenerator = false := by rfl) (hk : scope.kind = .function := by rfl) : Call C A σ (.ref f) xs Q := by
  cases hC.isK
  exact call_def ho hcd hfit nd hcell hbind h hco hgen hk
theorem call_defKC {ks : List Str} {vs : List (Option V)} (hC : C.Is K) (ho : K.lookup f = some ⟨oc, od, .func (fnX name qual params body scope cl dV kV doc pm an cdv ct), osl⟩) (hcd : codeIn K cdv qual = true) (hfit : Fit (n + 1) A)
    (nd : ks.Nodup) (hcell : ∀ x ∈ scope.names, x.2 ≠ .cell)
    (hbind : ∀ s as, K.In s.heap → VRs s.heap xs as → ∃ binds, BindsTo s (fnX name qual params body scope cl dV kV doc pm an cdv ct) ⟨as, []⟩ binds ∧ (∀ y ∈ binds, scope.names.lookup y.1 = some .local) ∧ FrOk s.heap ks vs binds)
    (h : ∀ L A', Fit n A' → Xs C A' (envX qual scope L f cdv cl) ((L, AO.fr ks vs) :: σ) body (fun σ' => Drop Q .none σ') (fun v σ' => Drop Q v σ') (fun _ => False) (fun _ => False))
    (hco : scope.isCoroutine = false := by rfl) (hgen : scope.isGenerator = false := by rfl) (hk : scope.kind = .function := by rfl) : CallC C A σ (.ref f) xs Q := by
  cases hC.isK
  exact call_defC ho hcd hfit nd hcell hbind h hco hgen hk
end
section
variable {C : Cx} {A : Around} {σ : Led} {Q : V → Led → Prop} {i : Int}
theorem c_chr (h0 : 0 ≤ i) (h1 : i ≤ 1114111) (h : Q (.str ⟨#[i.toNat]⟩) σ) : Call C A σ (.bi "chr") [.int i] Q := by
  rintro s fv vs H rfl r
  simp only [VRs] at r
  obtain ⟨_, _, rfl, ⟨t, rfl⟩, rfl⟩ := r
  exact chr_of_range h0 h1 (done_str (d := s.drawn) H h)
theorem c_ord {x : Str} (h1 : x.length = 1) (h : Q (.int (x.cps.getD 0 0 : Nat)) σ) : Call C A σ (.bi "ord") [.str x] Q := by
  rintro s fv vs H rfl r
  simp only [VRs] at r
  obtain ⟨_, _, rfl, ⟨t, rfl⟩, rfl⟩ := r
  exact ord_of_one h1 (done_int (h := s.heap) (d := s.drawn) H h)
end
end Mine
end
section
open PySem PySem.W PySem.Calls PyProof.Rows PySem.Spec
set_option Elab.async false
set_option maxRecDepth 100000
set_option linter.unusedVariables false
namespace Mine
theorem Tr.sb {C : Cx} {α β : Type} {R : Heap → β → α → Prop} {A : Around} {σ σ' : Led} {t : Sem α} {Q : β → Led → Prop} (k : Sb σ' σ) (h : Tr C R A σ' t Q) : Tr C R A σ t Q := fun s H => h s (HR.sb k H)
theorem Tr.mono {C : Cx} {α β : Type} {R : Heap → β → α → Prop} {A : Around} {σ : Led} {t : Sem α} {Q Q' : β → Led → Prop} (h : Tr C R A σ t Q) (k : ∀ b σ, Q b σ → Q' b σ) : Tr C R A σ t Q' := fun s H => (h s H).mono k
theorem Tr.drop {C : Cx} {α β : Type} {R : Heap → β → α → Prop} {A : Around} {σ : Led} {t : Sem α} {Q : β → Led → Prop} (h : Tr C R A σ t (Drop Q)) : Tr C R A σ t Q := fun s H => (h s H).drop
theorem Xs.sb {C : Cx} {A : Around} {env : Env} {σ σ' : Led} {st : List Stmt} {Qn Qr Qb Qc} (k : Sb σ' σ) (h : Xs C A env σ' st Qn Qr Qb Qc) : Xs C A env σ st Qn Qr Qb Qc := Tr.sb k h
theorem drop_fq {Qn Qr Qb Qc} {b : AF} {σ : Led} (h : FQ (fun σ => ∃ σ', Sb σ' σ ∧ Qn σ') (fun x σ => Drop Qr x σ) (fun σ => ∃ σ', Sb σ' σ ∧ Qb σ') (fun σ => ∃ σ', Sb σ' σ ∧ Qc σ') b σ) : Drop (FQ Qn Qr Qb Qc) b σ := by
  cases b <;> exact h
theorem Xs.drops {C : Cx} {A : Around} {env : Env} {σ : Led} {st : List Stmt} {Qn Qr Qb Qc}
    (h : Xs C A env σ st (fun σ => ∃ σ', Sb σ' σ ∧ Qn σ') (fun x σ => Drop Qr x σ) (fun σ => ∃ σ', Sb σ' σ ∧ Qb σ') (fun σ => ∃ σ', Sb σ' σ ∧ Qc σ')) : Xs C A env σ st Qn Qr Qb Qc :=
  Tr.drop (Tr.mono h fun _ _ => drop_fq)
structure Iter (C : Cx) (A : Around) (a : Addr) (X : Nat → AO) (l : List V) (G : Led → Prop) : Prop where
  item : ∀ i y σ (Q : Option V → Led → Prop), l[i]? = some y → G σ → Q (some y) ((a, X (i + 1)) :: σ) → Nx C A ((a, X i) :: σ) (.ref a) Q
  stop : ∀ σ (Q : Option V → Led → Prop), G σ → Q none σ → Nx C A ((a, X l.length) :: σ) (.ref a) Q
  self : ∀ σ (Q : V → Led → Prop), Q (.ref a) ((a, X 0) :: σ) → It C A ((a, X 0) :: σ) (.ref a) Q
section
variable {C : Cx} {A : Around} {σ : Led} {env : Env} {pos : Pos} {Qn : Led → Prop} {Qr : V → Led → Prop} {Qb Qc : Led → Prop}
noncomputable def Loop (C : Cx) (A : Around) (env : Env) (it : V) (target : Expr) (body : List Stmt) (σ : Led) (Qn : Led → Prop) (Qr : V → Led → Prop) : Prop :=
  ∃ (J : Nat → Led → Prop) (n : Nat), J n σ ∧ ∀ n σ, J n σ → Nx C A σ it (fun o σ₃ => match o with
      | none => Qn σ₃
      | some y => Asg C A env σ₃ target y (fun σ₄ => Xs C A env σ₄ body (fun σ₅ => ∃ m, m < n ∧ J m σ₅) Qr Qn (fun σ₅ => ∃ m, m < n ∧ J m σ₅)))
theorem x_for' {target iter : Expr} {body : List Stmt} (h : Tr C VR A σ (eval iter env) (fun x σ₁ => It C A σ₁ x (fun it σ₂ => Loop C A env it target body σ₂ Qn Qr)))
    (ht : ∀ it v, letOwnedTupleGo target it v = pure () := by intro _ _; rfl) (hs : ∀ x, foldedSetIterable iter env x = pure x := by intro _; rfl) :
    X C A env σ (.For target iter body [] pos) Qn Qr Qb Qc := x_for h ht hs
theorem nx_sb {σ σ' : Led} {it : V} {Q : Option V → Led → Prop} (k : Sb σ' σ) (h : Nx C A σ' it Q) : Nx C A σ it Q := fun s a H r => h s a (HR.sb k H) r
theorem loop_seq {target : Expr} {body : List Stmt} {a : Addr} {Xo : Nat → AO} {l : List V} {G : Led → Prop} (I : Iter C A a Xo l G) (J : Nat → Led → Prop) (h0 : J 0 σ) (hG : ∀ i σ, J i σ → G σ)
    (turn : ∀ i y σ, l[i]? = some y → J i σ → Asg C A env ((a, Xo (i + 1)) :: σ) target y (fun σ₁ => Xs C A env σ₁ body (fun σ₂ => ∃ σ', Sb ((a, Xo (i + 1)) :: σ') σ₂ ∧ J (i + 1) σ') Qr (fun σ₂ => ∃ σ', Sb σ' σ₂ ∧ Qn σ') (fun σ₂ => ∃ σ', Sb ((a, Xo (i + 1)) :: σ') σ₂ ∧ J (i + 1) σ')))
    (fin : ∀ σ, J l.length σ → Qn σ) : Loop C A env (.ref a) target body ((a, Xo 0) :: σ) Qn Qr := by
  refine ⟨fun n σ => ∃ i σ', n = l.length + 1 - i ∧ i ≤ l.length ∧ σ = (a, Xo i) :: σ' ∧ J i σ', l.length + 1, ⟨0, σ, rfl, Nat.zero_le _, rfl, h0⟩, ?_⟩
  rintro n σ ⟨i, σ', rfl, hi, rfl, j⟩
  rcases Nat.lt_or_ge i l.length with hl | hl
  · have e : l[i]? = some l[i] := List.getElem?_eq_getElem hl
    refine I.item i l[i] σ' _ e (hG i σ' j) ?_
    have := turn i l[i] σ' e j
    refine fun s v H r => (this s v H r).mono fun _ σ₁ q => ?_
    refine Xs.drops (Tr.mono q fun b σ₂ q => ?_)
    have go : ∀ {σ₂ : Led}, (∃ σ', Sb ((a, Xo (i + 1)) :: σ') σ₂ ∧ J (i + 1) σ') → ∃ σ', Sb σ' σ₂ ∧ ∃ m, m < l.length + 1 - i ∧ ∃ i σ'', m = l.length + 1 - i ∧ i ≤ l.length ∧ σ' = (a, Xo i) :: σ'' ∧ J i σ'' := by
      rintro σ₂ ⟨σ', k, j⟩
      exact ⟨_, k, l.length + 1 - (i + 1), by lia, i + 1, σ', rfl, hl, rfl, j⟩
    cases b with
    | next => exact go q
    | cont => exact go q
    | brk => exact q
    | ret x => exact ⟨σ₂, .refl, q⟩
  · have e : i = l.length := Nat.le_antisymm hi hl
    subst e
    exact I.stop σ' _ (hG _ σ' j) (fin σ' j)
end
noncomputable def chars (x : Str) : List V := x.cps.toList.map fun c => .str ⟨#[c]⟩
noncomputable def StrIt (x : Str) (i : Nat) (o : Obj) : Prop := ∃ ty t, (if x.cps.all (· < 128) = true then ty = "str_ascii_iterator" else ty = "str_iterator") ∧ o.cls = .type ty ∧ o.data = .fields #[.str x t, .int i 0]
noncomputable def AO.strit (x : Str) (i : Nat) : AO := ⟨fun _ o => StrIt x i o, fun _ h => h⟩
section
variable {C : Cx} {A : Around} {σ : Led} {a : Addr} {x : Str}
theorem it_str {Q : V → Led → Prop} (h : ∀ a, Q (.ref a) ((a, AO.strit x 0) :: σ)) : It C A σ (.str x) Q := by
  rintro s v H ⟨t, rfl⟩
  have add : ∀ ty, (if x.cps.all (· < 128) = true then ty = "str_ascii_iterator" else ty = "str_iterator") →
      Post C VR s.heap Q (.ref s.heap.objs.size) { s with heap := s.heap.push { cls := .type ty, data := .fields #[.str x t, .int 0 0] } } := fun ty hty =>
    ⟨.ref s.heap.objs.size, _, H.add (X := AO.strit x 0) (fun b o e => Heap.get?_push_of_some _ e) (Nat.le_refl _) (Heap.get?_push_size _ rfl) (Pl.fields rfl (by intro e; cases e)) ⟨ty, t, hty, rfl, rfl⟩ rfl rfl, vr_ref.mpr rfl, TK.push _, h _⟩
  cases ha : x.cps.all (· < 128) with
  | true => exact wpAny_pyIter_ascii ha (add _ (by rw [ha]; rfl))
  | false => exact wpAny_pyIter_wide ha (add _ (by rw [ha]; rfl))
theorem iter_str (hA : A.handled = none) : Iter C A a (AO.strit x) (chars x) (fun _ => True) where
  item := by
    rintro i y σ Q e _ h s v H rfl
    obtain ⟨o, g, nt, ty, t, hty, hc, hd⟩ := H.own _ (List.Mem.head _)
    unfold chars at e
    rw [List.getElem?_map] at e
    cases hx : x.cps[i]? with
    | none => simp [Array.getElem?_toList, hx] at e
    | some c =>
      rw [Array.getElem?_toList, hx] at e
      cases e
      have done : ∀ h', h'.IsStrIter a ty x t (i + 1) → Heap.SameBut a s.heap h' → Post C RO s.heap Q (some (.str ⟨#[c]⟩ s.toks)) { s with heap := h', toks := s.toks + 1 } := by
        rintro h' ⟨o', g', c', d'⟩ hs
        have U : LU a (AO.strit x i) (AO.strit x (i + 1)) ((a, AO.strit x i) :: σ) ((a, AO.strit x (i + 1)) :: σ) := .head
        exact ⟨some (.str ⟨#[c]⟩), _, (H.upd (s' := { s with heap := h', toks := s.toks + 1 }) U hs g' (Pl.fields d' (by rw [c']; intro e; cases e)) ⟨ty, t, hty, c', d'⟩ rfl rfl).1, ⟨_, rfl, vr_str.mpr ⟨_, rfl⟩⟩, HR.tkUpd H U hs, h⟩
      cases ha : x.cps.all (· < 128) with
      | true => rw [ha] at hty; simp only [if_true] at hty; subst hty; exact wpAny_pyNext_ascii_item ⟨o, g, hc, hd⟩ hx done
      | false => rw [ha] at hty; simp only [Bool.false_eq_true, if_false] at hty; subst hty; exact wpAny_pyNext_wide_item ⟨o, g, hc, hd⟩ hx done
  stop := by
    rintro σ Q _ h s v H rfl
    obtain ⟨o, g, nt, ty, t, hty, hc, hd⟩ := H.own _ (List.Mem.head _)
    have hx : x.cps[(chars x).length]? = none := by simp [chars]
    have done : ∀ h', Heap.ExtBut a s.heap h' → Post C RO s.heap Q none { s with heap := h' } := fun h' hs => ⟨none, σ, (H.del (s' := { s with heap := h' }) hs rfl rfl).1, rfl, (H.del (s' := { s with heap := h' }) hs rfl rfl).2, h⟩
    cases ha : x.cps.all (· < 128) with
    | true => rw [ha] at hty; simp only [if_true] at hty; subst hty; exact wpAny_pyNext_ascii_end hA ⟨o, g, hc, hd⟩ hx done
    | false => rw [ha] at hty; simp only [Bool.false_eq_true, if_false] at hty; subst hty; exact wpAny_pyNext_wide_end hA ⟨o, g, hc, hd⟩ hx done
  self := by
    rintro σ Q h s v H rfl
    obtain ⟨o, g, nt, ty, t, hty, hc, hd⟩ := H.own _ (List.Mem.head _)
    have done : Post C VR s.heap Q (.ref a) s := ⟨_, _, H, vr_ref.mpr rfl, TK.refl _, h⟩
    cases ha : x.cps.all (· < 128) with
    | true => rw [ha] at hty; simp only [if_true] at hty; subst hty; exact wpAny_pyIter_striter_ascii ⟨o, g, hc, hd⟩ done
    | false => rw [ha] at hty; simp only [Bool.false_eq_true, if_false] at hty; subst hty; exact wpAny_pyIter_striter_wide ⟨o, g, hc, hd⟩ done
end
noncomputable def AO.lit (l : Addr) (i : Nat) : AO := ⟨fun _ o => o.cls = .type "list_iterator" ∧ o.data = .fields #[.ref l, .int i 0], fun _ h => h⟩
section
variable {C : Cx} {A : Around} {σ : Led} {a b : Addr} {l : List V}
theorem listOf {s : Shared} (H : HR C σ s) (hm : (b, AO.list l) ∈ σ) : ∃ vs, s.heap.IsList b vs.toArray ∧ VRs s.heap l vs := by
  obtain ⟨o, g, _, ⟨c, _⟩, vs, n, d, r⟩ := H.own _ hm
  exact ⟨vs, ⟨o, g, c, n, d⟩, r⟩
theorem it_list {Q : V → Led → Prop} (hm : (b, AO.list l) ∈ σ) (h : ∀ a, Q (.ref a) ((a, AO.lit b 0) :: σ)) : It C A σ (.ref b) Q := by
  rintro s v H rfl
  obtain ⟨vs, L, r⟩ := listOf H hm
  exact wpAny_pyIter_list L ⟨_, _, H.add (X := AO.lit b 0) (fun b o e => Heap.get?_push_of_some _ e) (Nat.le_refl _) (Heap.get?_push_size _ rfl) (Pl.fields rfl (by intro e; cases e)) ⟨rfl, rfl⟩ rfl rfl, vr_ref.mpr rfl, TK.push _, h _⟩
theorem iter_list (hA : A.handled = none) : Iter C A a (AO.lit b) l (fun σ => (b, AO.list l) ∈ σ) where
  item := by
    rintro i y σ Q e hm h s v H rfl
    obtain ⟨o, g, nt, hc, hd⟩ := H.own _ (List.Mem.head _)
    obtain ⟨vs, L, r⟩ := listOf H (List.Mem.tail _ hm)
    obtain ⟨w, hw, rw'⟩ := r.get e
    refine wpAny_pyNext_list_item (x := w) ⟨o, g, hc, hd⟩ L (by simpa using hw) ?_
    rintro h' ⟨o', g', c', d'⟩ hs
    have U : LU a (AO.lit b i) (AO.lit b (i + 1)) ((a, AO.lit b i) :: σ) ((a, AO.lit b (i + 1)) :: σ) := .head
    have tk := HR.tkUpd H U hs
    exact ⟨some y, _, (H.upd (s' := { s with heap := h' }) U hs g' (Pl.fields d' (by rw [c']; intro e; cases e)) ⟨c', d'⟩ rfl rfl).1, ⟨_, rfl, rw'.mono tk⟩, tk, h⟩
  stop := by
    rintro σ Q hm h s v H rfl
    obtain ⟨o, g, nt, hc, hd⟩ := H.own _ (List.Mem.head _)
    obtain ⟨vs, L, r⟩ := listOf H (List.Mem.tail _ hm)
    refine wpAny_pyNext_list_end hA ⟨o, g, hc, hd⟩ L (by simp [← r.length]) fun h' hs => ?_
    exact ⟨none, σ, (H.del (s' := { s with heap := h' }) hs rfl rfl).1, rfl, (H.del (s' := { s with heap := h' }) hs rfl rfl).2, h⟩
  self := by
    rintro σ Q h s v H rfl
    obtain ⟨o, g, nt, hc, hd⟩ := H.own _ (List.Mem.head _)
    exact wpAny_pyIter_listiter ⟨o, g, hc, hd⟩ ⟨_, _, H, vr_ref.mpr rfl, TK.refl _, h⟩
end
noncomputable def AO.range (i j : Int) : AO := ⟨fun _ o => ∃ t u v, o = { cls := .type "range", data := .fields #[.int i t, .int j u, .int 1 v] }, fun _ h => h⟩
noncomputable def AO.rit (x : Int) (left : Int) : AO := ⟨fun _ o => o = { cls := .type "range_iterator", data := .fields #[rawInt x, rawInt left, rawInt 1] }, fun _ h => h⟩
noncomputable def upto (i : Int) (n : Nat) : List V := (List.range n).map fun (k : Nat) => V.int (i + (k : Int))
section
variable {C : Cx} {A : Around} {σ : Led} {a b : Addr} {i j : Int}
theorem c_range1 {Q : V → Led → Prop} (h : ∀ a, Q (.ref a) ((a, AO.range 0 j) :: σ)) : Call C A σ (.type "range") [.int j] Q := by
  rintro s fv vs H rfl r
  simp only [VRs] at r
  obtain ⟨_, _, rfl, ⟨t, rfl⟩, rfl⟩ := r
  exact call_range_1 ⟨_, _, H.add (X := AO.range 0 j) (fun b o e => Heap.get?_push_of_some _ e) (Nat.le_refl _) (Heap.get?_push_size _ rfl) (Pl.fields rfl (by intro e; cases e)) ⟨_, _, _, rfl⟩ rfl rfl, vr_ref.mpr rfl, TK.push _, h _⟩
theorem it_range {Q : V → Led → Prop} (hm : (b, AO.range i j) ∈ σ) (hi : -(2 ^ 62) ≤ i) (hi' : i < 2 ^ 62) (hj : -(2 ^ 62) ≤ j) (hj' : j < 2 ^ 62)
    (h : ∀ a, Q (.ref a) ((a, AO.rit i ((j - i).toNat : Nat)) :: σ)) : It C A σ (.ref b) Q := by
  rintro s v H rfl
  obtain ⟨o, g, nt, t, u, w, rfl⟩ := H.own _ hm
  have e : Builtin.Range.rangeSize i j 1 = ((j - i).toNat : Nat) := by rw [rangeSize_one]; split <;> lia
  refine wpAny_pyIter_range (r := b) (a := i) (b := j) (c := 1) g (small_one hi hi' hj hj') ?_
  rw [e]
  exact ⟨_, _, H.add (X := AO.rit i ((j - i).toNat : Nat)) (fun b o e => Heap.get?_push_of_some _ e) (Nat.le_refl _) (Heap.get?_push_size _ rfl) (Pl.fields rfl (by intro e; cases e)) rfl rfl rfl, vr_ref.mpr rfl, TK.push _, h _⟩
theorem iter_range (hA : A.handled = none) {n : Nat} : Iter C A a (fun k => AO.rit (i + k) ((n : Int) - k)) (upto i n) (fun _ => True) where
  item := by
    rintro k y σ Q e _ h s v H rfl
    obtain ⟨o, g, nt, ho⟩ := H.own _ (List.Mem.head _)
    dsimp only at ho
    subst ho
    have hk : k < n := by
      have := (List.getElem?_eq_some_iff.mp e).1
      simpa [upto] using this
    have ey : y = .int (i + k) := by
      simp [upto, List.getElem?_range, hk] at e
      exact e.symm
    subst ey
    refine wpAny_pyNext_range_item (x := i + k) (left := (n : Int) - k) (step := 1) g (by lia) fun h' hit hs => ?_
    have e2 : i + (k : Int) + 1 = i + ((k + 1 : Nat) : Int) := by lia
    have e3 : (n : Int) - k - 1 = (n : Int) - ((k + 1 : Nat) : Int) := by lia
    rw [e2, e3] at hit
    have U : LU a (AO.rit (i + k) ((n : Int) - k)) (AO.rit (i + ((k + 1 : Nat) : Int)) ((n : Int) - ((k + 1 : Nat) : Int))) ((a, AO.rit (i + k) ((n : Int) - k)) :: σ) ((a, AO.rit (i + ((k + 1 : Nat) : Int)) ((n : Int) - ((k + 1 : Nat) : Int))) :: σ) := .head
    exact ⟨some (.int (i + k)), _, (H.upd (s' := { s with heap := h', toks := s.toks + 1 }) U hs hit (Pl.fields rfl (by intro e; cases e)) rfl rfl rfl).1, ⟨_, rfl, vr_int.mpr ⟨_, rfl⟩⟩, HR.tkUpd H U hs, h⟩
  stop := by
    rintro σ Q _ h s v H rfl
    obtain ⟨o, g, nt, ho⟩ := H.own _ (List.Mem.head _)
    dsimp only at ho
    subst ho
    have en : (upto i n).length = n := by simp [upto]
    refine wpAny_pyNext_range_end hA (x := i + ((upto i n).length : Nat)) (left := (n : Int) - ((upto i n).length : Nat)) (step := 1) g (by rw [en]; lia) fun h' hs => ?_
    exact ⟨none, σ, (H.del (s' := { s with heap := h' }) hs rfl rfl).1, rfl, (H.del (s' := { s with heap := h' }) hs rfl rfl).2, h⟩
  self := by
    rintro σ Q h s v H rfl
    obtain ⟨o, g, nt, ho⟩ := H.own _ (List.Mem.head _)
    dsimp only at ho
    subst ho
    exact wpAny_pyIter_rangeiter (x := i + ((0 : Nat) : Int)) (left := (n : Int) - ((0 : Nat) : Int)) (step := 1) g ⟨_, _, H, vr_ref.mpr rfl, TK.refl _, h⟩
end
noncomputable def AO.bit (b : Array UInt8) (i : Nat) : AO := ⟨fun _ o => ∃ t, o.cls = .type "bytes_iterator" ∧ o.data = .fields #[.bytes b t, .int i 0], fun _ h => h⟩
noncomputable def octets (b : Array UInt8) : List V := b.toList.map fun c => .int (c.toNat : Int)
section
variable {C : Cx} {A : Around} {σ : Led} {a : Addr} {b : Array UInt8}
theorem it_bytes {Q : V → Led → Prop} (h : ∀ a, Q (.ref a) ((a, AO.bit b 0) :: σ)) : It C A σ (.bytes b) Q := by
  rintro s v H ⟨t, rfl⟩
  exact KBw.pyIter_bytes ⟨_, _, H.add (X := AO.bit b 0) (fun b o e => Heap.get?_push_of_some _ e) (Nat.le_refl _) (Heap.get?_push_size _ rfl) (Pl.fields rfl (by intro e; cases e)) ⟨t, rfl, rfl⟩ rfl rfl, vr_ref.mpr rfl, TK.push _, h _⟩
theorem iter_bytes (hA : A.handled = none) : Iter C A a (AO.bit b) (octets b) (fun _ => True) where
  item := by
    rintro i y σ Q e _ h s v H rfl
    obtain ⟨o, g, nt, t, hc, hd⟩ := H.own _ (List.Mem.head _)
    unfold octets at e
    rw [List.getElem?_map] at e
    cases hx : b[i]? with
    | none => simp [Array.getElem?_toList, hx] at e
    | some c =>
      rw [Array.getElem?_toList, hx] at e
      cases e
      refine KBw.next_item (t := t) ⟨o, g, hc, hd⟩ hx ?_
      rintro h' ⟨o', g', c', d'⟩ hs
      have U : LU a (AO.bit b i) (AO.bit b (i + 1)) ((a, AO.bit b i) :: σ) ((a, AO.bit b (i + 1)) :: σ) := .head
      exact ⟨some (.int (c.toNat : Int)), _, (H.upd (s' := { s with heap := h', toks := s.toks + 1 }) U hs g' (Pl.fields d' (by rw [c']; intro e; cases e)) ⟨t, c', d'⟩ rfl rfl).1, ⟨_, rfl, vr_int.mpr ⟨_, rfl⟩⟩, HR.tkUpd H U hs, h⟩
  stop := by
    rintro σ Q _ h s v H rfl
    obtain ⟨o, g, nt, t, hc, hd⟩ := H.own _ (List.Mem.head _)
    have hx : b[(octets b).length]? = none := by simp [octets]
    exact KBw.next_end hA (t := t) ⟨o, g, hc, hd⟩ hx fun h' hs => ⟨none, σ, (H.del (s' := { s with heap := h' }) hs rfl rfl).1, rfl, (H.del (s' := { s with heap := h' }) hs rfl rfl).2, h⟩
  self := by
    rintro σ Q h s v H rfl
    obtain ⟨o, g, nt, t, hc, hd⟩ := H.own _ (List.Mem.head _)
    exact KBw.pyIter_self (t := t) (i := 0) ⟨o, g, hc, hd⟩ ⟨_, _, H, vr_ref.mpr rfl, TK.refl _, h⟩
end
end Mine
end
section
open PySem PySem.W PySem.Calls PyProof.Rows PySem.Spec
set_option Elab.async false
set_option maxRecDepth 100000
set_option linter.unusedVariables false
namespace Mine
noncomputable def cellNames (scope : Scope) : List Str := (scope.names.filter (·.2 == .cell)).map (·.1)
noncomputable def celled (cs : List (Str × Addr)) : Led := cs.map fun p => (p.2, AO.cell none)
noncomputable def RE (_ : Heap) (e e' : Env) : Prop := e' = e
noncomputable def Binds (C : Cx) (A : Around) (env : Env) : Led → List (Str × V) → (Led → Prop) → Prop
  | σ, [], Q => Q σ
  | σ, (x, v) :: r, Q => St C A σ (storeName env x) v (fun _ σ' => Binds C A env σ' r Q)
section
variable {C : Cx} {A : Around} {σ : Led}
theorem layCells : ∀ (names : List (Str × NameKind)) (acc : List (Str × Addr)) (σ : Led) (s : Shared), HR C σ s → ∃ cs, cellsFrom s.heap.objs.size names acc = cs ++ acc ∧ cs.map Prod.fst = ((names.filter (·.2 == .cell)).map (·.1)).reverse ∧
      HR C (celled cs ++ σ) { s with heap := pushCells s.heap names } ∧ TK s.heap (pushCells s.heap names)
  | [], acc, σ, s, H => ⟨[], rfl, rfl, H, TK.refl _⟩
  | (x, k) :: r, acc, σ, s, H => by
    unfold cellsFrom pushCells
    by_cases hk : (k == NameKind.cell) = true
    · rw [if_pos hk, if_pos hk]
      have H' : HR C ((s.heap.objs.size, AO.cell none) :: σ) { s with heap := s.heap.push { cls := .type "cell", data := .cell none } } :=
        H.add (fun b o e => Heap.get?_push_of_some _ e) (Nat.le_refl _) (Heap.get?_push_size _ rfl) (Pl.cell rfl) ⟨none, rfl, rfl⟩ rfl rfl
      obtain ⟨cs, e1, e2, H'', tk⟩ := layCells r ((x, s.heap.objs.size) :: acc) _ _ H'
      refine ⟨cs ++ [(x, s.heap.objs.size)], ?_, ?_, ?_, (TK.push _).trans tk⟩
      · have : (s.heap.push { cls := Value.type "cell", data := Data.cell none }).objs.size = s.heap.objs.size + 1 := Heap.size_push ..
        rw [← this]
        rw [List.append_assoc]
        exact e1
      · rw [List.map_append, e2]
        simp [List.filter_cons, hk]
      · have e3 : celled (cs ++ [(x, s.heap.objs.size)]) ++ σ = celled cs ++ (s.heap.objs.size, AO.cell none) :: σ := by simp [celled]
        rw [e3]
        exact H''
    · rw [if_neg hk, if_neg hk]
      obtain ⟨cs, e1, e2, H'', tk⟩ := layCells r acc _ _ H
      exact ⟨cs, e1, by rw [e2]; simp [List.filter_cons, hk], H'', tk⟩
theorem binds_ {env : Env} (f : Str × Value → PUnit → Sem (ForInStep PUnit)) (hf : ∀ n v u, f (n, v) u = (do storeName env n v; pure (.yield ⟨⟩))) {P : PUnit → Shared → Prop} {E : Value → Shared → Prop} {h₀ : Heap} :
    ∀ (ps : List Str) (bxs : List V) (bvs : List Value) (σ : Led) (s : Shared) (Q : Led → Prop), HR C σ s → TK h₀ s.heap → VRs s.heap bxs bvs → ps.length = bxs.length → Binds C A env σ (ps.zip bxs) Q →
      (∀ σ' s', HR C σ' s' → TK h₀ s'.heap → Q σ' → P ⟨⟩ s') → wpAny (model C.prog C.w) A (forIn (ps.zip bvs) ⟨⟩ f) P E s
  | [], [], _, σ, s, Q, H, tk, r, _, b, k => by rw [List.zip_nil_left, List.forIn_nil]; exact wpAny_pure (k σ s H tk b)
  | p :: ps, x :: bxs, bvs, σ, s, Q, H, tk, r, hl, b, k => by
    simp only [VRs] at r
    obtain ⟨v, rest, rfl, rv, rr⟩ := r
    rw [List.zip_cons_cons, List.forIn_cons, hf]
    have b' : St C A σ (storeName env p) x (fun _ σ' => Binds C A env σ' (ps.zip bxs) Q) := b
    refine wpAny_bind (wpAny_bind ((b' s v H rv).run fun _ s₁ _ σ₁ H₁ _ k₁ q₁ => wpAny_pure ?_))
    exact binds_ f hf ps bxs rest σ₁ s₁ Q H₁ (tk.trans k₁) (rr.mono k₁) (by simpa using hl) q₁ k
  | [], _ :: _, _, _, _, _, _, _, _, hl, _, _ => by simp at hl
  | _ :: _, [], _, _, _, _, _, _, _, hl, _, _ => by simp at hl
theorem binds_mono {env : Env} : ∀ (bs : List (Str × V)) (σ : Led) {Q Q' : Led → Prop}, Binds C A env σ bs Q → (∀ σ, Q σ → Q' σ) → Binds C A env σ bs Q'
  | [], _, _, _, h, k => k _ h
  | (_, _) :: r, _, _, _, h, k => fun s a H ra => (h s a H ra).mono fun _ σ' q => binds_mono r σ' q k
theorem newFunctionEnv_ {scope : Scope} {globals : Addr} {closure : List (Str × Addr)} {qual : Str} {func : Option Addr} {code : Value} {around : Option Env} {builtins : Addr} {ks : List Str} {cn ps : List Str} {bxs : List V} {bvs : List Value}
    {Q : Env → Led → Prop} {s : Shared} (nd : ks.Nodup) (hcn : (cellNames scope).reverse = cn) (hl : ps.length = bxs.length) (H : HR C σ s) (r : VRs s.heap bxs bvs)
    (h : ∀ L cs, cs.map Prod.fst = cn → Binds C A (newEnv scope L globals (cs ++ closure) qual func code around builtins) ((L, AO.fr ks (ks.map fun _ => none)) :: (celled cs ++ σ)) (ps.zip bxs) (fun σ' => Q (newEnv scope L globals (cs ++ closure) qual func code around builtins) σ')) :
    WP C RE A s (newFunctionEnv scope globals closure (ps.zip bvs) qual func code around builtins) Q := by
  unfold WP newFunctionEnv
  refine wpAny_bind (wpAny_alloc ?_)
  generalize ho : ({ cls := .type (if around.isSome = true then "dict" else "frame"), data := .dict #[] } : Obj) = oL
  have hd : oL.data = .dict #[] 0 := by rw [← ho]
  have hfr : oL.isFreed = false := by rw [← ho]; rfl
  have H₁ : HR C ((s.heap.objs.size, AO.fr ks (ks.map fun _ => none)) :: σ) { s with heap := s.heap.push oL } :=
    H.add (fun b o e => Heap.get?_push_of_some _ e) (Nat.le_refl _) (Heap.get?_push_size _ hfr) (Pl.dict hd)
      ⟨nd, #[], 0, hd, fun e he => by simp at he, fun p hp x e => by
        have := List.of_mem_zip hp
        obtain ⟨_, _, e'⟩ := List.mem_map.mp this.2
        rw [← e'] at e; cases e⟩ rfl rfl
  obtain ⟨cs, e1, e2, H₂, tk₂⟩ := layCells scope.names closure _ _ H₁
  refine wpAny_bind (wpAny_layCells _ (fun name kind cells => rfl) _ _ _ _ ?_)
  rw [e1]
  have es : (s.heap.push oL).objs.size = s.heap.objs.size + 1 := Heap.size_push ..
  have hL := h s.heap.objs.size cs (by rw [e2]; exact hcn)
  have H₃ : HR C ((s.heap.objs.size, AO.fr ks (ks.map fun _ => none)) :: (celled cs ++ σ)) { s with heap := pushCells (s.heap.push oL) scope.names } := H₂.perm List.perm_middle.symm
  have tk : TK s.heap (pushCells (s.heap.push oL) scope.names) := (TK.push _).trans tk₂
  cases around with
  | none => exact wpAny_bind (binds_ _ (fun _ _ _ => rfl) ps bxs bvs _ _ _ H₃ tk (r.mono tk) hl hL fun σ' s' H' tk' q => wpAny_pure ⟨_, σ', H', rfl, tk', q⟩)
  | some o => exact wpAny_bind (binds_ _ (fun _ _ _ => rfl) ps bxs bvs _ _ _ H₃ tk (r.mono tk) hl hL fun σ' s' H' tk' q => wpAny_pure ⟨_, σ', H', rfl, tk', q⟩)
end
section
variable {C : Cx} {K : Frag} {A : Around} {σ : Led} {Q : V → Led → Prop}
variable {name qual : Str} {params : Arguments} {body : List Stmt} {scope : Scope} {cl : List (Str × Addr)} {dV kV doc pm cdv ct oc : Value} {an od : Option Addr} {osl : Array (Option Value)} {f : Addr} {xs : List V} {n : Nat}
theorem call_fnC {fd : FuncData} {cn ks ps : List Str} {bxs : List V} (hfd : fd = fnX name qual params body scope cl dV kV doc pm an cdv ct)
    (ho : ∀ s, HR C σ s → ∃ o, s.heap.get? f = some o ∧ o.data = .func fd ∧ s.heap.CodeRec cdv qual) (hfit : Fit (n + 1) A) (nd : ks.Nodup) (hcn : (cellNames scope).reverse = cn) (hl : ps.length = bxs.length)
    (hbind : ∀ s as, C.K.In s.heap → VRs s.heap xs as → ∃ bvs, BindsTo s fd ⟨as, []⟩ (ps.zip bvs) ∧ VRs s.heap bxs bvs)
    (h : ∀ A₁ L cs, cs.map Prod.fst = cn → Binds C A₁ (envX qual scope L f cdv (cs ++ cl)) ((L, AO.fr ks (ks.map fun _ => none)) :: (celled cs ++ σ)) (ps.zip bxs)
      (fun σ' => ∀ A', Fit n A' → Xs C A' (envX qual scope L f cdv (cs ++ cl)) σ' body (fun σ' => Drop Q .none σ') (fun v σ' => Drop Q v σ') (fun _ => False) (fun _ => False)))
    (hco : scope.isCoroutine = false := by rfl) (hgen : scope.isGenerator = false := by rfl) : CallC C A σ (.ref f) xs Q := by
  rintro s fv as H rfl ra
  subst hfd
  obtain ⟨o, g, hd, hcr⟩ := ho s H
  obtain ⟨bvs, hb, rb⟩ := hbind s as H.bg.kin ra
  refine codeAny_call_function hfit.room g hd hco hgen rfl hcr (hb _ _ _ _ ?_)
  refine (newFunctionEnv_ (C := C) (A := A.in1) (ks := ks) (Q := fun env σ' => ∃ L cs, env = envX qual scope L f cdv (cs ++ cl) ∧ ∀ A', Fit n A' → Xs C A' env σ' body (fun σ' => Drop Q .none σ') (fun v σ' => Drop Q v σ') (fun _ => False) (fun _ => False)) nd hcn hl H rb ?_).run ?_
  · intro L cs hcs
    exact binds_mono _ _ (h A.in1 L cs hcs) fun σ' q => ⟨L, cs, rfl, q⟩
  · rintro env s₁ env' σ₁ H₁ rfl k₁ ⟨L, cs, rfl, q⟩
    refine ⟨H₁.bg.nl, codeAny_func ?_⟩
    refine ((q (A.deeper _) hfit.deeper) s₁ H₁).run fun fl s₂ b σ₂ H₂ r₂ k₂ q₂ => ?_
    cases b with
    | next => cases r₂; obtain ⟨σ₃, k₃, q⟩ := q₂; exact ⟨.none, σ₃, HR.sb k₃ H₂, vr_none.mpr rfl, k₁.trans k₂, q⟩
    | brk => exact q₂.elim
    | cont => exact q₂.elim
    | ret x => obtain ⟨v, rfl, r⟩ := r₂; obtain ⟨σ₃, k₃, q⟩ := q₂; exact ⟨x, σ₃, HR.sb k₃ H₂, r, k₁.trans k₂, q⟩
theorem call_fn {fd : FuncData} {cn ks ps : List Str} {bxs : List V} (hfd : fd = fnX name qual params body scope cl dV kV doc pm an cdv ct)
    (ho : ∀ s, HR C σ s → ∃ o, s.heap.get? f = some o ∧ o.data = .func fd ∧ s.heap.CodeRec cdv qual) (hfit : Fit (n + 1) A) (nd : ks.Nodup) (hcn : (cellNames scope).reverse = cn) (hl : ps.length = bxs.length)
    (hbind : ∀ s as, C.K.In s.heap → VRs s.heap xs as → ∃ bvs, BindsTo s fd ⟨as, []⟩ (ps.zip bvs) ∧ VRs s.heap bxs bvs)
    (h : ∀ A₁ L cs, cs.map Prod.fst = cn → Binds C A₁ (envX qual scope L f cdv (cs ++ cl)) ((L, AO.fr ks (ks.map fun _ => none)) :: (celled cs ++ σ)) (ps.zip bxs)
      (fun σ' => ∀ A', Fit n A' → Xs C A' (envX qual scope L f cdv (cs ++ cl)) σ' body (fun σ' => Drop Q .none σ') (fun v σ' => Drop Q v σ') (fun _ => False) (fun _ => False)))
    (hco : scope.isCoroutine = false := by rfl) (hgen : scope.isGenerator = false := by rfl) : Call C A σ (.ref f) xs Q := (call_fnC hfd ho hfit nd hcn hl hbind h hco hgen).call
end
end Mine
end
section
open PySem PySem.W PySem.Calls PyProof.Rows PySem.Spec
set_option Elab.async false
set_option maxRecDepth 100000
set_option linter.unusedVariables false
namespace Mine
theorem mapSeq_dict (o : Obj) (f) : (o.mapSeq f).dict = o.dict := by obtain ⟨c, d, dt, sl⟩ := o; cases dt <;> rfl
section
variable {C : Cx} {A : Around} {σ σ' : Led} {b : Addr} {T : Value} {dc : Option Addr} {l l' : List V}
theorem seqOf {s : Shared} (H : HR C σ s) (hm : (b, AO.seq T dc l) ∈ σ) : ∃ o vs n, s.heap.get? b = some o ∧ o.cls = T ∧ o.dict = dc ∧ o.data = .seq vs.toArray n ∧ VRs s.heap l vs := by
  obtain ⟨o, g, _, ⟨c, d'⟩, vs, n, d, r⟩ := H.own _ hm
  exact ⟨o, vs, n, g, c, d', d, r⟩
structure ListTy (C : Cx) (T : Value) : Prop where
  ne : T ≠ .type "tuple"
  nn : T ≠ .none
  inst : ∀ (h : Heap) (a : Addr) (o : Obj), C.K.In h → h.get? a = some o → o.cls = T → Looks (model C.prog C.w) h (isInstance (.ref a) (.type "list")) true
theorem listTy : ListTy C (.type "list") := ⟨by decide, by decide, fun h a o X g c => by
  have T : Looks (model C.prog C.w) h (typeOf (.ref a)) (.type "list") := c ▸ (Looks.ld g).andThen .now
  exact T.andThen (Looks.of_pure (by rw [isSubtype_type]; kernel_rfl))⟩
theorem listTy_cls {K : Frag} {D : Addr} (hC : C.Is K) (hm : mroIn K D (.type "list") = some true) : ListTy C (.ref D) := ⟨(by intro e; cases e), (by intro e; cases e), fun h a o X g c => by
  have T : Looks (model C.prog C.w) h (typeOf (.ref a)) (.ref D) := c ▸ (Looks.ld g).andThen .now
  exact T.andThen (looks_mroIn (hC.isK ▸ X) hm)⟩
theorem call_self {prog : Program} {w : World} {A : Around} {E : Value → Shared → Prop} {s : Shared} {id owner n : String} {b : Builtin} {self : Value} {rest : List Value} {Q : Value → Shared → Prop}
    (hk : builtinKind id = some .method ∨ builtinKind id = some .slot) (hs : splitId id = some (owner, n)) (hp : plainId id = true) (hb : entryFor table id = some b) (ha : argsOk id ⟨self :: rest, []⟩)
    (L : Looks (model prog w) s.heap (isInstance self (.type owner)) true) (h : wpAny (model prog w) A.in1 (b ⟨self :: rest, []⟩) (fun fin s' => ∃ v, fin = .done (.ret v) ∧ Q v s') E s) : wpAny (model prog w) A (call (.builtin id) (self :: rest)) Q E s := by
  refine wpAny_call (codeAny_call_builtin hp hb ?_)
  rcases hk with hk | hk <;>
  · simp only [checkBuiltinCall, hk, hs]
    refine wpAny_bind (L.here ?_)
    simp only [Bool.not_true, Bool.false_eq_true, if_false]
    cases hsig : Manifest.signature? id with
    | none => exact wpAny_pure (wpAny_mono h (fun fin s' h' => by obtain ⟨v, rfl, hv⟩ := h'; exact hv) fun _ _ x => x)
    | some sig =>
      simp only [argsOk, hsig] at ha
      have h2 : Bind.checkArgs id sig ⟨self :: rest, []⟩ = pure () := ha
      show wpAny _ _ (Bind.checkArgs id sig ⟨self :: rest, []⟩) _ _ s
      rw [h2]; exact wpAny_pure (wpAny_mono h (fun fin s' h' => by obtain ⟨v, rfl, hv⟩ := h'; exact hv) fun _ _ x => x)
theorem upd_seq {s : Shared} {f : Array Value → Array Value} {Q : Unit → Shared → Prop} {E : Value → Shared → Prop} {A : Around} (hT : ListTy C T) (H : HR C σ s) (U : LU b (AO.seq T dc l) (AO.seq T dc l') σ σ') (hz : l.length ≤ sizeLine) (hz' : l'.length ≤ sizeLine + 1)
    (hf : ∀ h vs, TK s.heap h → VRs h l vs → ∃ vs', f vs.toArray = vs'.toArray ∧ VRs h l' vs') (h : ∀ s', HR C σ' s' → TK s.heap s'.heap → Q () s') : wpAny (model C.prog C.w) A (updateSeq b f) Q E s := by
  obtain ⟨o, vs, n, g, c, d, dt, r⟩ := seqOf H U.mem
  obtain ⟨vs', e, r'⟩ := hf s.heap vs (TK.refl _) r
  have e2 : vs'.length = l'.length := r'.length
  refine wpAny_updateSeq g dt ?_ (by rw [List.size_toArray, r.length]; exact hz) (by rw [e, List.size_toArray, e2]; exact hz')
  obtain ⟨n', d'⟩ := Obj.data_mapSeq dt f
  rw [e] at d'
  have hs : Heap.SameBut b s.heap (s.heap.update b (Obj.mapSeq f)) := Heap.SameBut.update ..
  have tk := HR.tkUpd H U hs
  have gg : (s.heap.update b (Obj.mapSeq f)).get? b = some (o.mapSeq f) := Heap.get?_update_self _ g (Obj.isFreed_of_seq d')
  have cc : (o.mapSeq f).cls = T := (Obj.cls_mapSeq ..).trans c
  exact h _ (H.upd (s' := { s with heap := s.heap.update b (Obj.mapSeq f) }) U hs gg (Pl.seq (by rw [cc]; exact hT.ne) d') ⟨⟨cc, (mapSeq_dict ..).trans d⟩, vs', n', d', r'.mono tk⟩ rfl rfl).1 tk
end
section
variable {C : Cx} {A : Around} {σ σ' : Led} {D : Addr} {T : Value} {dc : Option Addr} {l : List V} {v : V} {Q : V → Led → Prop}
theorem c_append' (hT : ListTy C T) (U : LU D (AO.seq T dc l) (AO.seq T dc (l ++ [v])) σ σ') (hz : l.length ≤ sizeLine) (h : Q .none σ') : Call C A σ (.bi "list.append") [.ref D, v] Q := by
  rintro s fv vs H rfl r
  simp only [VRs] at r
  obtain ⟨_, _, rfl, rfl, x, _, rfl, rx, rfl⟩ := r
  obtain ⟨o, ws, n, g, c, d, dt, rl⟩ := seqOf H U.mem
  refine call_self (owner := "list") (n := "append") (.inl (by decide +kernel)) (by decide +kernel) (by decide +kernel) PySem.F.entry_list_append (PySem.F.args_list_append_2 _ _) (hT.inst _ _ _ H.bg.kin g c) ?_
  show wpAny _ _ (updateSeq D (·.push x) >>= fun _ => ret .none) _ _ s
  refine wpAny_bind (upd_seq hT H U hz (by simp; lia) (fun h vs tk r => ⟨vs ++ [x], by simp, r.append (VRs.cons (rx.mono tk) VRs.nil)⟩) fun s' H' tk => ?_)
  exact wpAny_pure ⟨.none, rfl, .none, σ', H', rfl, tk, h⟩
theorem c_append (U : LU D (AO.list l) (AO.list (l ++ [v])) σ σ') (hz : l.length ≤ sizeLine) (h : Q .none σ') : Call C A σ (.bi "list.append") [.ref D, v] Q := c_append' listTy U hz h
theorem c_pop0 (hT : ListTy C T) {y : V} (U : LU D (AO.seq T dc (y :: l)) (AO.seq T dc l) σ σ') (hz : (y :: l).length ≤ sizeLine) (h : Q y σ') : Call C A σ (.bi "list.pop") [.ref D, .int 0] Q := by
  rintro s fv vs H rfl r
  simp only [VRs] at r
  obtain ⟨_, _, rfl, rfl, _, _, rfl, ⟨u, rfl⟩, rfl⟩ := r
  obtain ⟨o, ws, n, g, c, d, dt, rl⟩ := seqOf H U.mem
  have e := rl.length
  obtain ⟨w, hw, rw'⟩ := rl.get (i := 0) (x := y) (by simp)
  have hsz : ws.toArray.size = l.length + 1 := by rw [List.size_toArray, e]; simp
  refine call_self (owner := "list") (n := "pop") (.inl (by decide +kernel)) (by decide +kernel) (by decide +kernel) PySem.F.entry_list_pop (PySem.F.args_list_pop_2 _ _) (hT.inst _ _ _ H.bg.kin g c) ?_
  have hne : ¬ ws.toArray.isEmpty = true := by
    intro he; have : ws.toArray.size = 0 := by simpa using he
    lia
  have hy : ws.toArray[0]? = some w := by simpa using hw
  have hk : seqIndex? 0 ws.toArray.size = some 0 := by
    unfold seqIndex?
    simp [hsz]
  have hf : ¬ (!Builtin.List.listFitsIndex 0) = true := by decide
  have fin : ∀ s' : Shared, s'.heap.get? D = some o → s' = s → wpAny (model C.prog C.w) A.in1 (updateSeq D (fun xs => xs.eraseIdxIfInBounds 0)) (fun _ s' => Post C VR s.heap Q w s') No s' := by
    rintro s' _ rfl
    refine upd_seq hT H U hz (by simp at hz ⊢; lia) (fun h vs tk r => ⟨vs.drop 1, ?_, ?_⟩) fun s' H' tk => ⟨y, σ', H', rw'.mono tk, tk, h⟩
    · have e2 := r.length
      simp at e2
      apply Array.toList_inj.mp
      cases vs with
      | nil => simp at e2
      | cons v r => simp [Array.eraseIdxIfInBounds]
    · simpa using r.drop 1
  obtain ⟨oc, od, odt, osl⟩ := o
  dsimp only at dt c d
  subst dt
  obtain ⟨hp, gg, dd, tk, os⟩ := s
  wp_walk using wpAny_loadPart' g
  simp only [hk, hy, Option.bind_some, Option.map_some]
  show wpAny _ _ (updateSeq D (fun xs => xs.eraseIdxIfInBounds 0) >>= fun _ => ret w) _ _ _
  refine wpAny_bind (wpAny_mono (fin _ g rfl) (fun _ s' p => wpAny_pure ⟨w, rfl, p⟩) fun _ _ x => x)
end
noncomputable def Tests (C : Cx) (A : Around) (cenv : Env) (σ : Led) (ifs : List Expr) (Q : Bool → Led → Prop) : Prop :=
  match ifs with
  | [] => Q true σ
  | [c] => Tr C RB A σ (isTrue c cenv (eval c cenv)) Q
  | _ => False
noncomputable def LoopC (C : Cx) (A : Around) (cenv : Env) (elt target : Expr) (ifs : List Expr) (D : Addr) (Qn : Led → Prop) (it : V) (σ : Led) : Prop :=
  ∃ (J : Nat → Led → Prop) (n : Nat), J n σ ∧ ∀ n σ, J n σ → Nx C A σ it (fun o σ₃ => match o with
    | none => Qn σ₃
    | some y => Asg C A cenv σ₃ target y (fun σ₄ => Tests C A cenv σ₄ ifs (fun b σ₅ => if b = true then Tr C VR A σ₅ (eval elt cenv) (fun v σ₆ => Call C A σ₆ (.bi "list.append") [.ref D, v] (fun _ σ₇ => ∃ m, m < n ∧ J m σ₇)) else ∃ m, m < n ∧ J m σ₅)))
noncomputable def CLoop (C : Cx) (A : Around) (cenv : Env) (elt target : Expr) (ifs : List Expr) (D : Addr) (Qn : Led → Prop) (it : V) (σ : Led) : Prop :=
  LoopC C A cenv elt target ifs D Qn it σ ∧ It C A σ it (LoopC C A cenv elt target ifs D Qn)
noncomputable def CompEnd (C : Cx) (A : Around) (ks : List Str) (L D : Addr) (Q : V → Led → Prop) (use : Option (Value → Sem Unit)) (σ : Led) : Prop := match use with
  | none => ∃ vs σ', Sb ((L, AO.fr ks vs) :: σ') σ ∧ Q (.ref D) σ'
  | some u => St C A σ u (.ref D) (fun _ σ'' => ∃ vs σ', Sb ((L, AO.fr ks vs) :: σ') σ'' ∧ Q .none σ')
noncomputable def cenvOf (scope : Scope) (L : Addr) (cs cl : List (Str × Addr)) (env : Env) : Env :=
  { scope := relabel scope env, locals := L, globals := env.globals, cells := cs ++ cl, qual := env.qual, func := none, code := env.code, frame := env.frame, builtins := env.builtins }
section
variable {C : Cx} {A : Around} {σ : Led} {env cenv : Env} {elt target iter : Expr} {ifs : List Expr} {scope : Scope} {pos : Pos} {D : Addr} {Qn : Led → Prop} {it : V}
theorem tests_ {s : Shared} {Q : Bool → Led → Prop} {P : Bool → Shared → Prop} {E : Value → Shared → Prop} (H : HR C σ s) (h : Tests C A cenv σ ifs Q)
    (k : ∀ b s' σ', HR C σ' s' → TK s.heap s'.heap → Q b σ' → P b s') :
    wpAny (model C.prog C.w) A (forIn ifs true fun c r => if r = true then do let ok ← isTrue c cenv (eval c cenv); pure (ForInStep.yield ok) else pure (ForInStep.yield r)) P E s := by
  match ifs, h with
  | [], h => exact wpAny_tests_nil (k _ _ _ H (TK.refl _) h)
  | [c], h =>
    refine wpAny_tests_one ((h s H).run fun b s₁ b' σ₁ H₁ r₁ k₁ q₁ => ?_)
    cases r₁
    exact k _ _ _ H₁ k₁ q₁
theorem loopC_ {s : Shared} {itv : Value} {R : Result → Shared → Prop} (H : HR C σ s) (r : VR s.heap it itv) (h : LoopC C A cenv elt target ifs D Qn it σ)
    (k : ∀ s' σ', HR C σ' s' → TK s.heap s'.heap → Qn σ' → R (.ok .next) s') (ht : ∀ it v, letOwnedTupleGo target it v = pure ()) :
    codeAny (model C.prog C.w) A (.compLoop (.ListComp elt [⟨target, iter, ifs, 0⟩] scope pos) 0 itv (.ref D) cenv) R s := by
  obtain ⟨J, n, j0, turn⟩ := h
  refine codeAny_compLoop_tests (fun n s' => ∃ σ', HR C σ' s' ∧ TK s.heap s'.heap ∧ J n σ') (fun n s' ⟨σ', H', kk, j⟩ => ?_) n ⟨σ, H, TK.refl _, j0⟩ (ht itv)
  refine (turn n σ' j s' itv H' (r.mono kk)).run fun o s₁ b σ₁ H₁ r₁ k₁ q₁ => ?_
  cases b with
  | none => cases r₁; exact k _ _ H₁ (kk.trans k₁) q₁
  | some y =>
    obtain ⟨v, rfl, rv⟩ := r₁
    refine (q₁ s₁ v H₁ rv).run fun _ s₂ _ σ₂ H₂ _ k₂ q₂ => tests_ H₂ q₂ fun b s₃ σ₃ H₃ k₃ q₃ => ?_
    have k3 := kk.trans (k₁.trans (k₂.trans k₃))
    cases b with
    | false => obtain ⟨m, hm, j⟩ := q₃; exact ⟨m, hm, σ₃, H₃, k3, j⟩
    | true =>
      simp only [if_true] at q₃ ⊢
      refine (q₃ s₃ H₃).run fun x s₄ xv σ₄ H₄ r₄ k₄ q₄ => (q₄ s₄ _ [.ref D, x] H₄ rfl (VRs.cons rfl (VRs.cons r₄ VRs.nil))).run fun _ s₅ _ σ₅ H₅ _ k₅ q₅ => ?_
      obtain ⟨m, hm, j⟩ := q₅
      exact ⟨m, hm, σ₅, H₅, k3.trans (k₄.trans k₅), j⟩
theorem comp_ {cl : List (Str × Addr)} {ks : List Str} {cn : List Str} {use : Option (Value → Sem Unit)} {Q : V → Led → Prop} {pos' : Pos} (nd : ks.Nodup) (hcn : (cellNames scope).reverse = cn) (hclos : closureFor scope env = pure cl)
    (hkind : scope.kind = .function) (hnames : ∀ x ∈ scope.names, x.2 = .local → scope.names.lookup x.1 = some .local)
    (h : Tr C VR A σ (eval iter env) (fun x σ₁ => It C A σ₁ x (fun it σ₂ => ∀ D L cs, cs.map Prod.fst = cn → CLoop C A (cenvOf scope L cs cl env) elt target ifs D
      (CompEnd C A ks L D Q use) it ((D, AO.list []) :: (L, AO.fr ks (ks.map fun _ => none)) :: (celled cs ++ σ₂)))))
    (ht : ∀ it v, letOwnedTupleGo target it v = pure ()) (hs : ∀ x, foldedSetIterable iter env x = pure x) :
    Tr C VR A σ (comprehension (.ListComp elt [⟨target, iter, ifs, 0⟩] scope pos) scope env pos' (newList []) false (eval iter env) use) Q := by
  intro s H
  refine wpAny_comprehension_free (g := ⟨target, iter, ifs, 0⟩) (gs := []) rfl hs hclos hkind hnames ?_
  refine (h s H).run fun xv s₁ x σ₁ H₁ r₁ k₁ q₁ => (q₁ s₁ xv H₁ r₁).run fun itv s₂ it σ₂ H₂ r₂ k₂ q₂ => ?_
  have hn : OpL C VR A σ₂ newList [] (fun v σ' => ∃ D, v = .ref D ∧ σ' = (D, AO.list []) :: σ₂) := newList_ (Nat.zero_le _) fun a => ⟨a, rfl, rfl⟩
  refine (hn s₂ [] H₂ VRs.nil).run fun Dv s₃ Dx σ₃ H₃ r₃ k₃ q₃ => ?_
  obtain ⟨D, rfl, rfl⟩ := q₃
  obtain rfl := vr_ref.mp r₃
  have he : WP C RE A s₃ (newFunctionEnv scope env.globals cl (([] : List Str).zip ([] : List Value)) env.qual none .none (some env)) (fun cenv σ₄ => ∃ L cs, cs.map Prod.fst = cn ∧ { cenv with scope := relabel scope env } = cenvOf scope L cs cl env ∧ cenv.locals = L ∧
      σ₄ = (L, AO.fr ks (ks.map fun _ => none)) :: (celled cs ++ (D, AO.list []) :: σ₂)) :=
    newFunctionEnv_ (bxs := []) (bvs := []) nd hcn rfl H₃ VRs.nil fun L cs hcs => ⟨L, cs, hcs, rfl, rfl, rfl⟩
  refine he.run fun cenv s₄ cenv' σ₄ H₄ r₄ k₄ q₄ => ?_
  cases r₄
  obtain ⟨L, cs, hcs, hce, hL, rfl⟩ := q₄
  rw [hce, hL]
  have H₅ : HR C ((D, AO.list []) :: (L, AO.fr ks (ks.map fun _ => none)) :: (celled cs ++ σ₂)) s₄ := by
    refine H₄.perm ((List.Perm.swap ..).trans (List.Perm.cons _ List.perm_middle.symm))
  have kk := k₁.trans (k₂.trans (k₃.trans k₄))
  have goal : ∀ s' σ', HR C σ' s' → TK s₄.heap s'.heap → CompEnd C A ks L D Q use σ' → compPost (model C.prog C.w) A No use (Post C VR s.heap Q) (.ref D) L (.ok .next) s' := by
    intro s' σ' H' k' q
    cases use with
    | none =>
      obtain ⟨vs, σ'', sb, q⟩ := q
      have H'' := HR.sb sb H'
      obtain ⟨o, g, _, F⟩ := H''.own _ (List.Mem.head _)
      obtain ⟨m, N, _⟩ := FrIs.nsOf F g
      refine ⟨m, N, fun h' hs' => ?_⟩
      have D' := HR.del (s' := { s' with heap := h' }) H'' hs'.extBut rfl rfl
      exact ⟨.ref D, σ'', D'.1, vr_ref.mpr rfl, kk.trans (k'.trans D'.2), q⟩
    | some u =>
      refine (q s' _ H' rfl).run fun _ s'' _ σ'' H'' _ k'' q'' => ?_
      obtain ⟨vs, σ₃, sb, q⟩ := q''
      have H₃' := HR.sb sb H''
      obtain ⟨o, g, _, F⟩ := H₃'.own _ (List.Mem.head _)
      obtain ⟨m, N, _⟩ := FrIs.nsOf F g
      refine ⟨m, N, fun h' hs' => ?_⟩
      have D' := HR.del (s' := { s'' with heap := h' }) H₃' hs'.extBut rfl rfl
      exact ⟨.none, σ₃, D'.1, vr_none.mpr rfl, kk.trans (k'.trans (k''.trans D'.2)), q⟩
  have q := q₂ D L cs hcs
  have ritv := r₂.mono (k₃.trans k₄)
  refine codeAny_compStart_list (loopC_ H₅ ritv q.1 goal ht) ?_
  refine (q.2 s₄ itv H₅ ritv).run fun it' s₅ itx σ₅ H₆ r₅ k₅ q₅ => loopC_ H₆ r₅ q₅ (fun s' σ' H' k' q => goal s' σ' H' (k₅.trans k') q) ht
end
section
variable {C : Cx} {A : Around} {σ : Led} {env cenv : Env} {elt target iter : Expr} {ifs : List Expr} {scope : Scope} {pos : Pos} {D : Addr} {Qn : Led → Prop}
theorem cloop_seq {a : Addr} {Xo : Nat → AO} {l : List V} {G : Led → Prop} (I : Iter C A a Xo l G) (J : Nat → List V → Led → Prop) (h0 : J 0 [] σ) (hG : ∀ i acc σ, J i acc σ → G ((D, AO.list acc) :: σ)) (hz : l.length ≤ sizeLine)
    (turn : ∀ i y acc σ, l[i]? = some y → acc.length ≤ i → J i acc σ → Asg C A cenv ((a, Xo (i + 1)) :: (D, AO.list acc) :: σ) target y (fun σ₁ => Tests C A cenv σ₁ ifs (fun b σ₂ => if b = true then
        Tr C VR A σ₂ (eval elt cenv) (fun v σ₃ => ∃ σ', Sb ((D, AO.list acc) :: (a, Xo (i + 1)) :: σ') σ₃ ∧ J (i + 1) (acc ++ [v]) σ')
        else ∃ σ', Sb ((D, AO.list acc) :: (a, Xo (i + 1)) :: σ') σ₂ ∧ J (i + 1) acc σ')))
    (fin : ∀ acc σ, J l.length acc σ → Qn ((D, AO.list acc) :: σ)) : LoopC C A cenv elt target ifs D Qn (.ref a) ((D, AO.list []) :: (a, Xo 0) :: σ) := by
  refine ⟨fun n σ => ∃ i acc σ', n = l.length + 1 - i ∧ i ≤ l.length ∧ acc.length ≤ i ∧ Sb ((D, AO.list acc) :: (a, Xo i) :: σ') σ ∧ J i acc σ', l.length + 1, ⟨0, [], σ, rfl, Nat.zero_le _, Nat.le_refl _, .refl, h0⟩, ?_⟩
  rintro n σ ⟨i, acc, σ', rfl, hi, ha, sb, j⟩
  refine (fun (h : Nx C A ((a, Xo i) :: (D, AO.list acc) :: σ') (.ref a) _) => (fun s v H r => h s v ((HR.sb sb H).perm (List.Perm.swap ..)) r : Nx C A σ (.ref a) _)) ?_
  rcases Nat.lt_or_ge i l.length with hl | hl
  · have e : l[i]? = some l[i] := List.getElem?_eq_getElem hl
    refine I.item i l[i] _ _ e (hG i acc σ' j) ?_
    refine fun s v H r => (turn i l[i] acc σ' e ha j s v H r).mono fun _ σ₁ q => ?_
    have back : ∀ {acc' : List V} {σ₂ : Led}, acc'.length ≤ i + 1 → (∃ σ', Sb ((D, AO.list acc') :: (a, Xo (i + 1)) :: σ') σ₂ ∧ J (i + 1) acc' σ') →
        ∃ m, m < l.length + 1 - i ∧ ∃ i acc σ', m = l.length + 1 - i ∧ i ≤ l.length ∧ acc.length ≤ i ∧ Sb ((D, AO.list acc) :: (a, Xo i) :: σ') σ₂ ∧ J i acc σ' := by
      rintro acc' σ₂ hh ⟨σ', k, j⟩
      exact ⟨l.length + 1 - (i + 1), by lia, i + 1, acc', σ', rfl, hl, hh, k, j⟩
    have stepb : ∀ b σ₂, (if b = true then Tr C VR A σ₂ (eval elt cenv) (fun v σ₃ => ∃ σ', Sb ((D, AO.list acc) :: (a, Xo (i + 1)) :: σ') σ₃ ∧ J (i + 1) (acc ++ [v]) σ')
        else ∃ σ', Sb ((D, AO.list acc) :: (a, Xo (i + 1)) :: σ') σ₂ ∧ J (i + 1) acc σ') → (if b = true then Tr C VR A σ₂ (eval elt cenv) (fun v σ₆ => Call C A σ₆ (.bi "list.append") [.ref D, v] (fun _ σ₇ => ∃ m, m < l.length + 1 - i ∧ ∃ i acc σ', m = l.length + 1 - i ∧ i ≤ l.length ∧ acc.length ≤ i ∧ Sb ((D, AO.list acc) :: (a, Xo i) :: σ') σ₇ ∧ J i acc σ'))
        else ∃ m, m < l.length + 1 - i ∧ ∃ i acc σ', m = l.length + 1 - i ∧ i ≤ l.length ∧ acc.length ≤ i ∧ Sb ((D, AO.list acc) :: (a, Xo i) :: σ') σ₂ ∧ J i acc σ') := by
      intro b σ₂ q
      cases b with
      | false => exact back (by lia) q
      | true =>
        simp only [if_true] at q ⊢
        refine Tr.mono q fun v σ₃ ⟨σ', k, j⟩ => ?_
        intro s fv vs H r rr
        refine c_append (Q := fun _ σ₇ => ∃ m, m < l.length + 1 - i ∧ ∃ i acc σ', m = l.length + 1 - i ∧ i ≤ l.length ∧ acc.length ≤ i ∧ Sb ((D, AO.list acc) :: (a, Xo i) :: σ') σ₇ ∧ J i acc σ') .head (by lia) ?_ s fv vs (HR.sb k H) r rr
        exact back (by simp; lia) ⟨σ', .refl, j⟩
    match ifs, q with
    | [], q => exact stepb true σ₁ q
    | [c], q => exact Tr.mono q fun b σ₂ q => stepb b σ₂ q
  · have e : i = l.length := Nat.le_antisymm hi hl
    subst e
    exact I.stop _ _ (hG _ _ _ j) (fin acc σ' j)
end
end Mine
end
section
open PySem PySem.W PySem.Calls PyProof.Rows PySem.Spec
set_option Elab.async false
set_option maxRecDepth 100000
set_option linter.unusedVariables false
namespace Mine
section
variable {C : Cx} {A : Around} {σ : Led} {env : Env} {pos : Pos} {Q : V → Led → Prop}
noncomputable def Has (C : Cx) (σ : Led) (o : V) : Prop := ∃ T id, typeLookup (.type T) "__getitem__" = pure (some (.builtin id)) ∧ ∀ s ov, HR C σ s → VR s.heap o ov → s.TypeIs ov T
theorem has_str {x : Str} : Has C σ (.str x) := ⟨"str", _, PySem.F.slot_str_getitem.lookup, fun s ov H r => by obtain ⟨t, rfl⟩ := r; exact typeIs_str _ _ _⟩
theorem has_bytes {x} : Has C σ (.bytes x) := ⟨"bytes", _, FB.slot_bytes_getitem.lookup, fun s ov H r => by obtain ⟨t, rfl⟩ := r; exact typeIs_bytes _ _ _⟩
theorem has_list {a : Addr} {l : List V} (hm : (a, AO.list l) ∈ σ) : Has C σ (.ref a) := ⟨"list", _, list_getitem_lookup, fun s ov H r => by cases r; obtain ⟨vs, L, _⟩ := listOf H hm; exact L.typeIs⟩
theorem tupOf {s : Shared} {l : List V} {v : Value} (r : VR s.heap (.tup l) v) : ∃ a vs, v = .ref a ∧ IsTup s.heap a vs.toArray ∧ VRs s.heap l vs := by
  obtain ⟨a, vs, rfl, g, r⟩ := r
  exact ⟨a, vs, rfl, ⟨_, g, rfl, 0, rfl⟩, r⟩
theorem sub_op (slice : Expr) (o i : Value) : ∃ ops, subscripted slice false o i = operate ops (getItem o i) := by
  cases slice with
  | Slice a b s p => cases s <;> exact ⟨_, rfl⟩
  | _ => exact ⟨_, rfl⟩
theorem e_sub {value slice : Expr} (h : Tr C VR A σ (eval value env) (fun o σ₁ => Tr C VR A σ₁ (eval slice env) (fun i σ₂ => Has C σ₂ o ∧ Op2 C VR A σ₂ getItem o i Q))) : Tr C VR A σ (eval (.Subscript value slice pos) env) Q := by
  intro s H
  unfold WP
  rw [eval_Subscript]
  refine wpAny_bind ((h s H).run fun ov s₁ o σ₁ H₁ r₁ k₁ q₁ => wpAny_bind (wpAny_holding ((q₁ s₁ H₁).run fun iv s₂ i σ₂ H₂ r₂ k₂ q₂ => wpAny_bind (wpAny_standAt ?_))))
  obtain ⟨⟨T, id, hl, hT⟩, q⟩ := q₂
  have T1 := hT s₂ ov H₂ (r₁.mono k₂)
  have main := q s₂ ov iv H₂ (r₁.mono k₂) r₂
  have fin : wpAny (model C.prog C.w) A (subscripted slice false ov iv) (fun r s₃ => wpAny (model C.prog C.w) A (letTemporaryGo value ov r >>= fun _ => pure r) (Post C VR s.heap Q) No s₃) No s₂ := by
    have g : ∀ ops, wpAny (model C.prog C.w) A (operate ops (getItem ov iv)) (fun r s₃ => wpAny (model C.prog C.w) A (letTemporaryGo value ov r >>= fun _ => pure r) (Post C VR s.heap Q) No s₃) No s₂ := fun ops =>
      wpAny_operating (main.run fun r s₃ b σ₃ H₃ r₃ k₃ q₃ => wpAny_bind (wpAny_letTemporaryGo (wpAny_pure ⟨b, σ₃, H₃, r₃, k₁.trans (k₂.trans k₃), q₃⟩)))
    obtain ⟨ops, e⟩ := sub_op slice ov iv
    rw [e]
    exact g _
  refine wpAny_bind ?_
  rw [getitemInPython_of_ne T1.not_modules]
  refine wpAny_bind (wpAny_specialOf T1 hl ?_)
  first
    | exact wpAny_pure (wpAny_bind fin)
    | exact wpAny_bind (wpAny_pure (wpAny_bind fin))
    | exact wpAny_bind fin
theorem g_str {x : Str} {i : Int} (h0 : -(x.length : Int) ≤ i) (h1 : i < x.length) (hz : x.length ≤ sizeLine) (h : Q (.str (Txt.item x i)) σ) : Op2 C VR A σ getItem (.str x) (.int i) Q := by
  rintro s a b H ⟨t, rfl⟩ ⟨u, rfl⟩
  refine SB.getItem ?_ (charAt_isSome h0 h1) (done_str (d := s.drawn) H h)
  rw [sizeLine_eq] at hz
  unfold fitsSsize
  simp only [Bool.not_eq_true', Bool.or_eq_false_iff, decide_eq_false_iff_not]
  constructor <;> lia
theorem g_list {a : Addr} {l : List V} {i : Int} {v : V} (hm : (a, AO.list l) ∈ σ) (h0 : 0 ≤ i) (h63 : i < 2 ^ 63) (hv : l[i.toNat]? = some v) (h : Q v σ) : Op2 C VR A σ getItem (.ref a) (.int i) Q := by
  rintro s _ b H rfl ⟨u, rfl⟩
  obtain ⟨vs, L, r⟩ := listOf H hm
  obtain ⟨w, hw, rw'⟩ := r.get hv
  exact wpAny_getItem_list L h0 h63 (by simpa using hw) ⟨v, σ, H, rw', TK.refl _, h⟩
inductive Part : V → Option Int → Prop
  | none : Part .none none
  | int {i} : Part (.int i) (some i)
noncomputable def SliceIs (lo hi : Option Int) (o : Obj) : Prop := ∃ l u : Option (Int × Tok), o.cls = .type "slice" ∧ o.data = .fields #[partValue l, partValue u, .none] ∧ l.map (·.1) = lo ∧ u.map (·.1) = hi
noncomputable def AO.slice (lo hi : Option Int) : AO := ⟨fun _ o => SliceIs lo hi o, fun _ h => h⟩
theorem Part.val {x : V} {lo : Option Int} {h : Heap} {v : Value} (p : Part x lo) (r : VR h x v) : ∃ l : Option (Int × Tok), v = partValue l ∧ l.map (·.1) = lo := by
  cases p with
  | none => cases r; exact ⟨Option.none, rfl, rfl⟩
  | int => obtain ⟨t, rfl⟩ := r; exact ⟨some (_, t), rfl, rfl⟩
noncomputable def TrP (C : Cx) (A : Around) (σ : Led) (e : Option Expr) (env : Env) (Q : V → Led → Prop) : Prop := Tr C VR A σ (evalPart e env) Q
theorem p_none (h : Q .none σ) : TrP C A σ none env Q := fun s H => wpAny_pure ⟨.none, σ, H, rfl, TK.refl _, h⟩
theorem p_some {e : Expr} (h : Tr C VR A σ (eval e env) Q) : TrP C A σ (some e) env Q := h
theorem e_slice {lo hi : Option Expr} {p : Pos} (h : TrP C A σ lo env (fun x σ₁ => TrP C A σ₁ hi env (fun y σ₂ => ∃ i j, Part x i ∧ Part y j ∧ ∀ a, Q (.ref a) ((a, AO.slice i j) :: σ₂)))) : Tr C VR A σ (eval (.Slice lo hi none p) env) Q := by
  intro s H
  refine wpAny_Slice ((h s H).run fun xv s₁ x σ₁ H₁ r₁ k₁ q₁ => (q₁ s₁ H₁).run fun yv s₂ y σ₂ H₂ r₂ k₂ q₂ => wpAny_pure ?_)
  obtain ⟨i, j, p1, p2, q⟩ := q₂
  obtain ⟨l, rfl, e1⟩ := p1.val (r₁.mono k₂)
  obtain ⟨u, rfl, e2⟩ := p2.val r₂
  exact ⟨.ref s₂.heap.objs.size, _, H₂.add (X := AO.slice i j) (fun b o e => Heap.get?_push_of_some _ e) (Nat.le_refl _) (Heap.get?_push_size _ rfl) (Pl.fields rfl (by intro e; cases e)) ⟨l, u, rfl, rfl, e1, e2⟩ rfl rfl, vr_ref.mpr rfl, k₁.trans (k₂.trans (TK.push _)), q _⟩
theorem sliceOf {s : Shared} {a : Addr} {lo hi : Option Int} (H : HR C ((a, AO.slice lo hi) :: σ) s) : ∃ l u : Option (Int × Tok), s.heap.IsSlice a l u none ∧ s.heap.IsSliceOf a (partValue l) (partValue u) .none ∧ l.map (·.1) = lo ∧ u.map (·.1) = hi := by
  obtain ⟨o, g, _, l, u, c, d, e1, e2⟩ := H.own _ (List.Mem.head _)
  exact ⟨l, u, ⟨o, g, c, d⟩, ⟨o, g, c, d⟩, e1, e2⟩
theorem partIs (l : Option (Int × Tok)) : IsPart (partValue l) (l.map (·.1)) := by
  cases l with
  | none => exact .none
  | some p => exact .int p.1 p.2
theorem g_str_slice {x : Str} {a : Addr} {lo hi : Option Int} (hz : x.length ≤ sizeLine) (h : Q (.str (Txt.slice x lo hi)) σ) : Op2 C VR A ((a, AO.slice lo hi) :: σ) getItem (.str x) (.ref a) Q := by
  rintro s _ _ H ⟨t, rfl⟩ rfl
  obtain ⟨l, u, S, _, e1, e2⟩ := sliceOf H
  subst e1; subst e2
  have H' := H.sub (List.sublist_cons_self ..)
  exact wpAny_getItem_str_slice S rfl (post_val_or_str ⟨Nat.le_trans (Txt.slice_le x _ _) hz, fun t' k => done_str (d := s.drawn) H' h⟩)
noncomputable def cut (l : List V) (lo hi : Option Int) : List V := (l.drop (lo.elim 0 (clipAt l.length))).take (hi.elim l.length (clipAt l.length) - lo.elim 0 (clipAt l.length))
theorem g_list_slice {b : Addr} {l : List V} {a : Addr} {lo hi : Option Int} (hm : (b, AO.list l) ∈ σ) (hz : l.length ≤ sizeLine) (h : ∀ d, Q (.ref d) ((d, AO.list (cut l lo hi)) :: σ)) : Op2 C VR A ((a, AO.slice lo hi) :: σ) getItem (.ref b) (.ref a) Q := by
  rintro s _ _ H rfl rfl
  obtain ⟨p, u, _, S, e1, e2⟩ := sliceOf H
  obtain ⟨vs, L, r⟩ := listOf H (List.Mem.tail _ hm)
  have H' := H.sub (List.sublist_cons_self ..)
  have tk : TK s.heap (s.heap.push { cls := .type "list", data := .seq (slicePick vs.toArray lo hi none) }) := TK.push _
  refine wpAny_getItem_list_slice (lo := lo) (hi := hi) (st := none) L S (e1 ▸ partIs p) (e2 ▸ partIs u) .none (by simp) ?_ (by rw [List.size_toArray, r.length]; exact hz)
  refine ⟨.ref s.heap.objs.size, _, H'.add (X := AO.list (cut l lo hi)) (fun b o e => Heap.get?_push_of_some _ e) (Nat.le_refl _) (Heap.get?_push_size _ rfl)
    (Pl.seq (show Value.type "list" ≠ Value.type "tuple" by decide) rfl) ⟨⟨rfl, rfl⟩, (vs.drop (lo.elim 0 (clipAt l.length))).take (hi.elim l.length (clipAt l.length) - lo.elim 0 (clipAt l.length)), 0, ?_, ((r.drop _).take _).mono tk⟩ rfl rfl, vr_ref.mpr rfl, tk, h _⟩
  show Data.seq _ _ = _
  rw [slicePick_plain]
  simp only [List.size_toArray, r.length]
theorem g_bytes_slice {x : Array UInt8} {a : Addr} {lo hi : Option Int} (hz : x.size ≤ sizeLine) (h : Q (.bytes (KBy.picked x lo hi)) σ) : Op2 C VR A ((a, AO.slice lo hi) :: σ) getItem (.bytes x) (.ref a) Q := by
  rintro s _ _ H ⟨t, rfl⟩ rfl
  obtain ⟨l, u, _, S, e1, e2⟩ := sliceOf H
  have H' := H.sub (List.sublist_cons_self ..)
  exact getItem_meets (typeIs_bytes _ _ _) (by decide) FB.slot_bytes_getitem FB.entry_bytes_getitem (FB.args_bytes_getitem_2 _ _) (KBc.meets_slice2 x t _ (e1 ▸ partIs l) (e2 ▸ partIs u))
    ⟨S, Nat.le_trans (KBc.size_picked_le x lo hi) hz, fun t' k => ⟨_, σ, H'.toks, vr_bytes.mpr ⟨_, rfl⟩, TK.refl _, h⟩⟩
end
section
variable {C : Cx} {A : Around} {σ σ' : Led} {Q : V → Led → Prop} {x y : Str} {i j : Int}
theorem s_list {a : Addr} {l : List V} {v : V} {Qu : Unit → Led → Prop} (U : LU a (AO.list l) (AO.list (l.set i.toNat v)) σ σ') (h0 : 0 ≤ i) (h1 : i < l.length) (h63 : i < 2 ^ 63) (h : Qu () σ') : Op3 C RU A σ setItem (.ref a) (.int i) v Qu := by
  rintro s _ _ c H rfl ⟨u, rfl⟩ rv
  obtain ⟨o, vs, n, ho, hc, hdc, hd, r⟩ := seqOf H U.mem
  have hT : s.TypeIs (.ref a) "list" := ⟨o, ho, hc⟩
  unfold WP setItem
  try with_reducible refine wpAny_holding ?_
  first | refine wpAny_bind (wpAny_pure ?_) | skip
  refine wpAny_bind (wpAny_sequenceKey hT (by decide) ?_)
  refine wpAny_bind (wpAny_callSpecial?_slot (name := Str.ofString "__setitem__") hT slot_list_setitem
    (wpAny_call_entry slot_list_setitem hT entry_list_setitem ?_ (args_list_setitem _ _ _)))
  show wpAny _ _ (Builtin.List.listSubscript? (.int i u) >>= _) _ _ s
  refine wpAny_bind (wpAny_listSubscript_int (fitsIndex_of h0 h63) ?_)
  clear h63
  obtain ⟨j, rfl⟩ := Int.eq_ofNat_of_zero_le h0
  have hl := r.length
  have hj : j < vs.toArray.size := by rw [List.size_toArray]; lia
  have hx' : vs.toArray[j]? = some vs.toArray[j] := Array.getElem?_eq_getElem hj
  show wpAny _ _ ((seqItemAt a j >>= fun r => pure (r.map (j, ·))) >>= _) _ _ s
  refine wpAny_bind (wpAny_bind (wpAny_seqItemAt ho hd (wpAny_pure ?_)))
  rw [hx']
  show wpAny _ _ (setSeqItemAt a j c >>= _) _ _ s
  obtain ⟨n', hd'⟩ := Obj.data_mapSeq hd (·.setIfInBounds j c)
  have hs : Heap.SameBut a s.heap (s.heap.update a (Obj.mapSeq (·.setIfInBounds j c))) := Heap.SameBut.update ..
  have tk := HR.tkUpd H U hs
  have gg : (s.heap.update a (Obj.mapSeq (·.setIfInBounds j c))).get? a = some (o.mapSeq (·.setIfInBounds j c)) := Heap.get?_update_self _ ho (Obj.isFreed_of_seq hd')
  have cc : (o.mapSeq (·.setIfInBounds j c)).cls = .type "list" := (Obj.cls_mapSeq ..).trans hc
  have fin : Post C RU s.heap Qu () { s with heap := s.heap.update a (Obj.mapSeq (·.setIfInBounds j c)) } :=
    ⟨(), σ', (H.upd (s' := { s with heap := s.heap.update a (Obj.mapSeq (·.setIfInBounds j c)) }) U hs gg (Pl.seq (by rw [cc]; decide) hd') ⟨⟨cc, (mapSeq_dict ..).trans hdc⟩, vs.set j c, n', by rw [hd']; simp, (r.mono tk).set (rv.mono tk)⟩ rfl rfl).1, trivial, tk, h⟩
  refine wpAny_bind (wpAny_setSeqItemAt ho hd ?_)
  first
    | exact wpAny_bind (wpAny_pure (wpAny_pure ⟨.none, rfl, wpAny_pure fin⟩))
    | exact wpAny_pure ⟨.none, rfl, wpAny_pure fin⟩
theorem c_len_list {a : Addr} {l : List V} (hm : (a, AO.list l) ∈ σ) (hz : l.length ≤ sizeLine) (h : Q (.int l.length) σ) : Call C A σ (.bi "len") [.ref a] Q := by
  rintro s fv vs H rfl r
  simp only [VRs] at r
  obtain ⟨_, _, rfl, rfl, rfl⟩ := r
  obtain ⟨ws, L, r⟩ := listOf H hm
  rw [sizeLine_eq] at hz
  have e := r.length
  refine call_len_list L (by rw [List.size_toArray]; lia) ?_
  rw [List.size_toArray, e]
  exact done_int (h := s.heap) (d := s.drawn) H h
theorem c_len_str (hz : x.length ≤ sizeLine) (h : Q (.int x.length) σ) : Call C A σ (.bi "len") [.str x] Q := by
  rintro s fv vs H rfl r
  simp only [VRs] at r
  obtain ⟨_, _, rfl, ⟨t, rfl⟩, rfl⟩ := r
  rw [sizeLine_eq] at hz
  exact PySem.P.len_str (by lia) (done_int (h := s.heap) (d := s.drawn) H h)
theorem c_abs (h : Q (.int (i.natAbs : Int)) σ) : Call C A σ (.bi "abs") [.int i] Q := by
  rintro s fv vs H rfl r
  simp only [VRs] at r
  obtain ⟨_, _, rfl, ⟨t, rfl⟩, rfl⟩ := r
  refine call_abs_int fun u tk => ?_
  have e : (if i < 0 then -i else i) = (i.natAbs : Int) := by split <;> lia
  rw [e]
  exact done_int (h := s.heap) (d := s.drawn) H h
theorem bin_bcat {b c : Array UInt8} (hz : b.size + c.size ≤ 16777216) (h : Q (.bytes (b ++ c)) σ) : Bin C A σ .Add (.bytes b) (.bytes c) Q := by
  rintro s a d H ⟨t, rfl⟩ ⟨u, rfl⟩; exact KBy.add_bytes hz fun t' k => ⟨_, σ, H.toks, vr_bytes.mpr ⟨_, rfl⟩, TK.refl _, h⟩
end
end Mine
end
section
open PySem PySem.W PySem.Calls PyProof.Rows PySem.Spec
set_option Elab.async false
set_option maxRecDepth 100000
set_option linter.unusedVariables false
namespace Mine
noncomputable def S (l : List Nat) : Str := ⟨l.toArray⟩
theorem S_cat (a b : List Nat) : S a ++ S b = S (a ++ b) := by apply Str.ext'; rw [Str.cps_append]; simp [S]
@[simp] theorem S_len (a : List Nat) : (S a).length = a.length := by simp [S, Str.length]
@[simp] theorem S_cps (a : List Nat) : (S a).cps.toList = a := by simp [S]
theorem S_inj {a b : List Nat} (h : S a = S b) : a = b := by simpa using congrArg (fun x : Str => x.cps.toList) h
noncomputable def reps (n : Nat) (x : List Nat) : List Nat := (List.replicate n x).flatten
section
variable {C : Cx} {A : Around} {σ σ' : Led} {env : Env} {pos : Pos} {Q : V → Led → Prop} {x y : Str} {i j : Int}
theorem foldl_app (l : List (Array Nat)) (a : Array Nat) : (l.foldl (· ++ ·) a).toList = a.toList ++ (l.map Array.toList).flatten := by
  induction l generalizing a with
  | nil => simp
  | cons h t ih => simp [ih]
theorem bin_smul {a : List Nat} (h1 : i ≤ 1000) (h0 : -1000 ≤ i) (hz : a.length ≤ 1000) (h : Q (.str (S (reps i.toNat a))) σ) : Bin C A σ .Mult (.str (S a)) (.int i) Q := by
  rintro s _ _ H ⟨t, rfl⟩ ⟨u, rfl⟩
  have hm : a.length * i.toNat ≤ 1000 * 1000 := Nat.mul_le_mul hz (by lia)
  refine PySem.P.mul_str (by simp only [Bool.or_eq_false_iff, decide_eq_false_iff_not]; constructor <;> lia) (fun h2 h3 => ?_) (fun h2 h3 => ?_) ?_
  · rw [S_len]
    have : (1000 : Int) ≤ (2 ^ 63 - 1) / i := by
      rw [Int.le_ediv_iff_mul_le (by lia)]; lia
    lia
  · rw [S_len]
    unfold Builtin.Str.tooLong
    simp only [decide_eq_false_iff_not]
    first
      | (rw [sizeLine_eq]; lia)
      | (simp [sizeLine_eq]; lia)
  · have key : ∀ n : Nat, S (reps n a) = ⟨(List.replicate n (S a).cps).foldl (· ++ ·) #[]⟩ := fun n => by
      apply Str.ext'
      apply Array.toList_inj.mp
      show (S (reps n a)).cps.toList = _
      rw [S_cps, foldl_app]
      simp [reps, S]
    split
    · have e : i.toNat = 0 := by lia
      rw [e] at h
      have e2 : S (reps 0 a) = Str.empty := by simp [reps, S, Str.empty]
      rw [e2] at h
      exact ⟨by decide, done_str (d := s.drawn) H h⟩
    · split
      · rename_i h2 h3
        have e : S (reps i.toNat a) = S a := by
          rw [Bool.or_eq_true, beq_iff_eq, beq_iff_eq, S_len] at h3
          rcases h3 with h3 | h3
          · subst h3; simp [reps]
          · have : a = [] := List.eq_nil_of_length_eq_zero h3
            subst this; simp [reps]
        rw [e] at h
        exact ⟨_, σ, H, vr_str.mpr ⟨t, rfl⟩, TK.refl _, h⟩
      · rw [← key]
        refine ⟨?_, done_str (d := s.drawn) H h⟩
        rw [S_len, sizeLine_eq]
        have : (reps i.toNat a).length = i.toNat * a.length := by simp [reps]
        rw [this, Nat.mul_comm]; lia
theorem c_divmod (hb : j ≠ 0) (hs : j.natAbs.log2 < 9000) (h : Q (.tup [.int (i.fdiv j), .int (i.fmod j)]) σ) : Call C A σ (.bi "divmod") [.int i, .int j] Q := by
  rintro s fv vs H rfl r
  simp only [VRs] at r
  obtain ⟨_, _, rfl, ⟨t, rfl⟩, _, _, rfl, ⟨u, rfl⟩, rfl⟩ := r
  refine divmod_int hb ?_ (.inl (PyProof.noPylong_of_log2 hs))
  have H' : HR C σ { s with toks := s.toks + 1 + 1, heap := s.heap.push (tupObj [.int (i.fdiv j) s.toks, .int (i.fmod j) (s.toks + 1)]) } := H.grow (fun b o e => Heap.get?_push_of_some _ e) rfl rfl
  exact ⟨.tup [.int (i.fdiv j), .int (i.fmod j)], σ, H', ⟨_, _, rfl, Heap.get?_push_size _ rfl, VRs.cons ⟨_, rfl⟩ (VRs.cons ⟨_, rfl⟩ VRs.nil)⟩, TK.push _, h⟩
theorem c_int (h : Q (.int i) σ) : Call C A σ (.type "int") [.int i] Q := by
  rintro s fv vs H rfl r
  simp only [VRs] at r
  obtain ⟨_, _, rfl, ⟨t, rfl⟩, rfl⟩ := r
  exact call_int_int ⟨_, σ, H, vr_int.mpr ⟨_, rfl⟩, TK.refl _, h⟩
theorem strs_of {h : Heap} : ∀ {l : List Str} {vs : List Value}, VRs h (l.map .str) vs → ∃ l' : List (Str × Tok), l'.map (·.1) = l ∧ strValues l' = vs
  | [], _, r => by simp only [List.map_nil, VRs] at r; subst r; exact ⟨[], rfl, rfl⟩
  | x :: l, _, r => by
    simp only [List.map_cons, VRs] at r
    obtain ⟨_, _, rfl, ⟨t, rfl⟩, r⟩ := r
    obtain ⟨l', e1, e2⟩ := strs_of r
    exact ⟨(x, t) :: l', by simp [e1], by simp [strValues, ← e2]⟩
theorem join_ok {sep : Str} {l : List Str} {n : Nat} (h1 : (l.map (·.length)).sum + l.length * sep.length ≤ 16777216) : Builtin.Str.tooLong (l.toArray.foldl (· + ·.length + sep.length) 0) = false := by
  rw [StrLaws.joinTotal]
  unfold Builtin.Str.tooLong
  simp only [decide_eq_false_iff_not]
  first
    | (rw [sizeLine_eq]; lia)
    | (simp [sizeLine_eq]; lia)
theorem c_join_list {l : List Str} {a : Addr} (hm : (a, AO.list (l.map .str)) ∈ σ) (hz : (l.map (·.length)).sum + l.length * x.length ≤ 16777216) (h : Q (.str (Txt.join x l)) σ) : Call C A σ (.bi "str.join") [.str x, .ref a] Q := by
  rintro s fv vs H rfl r
  simp only [VRs] at r
  obtain ⟨_, _, rfl, ⟨t, rfl⟩, _, _, rfl, rfl, rfl⟩ := r
  obtain ⟨ws, L, rl⟩ := listOf H hm
  obtain ⟨l', e1, e2⟩ := strs_of rl
  subst e1
  subst e2
  have hz' := join_ok (n := 0) hz
  exact call_meets PySem.F.slot_str_join (typeIs_str _ _ _) PySem.F.entry_str_join (PySem.F.args_str_join_2 _ _) (meets_str_join_list x t a l' hz')
    ⟨L, post_join l' ⟨joinFit_length hz', fun t' k => done_str (d := s.drawn) H h⟩⟩
theorem c_count (h : Q (.int (Builtin.Str.occurrences x y 0 x.length (x.length + 1)).length) σ) : Call C A σ (.bi "str.count") [.str x, .str y] Q := by
  rintro s fv vs H rfl r
  simp only [VRs] at r
  obtain ⟨_, _, rfl, ⟨t, rfl⟩, _, _, rfl, ⟨u, rfl⟩, rfl⟩ := r
  exact call_gives PySem.F.slot_str_count (typeIs_str _ _ _) PySem.F.entry_str_count (PySem.F.args_str_count_2 _ _) (gives_str_count x y t u) (done_int (h := s.heap) (d := s.drawn) H h)
theorem m_join {Qm : V → List V → Led → Prop} (h : Qm (.bi "str.join") [.str x] σ) : Mth C A σ (.str x) "join" Qm := by
  rintro s _ pl H ⟨t, rfl⟩
  exact GM.join ⟨(.bi "str.join", [.str x]), σ, H, ⟨rfl, VRs.cons ⟨t, rfl⟩ VRs.nil⟩, TK.refl _, h⟩
theorem m_count {Qm : V → List V → Led → Prop} (h : Qm (.bi "str.count") [.str x] σ) : Mth C A σ (.str x) "count" Qm := by
  rintro s _ pl H ⟨t, rfl⟩
  exact GM.count ⟨(.bi "str.count", [.str x]), σ, H, ⟨rfl, VRs.cons ⟨t, rfl⟩ VRs.nil⟩, TK.refl _, h⟩
theorem m_append {Qm : V → List V → Led → Prop} {a : Addr} {l : List V} (hm : (a, AO.list l) ∈ σ) (h : Qm (.bi "list.append") [.ref a] σ) : Mth C A σ (.ref a) "append" Qm := by
  rintro s _ pl H rfl
  obtain ⟨o, vs, n, g, c, d, dt, r⟩ := seqOf H hm
  exact getMethod_list_append g c d ⟨(.bi "list.append", [.ref a]), σ, H, ⟨rfl, VRs.cons rfl VRs.nil⟩, TK.refl _, h⟩
theorem m_pop {Qm : V → List V → Led → Prop} {a : Addr} {l : List V} (hm : (a, AO.list l) ∈ σ) (h : Qm (.bi "list.pop") [.ref a] σ) : Mth C A σ (.ref a) "pop" Qm := by
  rintro s _ pl H rfl
  obtain ⟨o, vs, n, g, c, d, dt, r⟩ := seqOf H hm
  exact getMethod_builtin (T := "list") (id := "list.pop") ⟨o, g, c⟩ PySem.F.plainAttrs_list PySem.F.slot_list_pop PySem.F.type_list_pop (fun b e => by cases e; exact ⟨o, g, d⟩) ⟨(.bi "list.pop", [.ref a]), σ, H, ⟨rfl, VRs.cons rfl VRs.nil⟩, TK.refl _, h⟩
noncomputable def Asgs (C : Cx) (A : Around) (env : Env) : Led → List Expr → List V → (Led → Prop) → Prop
  | σ, [], [], Q => Q σ
  | σ, t :: ts, v :: vs, Q => Asg C A env σ t v (fun σ₁ => Asgs C A env σ₁ ts vs Q)
  | _, _, _, _ => False
theorem asgs_ {Q : Led → Prop} {h₀ : Heap} {P : Unit → Shared → Prop} {E : Value → Shared → Prop} : ∀ (ts : List Expr) (vs : List V) (ws : List Value) (σ : Led) (s : Shared), (∀ t ∈ ts, (match t with | .Starred _ _ => false | _ => true) = true) → HR C σ s → TK h₀ s.heap → VRs s.heap vs ws →
    Asgs C A env σ ts vs Q → (∀ s' σ', HR C σ' s' → TK h₀ s'.heap → Q σ' → P () s') → wpAny (model C.prog C.w) A (assignInOrder ((assignEach ts env).map (·.2)) ws) P E s
  | [], [], _, σ, s, _, H, tk, r, q, k => by simp only [VRs] at r; subst r; exact wpAny_pure (k s σ H tk q)
  | t :: ts, v :: vs, _, σ, s, hs, H, tk, r, q, k => by
    simp only [VRs] at r
    obtain ⟨w, ws, rfl, rw', r⟩ := r
    have e : (assignEach (t :: ts) env).map (·.2) = assign t env :: (assignEach ts env).map (·.2) := by
      have := hs t (List.Mem.head _)
      cases t <;> first | rfl | (simp at this)
    rw [e]
    unfold assignInOrder
    refine wpAny_bind (wpAny_holding ((q s w H rw').run fun _ s₁ _ σ₁ H₁ _ k₁ q₁ => ?_))
    exact asgs_ ts vs ws σ₁ s₁ (fun t ht => hs t (.tail _ ht)) H₁ (tk.trans k₁) (r.mono k₁) q₁ k
  | [], _ :: _, _, _, _, _, _, _, _, q, _ => q.elim
  | _ :: _, [], _, _, _, _, _, _, _, q, _ => q.elim
theorem assignEach_len : ∀ ts : List Expr, (assignEach ts env).length = ts.length
  | [] => rfl
  | t :: ts => by cases t <;> exact congrArg Nat.succ (assignEach_len ts)
theorem asg_tup {ts : List Expr} {n : Nat} {vs : List V} {Q : Led → Prop} (hA : A.handled = none) (h : Asgs C A env σ ts vs Q) (hs : ∀ t ∈ ts, (match t with | .Starred _ _ => false | _ => true) = true) (hl : ts.length = vs.length) (hst : (assignEach ts env).findIdx? (·.1) = none) :
    Asg C A env σ (.Tuple ts n pos) (.tup vs) Q := by
  intro s v H r
  obtain ⟨a, ws, rfl, T, r⟩ := tupOf r
  refine wpAny_assign_Tuple hA (show s.heap.IsTuple a ws.toArray from T) (by rw [assignEach_len, List.size_toArray, r.length, hl]) hst fun h' hx => ?_
  have grow : ∀ b o, s.heap.get? b = some o → h'.get? b = some o := fun b o e => hx b o (Nat.ne_of_lt (Heap.lt_size e)) e
  have H' : HR C σ { s with heap := h' } := H.grow grow rfl rfl
  have tk : TK s.heap h' := fun b o e _ => grow b o e
  exact asgs_ ts vs ws σ _ hs H' tk (r.mono tk) h fun s' σ' H'' tk' q => ⟨(), σ', H'', trivial, tk', q⟩
theorem x_asg {e : Expr} {Qn : Led → Prop} {Qr : V → Led → Prop} {Qb Qc : Led → Prop} {ts : List Expr} {n : Nat} {p' : Pos} (h : Tr C VR A σ (eval e env) (fun v σ₁ => Asg C A env σ₁ (.Tuple ts n p') v Qn))
    (hs : swapsWithSole [.Tuple ts n p'] e pos.line env = pure false := by rfl) (hw : swappedStores [.Tuple ts n p'] e env = pure none := by rfl) : X C A env σ (.Assign [.Tuple ts n p'] e pos) Qn Qr Qb Qc :=
  fun s H => Assign_Tuple ((h s H).run fun a s₁ v σ₁ H₁ r₁ k₁ q₁ => (q₁ s₁ a H₁ r₁).run fun _ s₂ _ σ₂ H₂ _ k₂ q₂ => post_next H₂ (k₁.trans k₂) q₂) hs hw
end
end Mine
end
section
open PySem PySem.W PySem.Calls PyProof.Rows PySem.Spec
set_option Elab.async false
set_option maxRecDepth 100000
set_option linter.unusedVariables false
namespace Mine
section
variable {C : Cx} {A : Around} {σ σ' : Led} {env cenv : Env} {elt target iter : Expr} {ifs : List Expr} {scope : Scope} {pos : Pos} {D : Addr} {Qn : Led → Prop} {it : V}
theorem tests_mono {Q Q' : Bool → Led → Prop} (h : Tests C A cenv σ ifs Q) (k : ∀ b σ, Q b σ → Q' b σ) : Tests C A cenv σ ifs Q' := by
  match ifs, h with
  | [], h => exact k _ _ h
  | [c], h => exact Tr.mono h k
theorem loopC_sb {σ σ₀ : Led} (k : Sb σ₀ σ) (h : LoopC C A cenv elt target ifs D Qn it σ₀) : LoopC C A cenv elt target ifs D Qn it σ := by
  obtain ⟨J, n, j, turn⟩ := h
  refine ⟨fun n σ => ∃ σ₀, Sb σ₀ σ ∧ J n σ₀, n, ⟨σ₀, k, j⟩, fun n σ ⟨σ₁, k, j⟩ => nx_sb k fun s v H r => (turn n σ₁ j s v H r).mono fun o σ₃ q => ?_⟩
  cases o with
  | none => exact q
  | some y =>
    refine fun s a H r => (q s a H r).mono fun _ σ₄ q => tests_mono q fun b σ₅ q => ?_
    cases b with
    | false => obtain ⟨m, hm, j⟩ := q; exact ⟨m, hm, _, .refl, j⟩
    | true => exact Tr.mono q fun v σ₆ q => fun s fv vs H r rr => (q s fv vs H r rr).mono fun _ σ₇ ⟨m, hm, j⟩ => ⟨m, hm, _, .refl, j⟩
theorem cloop_iter {a : Addr} {Xo : Nat → AO} {l : List V} {G : Led → Prop} (sb : Sb ((D, AO.list []) :: (a, Xo 0) :: σ') σ) (I : Iter C A a Xo l G) (J : Nat → List V → Led → Prop) (h0 : J 0 [] σ') (hG : ∀ i acc σ, J i acc σ → G ((D, AO.list acc) :: σ)) (hz : l.length ≤ sizeLine)
    (turn : ∀ i y acc σ, l[i]? = some y → acc.length ≤ i → J i acc σ → Asg C A cenv ((a, Xo (i + 1)) :: (D, AO.list acc) :: σ) target y (fun σ₁ => Tests C A cenv σ₁ ifs (fun b σ₂ => if b = true then
        Tr C VR A σ₂ (eval elt cenv) (fun v σ₃ => ∃ σ', Sb ((D, AO.list acc) :: (a, Xo (i + 1)) :: σ') σ₃ ∧ J (i + 1) (acc ++ [v]) σ')
        else ∃ σ', Sb ((D, AO.list acc) :: (a, Xo (i + 1)) :: σ') σ₂ ∧ J (i + 1) acc σ')))
    (fin : ∀ acc σ, J l.length acc σ → Qn ((D, AO.list acc) :: σ)) : CLoop C A cenv elt target ifs D Qn (.ref a) σ := by
  have main := cloop_seq (D := D) I J h0 hG hz turn fin
  refine ⟨loopC_sb sb main, fun s v H r => ?_⟩
  have := I.self ((D, AO.list []) :: σ') (fun it σ'' => LoopC C A cenv elt target ifs D Qn it σ'') ?_
  · exact this s v ((HR.sb sb H).perm (List.Perm.swap ..)) r
  · exact loopC_sb (.take (.tail .head) (.take .head .refl)) main
theorem e_lc {cl : List (Str × Addr)} {ks cn : List Str} {Q : V → Led → Prop} (nd : ks.Nodup) (hcn : (cellNames scope).reverse = cn) (hclos : closureFor scope env = pure cl)
    (hkind : scope.kind = .function) (hnames : ∀ x ∈ scope.names, x.2 = .local → scope.names.lookup x.1 = some .local)
    (h : Tr C VR A σ (eval iter env) (fun x σ₁ => It C A σ₁ x (fun it σ₂ => ∀ D L cs, cs.map Prod.fst = cn → CLoop C A (cenvOf scope L cs cl env) elt target ifs D
      (fun σ' => ∃ vs σ'', Sb ((L, AO.fr ks vs) :: σ'') σ' ∧ Q (.ref D) σ'') it ((D, AO.list []) :: (L, AO.fr ks (ks.map fun _ => none)) :: (celled cs ++ σ₂)))))
    (ht : ∀ it v, letOwnedTupleGo target it v = pure ()) (hs : ∀ x, foldedSetIterable iter env x = pure x) :
    Tr C VR A σ (eval (.ListComp elt [⟨target, iter, ifs, 0⟩] scope pos) env) Q :=
  comp_ (use := none) nd hcn hclos hkind hnames h ht hs
theorem x_lc {cl : List (Str × Addr)} {ks cn : List Str} {y : Str} {py spos : Pos} {Qr : V → Led → Prop} {Qb Qc : Led → Prop} (nd : ks.Nodup) (hcn : (cellNames scope).reverse = cn) (hclos : closureFor scope env = pure cl)
    (hkind : scope.kind = .function) (hnames : ∀ x ∈ scope.names, x.2 = .local → scope.names.lookup x.1 = some .local)
    (h : Tr C VR A σ (eval iter env) (fun x σ₁ => It C A σ₁ x (fun it σ₂ => ∀ D L cs, cs.map Prod.fst = cn → CLoop C A (cenvOf scope L cs cl env) elt target ifs D
      (fun σ' => St C A σ' (storeName env y) (.ref D) (fun _ σ'' => ∃ vs σ₃, Sb ((L, AO.fr ks vs) :: σ₃) σ'' ∧ Qn σ₃)) it ((D, AO.list []) :: (L, AO.fr ks (ks.map fun _ => none)) :: (celled cs ++ σ₂)))))
    (ht : ∀ it v, letOwnedTupleGo target it v = pure ()) (hs : ∀ x, foldedSetIterable iter env x = pure x)
    (hsw : swapsWith (.ListComp elt [⟨target, iter, ifs, 0⟩] scope pos) (some (.Name y py)) spos.line env = pure true) :
    X C A env σ (.Assign [.Name y py] (.ListComp elt [⟨target, iter, ifs, 0⟩] scope pos) spos) Qn Qr Qb Qc := by
  intro s H
  unfold WP
  rw [exec_Assign_Name_used _ _ _ _ hsw]
  refine wpAny_bind (wpAny_standAt (wpAny_bind ?_))
  show wpAny _ A (do let _ ← comprehension (.ListComp elt [⟨target, iter, ifs, 0⟩] scope pos) scope env _ (newList []) false (eval iter env) (some (assign (.Name y py) env))) _ _ s
  refine wpAny_bind ((comp_ (use := some (assign (.Name y py) env)) (Q := fun _ σ' => Qn σ') nd hcn hclos hkind hnames ?_ ht hs s H).run fun v s₁ b σ₁ H₁ r₁ k₁ q₁ => wpAny_pure (wpAny_pure (post_next H₁ k₁ q₁)))
  refine Tr.mono h fun x σ₁ q => fun s a H r => (q s a H r).mono fun it σ₂ q => fun D L cs hcs => ?_
  have q := q D L cs hcs
  have lift : ∀ σ', St C A σ' (storeName env y) (.ref D) (fun _ σ'' => ∃ vs σ₃, Sb ((L, AO.fr ks vs) :: σ₃) σ'' ∧ Qn σ₃) → CompEnd C A ks L D (fun _ σ' => Qn σ') (some (assign (.Name y py) env)) σ' := fun σ' q => fun s a H r => wpAny_assign_Name (q s a H r)
  have up : ∀ {it σ}, LoopC C A (cenvOf scope L cs cl env) elt target ifs D (fun σ' => St C A σ' (storeName env y) (.ref D) (fun _ σ'' => ∃ vs σ₃, Sb ((L, AO.fr ks vs) :: σ₃) σ'' ∧ Qn σ₃)) it σ →
      LoopC C A (cenvOf scope L cs cl env) elt target ifs D (CompEnd C A ks L D (fun _ σ' => Qn σ') (some (assign (.Name y py) env))) it σ := by
    rintro it σ ⟨J, n, j, turn⟩
    refine ⟨J, n, j, fun n σ j s v H r => (turn n σ j s v H r).mono fun o σ₃ q => ?_⟩
    cases o with
    | none => exact lift _ q
    | some y => exact q
  exact ⟨up q.1, fun s v H r => (q.2 s v H r).mono fun it σ q => up q⟩
end
end Mine
end
section
open PySem PySem.W PySem.Calls PyProof.Rows PySem.Spec
set_option Elab.async false
set_option maxRecDepth 100000
set_option linter.unusedVariables false
namespace Mine
section
variable {C : Cx} {A : Around} {σ σ' : Led} {Q : V → Led → Prop} {a : Addr} {l : List V} {i : Int} {v : V}
noncomputable def HasL (C : Cx) (σ : Led) (b : Addr) (l : List V) : Prop := ∀ s, HR C σ s → ∃ vs, s.heap.IsList b vs.toArray ∧ VRs s.heap l vs
noncomputable def OldL (C : Cx) (a : Addr) (ns : List Int) : Prop := ∃ o vs n, C.h₀.get? a = some o ∧ o.cls = .type "list" ∧ o.data = .seq vs.toArray n ∧ ∀ h, VRs h (ns.map V.int) vs
theorem OldL.has {ns : List Int} (h : OldL C a ns) : HasL C σ a (ns.map V.int) := fun s H => by
  obtain ⟨o, vs, n, g, c, d, r⟩ := h
  exact ⟨vs, ⟨o, H.bg.old.get_of_cls g (by rw [c]; decide), c, n, d⟩, r _⟩
theorem has_listH (hm : HasL C σ a l) : Has C σ (.ref a) := ⟨"list", _, list_getitem_lookup, fun s ov H r => by cases r; obtain ⟨vs, L, _⟩ := hm s H; exact L.typeIs⟩
theorem g_listH (hm : HasL C σ a l) (h0 : 0 ≤ i) (h63 : i < 2 ^ 63) (hv : l[i.toNat]? = some v) (h : Q v σ) : Op2 C VR A σ getItem (.ref a) (.int i) Q := by
  rintro s _ b H rfl ⟨u, rfl⟩
  obtain ⟨vs, L, r⟩ := hm s H
  obtain ⟨w, hw, rw'⟩ := r.get hv
  exact wpAny_getItem_list L h0 h63 (by simpa using hw) ⟨v, σ, H, rw', TK.refl _, h⟩
theorem c_len_listH (hm : HasL C σ a l) (hz : l.length ≤ sizeLine) (h : Q (.int l.length) σ) : Call C A σ (.bi "len") [.ref a] Q := by
  rintro s fv vs H rfl r
  simp only [VRs] at r
  obtain ⟨_, _, rfl, rfl, rfl⟩ := r
  obtain ⟨ws, L, r⟩ := hm s H
  rw [sizeLine_eq] at hz
  have e := r.length
  refine call_len_list L (by rw [List.size_toArray]; lia) ?_
  rw [List.size_toArray, e]
  exact done_int (h := s.heap) (d := s.drawn) H h
theorem bin_pow {j : Int} (hn : 0 ≤ j) (hs : Builtin.Int.intBits i * j ≤ 2 ^ 27) (h : Q (.int (i ^ j.toNat)) σ) : Bin C A σ .Pow (.int i) (.int j) Q := by
  rintro s a b H ⟨t, rfl⟩ ⟨u, rfl⟩; exact PyProof.Rows.pow_int hn hs (done_int (h := s.heap) (d := s.drawn) H h)
end
section
variable {C : Cx} {A : Around} {σ σ' : Led} {env : Env} {Qn : Led → Prop} {Qr : V → Led → Prop}
theorem loop_sb {target : Expr} {body : List Stmt} {it : V} {σ₀ : Led} (k : Sb σ₀ σ) (h : Loop C A env it target body σ₀ Qn Qr) : Loop C A env it target body σ Qn Qr := by
  obtain ⟨J, n, j, turn⟩ := h
  refine ⟨fun n σ => ∃ σ₀, Sb σ₀ σ ∧ J n σ₀, n, ⟨σ₀, k, j⟩, fun n σ ⟨σ₁, k, j⟩ => nx_sb k fun s v H r => (turn n σ₁ j s v H r).mono fun o σ₃ q => ?_⟩
  cases o with
  | none => exact q
  | some y =>
    refine fun s a H r => (q s a H r).mono fun _ σ₄ q => Tr.mono q fun f σ₅ q => ?_
    cases f with
    | next => obtain ⟨m, hm, j⟩ := q; exact ⟨m, hm, _, .refl, j⟩
    | cont => obtain ⟨m, hm, j⟩ := q; exact ⟨m, hm, _, .refl, j⟩
    | brk => exact q
    | ret x => exact q
theorem loop_it {target : Expr} {body : List Stmt} {a : Addr} {Xo : Nat → AO} {l : List V} {G : Led → Prop} (sb : Sb ((a, Xo 0) :: σ') σ) (I : Iter C A a Xo l G) (J : Nat → Led → Prop) (h0 : J 0 σ') (hG : ∀ i σ, J i σ → G σ)
    (turn : ∀ i y σ, l[i]? = some y → J i σ → Asg C A env ((a, Xo (i + 1)) :: σ) target y (fun σ₁ => Xs C A env σ₁ body (fun σ₂ => ∃ σ', Sb ((a, Xo (i + 1)) :: σ') σ₂ ∧ J (i + 1) σ') Qr (fun σ₂ => ∃ σ', Sb σ' σ₂ ∧ Qn σ') (fun σ₂ => ∃ σ', Sb ((a, Xo (i + 1)) :: σ') σ₂ ∧ J (i + 1) σ')))
    (fin : ∀ σ, J l.length σ → Qn σ) : Loop C A env (.ref a) target body σ Qn Qr := loop_sb sb (loop_seq I J h0 hG turn fin)
theorem upto_get {i : Int} {n k : Nat} {y : V} (h : (upto i n)[k]? = some y) : k < n ∧ y = .int (i + k) := by
  have hk : k < n := by simpa [upto] using (List.getElem?_eq_some_iff.mp h).1
  refine ⟨hk, ?_⟩
  simp [upto, List.getElem?_range, hk] at h
  exact h.symm
theorem upto_len {i : Int} {n : Nat} : (upto i n).length = n := by simp [upto]
theorem loop_range {target : Expr} {body : List Stmt} {a : Addr} {i e : Int} {n : Nat} (sb : Sb ((a, AO.rit i e) :: σ') σ) (he : e = n) (hA : A.handled = none) (J : Nat → Led → Prop) (h0 : J 0 σ')
    (turn : ∀ k σ, k < n → J k σ → Asg C A env ((a, AO.rit (i + ((k + 1 : Nat) : Int)) ((n : Int) - ((k + 1 : Nat) : Int))) :: σ) target (.int (i + k)) (fun σ₁ => Xs C A env σ₁ body (fun σ₂ => ∃ σ', Sb ((a, AO.rit (i + ((k + 1 : Nat) : Int)) ((n : Int) - ((k + 1 : Nat) : Int))) :: σ') σ₂ ∧ J (k + 1) σ') Qr (fun σ₂ => ∃ σ', Sb σ' σ₂ ∧ Qn σ') (fun σ₂ => ∃ σ', Sb ((a, AO.rit (i + ((k + 1 : Nat) : Int)) ((n : Int) - ((k + 1 : Nat) : Int))) :: σ') σ₂ ∧ J (k + 1) σ')))
    (fin : ∀ σ, J n σ → Qn σ) : Loop C A env (.ref a) target body σ Qn Qr := by
  subst he
  refine loop_it (Xo := fun k => AO.rit (i + k) ((n : Int) - k)) (σ' := σ') ?_ (iter_range hA (i := i) (n := n)) J h0 (fun _ _ _ => trivial) (fun k y σ hy j => ?_) (by rw [upto_len]; exact fin)
  · have e1 : i + ((0 : Nat) : Int) = i := by lia
    have e2 : (n : Int) - ((0 : Nat) : Int) = n := by lia
    show Sb ((a, AO.rit (i + ((0 : Nat) : Int)) ((n : Int) - ((0 : Nat) : Int))) :: σ') σ
    rw [e1, e2]; exact sb
  · obtain ⟨hk, rfl⟩ := upto_get hy
    exact turn k σ hk j
end
end Mine
end
section
open PySem PySem.W PySem.Calls PyProof.Rows PySem.Spec Builtin Builtin.ObjectAttr
set_option Elab.async false
set_option maxRecDepth 100000
set_option linter.unusedVariables false
namespace Mine
noncomputable def ER (h : Heap) : List Str → List (Option V) → List DictEntry → Prop
  | [], [], es => es = []
  | k :: ks, v :: vs, es => ∃ e r, es = e :: r ∧ (∃ t, e.key = .str k t) ∧ (∀ x, v = some x → VR h x e.val) ∧ ER h ks vs r
  | _, _, _ => False
theorem ER.mono {h h' : Heap} (k : TK h h') : ∀ {ks : List Str} {vs : List (Option V)} {es : List DictEntry}, ER h ks vs es → ER h' ks vs es
  | [], [], _, H => H
  | _ :: _, _ :: _, _, ⟨e, r, a, b, c, d⟩ => ⟨e, r, a, b, fun x q => (c x q).mono k, ER.mono k d⟩
  | [], _ :: _, _, H => H.elim
  | _ :: _, [], _, H => H.elim
theorem ER.len {h : Heap} : ∀ {ks : List Str} {vs : List (Option V)} {es : List DictEntry}, ER h ks vs es → es.length = ks.length
  | [], [], _, H => by have : _ = [] := H; subst this; rfl
  | _ :: _, _ :: _, _, ⟨e, r, a, b, c, d⟩ => by subst a; simp [ER.len d]
  | [], _ :: _, _, H => H.elim
  | _ :: _, [], _, H => H.elim
theorem isStr_str {k n : Str} {t : Tok} : (Value.str k t).isStr n = (k == n) := rfl
theorem ER.noRef {h : Heap} : ∀ {ks : List Str} {vs : List (Option V)} {es : List DictEntry}, ER h ks vs es → es.any (·.refKey) = false
  | [], [], _, H => by have : _ = [] := H; subst this; rfl
  | _ :: _, _ :: _, _, ⟨e, r, a, ⟨t, b⟩, c, d⟩ => by
    subst a
    rw [List.any_cons, ER.noRef d, Bool.or_false]
    obtain ⟨hs, ky, vl⟩ := e
    dsimp only at b
    subst b
    rfl
  | [], _ :: _, _, H => H.elim
  | _ :: _, [], _, H => H.elim
theorem At.key {x : Str} {v : V} {ks : List Str} {vs : List (Option V)} (h : At x v ks vs) : x ∈ ks := by
  induction h with
  | head => exact .head _
  | tail _ ih => exact .tail _ ih
theorem ER.get {h : Heap} {x : Str} {v : V} {ks : List Str} {vs : List (Option V)} {es : List DictEntry} (nd : ks.Nodup) (H : ER h ks vs es) (p : At x v ks vs) : ∃ w, getL x es = some (some w) ∧ VR h v w := by
  induction p generalizing es with
  | head =>
    obtain ⟨e, r, a, ⟨t, b⟩, c, d⟩ := H
    subst a
    refine ⟨e.val, ?_, c _ rfl⟩
    unfold getL
    rw [List.find?_cons_of_pos (by rw [b, isStr_str]; simp)]
  | tail p ih =>
    rename_i y _ _ _
    obtain ⟨e, r, a, ⟨t, b⟩, c, d⟩ := H
    subst a
    obtain ⟨w, g, q⟩ := ih (List.nodup_cons.mp nd).2 d
    refine ⟨w, ?_, q⟩
    have ne : y ≠ x := fun e => (List.nodup_cons.mp nd).1 (e ▸ p.key)
    unfold getL at g ⊢
    rw [List.find?_cons_of_neg (by rw [b, isStr_str]; simpa using ne)]
    cases hf : List.find? (fun x_1 => x_1.key.isStr x) r with
    | some en => rw [hf] at g; exact g
    | none => rw [hf] at g; dsimp only at g; split at g <;> cases g
theorem ER.none {h : Heap} {x : Str} : ∀ {ks : List Str} {vs : List (Option V)} {es : List DictEntry}, ER h ks vs es → x ∉ ks → getL x es = some Option.none := by
  intro ks vs es H hx
  have nr := H.noRef
  have : es.find? (·.key.isStr x) = Option.none := by
    clear nr
    induction ks generalizing vs es with
    | nil =>
      cases vs with
      | nil => have : es = [] := H; subst this; rfl
      | cons _ _ => exact H.elim
    | cons k ks ih =>
      cases vs with
      | nil => exact H.elim
      | cons v vs =>
        obtain ⟨e, r, a, ⟨t, b⟩, c, d⟩ := H
        subst a
        rw [List.find?_cons_of_neg (by rw [b, isStr_str]; simp; intro e; exact hx (by simp [e]))]
        exact ih d (fun q => hx (by simp [q]))
  unfold getL
  rw [this, nr]; rfl
theorem ER.put {h : Heap} {x : Str} {v : V} {hs : Int} {key w : Value} (rw' : VR h v w) {ks : List Str} {vs vs' : List (Option V)} {es : List DictEntry} (nd : ks.Nodup) (H : ER h ks vs es) (p : Put x v ks vs vs') : ER h ks vs' (putL x hs key w es) := by
  induction p generalizing es with
  | head =>
    obtain ⟨e, r, a, ⟨t, b⟩, c, d⟩ := H
    subst a
    unfold putL
    rw [if_pos (by rw [b, isStr_str]; simp)]
    exact ⟨_, _, rfl, ⟨t, b⟩, fun y q => by cases q; exact rw', d⟩
  | tail p ih =>
    rename_i y _ _ _ _
    obtain ⟨e, r, a, ⟨t, b⟩, c, d⟩ := H
    subst a
    have ne : y ≠ x := fun e => (List.nodup_cons.mp nd).1 (e ▸ p.key)
    unfold putL
    rw [if_neg (by rw [b, isStr_str]; simpa using ne)]
    exact ⟨e, _, rfl, ⟨t, b⟩, c, ih (List.nodup_cons.mp nd).2 d⟩
noncomputable def AO.attrs (ks : List Str) (vs : List (Option V)) : AO := ⟨fun h o => ks.Nodup ∧ ks.length ≤ 1000 ∧ ∃ es n, o = dictOf es n ∧ ER h ks vs es, fun k ⟨a, z, es, n, b, c⟩ => ⟨a, z, es, n, b, c.mono k⟩⟩
noncomputable def AO.inst (D d : Addr) : AO := ⟨fun _ o => o.cls = .ref D ∧ o.dict = some d ∧ notCls o = true, fun _ h => h⟩
noncomputable def IsI (C : Cx) (σ : Led) (x D d : Addr) : Prop := ∀ s, HR C σ s → ∃ ox, s.heap.get? x = some ox ∧ ox.cls = .ref D ∧ ox.dict = some d ∧ notCls ox = true
section
variable {C : Cx} {K : Frag} {A : Around} {σ σ' : Led} {env : Env} {pos : Pos} {Q : V → Led → Prop} {x D d f : Addr} {name : Str} {v : V} {ks : List Str} {vs vs' : List (Option V)} {expr : Bool}
theorem isI_inst (hm : (x, AO.inst D d) ∈ σ) : IsI C σ x D d := fun s H => let ⟨o, g, _, a, b, c⟩ := H.own _ hm; ⟨o, g, a, b, c⟩
theorem isI_seq {l : List V} (hm : (x, AO.seq (.ref D) (some d) l) ∈ σ) : IsI C σ x D d := fun s H => by
  obtain ⟨o, vs, n, g, c, e, dt, _⟩ := seqOf H hm
  exact ⟨o, g, c, e, by unfold notCls; rw [dt]⟩
theorem instOf {s : Shared} (H : HR C σ s) (hi : IsI C σ x D d) (hd : (d, AO.attrs ks vs) ∈ σ) : ∃ ox es n, InstAt s.heap x ox D (some (dictOf es n)) ∧ ox.dict = some d ∧ s.heap.get? d = some (dictOf es n) ∧ ks.Nodup ∧ ks.length ≤ 1000 ∧ ER s.heap ks vs es := by
  obtain ⟨ox, g, a, b, c⟩ := hi s H
  obtain ⟨o, g', _, nd, z, es, n, e, r⟩ := H.own _ hd
  subst e
  exact ⟨ox, es, n, ⟨g, a, c, by rw [b]; exact g'⟩, b, g', nd, z, r⟩
theorem handed_vr {h : Heap} {v : V} {w : Value} (r : VR h v w) (hb : ∀ i, v = .bi i → handedIn (.builtin i) = true) : handedIn w = true := by
  cases v with
  | none => cases r; rfl
  | bool => cases r; rfl
  | int => obtain ⟨t, rfl⟩ := r; rfl
  | str => obtain ⟨t, rfl⟩ := r; rfl
  | bytes => obtain ⟨t, rfl⟩ := r; rfl
  | type => cases r; rfl
  | bi i => cases r; exact hb i rfl
  | ref => cases r; rfl
  | tup => obtain ⟨a, vs, rfl, _⟩ := r; rfl
noncomputable def noBi : V → Bool
  | .bi _ => false
  | _ => true
theorem a_own (hC : C.Is K) (hi : IsI C σ x D d) (hd : (d, AO.attrs ks vs) ∈ σ) (hv : At name v ks vs) (hg : plainGet K D name = true) (hh : hasDictIn K D = true) (ha : (findIn K (.ref D) name == some none) = true) (hb : noBi v = true) (h : Q v σ) :
    Op1 C VR A σ (fun a => getAttr a name expr) (.ref x) Q := by
  rintro s a H rfl
  obtain ⟨ox, es, n, I, _, _, nd, _, r⟩ := instOf H hi hd
  obtain ⟨w, g, rw'⟩ := r.get nd hv
  have X : K.In s.heap := hC.isK ▸ H.bg.kin
  refine get_value X I (plainGet_of hg).1 (findObj_own hh (beq_iff_eq.mp ha) rfl (by rw [lookIn_dict]; exact g)) (handed_vr rw' fun i e => by subst e; cases hb) ?_
  exact ⟨v, σ, H.toks, rw', TK.refl _, h⟩
theorem e_attr {o : Expr} {attr : Str} (h : Tr C VR A σ (eval o env) (fun ov σ₁ => Op1 C VR A σ₁ (fun a => getAttr a attr true) ov Q)) (hb : attributeBase o attr env (eval o env) = eval o env := by rfl) : Tr C VR A σ (eval (.Attribute o attr pos) env) Q := by
  intro s H
  have e : eval (.Attribute o attr pos) env = (do
    let ov ← attributeBase o attr env (eval o env)
    standAt pos.atName
    let r ← holding [ov] (getAttr ov attr true)
    letTemporaryGo o ov r
    pure r) := rfl
  unfold WP
  rw [e, hb]
  exact wpAny_bind ((h s H).run fun a s₁ ov σ₁ H₁ r₁ k₁ q₁ => wpAny_bind (wpAny_standAt (wpAny_bind (wpAny_holding ((q₁ s₁ a H₁ r₁).run fun b s₂ v σ₂ H₂ r₂ k₂ q₂ => wpAny_bind (wpAny_letTemporaryGo (wpAny_pure ⟨v, σ₂, H₂, r₂, k₁.trans k₂, q₂⟩)))))))
theorem m_fn {Qm : V → List V → Led → Prop} (hC : C.Is K) (hi : IsI C σ x D d) (hd : (d, AO.attrs ks vs) ∈ σ) (hn : name ∉ ks) (hg : plainGet K D name = true) (hf : (findIn K (.ref D) name == some (some (.ref f))) = true) (ht : (typeIn K (.ref f) == some (.type "function")) = true)
    (h : Qm (.ref f) [.ref x] σ) : Mth C A σ (.ref x) name Qm := by
  rintro s a pl H rfl
  obtain ⟨ox, es, n, I, _, _, nd, _, r⟩ := instOf H hi hd
  have X : K.In s.heap := hC.isK ▸ H.bg.kin
  refine method_fn X I (plainGet_of hg).1 (plainGet_of hg).2 (beq_iff_eq.mp hf) (beq_iff_eq.mp ht) ?_ ⟨(.ref f, [.ref x]), σ, H, ⟨rfl, VRs.cons rfl VRs.nil⟩, TK.refl _, h⟩
  show (lookIn name (dictOf es n)).map _ = _
  rw [lookIn_dict, r.none hn]; rfl
noncomputable def AO.meth (f x : Addr) : AO := ⟨fun _ o => o = methodObj (.ref f) (.ref x), fun _ h => h⟩
theorem a_bound (hC : C.Is K) (hi : IsI C σ x D d) (hd : (d, AO.attrs ks vs) ∈ σ) (hn : name ∉ ks) (hg : plainGet K D name = true) (hh : hasDictIn K D = true) (hf : (findIn K (.ref D) name == some (some (.ref f))) = true) (ht : (typeIn K (.ref f) == some (.type "function")) = true)
    (hgf : (specialIn K (.ref f) "__get__" == some (some (.builtin "function.__get__"))) = true) (htk : (takesIn K (.ref f) == some false) = true) (hc : copiedNames.contains name = false) (h : ∀ q, Q (.ref q) ((q, AO.meth f x) :: σ)) :
    Op1 C VR A σ (fun a => getAttr a name expr) (.ref x) Q := by
  rintro s a H rfl
  obtain ⟨ox, es, n, I, _, _, nd, _, r⟩ := instOf H hi hd
  have X : K.In s.heap := hC.isK ▸ H.bg.kin
  refine get_bind X I (plainGet_of hg).1 (findObj_fn hh (beq_iff_eq.mp hf) (beq_iff_eq.mp hgf) (beq_iff_eq.mp htk) hc (by rw [lookIn_dict, r.none hn])) (plainGet_of hg).2 (wpAny_call (fn_get X (beq_iff_eq.mp ht) (handed_on rfl ?_)))
  exact ⟨.ref s.heap.objs.size, _, H.toks.add (X := AO.meth f x) (fun b o e => Heap.get?_push_of_some _ e) (Nat.le_refl _) (Heap.get?_push_size _ rfl) (Pl.fields rfl (by intro e; cases e)) rfl rfl rfl, vr_ref.mpr rfl, TK.push _, h _⟩
end
end Mine
end
section
open PySem PySem.W PySem.Calls PyProof.Rows PySem.Spec Builtin Builtin.ObjectAttr
set_option Elab.async false
set_option maxRecDepth 100000
set_option linter.unusedVariables false
namespace Mine
section
variable {C : Cx} {K : Frag} {A : Around} {σ σ' : Led} {env : Env} {pos : Pos} {Q : V → Led → Prop} {x D d f : Addr} {name : Str} {v : V} {ks : List Str} {vs vs' : List (Option V)} {expr : Bool}
theorem a_set {Qu : Unit → Led → Prop} (hC : C.Is K) (hi : IsI C σ x D d) (U : LU d (AO.attrs ks vs) (AO.attrs ks vs') σ σ') (hv : Put name v ks vs vs')
    (hs : (findIn K (.ref D) "__setattr__" == some (some (.builtin "object.__setattr__"))) = true) (hp : plainOver K D = true) (ht : (takerIn K D name == some none) = true) (hh : hasDictIn K D = true) (h : Qu () σ') : Op2 C RU A σ (fun a b => setAttr a name b) (.ref x) v Qu := by
  rintro s a b H rfl rb
  obtain ⟨ox, es, n, I, hd, D0, nd, z, r⟩ := instOf H hi U.mem
  have X : K.In s.heap := hC.isK ▸ H.bg.kin
  refine set_plain X I (beq_iff_eq.mp hs) (osa_open (s := { s with toks := s.toks + 1 }) X I hp (beq_iff_eq.mp ht) fun bb => ?_)
  obtain ⟨cd, hc, hd'⟩ := any_some hh
  obtain ⟨hx, hcl, hn, -⟩ := I
  obtain ⟨oc, odi, oda, osl⟩ := ox
  dsimp only at hcl hd hx
  subst hcl hd
  have tkU : ∀ hsh key, Heap.SameBut d s.heap (s.heap.update d (Obj.putName name hsh key b)) := fun _ _ => Heap.SameBut.update ..
  refine wpAny_bind (wpAny_pure (wpAny_bind (wpAny_bind (wpAny_loadPart hx (wpAny_bind (looks_clsIn X hc _ _ _ _ (fun _ _ e => e) ?_))))))
  rw [hd']
  refine wpAny_pure (a := some d) (wpAny_bind (wpAny_pure (wpAny_bind ?_)))
  unfold nsSet
  refine wpAny_bind (wpAny_bind (wpAny_askSetting (wpAny_pure (wpAny_bind (wpAny_mkText (wpAny_bind (wpAny_loadPart D0 ?_)))))))
  dsimp only
  have c : (!es.toArray.any (·.key.isStr name) && es.toArray.any (·.refKey)) = false := by
    rw [← Array.any_toList, ← Array.any_toList]
    simp [r.noRef]
  rw [aRefKeyMayBeTheName_at, c]
  refine wpAny_updatePart D0 ?_
  have hs := tkU (PyData.keyHash C.w.params name) (.str name (s.toks + 1))
  have tk := HR.tkUpd H U hs
  have e1 : Obj.putName name (PyData.keyHash C.w.params name) (.str name (s.toks + 1)) b (dictOf es n) = dictOf (putL name (PyData.keyHash C.w.params name) (.str name (s.toks + 1)) b es) (putN name es n) := putName_dict ..
  have er : ER (s.heap.update d (Obj.putName name (PyData.keyHash C.w.params name) (.str name (s.toks + 1)) b)) ks vs' (putL name (PyData.keyHash C.w.params name) (.str name (s.toks + 1)) b es) := ER.put (rb.mono tk) nd (r.mono tk) hv
  have gg : (s.heap.update d (Obj.putName name (PyData.keyHash C.w.params name) (.str name (s.toks + 1)) b)).get? d = some (dictOf (putL name (PyData.keyHash C.w.params name) (.str name (s.toks + 1)) b es) (putN name es n)) := by
    rw [Heap.get?_update_self _ D0 (by rw [e1]; rfl), e1]
  refine wpAny_bind (wpAny_lookBehind gg (pastItsLine_dict (by rw [List.size_toArray, er.len, sizeLine_eq]; lia)) ?_)
  exact wpAny_pure ⟨(), σ', (H.upd (s' := { s with heap := s.heap.update d (Obj.putName name (PyData.keyHash C.w.params name) (.str name (s.toks + 1)) b), toks := s.toks + 2 }) U hs gg (Pl.dict rfl) ⟨nd, z, _, _, rfl, er⟩ rfl rfl).1, trivial, tk, h⟩
end
end Mine
end
section
open PySem PySem.W PySem.Calls PyProof.Rows PySem.Spec
set_option Elab.async false
set_option maxRecDepth 100000
set_option linter.unusedVariables false
namespace Mine
theorem slot_cit_next : Slot "callable_iterator" "__next__" "callable_iterator.__next__" :=
  .of (owner := "callable_iterator") (n := "__next__") (by rw [typeLookup_type, builtinLookup_eq_fast]; kernel_rfl) (by decide +kernel) (by decide +kernel) (by decide +kernel)
    (by first | exact .inl (by decide +kernel) | exact .inr (by decide +kernel)) (by rw [isSubtype_type]; kernel_rfl)
theorem slot_cit_iter : Slot "callable_iterator" "__iter__" "callable_iterator.__iter__" :=
  .of (owner := "callable_iterator") (n := "__iter__") (by rw [typeLookup_type, builtinLookup_eq_fast]; kernel_rfl) (by decide +kernel) (by decide +kernel) (by decide +kernel)
    (by first | exact .inl (by decide +kernel) | exact .inr (by decide +kernel)) (by rw [isSubtype_type]; kernel_rfl)
theorem entry_cit_next : entryFor table "callable_iterator.__next__" = some Builtin.«callable_iterator.__next__» := entryFor_of_fast (by kernel_rfl)
theorem entry_cit_iter : entryFor table "callable_iterator.__iter__" = some Builtin.«dict_keyiterator.__iter__» :=
  entryFor_alias (id' := "dict_keyiterator.__iter__") (by kernel_rfl) rfl (by decide +kernel) (by kernel_rfl)
theorem args_cit_next (a : Value) : argsOk "callable_iterator.__next__" ⟨[a], []⟩ := by unfold argsOk; kernel_rfl
theorem args_cit_iter (a : Value) : argsOk "callable_iterator.__iter__" ⟨[a], []⟩ := by unfold argsOk; kernel_rfl
section
variable {M : Model} {A : Around} {E : Value → Shared → Prop} {s : Shared}
theorem wpAny_callBorrowed {f : Value} {pos : List Value} {Q : Value → Shared → Prop} (hc : codeAny M A (.call f ⟨pos, []⟩) (wants Q E) s) : wpAny M A (callBorrowed f pos) Q E s := fun Γ p hΓ => by
  unfold callBorrowed
  rw [Sem.wp_call]
  have := hc _ p rfl (hΓ.enter (.call f ⟨pos, []⟩) none p (by intro x; cases x))
  refine wpCode_mono ?_ this
  intro r s' h
  cases r with
  | error e => exact h
  | ok fl => cases fl <;> first | exact h | exact h.elim
end
noncomputable def citObj (q : Addr) (t : Tok) : Obj := { cls := .type "callable_iterator", data := .fields #[.ref q, .str Str.empty t, .bool false] }
noncomputable def cdoneObj : Obj := { cls := .type "callable_iterator", data := .fields #[.none, .none, .bool true] }
noncomputable def AO.cit (q : Addr) : AO := ⟨fun _ o => ∃ t, o = citObj q t, fun _ h => h⟩
noncomputable def AO.cdone : AO := ⟨fun _ o => o = cdoneObj, fun _ h => h⟩
section
variable {C : Cx} {K : Frag} {A : Around} {σ σ' : Led} {Q : V → Led → Prop} {x f q it : Addr}
theorem stop_ {α : Type} {P : α → Shared → Prop} {s : Shared} {A : Around} {E : Value → Shared → Prop} {Q : Option Value → Shared → Prop} (hh : A.handled = none)
    (hQ : ∀ h', (∀ b o, s.heap.get? b = some o → h'.get? b = some o) → Q none { s with heap := h' }) :
    wpAny (model C.prog C.w) A.in1 (do raiseNew (← newExc (.type "StopIteration") []) : Sem α) P (fun e s' => wpAny (model C.prog C.w) A (do
      if ← isInstance e (.type "StopIteration") then pure none else throw e) Q E s') s := by
  refine wpAny_bind ?_
  simp only [newExc, newTuple]
  refine wpAny_bind (wpAny_newObj_type ?_ (by size_fits))
  refine wpAny_bind (m := firstArgMember _ _) (wpAny_of_eq (a := Value.none) (by first | rfl | (simp only [firstArgMember]; rfl)) ?_)
  refine wpAny_newObj_type ?_ (by size_fits)
  simp only [raiseNew]
  refine wpAny_bind (wpAny_handled ?_)
  rw [show A.in1.handled = none from hh]
  refine wpAny_bind (wpAny_pure (wpAny_throw ?_))
  refine wpAny_bind (wpAny_isInstance (T := "StopIteration") (b := true) ⟨_, Heap.get?_push_size _ rfl, rfl⟩ isSubtype_stop ?_)
  exact wpAny_pure (hQ _ fun b o e => Heap.get?_push_of_some _ (Heap.get?_push_of_some _ e))
theorem next_unfold {s : Shared} {A : Around} {P : Option Value → Shared → Prop} {E : Value → Shared → Prop} (hT : s.TypeIs (.ref it) "callable_iterator")
    (h : wpAny (model C.prog C.w) A.in1 (Builtin.«callable_iterator.__next__» ⟨[.ref it], []⟩) (fun fin s' => ∃ v, fin = .done (.ret v) ∧ P (some v) s') (fun e s' => wpAny (model C.prog C.w) A (do
      if ← isInstance e (.type "StopIteration") then pure none else throw e) P E s') s) : wpAny (model C.prog C.w) A (pyNext (.ref it)) P E s := by
  unfold pyNext
  refine wpAny_bind (wpAny_attempt (wpAny_callSpecial?_slot (name := Str.ofString "__next__") hT slot_cit_next
    (wpAny_call_entry slot_cit_next hT entry_cit_next (wpAny_mono h (fun fin s' h => ?_) fun e s' h => ?_) (args_cit_next _))))
  · obtain ⟨v, rfl, p⟩ := h
    exact ⟨v, rfl, wpAny_pure p⟩
  · exact h
noncomputable def fnAt (K : Frag) (f : Addr) : Bool := match K.lookup f with
  | some ⟨_, _, .func _, _⟩ => true
  | _ => false
theorem fnAt_get {h : Heap} (X : K.In h) (e : fnAt K f = true) : ∃ o fd, h.get? f = some o ∧ o.data = .func fd := by
  unfold fnAt at e
  split at e
  · rename_i c d fd sl ho; exact ⟨_, fd, X _ _ ho, rfl⟩
  · cases e
theorem borrows_ {h : Heap} {o : Obj} {fd : FuncData} (g : h.get? q = some (methodObj (.ref f) (.ref x))) (gf : h.get? f = some o) (hf : o.data = .func fd) : Looks (model C.prog C.w) h (borrowsExactly (.ref q)) true := by
  intro A Q E s k hq
  unfold borrowsExactly
  refine wpAny_bind (wpAny_load (k _ _ g) ?_)
  show wpAny _ _ (do match (← load f).data with | .func _ => pure true | _ => pure false : Sem Bool) _ _ s
  refine wpAny_bind (wpAny_load (k _ _ gf) ?_)
  rw [hf]
  exact wpAny_pure hq
theorem nx_cit {Qo : Option V → Led → Prop} (hC : C.Is K) (hA : A.handled = none) (hf : fnAt K f = true) (hit : (it, AO.cit q) ∈ σ) (hm : (q, AO.meth f x) ∈ σ)
    (h : CallC C A.in1 σ (.ref f) [.ref x] (fun v σ₁ => ∃ l, v = .str (S l) ∧ (it, AO.cit q) ∈ σ₁ ∧ (q, AO.meth f x) ∈ σ₁ ∧ (l ≠ [] → Qo (some (.str (S l))) σ₁) ∧ (l = [] → ∃ σ₂, LU it (AO.cit q) AO.cdone σ₁ σ₂ ∧ Qo none σ₂))) : Nx C A σ (.ref it) Qo := by
  rintro s _ H rfl
  obtain ⟨o, g, _, t, rfl⟩ := H.own _ hit
  obtain ⟨om, gm, _, e⟩ := H.own _ hm
  have e : om = methodObj (.ref f) (.ref x) := e
  subst e
  obtain ⟨of, fd, gf, hfd⟩ := fnAt_get (hC.isK ▸ H.bg.kin) hf
  have hT : s.TypeIs (.ref it) "callable_iterator" := ⟨_, g, rfl⟩
  refine next_unfold hT ?_
  show wpAny _ _ (field (.ref it) 2 >>= _) _ _ s
  refine wpAny_bind (wpAny_field g rfl (x := .bool false) rfl ?_)
  rw [if_neg (show ¬ ((Value.bool false == Value.bool true) = true) by decide)]
  show wpAny _ _ (field (.ref it) 0 >>= _) _ _ s
  refine wpAny_bind (wpAny_field g rfl (x := .ref q) rfl ?_)
  refine wpAny_bind (wpAny_attempt ?_)
  unfold callOutOfASlot
  refine wpAny_bind ((borrows_ gm gf hfd).here ?_)
  rw [if_pos rfl]
  refine wpAny_callBorrowed (method_call gm (codeAny_mono (h s (.ref f) [.ref x] H rfl (VRs.cons rfl VRs.nil)) fun r s₁ p => ?_))
  cases r with
  | error e => exact (show False from p).elim
  | ok fl =>
    cases fl with
    | ret v =>
      obtain ⟨b, σ₁, H₁, r₁, k₁, l, rfl, hit₁, hm₁, h1, h2⟩ := p
      obtain ⟨u, rfl⟩ := r₁
      obtain ⟨o, g, _, t, rfl⟩ := H₁.own _ hit₁
      show wpAny _ _ (field (.ref it) 2 >>= _) _ _ s₁
      refine wpAny_bind (wpAny_field g rfl (x := .bool false) rfl ?_)
      rw [if_neg (show ¬ ((Value.bool false == Value.bool true) = true) by decide)]
      show wpAny _ _ (field (.ref it) 1 >>= _) _ _ s₁
      refine wpAny_bind (wpAny_field g rfl (x := .str Str.empty t) rfl ?_)
      refine wpAny_bind (wpAny_holding (PyProof.Rows.eqBool_str ?_))
      by_cases hl : l = []
      · obtain ⟨σ₂, U, q2⟩ := h2 hl
        subst hl
        have e : (Str.empty == S []) = true := by decide
        rw [e]
        obtain ⟨om, gm, _, e⟩ := H₁.own _ hm₁
        have e : om = methodObj (.ref f) (.ref x) := e
        subst e
        obtain ⟨of, fd, gf, hfd⟩ := fnAt_get (hC.isK ▸ H₁.bg.kin) hf
        refine wpAny_bind (wpAny_rule ?_)
        show wpAny _ _ ((field (.ref it) 0 >>= fun w => slotLetsGo "callable_iterator.__next__" w _ >>= fun _ => setField (.ref it) 0 .none >>= fun _ => setField (.ref it) 1 .none >>= fun _ => setField (.ref it) 2 (.bool true)) >>= _) _ _ s₁
        refine wpAny_bind (wpAny_bind (wpAny_field g rfl (x := .ref q) rfl (wpAny_bind ?_)))
        unfold slotLetsGo
        refine wpAny_bind ((borrows_ gm gf hfd).here (wpAny_pure ?_))
        refine wpAny_bind (wpAny_setField_rec g (by simp) fun h1 g1 s1 => ?_)
        refine wpAny_bind (wpAny_setField_rec g1 (by simp) fun h2 g2 s2 => ?_)
        refine wpAny_setField_rec g2 (by simp) fun h3 g3 s3 => ?_
        have g3 : h3.get? it = some cdoneObj := g3
        have sb : Heap.SameBut it s₁.heap h3 := (s1.trans s2).trans s3
        have U3 := H₁.upd (s' := { s₁ with heap := h3 }) U sb g3 (Pl.fields rfl (by intro e; cases e)) rfl rfl rfl
        refine stop_ hA fun h' k' => ?_
        exact ⟨none, σ₂, U3.1.grow (s' := { s₁ with heap := h' }) k' rfl rfl, rfl, k₁.trans (U3.2.trans fun b o e _ => k' b o e), q2⟩
      · have e : (Str.empty == S l) = false := by
          rw [beq_eq_false_iff_ne]
          intro e
          apply hl
          have e2 : S [] = S l := by rw [← e]; rfl
          exact (S_inj e2).symm
        rw [e]
        exact wpAny_bind (wpAny_pure (wpAny_pure ⟨_, rfl, some (.str (S l)), σ₁, H₁, ⟨_, rfl, ⟨u, rfl⟩⟩, k₁, h1 hl⟩))
    | next => exact (show False from p).elim
    | brk => exact (show False from p).elim
    | cont => exact (show False from p).elim
theorem nx_cdone {Qo : Option V → Led → Prop} (hA : A.handled = none) (hit : (it, AO.cdone) ∈ σ) (h : Qo none σ) : Nx C A σ (.ref it) Qo := by
  rintro s _ H rfl
  obtain ⟨o, g, _, e⟩ := H.own _ hit
  have e : o = cdoneObj := e
  subst e
  have hT : s.TypeIs (.ref it) "callable_iterator" := ⟨_, g, rfl⟩
  refine next_unfold hT ?_
  show wpAny _ _ (field (.ref it) 2 >>= _) _ _ s
  refine wpAny_bind (wpAny_field g rfl (x := .bool true) rfl ?_)
  rw [if_pos (show ((Value.bool true == Value.bool true) = true) by decide)]
  refine wpAny_bind (wpAny_rule (wpAny_bind (stop_ hA fun h' k' => ⟨none, σ, H.grow (s' := { s with heap := h' }) k' rfl rfl, rfl, fun b o e _ => k' b o e, h⟩)))
theorem it_cit {Qi : V → Led → Prop} {X : AO} (hX : X = AO.cit q ∨ X = AO.cdone) (hit : (it, X) ∈ σ) (h : Qi (.ref it) σ) : It C A σ (.ref it) Qi := by
  rintro s _ H rfl
  obtain ⟨o, g, _, e⟩ := H.own _ hit
  have hT : s.TypeIs (.ref it) "callable_iterator" := by
    rcases hX with rfl | rfl
    · obtain ⟨t, rfl⟩ := e; exact ⟨_, g, rfl⟩
    · have e : o = cdoneObj := e
      subst e; exact ⟨_, g, rfl⟩
  refine wpAny_pyIter_slot hT slot_cit_iter (wpAny_call_entry slot_cit_iter hT entry_cit_iter ?_ (args_cit_iter _))
  show wpAny _ _ (ret (.ref it)) _ _ s
  exact wpAny_pure ⟨_, rfl, "callable_iterator", _, hT, slot_cit_next.lookup, .ref it, σ, H, vr_ref.mpr rfl, TK.refl _, h⟩
theorem entry_iter2 : entryFor table "iter" = some Builtin.«iter» := entryFor_of_fast (by kernel_rfl)
theorem args_iter2 (a b : Value) : argsOk "iter" ⟨[a, b], []⟩ := by unfold argsOk; kernel_rfl
theorem method_call_lookup : ∃ r, typeLookup (.type "method") "__call__" = pure (some r) := ⟨.builtin "method.__call__", by rw [typeLookup_type, builtinLookup_eq_fast]; kernel_rfl⟩
theorem c_iter2 (hm : (q, AO.meth f x) ∈ σ) (h : ∀ it, Q (.ref it) ((it, AO.cit q) :: σ)) : Call C A σ (.bi "iter") [.ref q, .str Str.empty] Q := by
  rintro s fv vs H rfl r
  simp only [VRs] at r
  obtain ⟨_, _, rfl, rfl, _, _, rfl, ⟨t, rfl⟩, rfl⟩ := r
  obtain ⟨om, gm, _, e⟩ := H.own _ hm
  have e : om = methodObj (.ref f) (.ref x) := e
  subst e
  obtain ⟨rr, hl⟩ := method_call_lookup
  have hT : s.TypeIs (.ref q) "method" := ⟨_, gm, rfl⟩
  refine Calls.call_function_entry (by decide +kernel) (by decide +kernel) entry_iter2 (args_iter2 _ _) ?_
  unfold Builtin.«iter»
  refine wpAny_bind (m := someArgs "iter" 1 2 _) (wpAny_pure ?_)
  refine wpAny_bind (wpAny_specialOf hT hl ?_)
  rw [if_neg (by simp)]
  refine wpAny_bind (wpAny_rule (wpAny_bind (wpAny_newObj_type (wpAny_pure ⟨_, rfl, .ref s.heap.objs.size, _, H.add (X := AO.cit q) (fun b o e => Heap.get?_push_of_some _ e) (Nat.le_refl _) (Heap.get?_push_size _ rfl) (Pl.fields rfl (by intro e; cases e)) ⟨t, rfl⟩ rfl rfl, vr_ref.mpr rfl, TK.push _, h _⟩))))
end
end Mine
end
section
open PySem PySem.W PySem.Calls PyProof.Rows PySem.Spec Builtin Builtin.ObjectAttr
set_option Elab.async false
set_option maxRecDepth 100000
set_option linter.unusedVariables false
namespace Mine
theorem fn_ga : typeLookup (.type "function") "__getattribute__" = pure (some (.builtin "object.__getattribute__")) := by rw [typeLookup_type, builtinLookup_eq_fast]; kernel_rfl
theorem fn_gattr : typeLookup (.type "function") "__getattr__" = pure none := by rw [typeLookup_type, builtinLookup_eq_fast]; kernel_rfl
theorem fn_read : typeLookup (.type "function") "read" = pure none := by rw [typeLookup_type, builtinLookup_eq_fast]; kernel_rfl
theorem fn_sub : isSubtype (.type "function") (.type "object") = pure true := by rw [isSubtype_type]; kernel_rfl
theorem oga_args (a b : Value) : argsOk "object.__getattribute__" ⟨[a, b], []⟩ := by unfold argsOk; kernel_rfl
section
variable {prog : Program} {w : World} {A : Around} {E : Value → Shared → Prop} {s : Shared} {st dd : Addr} {o : Obj} {es : List DictEntry} {n : Nat} {name : Str} {v : Value} {expr : Bool}
theorem get_fnattr {Q : Value → Shared → Prop} (hst : s.heap.get? st = some o) (hc : o.cls = .type "function") (hd : o.dict = some dd) (hno : notCls o = true) (hdd : s.heap.get? dd = some (dictOf es n)) (hl : getL name es = some (some v))
    (hlk : typeLookup (.type "function") name = pure none) (hh : handedIn v = true) (h : Q v { s with toks := s.toks + 1 }) : wpAny (model prog w) A (getAttr (.ref st) name expr) Q E s := by
  have hT : ∀ tk, ({ s with toks := tk } : Shared).TypeIs (.ref st) "function" := fun tk => ⟨o, hst, hc⟩
  unfold getAttr getAttrBy
  refine wpAny_bind (wpAny_mkText (wpAny_holding (wpAny_bind (wpAny_typeOf (hT _) (wpAny_bind (wpAny_of_eq fn_ga ?_))))))
  show wpAny _ _ (getAttrByItsOwn _ _ _ _ _ _) _ _ _
  unfold getAttrByItsOwn
  refine wpAny_bind (wpAny_pure (a := none) (wpAny_bind (wpAny_attempt (wpAny_holding ?_))))
  have e1 : (expr && onTheHeap (.builtin "object.__getattribute__")) = false := by cases expr <;> rfl
  unfold callGetattribute
  rw [e1, if_neg (by decide)]
  unfold boundAndCalled
  refine wpAny_bind (wpAny_of_eq (PySem.F.slot_object_getattribute.bind _) ?_)
  show wpAny _ _ (call (.builtin "object.__getattribute__") [.ref st, .str name s.toks]) _ _ _
  refine call_self (owner := "object") (n := "__getattribute__") (.inr (by decide +kernel)) (by decide +kernel) (by decide +kernel) PySem.F.entry_object_getattribute (oga_args _ _)
    (fun A' Q' E' s' k q => wpAny_isInstance ⟨o, k _ _ hst, hc⟩ fn_sub q) ?_
  show wpAny _ _ (typeOf (.ref st) >>= fun tp => find (.ref st) tp name >>= _) _ _ _
  refine wpAny_bind (wpAny_typeOf (hT _) (wpAny_bind ?_))
  unfold find
  refine wpAny_bind (wpAny_of_eq hlk ?_)
  refine wpAny_bind (wpAny_pure (a := none) (wpAny_bind (wpAny_pure (a := none) ?_)))
  show wpAny _ _ (ownThenClass _ _ _ _) _ _ _
  unfold ownThenClass inOwnDict ObjectAttr.ownDict loadHead
  obtain ⟨oc, od, odt, osl⟩ := o
  dsimp only at hc hd
  subst hc
  subst hd
  have key : ∀ {Q' : Option Value → Shared → Prop} {E'}, Q' (some v) { s with toks := s.toks + 1 } → wpAny (model prog w) A.in1 (instanceDict st false) (fun a s' => wpAny (model prog w) A.in1 (inDict name a) Q' E' s') E' { s with toks := s.toks + 1 } := by
    intro Q' E' q
    unfold instanceDict
    refine wpAny_bind (wpAny_loadPart hst ?_)
    refine wpAny_pure (a := some dd) ?_
    unfold inDict nsGet
    refine wpAny_bind (wpAny_loadPart hdd ?_)
    rw [nsLook_of (show lookIn name (dictOf es n) = some (some v) by rw [lookIn_dict]; exact hl)]
    exact wpAny_pure q
  refine wpAny_bind (wpAny_bind (wpAny_bind (wpAny_loadPart hst ?_)))
  cases odt with
  | cls c => cases hno
  | _ =>
    refine key ?_
    refine wpAny_bind (wpAny_rule (wpAny_pure ?_))
    refine wpAny_pure ⟨v, rfl, ?_⟩
    show wpAny _ _ (handedOut v) _ _ _
    rw [handedOut_of hh]
    exact wpAny_pure h
end
end Mine
end
section
open PySem PySem.W PySem.Calls PyProof.Rows PySem.Spec Builtin
set_option Elab.async false
set_option maxRecDepth 100000
set_option linter.unusedVariables false
namespace Mine
noncomputable def AO.table (ps : Array Value) : AO := ⟨fun _ o => o = tabObj ps, fun _ h => h⟩
noncomputable def fnObj (d : Option Addr) (fd : FuncData) : Obj := { cls := .type "function", dict := d, data := .func fd }
noncomputable def AO.fn (d : Option Addr) (fd : FuncData) : AO := ⟨fun _ o => o = fnObj d fd, fun _ h => h⟩
noncomputable def CodeIs (q : Str) (o : Obj) : Prop := ∃ (vs : Array Value) (t : Tok), o.data = .fields vs ∧ vs[1]? = some (.str q t)
noncomputable def AO.code (q : Str) : AO := ⟨fun _ o => CodeIs q o, fun _ h => h⟩
section
variable {C : Cx} {K : Frag} {A : Around} {σ σ' : Led} {env : Env} {pos : Pos} {Q : V → Led → Prop} {c P : Addr} {ps : Array Value}
theorem builtinsAt {s : Shared} (hC : C.Is K) (H : HR C σ s) (hP : C.h₀.get? P = none) : s.heap.BuiltinsAt C.mg P := by
  obtain ⟨bm, o, a, b, c, g, d, e, f⟩ := hC.bm
  exact ⟨bm, o, a, b, c, (fun q => by rw [q, hP] at g; cases g), H.bg.old.get_of_cls g (by rw [d]; decide), d, e, f⟩
theorem codeRec_own {s : Shared} {c' : Addr} {q : Str} (H : HR C σ s) (hm : (c', AO.code q) ∈ σ) : s.heap.CodeRec (.ref c') q := by
  obtain ⟨o, g, _, vs, t, d, e⟩ := H.own _ hm
  exact ⟨c', o, vs, t, rfl, g, d, e⟩
theorem LU.keys {a : Addr} {X X' : AO} {σ σ' : Led} (U : LU a X X' σ σ') : σ'.map Prod.fst = σ.map Prod.fst := by
  obtain ⟨pre, post, rfl, rfl⟩ := U.split
  simp
theorem HR.updX {s s' : Shared} {a : Addr} {o' : Obj} {X X' : AO} (H : HR C σ s) (U : LU a X X' σ σ') (hs : Heap.ExtBut a s.heap s'.heap)
    (hn : s'.heap.get? a = some o') (hc : Pl o') (hx : X'.P s'.heap o') (hg : s'.gens = s.gens) (ho : s'.os = s.os) : HR C σ' s' ∧ TK s.heap s'.heap := by
  obtain ⟨pre, post, rfl, rfl⟩ := U.split
  obtain ⟨o, g, nt, _⟩ := H.own (a, X) (by simp)
  have tk : TK s.heap s'.heap := fun b ob e c => by
    by_cases hb : b = a
    · subst hb; rw [g] at e; cases e; exact absurd c nt
    · exact hs b _ hb e
  have nd := H.nd
  have ha : ∀ p ∈ pre ++ post, p.1 ≠ a := by
    intro p hp e
    simp only [List.map_append, List.map_cons] at nd
    have nd' := (List.perm_middle.nodup_iff).mp nd
    exact (List.nodup_cons.mp nd').1 (by rw [← List.map_append]; exact e ▸ List.mem_map_of_mem hp)
  refine ⟨⟨H.bg.ext (H.fresh (a, X) (by simp)) hs, fun p hp => ?_, fun p hp => ?_, ?_, hg ▸ H.gens, ho ▸ H.os⟩, tk⟩
  · rcases List.mem_append.mp hp with q | q
    · obtain ⟨op, x, y, z⟩ := H.own p (List.mem_append_left _ q)
      exact ⟨op, hs _ _ (ha p (List.mem_append_left _ q)) x, y, p.2.mono tk z⟩
    · rcases List.mem_cons.mp q with rfl | q
      · exact ⟨o', hn, hc, hx⟩
      · obtain ⟨op, x, y, z⟩ := H.own p (List.mem_append_right _ (.tail _ q))
        exact ⟨op, hs _ _ (ha p (List.mem_append_right _ q)) x, y, p.2.mono tk z⟩
  · rcases List.mem_append.mp hp with q | q
    · exact H.fresh p (List.mem_append_left _ q)
    · rcases List.mem_cons.mp q with rfl | q
      · exact H.fresh (a, X) (by simp)
      · exact H.fresh p (List.mem_append_right _ (.tail _ q))
  · simpa only [List.map_append, List.map_cons] using nd
theorem HR.insert {s : Shared} {a : Addr} {o : Obj} {X : AO} (H : HR C σ s) (hf : C.Free a) (hn : a ∉ σ.map Prod.fst) (g : s.heap.get? a = some o) (pl : Pl o) (hX : X.P s.heap o) : HR C ((a, X) :: σ) s := by
  refine ⟨H.bg, fun p hp => ?_, fun p hp => ?_, ?_, H.gens, H.os⟩
  · rcases List.mem_cons.mp hp with rfl | hp
    · exact ⟨o, g, pl, hX⟩
    · exact H.own p hp
  · rcases List.mem_cons.mp hp with rfl | hp
    · exact hf
    · exact H.fresh p hp
  · rw [List.map_cons]; exact List.nodup_cons.mpr ⟨hn, H.nd⟩
theorem HR.notNew {s : Shared} {a : Addr} (H : HR C σ s) (ha : s.heap.objs.size ≤ a) : a ∉ σ.map Prod.fst := fun hm => by
  obtain ⟨p, hp, e⟩ := List.mem_map.mp hm
  obtain ⟨o', g, _⟩ := H.own p hp
  have := Heap.lt_size g
  rw [e] at this
  exact absurd ha (Nat.not_le.mpr this)
theorem grown_ {s : Shared} {c' : Addr} {q : Str} {h' : Heap} {tk : Nat} {ps' : Array Value} (H : HR C σ s) (U : LU P (AO.table ps) (AO.table ps') σ σ') (hx : Heap.ExtBut P s.heap h') (hge : s.heap.objs.size ≤ c')
    (hrec : h'.CodeRec (.ref c') q) (hP : h'.get? P = some (tabObj ps')) : HR C ((c', AO.code q) :: σ') { s with heap := h', toks := tk } ∧ TK s.heap h' := by
  have U1 := H.updX (s' := { s with heap := h', toks := tk }) U hx hP (Pl.rec rfl) rfl rfl rfl
  obtain ⟨c2, o, vs, t, e, g, d, v⟩ := hrec
  cases e
  exact ⟨U1.1.insert (H.bg.new hge) (by rw [U.keys]; exact H.notNew hge) g (Pl.rec d) ⟨vs, t, d, v⟩, U1.2⟩
theorem x_def {Qn : Led → Prop} {Qr : V → Led → Prop} {Qb Qc : Led → Prop} {name : Str} {params : Arguments} {body : List Stmt} {scope : Scope} {clos : List (Str × Addr)} {σ₀ : Led} (hC : C.Is K) (sb : Sb ((P, AO.table ps) :: σ₀) σ)
    (hcl : closureFor scope env = pure clos) (hge0 : env.globals = mainGlobals) (hcode : env.code = .ref c) (hk : codeHdIn K c P = true) (ht : TriplesOk ps.toList)
    (hnf : codeAmong pos ps.toList = none) (hd0 : params.defaults = []) (hk0 : params.kw_defaults = []) (ha : annTrees params none env = [])
    (h : ∀ f c' ctv doc pm, St C A ((f, AO.fn none (fnX name (qualnameIn env name name) params body scope clos .none .none doc pm none (.ref c') ctv)) :: (c', AO.code (qualnameIn env name name)) :: (P, AO.table (ps ++ #[rawInt pos.line, rawInt pos.col, .ref c'])) :: σ₀) (storeName env name) (.ref f) (fun _ σ'' => Qn σ'')) :
    X C A env σ (.FunctionDef name params body [] none [] scope none name pos) Qn Qr Qb Qc := by
  intro s H
  have H0 := HR.sb sb H
  obtain ⟨o, g, _, e⟩ := H0.own _ (List.Mem.head _)
  have e : o = tabObj ps := e
  subst e
  have fP := (H0.fresh _ (List.Mem.head _)).1
  have gP : mainGlobals ≠ P := fun q => H.bg.low.g (by rw [q]; exact fP)
  refine nestDef_K hd0 hk0 ha (makeFunction_K hcl hge0 H.bg.gl hcode (codeHd_of_K (hC.isK ▸ H.bg.kin) hk) g ht hnf gP (builtinsAt hC H fP) fun c' ctv doc h' tk hx hge hlt hrec hP => ?_)
  obtain ⟨H1, tk1⟩ := grown_ (tk := tk) H0 .head hx hge hrec hP
  have H2 := H1.add (s' := { s with heap := h'.push (fnObj none (fnX name (qualnameIn env name name) params body scope clos .none .none doc ((C.mg "__name__").getD .none) none (.ref c') ctv)), toks := tk }) (X := AO.fn none (fnX name (qualnameIn env name name) params body scope clos .none .none doc ((C.mg "__name__").getD .none) none (.ref c') ctv)) (fun b o e => Heap.get?_push_of_some _ e) (Nat.le_refl _) (Heap.get?_push_size _ rfl) (Pl.func rfl) rfl rfl rfl
  exact (h _ c' ctv doc _ _ _ H2 rfl).run fun _ s₂ _ σ₂ H₃ _ k₂ q₂ => post_next H₃ ((tk1.trans (TK.push _)).trans k₂) q₂
theorem e_lambda {params : Arguments} {body : Expr} {scope : Scope} {clos : List (Str × Addr)} {σ₀ : Led} (hC : C.Is K) (sb : Sb ((P, AO.table ps) :: σ₀) σ)
    (hcl : closureFor scope env = pure clos) (hge0 : env.globals = mainGlobals) (hcode : env.code = .ref c) (hk : codeHdIn K c P = true) (ht : TriplesOk ps.toList)
    (hnf : codeAmong pos ps.toList = none) (hdef : defaultsOf params env = ([], []))
    (h : ∀ f c' ctv pm, Q (.ref f) ((f, AO.fn none (kla_fn "<lambda>" (env.qual ++ "<lambda>") params body scope clos pm (.ref c') ctv)) :: (c', AO.code (env.qual ++ "<lambda>")) :: (P, AO.table (ps ++ #[rawInt pos.line, rawInt pos.col, .ref c'])) :: σ₀)) :
    Tr C VR A σ (eval (.Lambda params body scope pos) env) Q := by
  intro s H
  have H0 := HR.sb sb H
  obtain ⟨o, g, _, e⟩ := H0.own _ (List.Mem.head _)
  have e : o = tabObj ps := e
  subst e
  have fP := (H0.fresh _ (List.Mem.head _)).1
  have gP : mainGlobals ≠ P := fun q => H.bg.low.g (by rw [q]; exact fP)
  refine kla_eval hdef (kla_makeFunction hcl hge0 H.bg.gl hcode (codeHd_of_K (hC.isK ▸ H.bg.kin) hk) g ht hnf gP (builtinsAt hC H fP) fun c' ctv h' tk hx hge hlt hrec hP => ?_)
  obtain ⟨H1, tk1⟩ := grown_ (tk := tk) H0 .head hx hge hrec hP
  have H2 := H1.add (s' := { s with heap := h'.push (fnObj none (kla_fn "<lambda>" (env.qual ++ "<lambda>") params body scope clos ((C.mg "__name__").getD .none) (.ref c') ctv)), toks := tk }) (X := AO.fn none (kla_fn "<lambda>" (env.qual ++ "<lambda>") params body scope clos ((C.mg "__name__").getD .none) (.ref c') ctv)) (fun b o e => Heap.get?_push_of_some _ e) (Nat.le_refl _) (Heap.get?_push_size _ rfl) (Pl.func rfl) rfl rfl rfl
  exact ⟨.ref _, _, H2, rfl, tk1.trans (TK.push _), h _ c' ctv _⟩
end
end Mine
end
section
open PySem PySem.W PySem.Calls PyProof.Rows PySem.Spec Builtin Builtin.ObjectAttr
set_option Elab.async false
set_option maxRecDepth 100000
set_option linter.unusedVariables false
namespace Mine
theorem fn_sa : typeLookup (.type "function") "__setattr__" = pure (some (.builtin "object.__setattr__")) := by rw [typeLookup_type, builtinLookup_eq_fast]; kernel_rfl
theorem fn_mro : mroOf (.type "function") = pure [.type "function", .type "object"] := by rw [mroOf_type]; kernel_rfl
theorem fn_passes (self : Value) : refuseLoop self "__setattr__" [.type "function", .type "object"] = pure () := by kernel_rfl
theorem fn_tells (a : Addr) : ownStreamTells (.ref a) (.type "function") = pure () := by kernel_rfl
theorem fn_made (a d : Addr) : dictMade (.type "function") a d = pure (some d) := by kernel_rfl
theorem fn_hasDict : typeHasDict (.type "function") = true := by decide +kernel
section
variable {C : Cx} {K : Frag} {A : Around} {σ σ₀ : Led} {Q : V → Led → Prop} {st dd : Addr} {fd : FuncData} {name : Str} {v : V}
theorem a_setfn {Qu : Unit → Led → Prop} (sb : Sb ((st, AO.fn none fd) :: σ₀) σ) (hlk : typeLookup (.type "function") name = pure none) (h : ∀ d, Qu () ((d, AO.attrs [name] [some v]) :: (st, AO.fn (some d) fd) :: σ₀)) : Op2 C RU A σ (fun a b => setAttr a name b) (.ref st) v Qu := by
  rintro s _ b H0 rfl rb
  have H := HR.sb sb H0
  obtain ⟨o, g, _, e⟩ := H.own _ (List.Mem.head _)
  have e : o = fnObj none fd := e
  subst e
  have hT : ∀ tk, ({ s with toks := tk } : Shared).TypeIs (.ref st) "function" := fun tk => ⟨_, g, rfl⟩
  have SF := PySem.F.store_object
  refine wpAny_bind (wpAny_mkText (wpAny_bind (wpAny_bind (wpAny_bind (wpAny_typeOf (hT _) (wpAny_of_eq fn_sa (wpAny_holding ?_)))))))
  rw [SF.slot.bind]
  refine wpAny_bind (wpAny_pure (wpAny_bind ?_))
  refine call_self (owner := "object") (n := "__setattr__") (.inr SF.kind) SF.split SF.slot.plain SF.entry (SF.args _ _ _) (fun A' Q' E' s' k q => wpAny_isInstance ⟨_, k _ _ g, rfl⟩ fn_sub q) ?_
  show wpAny _ _ (Builtin.«object.__setattr__» ⟨[.ref st, .str name s.toks, b], []⟩) _ _ _
  rw [osa_eq, refuse_eq]
  refine wpAny_bind (wpAny_bind (wpAny_typeOf (hT _) (wpAny_bind (wpAny_of_eq fn_mro ?_))))
  rw [fn_passes]
  refine wpAny_pure (wpAny_bind (wpAny_typeOf (hT _) (wpAny_bind (wpAny_of_eq hlk (wpAny_bind (wpAny_pure (a := none) ?_))))))
  show wpAny _ _ (storeInOwnDict (.ref st) (.type "function") _ name b _) _ _ _
  unfold storeInOwnDict
  refine wpAny_bind (wpAny_of_eq (fn_tells st) ?_)
  rw [if_neg (by decide)]
  refine wpAny_bind ?_
  unfold ownDictForStores instanceDict
  refine wpAny_bind (wpAny_loadPart g ?_)
  show wpAny _ _ (if (!true || !typeHasDict (.type "function")) = true then _ else _) _ _ _
  rw [fn_hasDict, if_neg (by decide)]
  refine wpAny_bind (wpAny_alloc ?_)
  generalize hd0 : s.heap.objs.size = d
  have g1 : (s.heap.push (dictOf [] 0)).get? st = some (fnObj none fd) := Heap.get?_push_of_some _ g
  have gd1 : (s.heap.push (dictOf [] 0)).get? d = some (dictOf [] 0) := by rw [← hd0]; exact Heap.get?_push_size _ rfl
  have H1 : HR C ((d, AO.attrs [] []) :: (st, AO.fn none fd) :: σ₀) { s with heap := s.heap.push (dictOf [] 0), toks := s.toks + 1 } :=
    H.add (s' := { s with heap := s.heap.push (dictOf [] 0), toks := s.toks + 1 }) (o := dictOf [] 0) (fun b o e => Heap.get?_push_of_some _ e) (by rw [hd0]; exact Nat.le_refl _) gd1 (Pl.dict rfl) ⟨List.nodup_nil, by simp, [], 0, rfl, rfl⟩ rfl rfl
  have tk1 : TK s.heap (s.heap.push (dictOf [] 0)) := TK.push _
  refine wpAny_bind (wpAny_update g1 ?_)
  refine wpAny_of_eq (fn_made _ _) ?_
  have sb2 : Heap.SameBut st (s.heap.push (dictOf [] 0)) ((s.heap.push (dictOf [] 0)).update st fun o => { cls := o.cls, dict := some d, data := o.data, slots := o.slots }) := Heap.SameBut.update ..
  have g2 : ((s.heap.push (dictOf [] 0)).update st fun o => { cls := o.cls, dict := some d, data := o.data, slots := o.slots }).get? st = some (fnObj (some d) fd) := by
    rw [Heap.get?_update_self _ g1 rfl]; rfl
  have U2 : LU st (AO.fn none fd) (AO.fn (some d) fd) ((d, AO.attrs [] []) :: (st, AO.fn none fd) :: σ₀) ((d, AO.attrs [] []) :: (st, AO.fn (some d) fd) :: σ₀) := .tail .head
  have H2 := H1.upd (s' := { s with heap := (s.heap.push (dictOf [] 0)).update st fun o => { cls := o.cls, dict := some d, data := o.data, slots := o.slots }, toks := s.toks + 1 }) U2 sb2 g2 (Pl.func rfl) rfl rfl rfl
  have tk2 := H2.2
  have H2 := H2.1
  generalize hh2 : ((s.heap.push (dictOf [] 0)).update st fun o => { cls := o.cls, dict := some d, data := o.data, slots := o.slots }) = h2 at H2 tk2
  obtain ⟨od, gd2, _, _, _, es, n, eo, er⟩ := H2.own _ (List.Mem.head _)
  have er : es = [] := er
  subst er
  subst eo
  have gd2 : h2.get? d = some (dictOf [] n) := gd2
  show wpAny _ _ (storeInDict d (.str name s.toks) name b) _ _ _
  unfold storeInDict
  refine wpAny_bind (wpAny_pure ?_)
  unfold nsSet
  have gd2' : h2.get? d = some { cls := .type "dict", data := .dict #[] n } := gd2
  refine wpAny_bind (wpAny_bind (wpAny_bind (wpAny_askSetting (wpAny_pure (wpAny_bind (wpAny_mkText (wpAny_bind (wpAny_loadPart (show h2.get? d = _ from gd2') ?_))))))))
  dsimp only
  have c : aRefKeyMayBeTheName name #[] = false := by rw [aRefKeyMayBeTheName_at]; simp
  rw [c]
  have U3 : LU d (AO.attrs [] []) (AO.attrs [name] [some v]) ((d, AO.attrs [] []) :: (st, AO.fn (some d) fd) :: σ₀) ((d, AO.attrs [name] [some v]) :: (st, AO.fn (some d) fd) :: σ₀) := .head
  have e1 : Obj.putName name (PyData.keyHash C.w.params name) (.str name (s.toks + 1)) b (dictOf [] n) = dictOf [⟨PyData.keyHash C.w.params name, .str name (s.toks + 1), b⟩] (putN name [] n) := putName_dict ..
  refine wpAny_updatePart gd2 ?_
  have hs3 : Heap.SameBut d h2 (h2.update d (Obj.putName name (PyData.keyHash C.w.params name) (.str name (s.toks + 1)) b)) := Heap.SameBut.update ..
  have tk3 := HR.tkUpd H2 U3 hs3
  have gg : (h2.update d (Obj.putName name (PyData.keyHash C.w.params name) (.str name (s.toks + 1)) b)).get? d = some (dictOf [⟨PyData.keyHash C.w.params name, .str name (s.toks + 1), b⟩] (putN name [] n)) := by
    rw [Heap.get?_update_self _ gd2 (by rw [e1]; rfl), e1]
  have tk : TK s.heap (h2.update d (Obj.putName name (PyData.keyHash C.w.params name) (.str name (s.toks + 1)) b)) := tk1.trans (tk2.trans tk3)
  refine wpAny_bind (wpAny_lookBehind gg (pastItsLine_dict (by simp [sizeLine_eq])) ?_)
  have H3 := H2.upd (s' := { s with heap := h2.update d (Obj.putName name (PyData.keyHash C.w.params name) (.str name (s.toks + 1)) b), toks := s.toks + 2 }) U3 hs3 gg (Pl.dict rfl)
    ⟨by simp, by simp, _, _, rfl, ⟨_, [], rfl, ⟨_, rfl⟩, fun x q => by cases q; exact rb.mono tk, rfl⟩⟩ rfl rfl
  exact wpAny_pure ⟨.none, rfl, wpAny_pure (wpAny_pure ⟨(), _, H3.1, trivial, tk, h d⟩)⟩
end
end Mine
end
section
open PySem PySem.W PySem.Calls PyProof.Rows PySem.Spec Builtin Builtin.ObjectAttr
set_option Elab.async false
set_option maxRecDepth 100000
set_option linter.unusedVariables false
namespace Mine
theorem ER.putNew {h : Heap} {x : Str} {v : V} {hs : Int} {w : Value} {t : Tok} (rw' : VR h v w) : ∀ {ks : List Str} {vs : List (Option V)} {es : List DictEntry}, ER h ks vs es → x ∉ ks → ER h (ks ++ [x]) (vs ++ [some v]) (putL x hs (.str x t) w es)
  | [], [], _, H, _ => by
    have : _ = [] := H
    subst this
    exact ⟨_, [], rfl, ⟨t, rfl⟩, fun y q => by cases q; exact rw', rfl⟩
  | k :: ks, u :: vs, _, H, hx => by
    obtain ⟨e, r, a, ⟨t', b⟩, c, d⟩ := H
    subst a
    unfold putL
    rw [if_neg (by rw [b, isStr_str]; simp; intro e; exact hx (by simp [e]))]
    exact ⟨e, _, rfl, ⟨t', b⟩, c, ER.putNew rw' d (fun q => hx (by simp [q]))⟩
  | [], _ :: _, _, H, _ => H.elim
  | _ :: _, [], _, H, _ => H.elim
section
variable {C : Cx} {K : Frag} {A : Around} {σ σ' : Led} {env : Env} {pos : Pos} {Q : V → Led → Prop} {x D d f fI : Addr} {name : Str} {v : V} {ks ks' : List Str} {vs vs' : List (Option V)} {expr : Bool} {xs : List V}
theorem a_setW {Qu : Unit → Led → Prop} (hC : C.Is K) (hi : IsI C σ x D d) (U : LU d (AO.attrs ks vs) (AO.attrs ks' vs') σ σ')
    (hw : ∀ h es w hs t, ks.Nodup → ER h ks vs es → VR h v w → ER h ks' vs' (putL name hs (.str name t) w es)) (nd' : ks'.Nodup) (hz : ks'.length ≤ 1000)
    (hs : (findIn K (.ref D) "__setattr__" == some (some (.builtin "object.__setattr__"))) = true) (hp : plainOver K D = true) (ht : (takerIn K D name == some none) = true) (hh : hasDictIn K D = true) (h : Qu () σ') : Op2 C RU A σ (fun a b => setAttr a name b) (.ref x) v Qu := by
  rintro s a b H rfl rb
  obtain ⟨ox, es, n, I, hd, D0, nd, z, r⟩ := instOf H hi U.mem
  have X : K.In s.heap := hC.isK ▸ H.bg.kin
  refine set_plain X I (beq_iff_eq.mp hs) (osa_open (s := { s with toks := s.toks + 1 }) X I hp (beq_iff_eq.mp ht) fun bb => ?_)
  obtain ⟨cd, hc, hd'⟩ := any_some hh
  obtain ⟨hx, hcl, hn, -⟩ := I
  obtain ⟨oc, odi, oda, osl⟩ := ox
  dsimp only at hcl hd hx
  subst hcl hd
  have tkU : ∀ hsh key, Heap.SameBut d s.heap (s.heap.update d (Obj.putName name hsh key b)) := fun _ _ => Heap.SameBut.update ..
  refine wpAny_bind (wpAny_pure (wpAny_bind (wpAny_bind (wpAny_loadPart hx (wpAny_bind (looks_clsIn X hc _ _ _ _ (fun _ _ e => e) ?_))))))
  rw [hd']
  refine wpAny_pure (a := some d) (wpAny_bind (wpAny_pure (wpAny_bind ?_)))
  unfold nsSet
  refine wpAny_bind (wpAny_bind (wpAny_askSetting (wpAny_pure (wpAny_bind (wpAny_mkText (wpAny_bind (wpAny_loadPart D0 ?_)))))))
  dsimp only
  have c : (!es.toArray.any (·.key.isStr name) && es.toArray.any (·.refKey)) = false := by
    rw [← Array.any_toList, ← Array.any_toList]
    simp [r.noRef]
  rw [aRefKeyMayBeTheName_at, c]
  refine wpAny_updatePart D0 ?_
  have hs := tkU (PyData.keyHash C.w.params name) (.str name (s.toks + 1))
  have tk := HR.tkUpd H U hs
  have e1 : Obj.putName name (PyData.keyHash C.w.params name) (.str name (s.toks + 1)) b (dictOf es n) = dictOf (putL name (PyData.keyHash C.w.params name) (.str name (s.toks + 1)) b es) (putN name es n) := putName_dict ..
  have er : ER (s.heap.update d (Obj.putName name (PyData.keyHash C.w.params name) (.str name (s.toks + 1)) b)) ks' vs' (putL name (PyData.keyHash C.w.params name) (.str name (s.toks + 1)) b es) := hw _ _ _ _ _ nd (r.mono tk) (rb.mono tk)
  have gg : (s.heap.update d (Obj.putName name (PyData.keyHash C.w.params name) (.str name (s.toks + 1)) b)).get? d = some (dictOf (putL name (PyData.keyHash C.w.params name) (.str name (s.toks + 1)) b es) (putN name es n)) := by
    rw [Heap.get?_update_self _ D0 (by rw [e1]; rfl), e1]
  refine wpAny_bind (wpAny_lookBehind gg (pastItsLine_dict (by rw [List.size_toArray, er.len, sizeLine_eq]; lia)) ?_)
  exact wpAny_pure ⟨(), σ', (H.upd (s' := { s with heap := s.heap.update d (Obj.putName name (PyData.keyHash C.w.params name) (.str name (s.toks + 1)) b), toks := s.toks + 2 }) U hs gg (Pl.dict rfl) ⟨nd', hz, _, _, rfl, er⟩ rfl rfl).1, trivial, tk, h⟩
theorem a_new {Qu : Unit → Led → Prop} (hC : C.Is K) (hi : IsI C σ x D d) (U : LU d (AO.attrs ks vs) (AO.attrs (ks ++ [name]) (vs ++ [some v])) σ σ') (hn : name ∉ ks) (nd : (ks ++ [name]).Nodup) (hz : (ks ++ [name]).length ≤ 1000)
    (hs : (findIn K (.ref D) "__setattr__" == some (some (.builtin "object.__setattr__"))) = true) (hp : plainOver K D = true) (ht : (takerIn K D name == some none) = true) (hh : hasDictIn K D = true) (h : Qu () σ') : Op2 C RU A σ (fun a b => setAttr a name b) (.ref x) v Qu :=
  a_setW hC hi U (fun _ _ _ _ _ _ r rv => ER.putNew rv r hn) nd hz hs hp ht hh h
theorem Fit.under {n : Nat} {A : Around} {D : Addr} {vals : List Value} (h : Fit (n + 1) A) : Fit n (A.under (.builtin "type.__call__" ⟨.ref D :: vals, []⟩)) := by
  refine ⟨h.1, ?_, ?_⟩
  · have e : (A.under (.builtin "type.__call__" ⟨.ref D :: vals, []⟩)).depth = A.depth + 1 := rfl
    have := h.2.1; rw [e]; lia
  · have e : (A.under (.builtin "type.__call__" ⟨.ref D :: vals, []⟩)).units = A.units + 1 := rfl
    have := h.2.2; rw [e]; lia
theorem c_make (hC : C.Is K) (hm : makesIn K D = true) (hi : (findIn K (.ref D) "__init__" == some (some (.ref fI))) = true) (hf : (typeIn K (.ref fI) == some (.type "function")) = true)
    (h : ∀ x d vals, CallC C (A.under (.builtin "type.__call__" ⟨.ref D :: vals, []⟩)) ((x, AO.inst D d) :: (d, AO.attrs [] []) :: σ) (.ref fI) (.ref x :: xs) (fun v σ' => v = .none ∧ Q (.ref x) σ')) : CallC C A σ (.ref D) xs Q := by
  rintro s _ vals H rfl r
  have X : K.In s.heap := hC.isK ▸ H.bg.kin
  obtain ⟨hh, g, dr, t, os⟩ := s
  refine make_core (makes_of X hm) (looks_findIn X (beq_iff_eq.mp hi)) (fun self => bind_fn X self (beq_iff_eq.mp hf)) (.inl rfl) ?_
  have H1 : HR C ((hh.objs.size, AO.attrs [] []) :: σ) ⟨hh.push emptyDict, g, dr, t, os⟩ := H.add (s' := ⟨hh.push emptyDict, g, dr, t, os⟩) (o := dictOf [] 0) (fun b o e => Heap.get?_push_of_some _ e) (Nat.le_refl _) (Heap.get?_push_size _ rfl) (Pl.dict rfl) ⟨List.nodup_nil, by simp, [], 0, rfl, rfl⟩ rfl rfl
  have H2 : HR C ((hh.objs.size + 1, AO.inst D hh.objs.size) :: (hh.objs.size, AO.attrs [] []) :: σ) ⟨(hh.push emptyDict).push (instObj D hh.objs.size), g, dr, t, os⟩ :=
    H1.add (s' := ⟨(hh.push emptyDict).push (instObj D hh.objs.size), g, dr, t, os⟩) (o := instObj D hh.objs.size) (fun b o e => Heap.get?_push_of_some _ e) (by show (hh.push emptyDict).objs.size ≤ _; rw [Heap.size_push]; exact Nat.le_refl _)
      (by heap_get) (Pl.data (by intro _ _ e; cases e) (by intro _ e; cases e)) ⟨rfl, rfl, rfl⟩ rfl rfl
  have tk : TK hh ((hh.push emptyDict).push (instObj D hh.objs.size)) := (TK.push _).trans (TK.push _)
  refine codeAny_mono (h (hh.objs.size + 1) hh.objs.size vals _ (.ref fI) (.ref (hh.objs.size + 1) :: vals) H2 rfl (VRs.cons rfl (r.mono tk))) fun r s' p => ?_
  cases r with
  | error e => exact (show False from p).elim
  | ok fl =>
    cases fl with
    | ret u =>
      obtain ⟨b, σ₁, H₁, r₁, k₁, rfl, q⟩ := p
      exact ⟨vr_none.mp r₁, .ref (hh.objs.size + 1), σ₁, H₁, rfl, tk.trans k₁, q⟩
    | next => exact (show False from p).elim
    | brk => exact (show False from p).elim
    | cont => exact (show False from p).elim
theorem kp_fn {fd : FuncData} {o : Option Addr} (hm : (f, AO.fn o fd) ∈ σ) : Kp C σ (.ref f) := fun s v H r => by
  cases vr_ref.mp r
  obtain ⟨ob, g, _, e⟩ := H.own _ hm
  have e : ob = fnObj o fd := e
  subst e
  obtain ⟨k, _, L⟩ := keeps_F (M := model C.prog C.w) s.heap (q := f) ⟨_, _, _, _, g⟩
  exact ⟨k, L⟩
theorem m_fnattr {Qm : V → List V → Led → Prop} {st dd : Addr} {fd : FuncData} (hm : (st, AO.fn (some dd) fd) ∈ σ) (hd : (dd, AO.attrs ks vs) ∈ σ) (hv : At name v ks vs) (hb : noBi v = true) (hlk : typeLookup (.type "function") name = pure none)
    (h : Qm v [] σ) : Mth C A σ (.ref st) name Qm := by
  rintro s _ pl H rfl
  obtain ⟨o, g, _, e⟩ := H.own _ hm
  have e : o = fnObj (some dd) fd := e
  subst e
  obtain ⟨od, g', _, nd, z, es, n, e, r⟩ := H.own _ hd
  subst e
  obtain ⟨w, gl, rw'⟩ := r.get nd hv
  have hT : s.TypeIs (.ref st) "function" := ⟨_, g, rfl⟩
  unfold WP getMethod
  refine wpAny_bind (wpAny_specialOf hT fn_ga ?_)
  show wpAny _ _ (if (Manifest.canonical "object.__getattribute__" != "object.__getattribute__") = true then _ else _) _ _ _
  rw [PySem.F.canon_object_ga, if_neg (by decide)]
  refine wpAny_bind (wpAny_specialOf hT fn_gattr ?_)
  refine wpAny_bind (wpAny_specialOf hT hlk ?_)
  show wpAny _ _ (getAttr (.ref st) name >>= fun u => pure (u, [])) _ _ _
  refine wpAny_bind (get_fnattr g rfl rfl rfl g' gl hlk (handed_vr rw' fun i e => by subst e; cases hb) (wpAny_pure ?_))
  exact ⟨(v, []), σ, H.toks, ⟨rw', VRs.nil⟩, TK.refl _, h⟩
end
end Mine
end
section
open PySem PySem.W PySem.Calls PyProof.Rows PySem.Spec Builtin Builtin.Str
set_option Elab.async false
set_option maxRecDepth 100000
set_option linter.unusedVariables false
namespace Mine
theorem indices_clip {n : Nat} {i j : Int} (h0 : 0 ≤ i) (h1 : 0 ≤ j) : strSliceIndices (some i) (some j) 1 n = strSliceIndices (some (min i n)) (some (min j n)) 1 n := by
  have a0 : ¬ i < 0 := by lia
  have a1 : ¬ j < 0 := by lia
  have a2 : ¬ (min i (n : Int) < 0) := by lia
  have a3 : ¬ (min j (n : Int) < 0) := by lia
  have a4 : (1 : Int) > 0 := by decide
  have e1 : min (min i (n : Int)) n = min i n := by lia
  have e2 : min (min j (n : Int)) n = min j n := by lia
  simp only [strSliceIndices, a0, a1, a2, a3, a4, if_false, if_true, e1, e2]
theorem slice_S (x : List Nat) (i j : Nat) (h : i ≤ j) : Txt.slice (S x) (some (i : Int)) (some (j : Int)) = S ((x.drop i).take (j - i)) := by
  have e : Txt.slice (S x) (some (i : Int)) (some (j : Int)) = Txt.slice (S x) (some ((min i x.length : Nat) : Int)) (some ((min j x.length : Nat) : Int)) := by
    have e1 : ((min i x.length : Nat) : Int) = min (i : Int) (x.length : Nat) := by lia
    have e2 : ((min j x.length : Nat) : Int) = min (j : Int) (x.length : Nat) := by lia
    unfold Txt.slice
    rw [indices_clip (Int.natCast_nonneg i) (Int.natCast_nonneg j), S_len, e1, e2]
  rw [e, beq_iff_eq.mp (slice_closesL (x := S x) (i := ((min i x.length : Nat) : Int)) (j := ((min j x.length : Nat) : Int)) (by lia) (by lia) (by rw [S_len]; lia)), S_cps]
  apply congrArg S
  apply List.ext_getElem?
  intro k
  simp only [List.getElem?_take, List.getElem?_drop]
  by_cases hk : k < (((min j x.length : Nat) : Int) - ((min i x.length : Nat) : Int)).toNat
  · rw [Int.toNat_sub] at hk
    have h2 : k < j - i := Nat.lt_of_lt_of_le hk (by lia)
    have h3 : (((min i x.length : Nat) : Int)).toNat = i := by rw [Int.toNat_natCast]; clear h2; lia
    rw [← Int.toNat_sub] at hk
    rw [if_pos hk, if_pos h2, h3]
  · rw [if_neg hk]
    by_cases h2 : k < j - i
    · rw [if_pos h2, List.getElem?_eq_none (by lia)]
    · rw [if_neg h2]
theorem item_S (x : List Nat) (i : Nat) (c : Nat) (h : x[i]? = some c) : Txt.item (S x) (i : Int) = S [c] :=
  item_meets (x := S x) (by lia) (by rw [Int.toNat_natCast]; simpa [S] using h)
theorem slice_from (x : List Nat) (i : Nat) (h : i ≤ x.length) : Txt.slice (S x) (some (i : Int)) none = S (x.drop i) := by
  rw [slice_from_eq (x := S x) (b := (x.length : Int)) (by lia) (by rw [S_len]; lia) (by rw [S_len]), S_cps]
  apply congrArg S
  rw [Int.toNat_natCast, List.take_of_length_le (by simp)]
section
variable {C : Cx} {K : Frag} {A : Around} {σ σ' : Led} {Q : V → Led → Prop} {f : V} {xs : List V}
theorem CallC.sb (k : Sb σ' σ) (h : CallC C A σ' f xs Q) : CallC C A σ f xs Q := fun s fv vs H r rr => h s fv vs (HR.sb k H) r rr
theorem Call.sb (k : Sb σ' σ) (h : Call C A σ' f xs Q) : Call C A σ f xs Q := fun s fv vs H r rr => h s fv vs (HR.sb k H) r rr
theorem tru_list {a : Addr} {l : List V} {Qb : Bool → Led → Prop} (hm : (a, AO.list l) ∈ σ) (hz : l.length ≤ sizeLine) (h : Qb (!l.isEmpty) σ) : Tru C A σ (.ref a) Qb := by
  rintro s _ H rfl
  obtain ⟨vs, L, r⟩ := listOf H hm
  rw [sizeLine_eq] at hz
  have e := r.length
  refine wpAny_truthy_list L (by rw [List.size_toArray]; lia) ?_
  have e2 : vs.toArray.isEmpty = l.isEmpty := by
    cases l <;> cases vs <;> simp_all
  rw [e2]
  exact ⟨_, σ, H.toks, rfl, TK.refl _, h⟩
theorem cmp_in1 {x : List Nat} {c : Nat} {Qv : V → Led → Prop} (h : Qv (.bool (decide (c ∈ x))) σ) : Cmp C A σ .In (.str (S [c])) (.str (S x)) Qv := by
  refine cmp_sin ?_
  have := StrLaws.found_one (S x) c
  rw [S_cps] at this
  rw [show (S [c]) = (⟨#[c]⟩ : Str) from rfl, this]
  exact h
theorem cmp_seqS {x y : List Nat} {Qv : V → Led → Prop} (h : Qv (.bool (x == y)) σ) : Cmp C A σ .Eq (.str (S x)) (.str (S y)) Qv := cmp_seq (by rw [S_cps, S_cps]; exact h)
theorem inp_catS {x y : List Nat} (hz : x.length + y.length ≤ sizeLine) (h : Q (.str (S (x ++ y))) σ) : Inp C A σ .Add (.str (S x)) (.str (S y)) Q := inp_cat (by rw [S_cat, S_len, List.length_append]; exact hz) (by rw [S_cat]; exact h)
theorem bin_catS {x y : List Nat} (hz : x.length + y.length ≤ sizeLine) (h : Q (.str (S (x ++ y))) σ) : Bin C A σ .Add (.str (S x)) (.str (S y)) Q := bin_cat (by rw [S_cat, S_len, List.length_append]; exact hz) (by rw [S_cat]; exact h)
end
theorem cs_0 {cs : List (Str × Addr)} (h : cs.map Prod.fst = []) : cs = [] := List.map_eq_nil_iff.mp h
theorem cs_c {cs : List (Str × Addr)} {x : Str} {r : List Str} (h : cs.map Prod.fst = x :: r) : ∃ a t, cs = (x, a) :: t ∧ t.map Prod.fst = r := by
  cases cs with
  | nil => cases h
  | cons p t => injection h with h1 h2; subst h1; exact ⟨p.2, t, rfl, h2⟩
theorem cs_1 {cs : List (Str × Addr)} {x : Str} (h : cs.map Prod.fst = [x]) : ∃ a, cs = [(x, a)] := by
  obtain ⟨a, t, rfl, h1⟩ := cs_c h
  cases List.map_eq_nil_iff.mp h1
  exact ⟨a, rfl⟩
theorem cs_2 {cs : List (Str × Addr)} {x y : Str} (h : cs.map Prod.fst = [x, y]) : ∃ a b, cs = [(x, a), (y, b)] := by
  obtain ⟨a, t, rfl, h1⟩ := cs_c h
  obtain ⟨b, rfl⟩ := cs_1 h1
  exact ⟨a, b, rfl⟩
theorem cs_3 {cs : List (Str × Addr)} {x y z : Str} (h : cs.map Prod.fst = [x, y, z]) : ∃ a b c, cs = [(x, a), (y, b), (z, c)] := by
  obtain ⟨a, t, rfl, h1⟩ := cs_c h
  obtain ⟨b, c, rfl⟩ := cs_2 h1
  exact ⟨a, b, c, rfl⟩
end Mine
end
section
open PySem PySem.W PySem.Calls PyProof.Rows PySem.Spec
set_option Elab.async false
set_option maxRecDepth 100000
set_option linter.unusedVariables false
namespace Mine
structure LxA where
  lx : Addr
  d : Addr
  st : Addr
  sd : Addr
  rd : Addr
  cR : Addr
  cA : Addr
  cT : Addr
  atl : Addr
  pb : Addr
  fdL : FuncData
  fdR : FuncData
noncomputable abbrev strsV (l : List (List Nat)) : List V := l.map fun x => V.str (S x)
noncomputable def wsS : Str := "\n\t\r "
theorem wsS_eq : wsS = S [10, 9, 13, 32] := by decide
noncomputable abbrev Lx (D : Addr) (L : LxA) (ln : Int) (toks : List (List Nat)) (x : List Nat) (pos : Nat) (σ : Led) : Led :=
  (L.lx, AO.inst D L.d) :: (L.d, AO.attrs ["lineno", "instream", "whitespace", "pushback"] [some (.int ln), some (.ref L.st), some (.str wsS), some (.ref L.pb)]) :: (L.pb, AO.list (strsV toks)) ::
  (L.st, AO.fn (some L.sd) L.fdL) :: (L.sd, AO.attrs ["read"] [some (.ref L.rd)]) :: (L.rd, AO.fn none L.fdR) :: (L.cR, AO.code L.fdR.qualname) :: (L.cA, AO.cell (some (.ref L.atl))) :: (L.cT, AO.cell (some (.str (S x)))) :: (L.atl, AO.list [.int (pos : Nat)]) :: σ
noncomputable def RL (KK : Params → Frag) (fdR : FuncData) (cR cA cT : Addr) : Prop := ∀ (C : Cx) (A : Around) (σ : Led) (rd atl : Addr) (x : List Nat) (pos : Nat) (Q : V → Led → Prop), C.Is (KK C.w.params) → Fit 3 A → x.length ≤ 1000000 →
  Q (.str (S ((x.drop pos).take 1))) ((rd, AO.fn none fdR) :: (cR, AO.code fdR.qualname) :: (cA, AO.cell (some (.ref atl))) :: (cT, AO.cell (some (.str (S x)))) :: (atl, AO.list [.int ((pos + 1 : Nat) : Int)]) :: σ) →
  CallC C A ((rd, AO.fn none fdR) :: (cR, AO.code fdR.qualname) :: (cA, AO.cell (some (.ref atl))) :: (cT, AO.cell (some (.str (S x)))) :: (atl, AO.list [.int (pos : Nat)]) :: σ) (.ref rd) [.int 1] Q
noncomputable def isWs (c : Nat) : Bool := decide (c ∈ [10, 9, 13, 32])
noncomputable def qd : List Nat → List Nat × Nat
  | [] => ([], 1)
  | 92 :: [] => ([], 3)
  | 92 :: d :: r => (d :: (qd r).1, (qd r).2 + 2)
  | c :: r => if c = 34 then ([], 1) else (c :: (qd r).1, (qd r).2 + 1)
noncomputable def bd : List Nat → List Nat × Nat
  | [] => ([], 1)
  | 92 :: [] => ([], 3)
  | 92 :: d :: r => (d :: (bd r).1, (bd r).2 + 2)
  | c :: r => if isWs c then ([], 1) else (c :: (bd r).1, (bd r).2 + 1)
noncomputable def tk : List Nat → List Nat × Nat
  | [] => ([], 1)
  | 92 :: [] => ([], 3)
  | 92 :: d :: r => (d :: (bd r).1, (bd r).2 + 2)
  | c :: r => if isWs c then ((tk r).1, (tk r).2 + 1) else if c = 34 then ((qd r).1, (qd r).2 + 1) else (c :: (bd r).1, (bd r).2 + 1)
theorem cmp_inW {C : Cx} {A : Around} {σ : Led} {Q : V → Led → Prop} {c : Nat} (h : Q (.bool (isWs c)) σ) : Cmp C A σ .In (.str (S [c])) (.str wsS) Q := by
  rw [wsS_eq]; exact cmp_in1 h
theorem asgs_nil {C : Cx} {A : Around} {env : Env} {σ : Led} {Q : Led → Prop} (h : Q σ) : Asgs C A env σ [] [] Q := h
theorem asgs_cons {C : Cx} {A : Around} {env : Env} {σ : Led} {t : Expr} {ts : List Expr} {v : V} {vs : List V} {Q : Led → Prop} (h : Asg C A env σ t v (fun σ₁ => Asgs C A env σ₁ ts vs Q)) : Asgs C A env σ (t :: ts) (v :: vs) Q := h
theorem g_strS {C : Cx} {A : Around} {σ : Led} {Q : V → Led → Prop} {x : List Nat} {i : Int} {n c : Nat} (hi : i = (n : Int)) (hx : x[n]? = some c) (hz : x.length ≤ 1000000) (h : Q (.str (S [c])) σ) : Op2 C VR A σ getItem (.str (S x)) (.int i) Q := by
  subst hi
  have hn : n < x.length := (List.getElem?_eq_some_iff.mp hx).1
  refine g_str (by rw [S_len]; lia) (by rw [S_len]; lia) (by rw [S_len, sizeLine_eq]; lia) ?_
  rw [item_S x n c hx]; exact h
theorem g_fromS {C : Cx} {A : Around} {σ : Led} {Q : V → Led → Prop} {x : List Nat} {a : Addr} {i : Int} {n : Nat} (hi : i = (n : Int)) (hn : n ≤ x.length) (hz : x.length ≤ 1000000) (h : Q (.str (S (x.drop n))) σ) : Op2 C VR A ((a, AO.slice (some i) none) :: σ) getItem (.str (S x)) (.ref a) Q := by
  subst hi
  refine g_str_slice (by rw [S_len, sizeLine_eq]; lia) ?_
  rw [slice_from x n hn]; exact h
end Mine
end
section
open PySem PySem.W PySem.Calls PyProof.Rows PySem.Spec
set_option Elab.async false
set_option maxRecDepth 100000
set_option linter.unusedVariables false
namespace Mine
section
variable {C : Cx} {A : Around} {σ τ : Led} {env cenv : Env} {elt : Expr} {x : Str} {px : Pos} {D L : Addr} {Qn : Led → Prop}
theorem cloop_map {a : Addr} {Xo : Nat → AO} {l : List V} {G : Led → Prop} (f : Nat → V) (sb : Sb ((D, AO.list []) :: (a, Xo 0) :: (cenv.locals, AO.fr [x] [none]) :: τ) σ) (I : Iter C A a Xo l G) (hG : ∀ acc u, G ((D, AO.list acc) :: (cenv.locals, AO.fr [x] [u]) :: τ)) (hz : l.length ≤ sizeLine)
    (hk : cenv.scope.kind = .function) (hl : cenv.kindOf x = some .local)
    (turn : ∀ i y acc, l[i]? = some y → acc.length ≤ i → Tr C VR A ((a, Xo (i + 1)) :: (D, AO.list acc) :: (cenv.locals, AO.fr [x] [some y]) :: τ) (eval elt cenv) (fun v σ₃ => v = f i ∧ Sb ((D, AO.list acc) :: (a, Xo (i + 1)) :: (cenv.locals, AO.fr [x] [some y]) :: τ) σ₃))
    (fin : ∀ u, Qn ((D, AO.list ((List.range l.length).map f)) :: (cenv.locals, AO.fr [x] [u]) :: τ)) : CLoop C A cenv elt (.Name x px) [] D Qn (.ref a) σ := by
  refine cloop_iter sb I (fun i acc σ' => ∃ u, acc = (List.range i).map f ∧ σ' = (cenv.locals, AO.fr [x] [u]) :: τ) ⟨none, rfl, rfl⟩ ?_ hz ?_ ?_
  · rintro i acc σ' ⟨u, rfl, rfl⟩; exact hG _ _
  · rintro i y acc σ' hy ha ⟨u, rfl, rfl⟩
    refine asg_name (st_loc (.tail (.tail .head)) .head ?_ hk hl)
    show Tests C A cenv _ [] _
    refine Tr.mono (turn i y _ hy ha) fun v σ₃ ⟨e, sb⟩ => ⟨_, sb, some y, ?_, rfl⟩
    rw [List.range_succ, List.map_append, e]; rfl
  · rintro acc σ' ⟨u, rfl, rfl⟩; exact fin u
theorem range_sb {a : Addr} {i e : Int} {n : Nat} {σ' : Led} (he : e = n) (h : Sb ((D, AO.list []) :: (a, AO.rit i e) :: σ') σ) : Sb ((D, AO.list []) :: (a, (fun k : Nat => AO.rit (i + k) ((n : Int) - k)) 0) :: σ') σ := by
  subst he
  have e1 : i + ((0 : Nat) : Int) = i := by lia
  have e2 : (n : Int) - ((0 : Nat) : Int) = n := by lia
  show Sb ((D, AO.list []) :: (a, AO.rit (i + ((0 : Nat) : Int)) ((n : Int) - ((0 : Nat) : Int))) :: σ') σ
  rw [e1, e2]; exact h
theorem cloop_rmap {a : Addr} {i e : Int} {n : Nat} (f : Nat → V) (he : e = n) (hA : A.handled = none) (sb : Sb ((D, AO.list []) :: (a, AO.rit i e) :: (cenv.locals, AO.fr [x] [none]) :: τ) σ) (hz : n ≤ sizeLine)
    (hk : cenv.scope.kind = .function) (hl : cenv.kindOf x = some .local)
    (turn : ∀ (k : Nat) acc X, k < n → acc.length ≤ k → Tr C VR A ((a, X) :: (D, AO.list acc) :: (cenv.locals, AO.fr [x] [some (.int (i + k))]) :: τ) (eval elt cenv) (fun v σ₃ => v = f k ∧ Sb ((D, AO.list acc) :: (a, X) :: (cenv.locals, AO.fr [x] [some (.int (i + k))]) :: τ) σ₃))
    (fin : ∀ u, Qn ((D, AO.list ((List.range n).map f)) :: (cenv.locals, AO.fr [x] [u]) :: τ)) : CLoop C A cenv elt (.Name x px) [] D Qn (.ref a) σ := by
  refine cloop_map f (range_sb he sb) (iter_range hA (i := i) (n := n)) (fun _ _ => trivial) (by rw [upto_len]; exact hz) hk hl (fun k y acc hy ha => ?_) (by rw [upto_len]; exact fin)
  obtain ⟨hk, rfl⟩ := upto_get hy
  exact turn k acc _ hk ha
end
end Mine
end
section
open PySem PySem.W PySem.Calls PyProof.Rows PySem.Spec
set_option Elab.async false
set_option maxRecDepth 100000
set_option linter.unusedVariables false
namespace Mine
noncomputable def TrA {α β : Type} (C : Cx) (R : Heap → β → α → Prop) (A : Around) (c : Code) (σ : Led) (t : Sem α) (Q : β → Led → Prop) : Prop :=
  ∀ s, HR C σ s → _root_.PySem.wpAt (model C.prog C.w) A c t (Post C R s.heap Q) No s
structure Cx.Main (C : Cx) (file : Str) : Prop where
  file : ((C.prog.main.file : Str) == file) = true
  sup : (C.prog.main.scope.names.lookup ("super" : Str)).isSome = false
section
variable {C : Cx} {A : Around} {σ : Led} {env : Env} {Qn : Led → Prop} {Qr : V → Led → Prop} {Qb Qc : Led → Prop} {pos : Pos} {e : Expr} {st : Stmt} {rest : List Stmt} {c : Code} {Q : V → Led → Prop}
theorem TrA.of {α β : Type} {R : Heap → β → α → Prop} {t : Sem α} {Q : β → Led → Prop} (h : Tr C R A σ t Q) : TrA C R A c σ t Q := fun s H => wpAt_of_wpAny (h s H)
theorem TrA.up {α β : Type} {R : Heap → β → α → Prop} {t : Sem α} {Q : β → Led → Prop} {s : Shared} {h : Heap} (k : TK h s.heap) (w : _root_.PySem.wpAt (model C.prog C.w) A c t (Post C R s.heap Q) No s) : _root_.PySem.wpAt (model C.prog C.w) A c t (Post C R h Q) No s :=
  ks_wpAt_mono w (fun a s' ⟨b, σ', x, y, z, q⟩ => ⟨b, σ', x, y, k.trans z, q⟩) fun _ _ e => e
noncomputable def XsA (C : Cx) (A : Around) (c : Code) (env : Env) (σ : Led) (st : List Stmt) (Qn : Led → Prop) (Qr : V → Led → Prop) (Qb Qc : Led → Prop) : Prop := TrA C FR A c σ (execs st env) (FQ Qn Qr Qb Qc)
noncomputable def XA (C : Cx) (A : Around) (c : Code) (env : Env) (σ : Led) (st : Stmt) (Qn : Led → Prop) (Qr : V → Led → Prop) (Qb Qc : Led → Prop) : Prop := TrA C FR A c σ (exec st env) (FQ Qn Qr Qb Qc)
theorem XA.of (h : X C A env σ st Qn Qr Qb Qc) : XA C A c env σ st Qn Qr Qb Qc := TrA.of h
theorem xsA_nil (h : Qn σ) : XsA C A c env σ [] Qn Qr Qb Qc := TrA.of (xs_nil h)
theorem xsA_cons (h : XA C A c env σ st (fun σ₁ => XsA C A c env σ₁ rest Qn Qr Qb Qc) Qr Qb Qc) : XsA C A c env σ (st :: rest) Qn Qr Qb Qc :=
  fun s H => ks_wpAt_execs_cons (ks_wpAt_mono (h s H) (fun f s₁ p => by
    obtain ⟨b, σ₁, H₁, r₁, k₁, q₁⟩ := p
    cases b with
    | next => cases r₁; exact TrA.up k₁ (q₁ s₁ H₁)
    | brk => cases r₁; exact ⟨.brk, σ₁, H₁, rfl, k₁, q₁⟩
    | cont => cases r₁; exact ⟨.cont, σ₁, H₁, rfl, k₁, q₁⟩
    | ret x => obtain ⟨v, rfl, r⟩ := r₁; exact ⟨.ret x, σ₁, H₁, ⟨v, rfl, r⟩, k₁, q₁⟩) fun _ _ e => e)
theorem xA_expr (h : TrA C VR A c σ (eval e env) (fun _ σ₁ => Qn σ₁)) (hi : interactive env = false := by rfl) (hs : swapsWith e none pos.line env = pure false := by rfl) : XA C A c env σ (.Expr e pos) Qn Qr Qb Qc :=
  fun s H => ks_wpAt_Expr_any (ks_wpAt_mono (h s H) (fun a s₁ ⟨v, σ₁, H₁, r₁, k₁, q₁⟩ => post_next H₁ k₁ q₁) fun _ _ e => e) hi hs
theorem eA_meth0 {o : Expr} {name : Str} {ap : Pos} {pl : Sem Bool}
    (h : TrA C VR A c σ (attributeBase o name env (eval o env)) (fun ov σ₁ => ∀ s a, HR C σ₁ s → VR s.heap ov a → WP C RP A s (getMethod a name pl) (fun p σ₂ => Kp C σ₂ p.1 ∧ Call C A σ₂ p.1 p.2 Q)))
    (he : eval (.Call (.Attribute o name ap) [] [] pos) env = (do
      let ov ← attributeBase o name env (eval o env)
      standAt ap.atName
      let (f, first) ← holding [ov] (getMethod ov name pl)
      callWith pos f first (backTo pos (starEach [] env)) []) := by rfl) :
    TrA C VR A c σ (eval (.Call (.Attribute o name ap) [] [] pos) env) Q := by
  intro s H
  refine ks_wpAt_MethodCall (pl := pl) (ks_wpAt_mono (h s H) (fun ov s₁ p => ?_) fun _ _ e => e) he
  obtain ⟨x, σ₁, H₁, r₁, k₁, q₁⟩ := p
  refine (q₁ s₁ ov H₁ r₁).run fun p s₂ q σ₂ H₂ r₂ k₂ q₂ => ?_
  obtain ⟨fv, first⟩ := p
  refine callWith_ (as := []) (env := env) (by rfl) ((es_nil (env := env) (pos := pos) (Ql := fun xs σ₃ => xs = [] ∧ σ₃ = σ₂) ⟨rfl, rfl⟩ s₂ H₂).run fun vs s₃ xs σ₃ H₃ r₃ k₃ q₃ => ?_)
  obtain ⟨rfl, rfl⟩ := q₃
  refine ⟨q₂.1 s₃ fv H₃ (r₂.1.mono k₃), ?_⟩
  have r₃ : vs = [] := r₃
  subst r₃
  rw [List.append_nil]
  exact (q₂.2 s₃ fv _ H₃ (r₂.1.mono k₃) (r₂.2.mono k₃)).up (k₁.trans (k₂.trans k₃))
noncomputable def AO.sup (D x Cl : Addr) : AO := ⟨fun _ o => o = ks_superObj D x Cl, fun _ h => h⟩
theorem super_base {K : Frag} {body : List Stmt} {q : Str} {scope : Scope} {p0 p1 : Pos} {attr : Str} {whole : Sem Value} {fd : FuncData} {ar : Arg} {vs : Array Value} {file : Str} {tf : Tok} {oc ccl cl : Value} {od cdd cld : Option Addr} {osl ccs csl : Array (Option Value)} {cdD : ClassData}
    {x d D Cl f cc cda L : Addr} {ks : List Str} {us : List (Option V)} (hC : C.Is K) (hM : C.Main file) (hi : IsI C σ x Cl d)
    (hf : K.lookup f = some ⟨oc, od, .func fd, osl⟩) (hp : (fd.params.posonlyargs ++ fd.params.args).head? = some ar) (hm : (L, AO.fr ks us) ∈ σ) (hv : At ar.arg (.ref x) ks us)
    (hcode : K.lookup cda = some ⟨ccl, cdd, .fields vs, ccs⟩) (hvs : vs[2]? = some (.str file tf))
    (hcell : K.lookup cc = some ⟨cl, cld, .cell (some (.ref D)), csl⟩) (hD : clsIn K D = some cdD) (hsub : mroIn K Cl (.ref D) = some true) (hsuper : nsIn K mainGlobals "super" = some none)
    (hat : (attr == ("__class__" : Str)) = false) (hks : scope.names.lookup ("super" : Str) = some .globalImplicit) (hkc : scope.names.lookup ("__class__" : Str) = some .free) (hka : scope.names.lookup ar.arg = some .local) (hk : scope.kind = .function)
    (hboot : bootBuiltins "super" = some (.type "super"))
    (h : ∀ so, Q (.ref so) ((so, AO.sup D x Cl) :: σ)) :
    TrA C VR A (.func body (ksEnv q scope L f (.ref cda) cc)) σ (attributeBase (.Call (.Name "super" p0) [] [] p1) attr (ksEnv q scope L f (.ref cda) cc) whole) Q := by
  intro s H
  obtain ⟨hh, g, dr, t, os⟩ := s
  have X : K.In hh := hC.isK ▸ H.bg.kin
  obtain ⟨oD, hD1, hD2⟩ : ∃ oD, hh.get? D = some oD ∧ oD.data = .cls cdD := by
    unfold clsIn at hD
    split at hD
    · rename_i c d cd' sl ho
      cases hD
      exact ⟨_, X _ _ ho, rfl⟩
    · cases hD
  obtain ⟨ox, hx, hxc, hxd, hxn⟩ := hi _ H
  refine ks_wpAt_super_base (env := ksEnv q scope L f (.ref cda) cc) hks hkc hat rfl (X _ _ hf) rfl hp rfl (X _ _ hcode) rfl hvs hM.file hM.sup ?_
  refine ks_loadName_global hk hks (loadGlobal_builtin (env := ksEnv q scope L f (.ref cda) cc) H.bg.gl (hC.globN _ hsuper) H.bg.bl ((hC.blt "super" (by decide)).trans hboot) ⟨rfl, ?_⟩)
  refine wpAny_loadName_free hk hkc rfl ⟨_, X _ _ hcell, rfl⟩ ?_
  refine n_loc' (env := ksEnv q scope L f (.ref cda) cc) H hm hv (fun w r => ?_) hk hka
  cases vr_ref.mp r
  refine ks_wpAny_isType_cls hD1 hD2 ⟨rfl, ?_⟩
  refine ks_wpAny_call_super hD1 hD2 hx hxc (fun c e => ?_) (looks_mroIn X hsub) (fun h' e k => ?_)
  · unfold notCls at hxn
    rw [e] at hxn
    exact Bool.noConfusion hxn
  · exact ⟨.ref hh.objs.size, _, H.add (s' := ⟨h', g, dr, t, os⟩) (X := AO.sup D x Cl) k (Nat.le_refl _) e (Pl.fields rfl (by intro e; cases e)) rfl rfl rfl, vr_ref.mpr rfl, fun _ _ e _ => k _ _ e, h _⟩
end
noncomputable def bbObj (ty id : String) (x : Addr) : Obj := { cls := .type ty, data := .fields #[.builtin id, .ref x] }
noncomputable def AO.bbi (ty id : String) (x : Addr) : AO := ⟨fun _ o => o = bbObj ty id x, fun _ h => h⟩
section
variable {prog : Program} {w : World} {A : Around} {E : Value → Shared → Prop} {h : Heap} {g : Array GenState} {d : Drawn} {t : Nat} {os : OsState}
theorem sup_ga {so D x Cl : Addr} {l₀ l : List Value} {K : Frag} {name : Str} {tk : Tok} {id ty0 ty gid : String} {G : Builtin} {Q : Fin → Shared → Prop}
    (hso : h.get? so = some (ks_superObj D x Cl)) (hno : Looks (model prog w) h (opaqueClassAbove (.ref Cl)) none)
    (hC : Looks (model prog w) h (mroOf (.ref Cl)) l₀) (hl : (l₀.dropWhile (· != .ref D)).drop 1 = l) (X : K.In h)
    (hf : alongIn K name l = some (some (.builtin id))) (hT : typeOf (.builtin id) = pure (.type ty0)) (slot : Slot ty0 "__get__" gid) (entry : entryFor table gid = some G) (args : ∀ a b c, argsOk gid ⟨[a, b, c], []⟩)
    (hxC : x ≠ Cl) (hn : (name == ("__class__" : Str)) = false)
    (run : ∀ {A : Around} {P : Fin → Shared → Prop} {E' : Value → Shared → Prop}, P (.done (.ret (.ref h.objs.size))) ⟨h.push (bbObj ty id x), g, d, t, os⟩ → wpAny (model prog w) A (G ⟨[.builtin id, .ref x, .ref Cl], []⟩) P E' ⟨h, g, d, t, os⟩)
    (hq : Q (.done (.ret (.ref h.objs.size))) ⟨h.push (bbObj ty id x), g, d, t, os⟩) :
    wpAny (model prog w) A (Builtin.«super.__getattribute__» ⟨[.ref so, .str name tk], []⟩) Q E ⟨h, g, d, t, os⟩ := by
  have hlk := slot.lookup
  have hne : (Value.ref x == Value.ref Cl) = false := by simp [hxC]
  have hTf : (⟨h, g, d, t, os⟩ : Shared).TypeIs (.builtin id) ty0 := hT
  have hdt : (ks_superObj D x Cl).data = .fields #[.ref D, .ref x, .ref Cl] := rfl
  have f0 : (#[.ref D, .ref x, .ref Cl] : Array Value)[0]? = some (.ref D) := rfl
  have f1 : (#[.ref D, .ref x, .ref Cl] : Array Value)[1]? = some (.ref x) := rfl
  have f2 : (#[.ref D, .ref x, .ref Cl] : Array Value)[2]? = some (.ref Cl) := rfl
  unfold Builtin.«super.__getattribute__»
  repeat (first
    | (with_reducible refine wpAny_field hso hdt f0 ?_) | (with_reducible refine wpAny_field hso hdt f1 ?_) | (with_reducible refine wpAny_field hso hdt f2 ?_)
    | (with_reducible refine ks_wpAny_notOpaque hno ?_)
    | (with_reducible refine Looks.at hC ?_; rw [hl])
    | (refine ks_forIn_along X (fun _ _ => rfl) rfl ?_ hf)
    | (with_reducible refine wpAny_typeOf hTf ?_)
    | (with_reducible refine wpAny_call_entry slot hTf entry ?_ (args _ _ _))
    | (with_reducible refine run ?_)
    | (with_reducible refine ⟨_, rfl, ?_⟩)
    | (simp only [hn, hne, Bool.or_false, Bool.false_eq_true, if_false])
    | wp_step
    | dsimp only)
  all_goals exact hq
end
end Mine
end
section
open PySem PySem.W PySem.Calls PyProof.Rows PySem.Spec
set_option Elab.async false
set_option maxRecDepth 100000
set_option linter.unusedVariables false
namespace Mine
theorem slot_wd : Slot "wrapper_descriptor" "__get__" "wrapper_descriptor.__get__" :=
  .of (owner := "wrapper_descriptor") (n := "__get__") (by rw [typeLookup_type, builtinLookup_eq_fast]; kernel_rfl) (by decide +kernel) (by decide +kernel) (by decide +kernel)
    (by first | exact .inl (by decide +kernel) | exact .inr (by decide +kernel)) (by rw [isSubtype_type]; kernel_rfl)
theorem entry_wd : entryFor table "wrapper_descriptor.__get__" = some Builtin.«wrapper_descriptor.__get__» := entryFor_of_tree (by kernel_rfl)
theorem args_wd (a b c : Value) : argsOk "wrapper_descriptor.__get__" ⟨[a, b, c], []⟩ := by unfold argsOk; kernel_rfl
theorem type_init : typeOf (.builtin "list.__init__") = pure (.type "wrapper_descriptor") := by show builtinType _ = _; rw [builtinType_eq_fast]; kernel_rfl
section
variable {prog : Program} {w : World} {A : Around} {E : Value → Shared → Prop} {s : Shared} {x Cl : Addr} {P : Fin → Shared → Prop}
theorem run_init (hi : Looks (model prog w) s.heap (isInstance (.ref x) (.type "list")) true) (h : P (.done (.ret (.ref s.heap.objs.size))) { s with heap := s.heap.push (bbObj "method-wrapper" "list.__init__" x) }) :
    wpAny (model prog w) A (Builtin.«wrapper_descriptor.__get__» ⟨[.builtin "list.__init__", .ref x, .ref Cl], []⟩) P E s := by
  unfold Builtin.«wrapper_descriptor.__get__»
  refine wpAny_bind (wpAny_of_eq (a := (.builtin "list.__init__", some (.ref x), some (.ref Cl))) (by first | rfl | kernel_rfl) ?_)
  dsimp only
  refine wpAny_bind ?_
  refine wpAny_bind (wpAny_of_eq (a := (PySem.Str.ofString "__init__", Value.type "list")) (by first | rfl | kernel_rfl) ?_)
  dsimp only
  refine wpAny_bind (hi.here ?_)
  refine wpAny_pure ?_
  exact wpAny_bind (wpAny_newObj_type (wpAny_pure h))
end
end Mine
end
section
open PySem PySem.W PySem.Calls PyProof.Rows PySem.Spec
set_option Elab.async false
set_option maxRecDepth 100000
set_option linter.unusedVariables false
namespace Mine
section
variable {prog : Program} {w : World} {A : Around} {E : Value → Shared → Prop} {h : Heap} {g : Array GenState} {d : Drawn} {t : Nat} {os : OsState}
theorem sup_gm {so D x Cl : Addr} {l₀ l : List Value} {K : Frag} {name : Str} {id ty0 ty gid : String} {G : Builtin} {pl : Sem Bool} {Q : Value × List Value → Shared → Prop}
    (hso : h.get? so = some (ks_superObj D x Cl)) (hno : Looks (model prog w) h (opaqueClassAbove (.ref Cl)) none)
    (hC : Looks (model prog w) h (mroOf (.ref Cl)) l₀) (hl : (l₀.dropWhile (· != .ref D)).drop 1 = l) (X : K.In h)
    (hf : alongIn K name l = some (some (.builtin id))) (hT : typeOf (.builtin id) = pure (.type ty0)) (slot : Slot ty0 "__get__" gid) (entry : entryFor table gid = some G) (args : ∀ a b c, argsOk gid ⟨[a, b, c], []⟩)
    (hxC : x ≠ Cl) (hn : (name == ("__class__" : Str)) = false)
    (run : ∀ {A : Around} {t : Nat} {P : Fin → Shared → Prop} {E' : Value → Shared → Prop}, P (.done (.ret (.ref h.objs.size))) ⟨h.push (bbObj ty id x), g, d, t, os⟩ → wpAny (model prog w) A (G ⟨[.builtin id, .ref x, .ref Cl], []⟩) P E' ⟨h, g, d, t, os⟩)
    (hq : Q (.ref h.objs.size, []) ⟨h.push (bbObj ty id x), g, d, t + 1, os⟩) :
    wpAny (model prog w) A (getMethod (.ref so) name pl) Q E ⟨h, g, d, t, os⟩ := by
  have hlk := PySem.F.ks_slot_super_ga.lookup
  have hcan := PySem.F.ks_canon_super_ga
  have hT' : ∀ t', (⟨h, g, d, t', os⟩ : Shared).TypeIs (.ref so) "super" := fun _ => ⟨_, hso, rfl⟩
  unfold getMethod
  refine wpAny_bind (wpAny_specialOf (hT' _) hlk ?_)
  show wpAny _ _ (if (Manifest.canonical "super.__getattribute__" != "object.__getattribute__") = true then _ else _) _ _ _
  rw [if_pos hcan]
  unfold getAttr getAttrBy
  refine wpAny_bind (wpAny_bind (wpAny_mkText (wpAny_holding (wpAny_bind (wpAny_typeOf (hT' _) (wpAny_bind (wpAny_of_eq hlk ?_)))))))
  show wpAny _ _ (getAttrByItsOwn (.ref so) (.str name t) (.type "super") (.builtin "super.__getattribute__") true false) _ _ _
  unfold getAttrByItsOwn hookBefore callGetattribute boundAndCalled
  refine wpAny_bind (wpAny_of_eq (show (if onTheHeap (.type "super") then typeLookup (.type "super") "__getattr__" else pure none) = pure none from rfl) ?_)
  refine wpAny_bind (wpAny_attempt (wpAny_holding ?_))
  show wpAny _ _ (bindSpecial (.builtin "super.__getattribute__") (.ref so) >>= _) _ _ _
  refine wpAny_bind (wpAny_of_eq (PySem.F.ks_slot_super_ga.bind _) ?_)
  refine wpAny_mono (Q := fun v s' => v = .ref h.objs.size ∧ s' = ⟨h.push (bbObj ty id x), g, d, t + 1, os⟩) (E := fun _ _ => False)
    (wpAny_call_entry PySem.F.ks_slot_super_ga (hT' _) PySem.F.ks_entry_super_ga (sup_ga hso hno hC hl X hf hT slot entry args hxC hn run ⟨_, rfl, rfl, rfl⟩) (PySem.F.ks_gaArgs_super _ _)) (fun v s' hv => ?_) fun _ _ z => z.elim
  obtain ⟨rfl, rfl⟩ := hv
  exact wpAny_pure (wpAny_pure hq)
end
section
variable {C : Cx} {K : Frag} {A : Around} {σ σ' : Led} {Q : V → Led → Prop} {x d D Cl so : Addr} {name : Str} {T : Value} {dc : Option Addr} {l : List V}
theorem m_sup {id ty0 ty gid : String} {G : Builtin} {Qm : V → List V → Led → Prop} (hC : C.Is K) (hso : (so, AO.sup D x Cl) ∈ σ) (hx : (x, AO.seq (.ref Cl) (some d) l) ∈ σ) (hl : mroIn K Cl (.type "list") = some true) (hno : nsIn K cStatics "thirdparty.any" = some none)
    (hf : ks_superIn K Cl D name = some (some (.builtin id))) (hT : typeOf (.builtin id) = pure (.type ty0)) (slot : Slot ty0 "__get__" gid) (entry : entryFor table gid = some G) (args : ∀ a b c, argsOk gid ⟨[a, b, c], []⟩) (hn : (name == ("__class__" : Str)) = false)
    (run : ∀ {A : Around} {s : Shared} {P : Fin → Shared → Prop} {E' : Value → Shared → Prop}, Looks (model C.prog C.w) s.heap (isInstance (.ref x) (.type "list")) true → P (.done (.ret (.ref s.heap.objs.size))) { s with heap := s.heap.push (bbObj ty id x) } → wpAny (model C.prog C.w) A (G ⟨[.builtin id, .ref x, .ref Cl], []⟩) P E' s)
    (h : ∀ q, Qm (.ref q) [] ((q, AO.bbi ty id x) :: σ)) : Mth C A σ (.ref so) name Qm := by
  rintro s a pl H rfl
  obtain ⟨hh, g, dr, t, os⟩ := s
  have X : K.In hh := hC.isK ▸ H.bg.kin
  obtain ⟨o, gso, _, e⟩ := H.own _ hso
  have e : o = ks_superObj D x Cl := e
  subst e
  obtain ⟨ox, hxx, hxc, hxd, hxn⟩ := isI_seq hx _ H
  obtain ⟨ox', vs, n, g', c', _, dt, _⟩ := seqOf H hx
  have IL : Looks (model C.prog C.w) hh (isInstance (.ref x) (.type "list")) true := (listTy_cls hC hl).inst _ _ _ H.bg.kin g' c'
  cases hc : clsIn K Cl with
  | none => unfold ks_superIn at hf; rw [hc] at hf; cases hf
  | some cd =>
    unfold ks_superIn at hf
    rw [hc] at hf
    have hxC : x ≠ Cl := by
      rintro rfl
      unfold clsIn at hc
      split at hc
      · rename_i c d cd' sl ho
        have e := X _ _ ho
        have hxx : hh.get? x = some ox := hxx
        rw [hxx] at e
        cases e
        exact Bool.noConfusion hxn
      · cases hc
    refine sup_gm gso (looks_opaque X hno) (l₀ := cd.mro) ?_ rfl X hf hT slot entry args hxC hn (fun q => run IL q) ?_
    · exact fun A Q E s k q => wpAny_bind ((looks_clsIn X hc) A _ E s k (wpAny_pure q))
    · exact ⟨(.ref hh.objs.size, []), _, H.add (s' := ⟨hh.push (bbObj ty id x), g, dr, t + 1, os⟩) (X := AO.bbi ty id x) (fun b o e => Heap.get?_push_of_some _ e) (Nat.le_refl _) (Heap.get?_push_size _ rfl) (Pl.fields rfl (by intro e; cases e)) rfl rfl rfl, ⟨vr_ref.mpr rfl, VRs.nil⟩, TK.push _, h _⟩
theorem LU.self {a : Addr} {X : AO} {σ : Led} (h : (a, X) ∈ σ) : LU a X X σ σ := by
  induction h with
  | head => exact .head
  | tail _ _ ih => exact .tail ih
noncomputable def Tree (C : Cx) (σ : Led) (B : Builtin) (args : List Value) (Q : V → Led → Prop) : Prop := ∀ (A : Around) s, HR C σ s → wpAny (model C.prog C.w) A (B ⟨args, []⟩) (fun fin s' => ∃ v, fin = .done (.ret v) ∧ Post C VR s.heap Q v s') No s
theorem b_init (hT : ListTy C T) (hm : (D, AO.seq T dc []) ∈ σ) (h : Q .none σ) : Tree C σ Builtin.«list.__init__» [.ref D] Q := by
  intro A s H
  obtain ⟨o, vs, n, g, c, d, dt, r⟩ := seqOf H hm
  have e0 : vs = [] := r
  subst e0
  show wpAny _ A (do let old ← Builtin.List.listItems (.ref D); Builtin.List.listUpdate (.ref D) (fun _ => #[]); letGo old.toList.reverse; ret .none) _ _ s
  refine wpAny_bind ?_
  unfold Builtin.List.listItems
  refine wpAny_bind (wpAny_seqItems g dt (wpAny_pure ?_))
  show wpAny _ A (updateSeq D (fun _ => #[]) >>= fun _ => letGo (#[] : Array Value).toList.reverse >>= fun _ => ret .none) _ _ s
  obtain ⟨U, _⟩ : ∃ U : LU D (AO.seq T dc []) (AO.seq T dc []) σ σ, True := ⟨LU.self hm, trivial⟩
  refine wpAny_bind (upd_seq hT H U (Nat.zero_le _) (Nat.zero_le _) (fun h vs tk r => ⟨[], rfl, VRs.nil⟩) fun s' H' tk => ?_)
  exact wpAny_bind (wpAny_letGo (wpAny_pure ⟨.none, rfl, .none, σ, H', rfl, tk, h⟩))
end
end Mine
end
section
open PySem PySem.W PySem.Calls PyProof.Rows PySem.Spec
set_option Elab.async false
set_option maxRecDepth 100000
set_option linter.unusedVariables false
namespace Mine
section
variable {C : Cx} {K : Frag} {A : Around} {σ σ' : Led} {Q : V → Led → Prop} {x d D Cl q : Addr} {name : Str} {ty id : String} {T : Value} {dc : Option Addr} {l : List V} {B : Builtin}
theorem kp_bbi (hm : (q, AO.bbi ty id x) ∈ σ) (h1 : (Value.type ty != .type "method") = true) (h2 : (Value.type ty == .type "builtin_function_or_method" || Value.type ty == .type "method-wrapper") = true) : Kp C σ (.ref q) := by
  intro s v H r
  cases vr_ref.mp r
  obtain ⟨o, g, _, e⟩ := H.own _ hm
  have e : o = bbObj ty id x := e
  subst e
  refine ⟨.machine, ?_⟩
  unfold keeperOf
  refine (Looks.ld (part := none) g).andThen ?_
  simp only [bbObj, h1, h2, if_true]
  exact .now
theorem c_bbi (hm : (q, AO.bbi ty id x) ∈ σ) (h1 : (Value.type ty != .type "method") = true) (h2 : (Value.type ty == .type "method" || Value.type ty == .type "builtin_function_or_method" || Value.type ty == .type "method-wrapper") = true)
    (hq : (Code.builtin id ⟨[.ref x], []⟩).quiet = true) (hb : entryFor table id = some B)
    (ck : ∀ {A : Around} {s : Shared} {Q : Unit → Shared → Prop} {E : Value → Shared → Prop}, HR C σ s → Q () s → wpAny (model C.prog C.w) A (checkBoundCall id ⟨[.ref x], []⟩) Q E s) (tree : Tree C σ B [.ref x] Q) : Call C A σ (.ref q) [] Q := by
  rintro s fv vs H rfl r
  have e0 : vs = [] := r
  subst e0
  obtain ⟨o, g, _, e⟩ := H.own _ hm
  have e : o = bbObj ty id x := e
  subst e
  refine wpAny_call (codeAny_of_tree ?_)
  show wpAny _ A.in1 (callAny (.ref q) ⟨[], []⟩) _ _ s
  simp only [callAny]
  refine wpAny_bind (wpAny_load g ?_)
  simp only [bbObj, h1, h2, if_true]
  refine wpAny_bind (ck H ?_)
  refine wpAny_bind (wpAny_pure (wpAny_pure ?_))
  refine ⟨hq, codeAny_builtin hb (wpAny_mono (tree _ s H) (fun fin s' h' => ?_) fun _ _ e => e.elim)⟩
  obtain ⟨v, rfl, hv⟩ := h'
  exact hv
end
end Mine
end
section
open PySem PySem.W PySem.Calls PyProof.Rows PySem.Spec
set_option Elab.async false
set_option maxRecDepth 100000
set_option linter.unusedVariables false
namespace Mine
section
variable {C : Cx} {K : Frag} {A : Around} {σ : Led} {name qual : Str} {params : Arguments} {body : List Stmt} {scope : Scope} {cl : List (Str × Addr)} {dV kV doc pm cdv ct oc : Value} {an od : Option Addr} {osl : Array (Option Value)} {f : Addr} {xs : List V} {Q : V → Led → Prop} {n : Nat}
theorem call_defA {ks : List Str} {vs : List (Option V)} (hC : C.Is K) (ho : K.lookup f = some ⟨oc, od, .func (fnX name qual params body scope cl dV kV doc pm an cdv ct), osl⟩) (hcd : codeIn K cdv qual = true) (hfit : Fit (n + 1) A)
    (nd : ks.Nodup) (hcell : ∀ x ∈ scope.names, x.2 ≠ .cell)
    (hbind : ∀ s as, K.In s.heap → VRs s.heap xs as → ∃ binds, BindsTo s (fnX name qual params body scope cl dV kV doc pm an cdv ct) ⟨as, []⟩ binds ∧ (∀ y ∈ binds, scope.names.lookup y.1 = some .local) ∧ FrOk s.heap ks vs binds)
    (h : ∀ L A', Fit n A' → XsA C A' (.func body (envX qual scope L f cdv cl)) (envX qual scope L f cdv cl) ((L, AO.fr ks vs) :: σ) body (fun σ' => Drop Q .none σ') (fun v σ' => Drop Q v σ') (fun _ => False) (fun _ => False))
    (hco : scope.isCoroutine = false := by rfl) (hgen : scope.isGenerator = false := by rfl) (hk : scope.kind = .function := by rfl) : CallC C A σ (.ref f) xs Q := by
  cases hC.isK
  rintro s fv as H rfl ra
  obtain ⟨binds, hb, hl, hf⟩ := hbind s as H.bg.kin ra
  refine (ks_codeAny_call_defAt (fd := fnX name qual params body scope cl dV kV doc pm an cdv ct) (body := body) (binds := binds) hfit.room (H.bg.kin _ _ ho) rfl H.bg.nl (codeRec_of H.bg.kin hcd) rfl hb hcell hl (fun h₀ hns hk₁ => ?_) hco hgen hk)
  obtain ⟨o, es, ep, g, d, kk, fe⟩ := hns
  have lt : s.heap.objs.size < h₀.objs.size := Heap.lt_size g
  have tk : TK s.heap h₀ := fun _ _ e _ => hk₁ _ _ e
  have H' : HR C ((s.heap.objs.size, AO.fr ks vs) :: σ) { s with heap := h₀, toks := s.toks + binds.length } :=
    H.add (o := o) hk₁ (Nat.le_refl _) g (Pl.dict d)
      ⟨nd, es, ep, d, kk, fun p hp x e => by obtain ⟨w, e1, e2⟩ := hf p hp x e; exact ⟨w, by rw [fe]; exact e1, e2.mono tk⟩⟩ rfl rfl
  refine ks_wpAt_mono (h s.heap.objs.size (A.deeper (envX qual scope s.heap.objs.size f cdv cl)) hfit.deeper _ H') (fun fl s₁ p => ?_) fun _ _ e => e.elim
  obtain ⟨b, σ₁, H₁, r₁, k₁, q₁⟩ := p
  cases b with
  | next => cases r₁; obtain ⟨σ₂, k₂, q⟩ := q₁; exact ⟨.none, σ₂, HR.sb k₂ H₁, vr_none.mpr rfl, tk.trans k₁, q⟩
  | brk => exact q₁.elim
  | cont => exact q₁.elim
  | ret x => obtain ⟨v, rfl, r⟩ := r₁; obtain ⟨σ₂, k₂, q⟩ := q₁; exact ⟨x, σ₂, HR.sb k₂ H₁, r, tk.trans k₁, q⟩
end
section
variable {C : Cx} {K : Frag} {A : Around} {σ : Led} {x Cl d : Addr} {l : List V}
theorem ck_slot {id : String} (h : ∀ x, checkBoundCall id ⟨[.ref x], []⟩ = pure ()) {A : Around} {s : Shared} {Q : Unit → Shared → Prop} {E : Value → Shared → Prop} (x : Addr) (q : Q () s) : wpAny (model C.prog C.w) A (checkBoundCall id ⟨[.ref x], []⟩) Q E s := by
  rw [h x]; exact wpAny_pure q
theorem ck_init (x : Addr) : checkBoundCall "list.__init__" ⟨[.ref x], []⟩ = pure () := by kernel_rfl
end
end Mine
end
section
open PySem PySem.W PySem.Calls PyProof.Rows PySem.Spec
set_option Elab.async false
set_option maxRecDepth 100000
set_option linter.unusedVariables false
namespace Mine
section
variable {C : Cx} {K : Frag} {σ : Led} {x Cl d : Addr} {l : List V} {cd : ClassData}
end
section
variable {C : Cx} {A : Around} {σ : Led} {env : Env} {pos : Pos} {c : Code} {Q : V → Led → Prop}
theorem eA_m0 {o : Expr} {name : Str} {ap : Pos} {pl : Sem Bool}
    (h : TrA C VR A c σ (attributeBase o name env (eval o env)) (fun ov σ₁ => Mth C A σ₁ ov name (fun f first σ₂ => Kp C σ₂ f ∧ Call C A σ₂ f first Q)))
    (he : eval (.Call (.Attribute o name ap) [] [] pos) env = (do
      let ov ← attributeBase o name env (eval o env)
      standAt ap.atName
      let (f, first) ← holding [ov] (getMethod ov name pl)
      callWith pos f first (backTo pos (starEach [] env)) []) := by rfl) :
    TrA C VR A c σ (eval (.Call (.Attribute o name ap) [] [] pos) env) Q :=
  eA_meth0 (pl := pl) (fun s H => ks_wpAt_mono (h s H) (fun v s' ⟨x, σ', H', r, k, q⟩ => ⟨x, σ', H', r, k, fun s a H r => q s a pl H r⟩) fun _ _ e => e) he
end
end Mine
end
section
open PySem PySem.W PySem.Calls PyProof.Rows PySem.Spec
set_option Elab.async false
set_option maxRecDepth 100000
set_option linter.unusedVariables false
namespace Mine
section
variable {C : Cx} {K : Frag} {A : Around} {σ : Led} {x D d : Addr} {name : Str} {ks : List Str} {vs : List (Option V)}
theorem m_any {Qm : V → List V → Led → Prop} {ga ty : String} {f : Value} {fV : V} (hC : C.Is K) (hi : IsI C σ x D d) (hd : (d, AO.attrs ks vs) ∈ σ) (hn : name ∉ ks)
    (hga : findIn K (.ref D) "__getattribute__" = some (some (.builtin ga))) (hcan : Manifest.canonical ga = "object.__getattribute__") (hk : findIn K (.ref D) "__getattr__" = some none)
    (hf : findIn K (.ref D) name = some (some f)) (ht : typeIn K f = some (.type ty)) (hty : (Value.type ty != .type "function" && Value.type ty != .type "method_descriptor" && Value.type ty != .type "wrapper_descriptor") = false)
    (hv : ∀ h, VR h fV f) (h : Qm fV [.ref x] σ) : Mth C A σ (.ref x) name Qm := by
  rintro s a pl H rfl
  obtain ⟨ox, es, n, I, od, D0, nd, _, r⟩ := instOf H hi hd
  have X : K.In s.heap := hC.isK ▸ H.bg.kin
  have fin : Post C RP s.heap (fun p σ' => Qm p.1 p.2 σ') (f, [.ref x]) s := ⟨(fV, [.ref x]), σ, H, ⟨hv _, VRs.cons rfl VRs.nil⟩, TK.refl _, h⟩
  unfold WP getMethod specialOf
  refine wpAny_bind (wpAny_bind (I.type.here ((looks_findIn X hga).here ?_)))
  dsimp only
  rw [hcan, if_neg (by decide)]
  refine wpAny_bind (wpAny_bind (I.type.here ((looks_findIn X hk).here ?_)))
  refine wpAny_bind (wpAny_bind (I.type.here ((looks_findIn X hf).here (wpAny_bind ((looks_typeIn X ht).here ?_)))))
  rw [hty, if_neg (by decide)]
  refine wpAny_bind (wpAny_loadPart I.at_ ?_)
  have hd := I.dict
  cases e : ox.dict with
  | none => exact wpAny_bind (wpAny_rule (wpAny_pure fin))
  | some dx =>
    rw [e] at hd
    refine wpAny_bind (wpAny_bind (wpAny_loadPart hd ?_))
    have e2 : lookIn name (dictOf es n) = some none := by rw [lookIn_dict, r.none hn]
    rw [nsLook_of e2]
    exact wpAny_pure (wpAny_bind (wpAny_rule (wpAny_pure fin)))
end
end Mine
end
section
open PySem PySem.W PySem.Calls PyProof.Rows PySem.Spec Builtin Builtin.ObjectAttr
set_option Elab.async false
set_option maxRecDepth 100000
set_option linter.unusedVariables false
namespace Mine
noncomputable def isRefV : Value → Bool
  | .ref _ => true
  | _ => false
noncomputable def isTyV (n : String) : Value → Bool
  | .type k => k == n
  | _ => false
noncomputable def listMro : List Value → Bool
  | [a, b, c] => isRefV a && (isTyV "list" b && isTyV "object" c)
  | _ => false
theorem isRefV_ {v : Value} (h : isRefV v = true) : ∃ a, v = .ref a := by
  cases v <;> first | exact ⟨_, rfl⟩ | cases h
theorem isTyV_ {n : String} {v : Value} (h : isTyV n v = true) : v = .type n := by
  cases v <;> first | cases h; done | rw [show _ = n from beq_iff_eq.mp h]
theorem refuse_list (self : Value) : refuseLoop self "__setattr__" [.type "list", .type "object"] = pure () := by kernel_rfl
theorem refuse_L (self : Value) {l : List Value} (e : listMro l = true) : refuseLoop self "__setattr__" l = pure () ∧ l.contains (.type "object") = true ∧ l.isEmpty = false := by
  rcases l with _ | ⟨x, _ | ⟨y, _ | ⟨z, _ | ⟨d, l⟩⟩⟩⟩
  · exact Bool.noConfusion e
  · exact Bool.noConfusion e
  · exact Bool.noConfusion e
  · obtain ⟨e0, e3⟩ := Bool.and_eq_true_iff.mp e
    obtain ⟨e1, e2⟩ := Bool.and_eq_true_iff.mp e3
    obtain ⟨c, rfl⟩ := isRefV_ e0
    cases isTyV_ e1
    cases isTyV_ e2
    exact ⟨by rw [refuseLoop_ref]; exact refuse_list self, by simp, rfl⟩
  · exact Bool.noConfusion e
section
variable {prog : Program} {w : World} {A : Around} {s : Shared} {K : Frag} {x C : Addr} {R : Result → Shared → Prop}
theorem osa_openL {ox : Obj} {od : Option Obj} {name : Str} {tk : Tok} {v : Value} {r : Option Value} (X : K.In s.heap) (I : InstAt s.heap x ox C od) (hp : (clsIn K C).any (fun cd => listMro cd.mro) = true) (ht : takerIn K C name = some r)
    (h : ∀ b, wpAny (model prog w) A.in1 (match r with | some a => setByDescriptor a (.ref x) v | none => storeInOwnDict (.ref x) (.ref C) (.str name tk) name v b)
      (fun fin s' => match fin with | .done f => R (.ok f) s' | .again c' => c'.quiet = true ∧ codeAny (model prog w) A c' R s') (fun e s' => R (.error e) s') s) :
    codeAny (model prog w) A (.call (.builtin "object.__setattr__") ⟨[.ref x, .str name tk, v], []⟩) R s := by
  have SF := PySem.F.store_object
  obtain ⟨cd, hc, ho'⟩ := any_some hp
  obtain ⟨ho, ob, ne⟩ := refuse_L (.ref x) ho'
  have sub : Looks (model prog w) s.heap (isInstance (.ref x) (.type "object")) true := I.type.andThen (looks_mroIn X (by unfold mroIn; rw [hc, Option.bind_some, if_neg (by rw [ne]; decide), ob]))
  refine codeAny_call_builtin SF.slot.plain SF.entry (@check_slot (model prog w) _ _ s "object.__setattr__" "object" "__setattr__" (.ref x) [.str name tk, v] [] _ SF.kind SF.split sub (SF.args (.ref x) (.str name tk) v) ?_)
  obtain ⟨attr, ha, hr⟩ := Option.bind_eq_some_iff.mp ht
  have hm : Looks (model prog w) s.heap (mroOf (.ref C)) cd.mro := (looks_clsIn X hc).andThen .now
  have L3 : Looks (model prog w) s.heap (storeTaker? attr) r := by
    cases attr with
    | none => cases hr; exact .now
    | some a =>
      obtain ⟨b, hb, rfl⟩ := Option.map_eq_some_iff.mp hr
      refine (looks_takesIn X hb).andThen ?_
      cases b <;> exact .now
  rw [osa_eq, refuse_eq]
  refine wpAny_bind (wpAny_bind (I.type.here (wpAny_bind (hm.here ?_))))
  rw [ho]
  refine wpAny_pure (wpAny_bind (I.type.here (wpAny_bind ((looks_findIn X ha).here (wpAny_bind (L3.here ?_))))))
  exact h _
end
section
variable {C : Cx} {K : Frag} {A : Around} {σ σ' : Led} {env : Env} {pos : Pos} {Q : V → Led → Prop} {x D d f fI : Addr} {name : Str} {v : V} {ks ks' : List Str} {vs vs' : List (Option V)} {expr : Bool} {xs : List V}
theorem a_setL {Qu : Unit → Led → Prop} (hC : C.Is K) (hi : IsI C σ x D d) (U : LU d (AO.attrs ks vs) (AO.attrs ks' vs') σ σ')
    (hw : ∀ h es w hs t, ks.Nodup → ER h ks vs es → VR h v w → ER h ks' vs' (putL name hs (.str name t) w es)) (nd' : ks'.Nodup) (hz : ks'.length ≤ 1000)
    (hs : (findIn K (.ref D) "__setattr__" == some (some (.builtin "object.__setattr__"))) = true) (hp : (clsIn K D).any (fun cd => listMro cd.mro) = true) (ht : (takerIn K D name == some none) = true) (hh : hasDictIn K D = true) (h : Qu () σ') : Op2 C RU A σ (fun a b => setAttr a name b) (.ref x) v Qu := by
  rintro s a b H rfl rb
  obtain ⟨ox, es, n, I, hd, D0, nd, z, r⟩ := instOf H hi U.mem
  have X : K.In s.heap := hC.isK ▸ H.bg.kin
  refine set_plain X I (beq_iff_eq.mp hs) (osa_openL (s := { s with toks := s.toks + 1 }) X I hp (beq_iff_eq.mp ht) fun bb => ?_)
  obtain ⟨cd, hc, hd'⟩ := any_some hh
  obtain ⟨hx, hcl, hn, -⟩ := I
  obtain ⟨oc, odi, oda, osl⟩ := ox
  dsimp only at hcl hd hx
  subst hcl hd
  have tkU : ∀ hsh key, Heap.SameBut d s.heap (s.heap.update d (Obj.putName name hsh key b)) := fun _ _ => Heap.SameBut.update ..
  refine wpAny_bind (wpAny_pure (wpAny_bind (wpAny_bind (wpAny_loadPart hx (wpAny_bind (looks_clsIn X hc _ _ _ _ (fun _ _ e => e) ?_))))))
  rw [hd']
  refine wpAny_pure (a := some d) (wpAny_bind (wpAny_pure (wpAny_bind ?_)))
  unfold nsSet
  refine wpAny_bind (wpAny_bind (wpAny_askSetting (wpAny_pure (wpAny_bind (wpAny_mkText (wpAny_bind (wpAny_loadPart D0 ?_)))))))
  dsimp only
  have c : (!es.toArray.any (·.key.isStr name) && es.toArray.any (·.refKey)) = false := by
    rw [← Array.any_toList, ← Array.any_toList]
    simp [r.noRef]
  rw [aRefKeyMayBeTheName_at, c]
  refine wpAny_updatePart D0 ?_
  have hs := tkU (PyData.keyHash C.w.params name) (.str name (s.toks + 1))
  have tk := HR.tkUpd H U hs
  have e1 : Obj.putName name (PyData.keyHash C.w.params name) (.str name (s.toks + 1)) b (dictOf es n) = dictOf (putL name (PyData.keyHash C.w.params name) (.str name (s.toks + 1)) b es) (putN name es n) := putName_dict ..
  have er : ER (s.heap.update d (Obj.putName name (PyData.keyHash C.w.params name) (.str name (s.toks + 1)) b)) ks' vs' (putL name (PyData.keyHash C.w.params name) (.str name (s.toks + 1)) b es) := hw _ _ _ _ _ nd (r.mono tk) (rb.mono tk)
  have gg : (s.heap.update d (Obj.putName name (PyData.keyHash C.w.params name) (.str name (s.toks + 1)) b)).get? d = some (dictOf (putL name (PyData.keyHash C.w.params name) (.str name (s.toks + 1)) b es) (putN name es n)) := by
    rw [Heap.get?_update_self _ D0 (by rw [e1]; rfl), e1]
  refine wpAny_bind (wpAny_lookBehind gg (pastItsLine_dict (by rw [List.size_toArray, er.len, sizeLine_eq]; lia)) ?_)
  exact wpAny_pure ⟨(), σ', (H.upd (s' := { s with heap := s.heap.update d (Obj.putName name (PyData.keyHash C.w.params name) (.str name (s.toks + 1)) b), toks := s.toks + 2 }) U hs gg (Pl.dict rfl) ⟨nd', hz, _, _, rfl, er⟩ rfl rfl).1, trivial, tk, h⟩
theorem a_newL {Qu : Unit → Led → Prop} (hC : C.Is K) (hi : IsI C σ x D d) (U : LU d (AO.attrs ks vs) (AO.attrs (ks ++ [name]) (vs ++ [some v])) σ σ') (hn : name ∉ ks) (nd : (ks ++ [name]).Nodup) (hz : (ks ++ [name]).length ≤ 1000)
    (hs : (findIn K (.ref D) "__setattr__" == some (some (.builtin "object.__setattr__"))) = true) (hp : (clsIn K D).any (fun cd => listMro cd.mro) = true) (ht : (takerIn K D name == some none) = true) (hh : hasDictIn K D = true) (h : Qu () σ') : Op2 C RU A σ (fun a b => setAttr a name b) (.ref x) v Qu :=
  a_setL hC hi U (fun _ _ _ _ _ _ r rv => ER.putNew rv r hn) nd hz hs hp ht hh h
end
end Mine
end
section
open PySem PySem.W PySem.Calls PyProof.Rows PySem.Spec
set_option Elab.async false
set_option maxRecDepth 100000
set_option linter.unusedVariables false
namespace Mine
theorem slot_lga : Slot "list" "__getattribute__" "list.__getattribute__" := PySem.F.slot_list_getattribute
theorem args_lga (a b : Value) : argsOk "list.__getattribute__" ⟨[a, b], []⟩ := by unfold argsOk; kernel_rfl
section
variable {C : Cx} {K : Frag} {A : Around} {σ : Led} {x D d : Addr} {name : Str} {ks : List Str} {vs : List (Option V)} {v : V} {Q : V → Led → Prop} {expr : Bool} {l : List V}
end
end Mine
end
section
open PySem PySem.W PySem.Calls PyProof.Rows PySem.Spec PySem.F
set_option Elab.async false
set_option maxRecDepth 100000
set_option linter.unusedVariables false
namespace Mine
noncomputable def IsSq (h : Heap) (a : Addr) (items : Array Value) : Prop := ∃ o n, h.get? a = some o ∧ o.data = .seq items n
theorem IsSq.at {h h' : Heap} {a : Addr} {items : Array Value} (x : IsSq h a items) (k : ∀ o, h.get? a = some o → h'.get? a = some o) : IsSq h' a items :=
  let ⟨o, n, g, d⟩ := x; ⟨o, n, k o g, d⟩
theorem IsSq.extBut {h h' : Heap} {a b : Addr} {items : Array Value} (x : IsSq h a items) (hs : Heap.ExtBut b h h') (hab : a ≠ b) : IsSq h' a items := x.at fun o e => hs a o hab e
section
variable {prog : Program} {w : World} {A : Around} {E : Value → Shared → Prop} {s : Shared} {it l : Addr} {i : Nat} {items : Array Value} {x : Value} {Q : Option Value → Shared → Prop}
theorem sq_next (hit : s.heap.IsListIter it l i) (hl : IsSq s.heap l items) (hx : items[i]? = some x)
    (hQ : ∀ h', h'.IsListIter it l (i + 1) → Heap.SameBut it s.heap h' → Q (some x) { s with heap := h' }) : wpAny (model prog w) A (pyNext (.ref it)) Q E s := by
  obtain ⟨o, ho, hc, hd⟩ := id hit
  obtain ⟨ol, nl, hol, hdl⟩ := hl
  unfold pyNext
  refine wpAny_bind (wpAny_attempt (wpAny_callSpecial?_slot (name := Str.ofString "__next__") hit.typeIs slot_listiter_next (wpAny_call_entry slot_listiter_next hit.typeIs entry_listiter_next ?_ (args_listiter_next _))))
  show wpAny _ _ (field (.ref it) 0 >>= _) _ _ s
  refine wpAny_bind (wpAny_field ho hd (x := .ref l) rfl ?_)
  show wpAny _ _ (if (Value.ref l == Value.none) = true then _ else _) _ _ s
  rw [if_neg (show ¬ ((Value.ref l == Value.none) = true) from Bool.false_ne_true)]
  show wpAny _ _ (field (.ref it) 1 >>= _) _ _ s
  refine wpAny_bind (wpAny_field ho hd (x := .int i 0) rfl ?_)
  show wpAny _ _ (seqItems? (.ref l) >>= _) _ _ s
  refine wpAny_bind (wpAny_seqItems hol hdl ?_)
  simp only [Int.toNat_natCast, hx]
  refine wpAny_bind (wpAny_setField ho hd (by simp) (wpAny_pure ⟨x, rfl, wpAny_pure (hQ _ ?_ (Heap.SameBut.update ..))⟩))
  exact ⟨_, Heap.get?_update_self _ ho (Obj.isFreed_of_fields (Obj.data_mapFields hd _)), (Obj.cls_mapFields ..).trans hc, by
    rw [Obj.data_mapFields hd]; simp [rawInt]⟩
theorem sq_end (hh : A.handled = none) (hit : s.heap.IsListIter it l i) (hl : IsSq s.heap l items) (hx : items[i]? = none)
    (hQ : ∀ h', Heap.ExtBut it s.heap h' → Q none { s with heap := h' }) : wpAny (model prog w) A (pyNext (.ref it)) Q E s := by
  obtain ⟨o, ho, hc, hd⟩ := id hit
  obtain ⟨ol, nl, hol, hdl⟩ := hl
  unfold pyNext
  refine wpAny_bind (wpAny_attempt (wpAny_callSpecial?_slot (name := Str.ofString "__next__") hit.typeIs slot_listiter_next (wpAny_call_entry slot_listiter_next hit.typeIs entry_listiter_next ?_ (args_listiter_next _))))
  show wpAny _ _ (field (.ref it) 0 >>= _) _ _ s
  refine wpAny_bind (wpAny_field ho hd (x := .ref l) rfl ?_)
  show wpAny _ _ (if (Value.ref l == Value.none) = true then _ else _) _ _ s
  rw [if_neg (show ¬ ((Value.ref l == Value.none) = true) from Bool.false_ne_true)]
  show wpAny _ _ (field (.ref it) 1 >>= _) _ _ s
  refine wpAny_bind (wpAny_field ho hd (x := .int i 0) rfl ?_)
  show wpAny _ _ (seqItems? (.ref l) >>= _) _ _ s
  refine wpAny_bind (wpAny_seqItems hol hdl ?_)
  simp only [Int.toNat_natCast, hx]
  refine wpAny_bind (wpAny_rule (wpAny_bind (wpAny_setField ho hd (by simp) ?_)))
  show wpAny _ _ (newExc (.type "StopIteration") [] >>= _) _ _ _
  refine wpAny_bind ?_
  simp only [newExc, newTuple]
  refine wpAny_bind (wpAny_newObj_type ?_ (by size_fits))
  refine wpAny_bind (m := firstArgMember _ _) (wpAny_of_eq (a := Value.none) (by first | rfl | (simp only [firstArgMember]; rfl)) ?_)
  refine wpAny_newObj_type ?_ (by size_fits)
  simp only [raiseNew]
  refine wpAny_bind (wpAny_handled ?_)
  rw [show A.in1.handled = none from hh]
  refine wpAny_bind (wpAny_pure (wpAny_throw ?_))
  refine wpAny_bind (wpAny_isInstance (T := "StopIteration") (b := true) ⟨_, Heap.get?_push_size _ rfl, rfl⟩ isSubtype_stop ?_)
  exact wpAny_pure (hQ _ (((Heap.SameBut.update ..).extBut.push _).push _))
end
theorem walksSq {prog : Program} {w : World} {A : Around} (hh : A.handled = none) (I ax : Addr) (hne : ax ≠ I) (items : Array Value) (Ts : Nat → Addr) (vals : Nat → Array Value)
    (hit : ∀ j, j < items.size → items[j]? = some (.ref (Ts j))) (hTI : ∀ j, j < items.size → Ts j ≠ I) :
    WalksU prog w A I (I :: ax :: (List.range items.size).map Ts) [I] items.size (fun j v => v = vals j)
      (fun j h => h.IsListIter I ax j ∧ IsSq h ax items ∧ ∀ k, k < items.size → h.IsTuple (Ts k) (vals k))
      (fun j T h => (j < items.size ∧ T = Ts j) ∧ h.IsListIter I ax (j + 1) ∧ IsSq h ax items ∧ ∀ k, k < items.size → h.IsTuple (Ts k) (vals k)) where
  sub := fun b hb => by simp at hb; simp [hb]
  frame := fun _ _ _ st hk => ⟨st.1.at fun o e => hk I (by simp) o e, st.2.1.at fun o e => hk ax (by simp) o e,
    fun k hk' => (st.2.2 k hk').at fun o e => hk (Ts k) (List.mem_cons_of_mem _ (List.mem_cons_of_mem _ (List.mem_map.mpr ⟨k, List.mem_range.mpr hk', rfl⟩))) o e⟩
  item := fun i s Q E hi st hQ => by
    refine sq_next st.1 st.2.1 (x := .ref (Ts i)) (hit i hi) fun h' hit' hs' => ?_
    have tup : ∀ k, k < items.size → h'.IsTuple (Ts k) (vals k) := fun k hk' => (st.2.2 k hk').extBut hs'.extBut (hTI k hk')
    exact hQ (Ts i) (vals i) h' s.toks rfl (tup i hi) ⟨⟨hi, rfl⟩, hit', st.2.1.extBut hs'.extBut hne, tup⟩ fun b o hb e => hs'.extBut b o (fun h => hb (by simp [h])) e
  go := fun _ _ _ _ _ s Q _ hm hQ => wpAny_letOwnedTupleGo_listiter hm.2.1 (hQ s.heap hm.2 fun _ _ _ e => e)
  apart := fun j T _ hm hmem => by
    rcases List.mem_cons.mp hmem with e | e
    · exact hTI j hm.1.1 (hm.1.2 ▸ e)
    · cases e
  done := fun s Q E st hQ => sq_end hh st.1 st.2.1 (by simp) fun h' he' => hQ h' s.toks fun b o hb e => he' b o (fun h => hb (by simp [h])) e
  self := fun _ _ _ _ st hQ => wpAny_pyIter_listiter st.1 hQ
end Mine
end
section
open PySem PySem.W PySem.Calls PyProof.Rows PySem.Spec PySem.F
set_option Elab.async false
set_option maxRecDepth 100000
set_option linter.unusedVariables false
namespace Mine
section
variable {C : Cx} {K : Frag} {A : Around} {σ : Led} {x D d : Addr} {l : List V} {Q : V → Led → Prop} {dc : Option Addr}
theorem it_seq (hC : C.Is K) (hx : (x, AO.seq (.ref D) dc l) ∈ σ) (hml : mroIn K D (.type "list") = some true) (hf : findIn K (.ref D) "__iter__" = some (some (.builtin "list.__iter__")))
    (h : ∀ a, Q (.ref a) ((a, AO.lit x 0) :: σ)) : It C A σ (.ref x) Q := by
  rintro ⟨hh', gg, dr, t, os⟩ v H rfl
  obtain ⟨o, vs, n, g, c, dd, dt, r⟩ := seqOf H hx
  have X : K.In hh' := hC.isK ▸ H.bg.kin
  have T : Looks (model C.prog C.w) hh' (typeOf (.ref x)) (.ref D) := c ▸ (Looks.ld g).andThen .now
  have L1 : Looks (model C.prog C.w) hh' (specialOf (.ref x) "__iter__") (some (.builtin "list.__iter__")) := T.andThen (looks_findIn X hf)
  have IL : Looks (model C.prog C.w) hh' (isInstance (.ref x) (.type "list")) true := (listTy_cls hC hml).inst _ _ _ H.bg.kin g c
  have call : wpAny (model C.prog C.w) A (call (.builtin "list.__iter__") [.ref x]) (fun it s' => it = .ref hh'.objs.size ∧ s' = ⟨hh'.push { cls := .type "list_iterator", data := .fields #[.ref x, .int 0 0] }, gg, dr, t, os⟩) No ⟨hh', gg, dr, t, os⟩ := by
    refine call_self (owner := "list") (n := "__iter__") (.inr (by decide +kernel)) (by decide +kernel) (by decide +kernel) PySem.F.entry_list_iter (PySem.args_list_iter _) IL ?_
    show wpAny _ _ (do ret (← newFields "list_iterator" [.ref x, rawInt 0])) _ _ _
    exact wpAny_bind (wpAny_newObj_type (wpAny_pure ⟨_, rfl, rfl, rfl⟩))
  unfold WP pyIter
  refine wpAny_bind (L1.at ?_)
  show wpAny _ _ (callSpecialIfBoundUnlessNone? (.ref x) "__iter__" _ >>= _) _ _ _
  refine wpAny_bind ?_
  unfold callSpecialIfBoundUnlessNone? bindSpecialIfBound?
  refine wpAny_holding (wpAny_bind (wpAny_bind (L1.at ?_)))
  dsimp only
  rw [PySem.F.slot_list_iter.bind]
  have done : Post C VR hh' Q (.ref hh'.objs.size) ⟨hh'.push { cls := .type "list_iterator", data := .fields #[.ref x, .int 0 0] }, gg, dr, t, os⟩ :=
    ⟨.ref hh'.objs.size, _, H.add (s' := ⟨hh'.push { cls := .type "list_iterator", data := .fields #[.ref x, .int 0 0] }, gg, dr, t, os⟩) (X := AO.lit x 0) (fun b o e => Heap.get?_push_of_some _ e) (Nat.le_refl _) (Heap.get?_push_size _ rfl) (Pl.fields rfl (by intro e; cases e)) ⟨rfl, rfl⟩ rfl rfl, vr_ref.mpr rfl, TK.push _, h _⟩
  refine wpAny_bind (wpAny_askSetting (wpAny_ite ?_))
  split
  · refine wpAny_bind (wpAny_pure (wpAny_pure ?_))
    dsimp only
    rw [if_neg (by decide)]
    refine wpAny_bind (wpAny_mono call (fun v s' h' => ?_) fun _ _ h' => h')
    obtain ⟨rfl, rfl⟩ := h'
    refine wpAny_pure ?_
    exact wpAny_bind (wpAny_specialOf (T := "list_iterator") ⟨_, Heap.get?_push_size _ rfl, rfl⟩ slot_listiter_next.lookup (wpAny_pure done))
  · refine wpAny_tryCatch (wpAny_bind (wpAny_pure (wpAny_pure ?_)))
    dsimp only
    rw [if_neg (by decide)]
    refine wpAny_bind (wpAny_mono call (fun v s' h' => ?_) fun _ _ h' => h')
    obtain ⟨rfl, rfl⟩ := h'
    refine wpAny_pure ?_
    exact wpAny_bind (wpAny_specialOf (T := "list_iterator") ⟨_, Heap.get?_push_size _ rfl, rfl⟩ slot_listiter_next.lookup (wpAny_pure done))
end
end Mine
end
section
open PySem PySem.W PySem.Calls PyProof.Rows PySem.Spec
set_option Elab.async false
set_option maxRecDepth 100000
set_option linter.unusedVariables false
namespace Mine
section
variable {prog : Program} {w : World} {A : Around} {I : Addr} {fp wr : List Addr} {G : Array GenState → Array GenState → Prop} {n : Nat} {P : Nat → Value → Prop} {St : Nat → Shared → Prop} {E : Value → Shared → Prop} {s : Shared}
noncomputable def shP (P : Nat → Value → Prop) : Nat → Value → Prop
  | 0, _ => False
  | i + 1, v => P i v
noncomputable def shS (St : Nat → Shared → Prop) : Nat → Shared → Prop
  | 0, _ => False
  | i + 1, s => St i s
noncomputable def shV (z : Int) (val : Nat → Int) : Nat → Int
  | 0 => z
  | i + 1 => val i
theorem shift (W : WalksS prog w A I fp wr G n P St) : WalksS prog w A I fp wr G (n + 1) (shP P) (shS St) where
  sub := W.sub
  grefl := W.grefl
  gtrans := W.gtrans
  frame := fun i s h' tk st ht hk => by cases i with | zero => exact st.elim | succ i => exact W.frame i s h' tk st ht hk
  item := fun i s Q E hi st hQ => by cases i with | zero => exact st.elim | succ i => exact W.item i s Q E (by lia) st hQ
  done := fun s Q E st hQ => W.done s Q E st hQ
  self := fun i s Q E st hQ => by cases i with | zero => exact st.elim | succ i => exact W.self i s Q E st hQ
theorem preSum_shift (z : Int) (val : Nat → Int) : ∀ n, preSum (shV z val) (n + 1) = z + preSum val n
  | 0 => by show (0 : Int) + z = z + 0; lia
  | n + 1 => by
    show preSum (shV z val) (n + 1) + val n = z + (preSum val n + val n)
    rw [preSum_shift z val n]; lia
theorem args_sum2 (a b : Value) : argsOk "sum" ⟨[a, b], []⟩ := by unfold argsOk; kernel_rfl
theorem call_sum2 {x : Value} {z : Int} {tz : Tok} {Q : Value → Shared → Prop}
    (h : wpAny (model prog w) A.in1 (pyIter x) (fun it s₂ => ∃ I fp wr G n P St val, it = .ref I ∧ WalksS prog w A.in1 I fp wr G n P St ∧ St 0 s₂ ∧ (∀ b ∈ fp, b < s₂.heap.objs.size) ∧
      (∀ i v, P i v → ∃ t, v = .int (val i) t) ∧
      ∀ s' t', Moved wr G s₂ s' → Q (.int (z + preSum val n) t') s') E s) :
    wpAny (model prog w) A (call (.builtin "sum") [x, .int z tz]) Q E s := by
  refine call_function_tree PySem.F.kind_sum PySem.F.plain_sum PySem.F.entry_sum (args_sum2 _ _) ?_
  unfold Builtin.«sum»
  simp only [List.length_cons, List.length_nil]
  rw [if_neg (by decide)]
  refine wpAny_bind (wpAny_of_eq (show Builtin.Builtins.bindParams "sum" ["start"] 0 ⟨[.int z tz], []⟩ = pure [some (.int z tz)] from rfl) ?_)
  refine wpAny_bind (wpAny_mono h (fun it s₂ h₂ => ?_) fun _ _ e => e)
  obtain ⟨I, fp, wr, G, n, P, St, val, rfl, W, hst, hfp, hval, hQ⟩ := h₂
  have hSf : s₂.heap.objs.size ∉ fp := fun hm => Nat.lt_irrefl _ (hfp _ hm)
  have hval' : ∀ i v, shP P i v → ∃ t, v = Value.int (shV z val i) t := fun i v hp => by cases i with | zero => exact hp.elim | succ i => exact hval i v hp
  dsimp only
  split
  · refine wpAny_bind (wpAny_rule ?_)
    refine wpAny_bind (wpAny_mkInt ?_)
    refine wpAny_bind (wpAny_pure ?_)
    simp only [List.forIn_cons, List.forIn_nil]
    refine wpAny_bind (wpAny_bind (wpAny_bind (wpAny_isInstance (T := "int") (b := false) (typeIs_int _ _ _) PySem.sub_int_str ?_)))
    simp only [Bool.false_eq_true, if_false]
    refine wpAny_pure (wpAny_bind (wpAny_bind (wpAny_isInstance (T := "int") (b := false) (typeIs_int _ _ _) PySem.sub_int_bytes ?_)))
    simp only [Bool.false_eq_true, if_false]
    refine wpAny_pure (wpAny_bind (wpAny_bind (wpAny_isInstance (T := "int") (b := false) (typeIs_int _ _ _) PySem.sub_int_bytearray ?_)))
    simp only [Bool.false_eq_true, if_false]
    refine wpAny_pure (wpAny_pure ?_)
    refine wpAny_bind (wpAny_newObj_type ?_)
    refine wpAny_pure ⟨plainId_quiet PySem.F.plain_sum_loop _, codeAny_sum_loopAnyS (shift W) (shV z val) hval' s₂.heap.objs.size hSf n 1 _ s₂.toks 0 0 (.inl rfl) (by lia) (by lia) ?_ ?_ fun s' t' hm => ?_⟩
    · exact W.frame 0 s₂ _ _ hst (by first | exact Nat.le_refl _ | exact Nat.le_succ _ | lia) fun b _ o e => Heap.get?_push_of_some _ e
    · rw [preSum_shift]
      show Heap.get? _ _ = some { cls := .type "list", dict := none, data := .seq #[.int (z + 0) _] 0, slots := #[] }
      rw [Int.add_zero]
      exact Heap.get?_push_size _ rfl
    · rw [preSum_shift]
      exact hQ s' t' (hm.drop_new (by first | exact Nat.le_refl _ | exact Nat.le_succ _ | lia))
  · refine wpAny_bind (wpAny_pure ?_)
    simp only [List.forIn_cons, List.forIn_nil]
    refine wpAny_bind (wpAny_bind (wpAny_bind (wpAny_isInstance (T := "int") (b := false) (typeIs_int _ _ _) PySem.sub_int_str ?_)))
    simp only [Bool.false_eq_true, if_false]
    refine wpAny_pure (wpAny_bind (wpAny_bind (wpAny_isInstance (T := "int") (b := false) (typeIs_int _ _ _) PySem.sub_int_bytes ?_)))
    simp only [Bool.false_eq_true, if_false]
    refine wpAny_pure (wpAny_bind (wpAny_bind (wpAny_isInstance (T := "int") (b := false) (typeIs_int _ _ _) PySem.sub_int_bytearray ?_)))
    simp only [Bool.false_eq_true, if_false]
    refine wpAny_pure (wpAny_pure ?_)
    refine wpAny_bind (wpAny_newObj_type ?_)
    refine wpAny_pure ⟨plainId_quiet PySem.F.plain_sum_loop _, codeAny_sum_loopAnyS (shift W) (shV z val) hval' s₂.heap.objs.size hSf n 1 _ tz 0 2 (.inr rfl) (by lia) (by lia) ?_ ?_ fun s' t' hm => ?_⟩
    · exact W.frame 0 s₂ _ _ hst (by first | exact Nat.le_refl _ | exact Nat.le_succ _ | lia) fun b _ o e => Heap.get?_push_of_some _ e
    · rw [preSum_shift]
      show Heap.get? _ _ = some { cls := .type "list", dict := none, data := .seq #[.int (z + 0) _] 0, slots := #[] }
      rw [Int.add_zero]
      exact Heap.get?_push_size _ rfl
    · rw [preSum_shift]
      exact hQ s' t' (hm.drop_new (by first | exact Nat.le_refl _ | exact Nat.le_succ _ | lia))
end
end Mine
end
section
open PySem PySem.W PySem.Calls PyProof.Rows PySem.Spec
set_option Elab.async false
set_option maxRecDepth 100000
set_option linter.unusedVariables false
namespace Mine
theorem oldK_extL {h₀ h h' : Heap} (K : OldK h₀ h) {wr : List Addr} (ha : ∀ a ∈ wr, h₀.get? a = none) (hx : ∀ b o, b ∉ wr → h.get? b = some o → h'.get? b = some o) : OldK h₀ h' := by
  have ne : ∀ b o, h₀.get? b = some o → b ∉ wr := fun b o e q => by rw [ha b q] at e; cases e
  refine ⟨fun b o e => ?_, fun b o e => let ⟨o', ho'⟩ := K.there b o e; ⟨o', hx b o' (ne b o e) ho'⟩⟩
  rcases K.old b o e with x | ⟨t, hc, vs, more, hv, x⟩ | ⟨rfl, hc, ⟨o', es, n, ho', r⟩, z⟩
  · exact .inl (hx b _ (ne b o e) x)
  · exact .inr (.inl ⟨t, hc, vs, more, hv, hx b _ (ne b o e) x⟩)
  · exact .inr (.inr ⟨rfl, hc, ⟨o', es, n, hx _ _ (ne _ o e) ho', r⟩, fun key => by rw [OldK.staticOf_congr ((hx _ _ (ne _ o e) ho').trans ho'.symm) key]; exact z key⟩)
section
variable {C : Cx} {K : Frag} {A : Around} {σ : Led} {s s' : Shared}
theorem Bg.extL {h h' : Heap} {wr : List Addr} (B : Bg C h) (hf : ∀ a ∈ wr, C.Free a) (hs : ∀ b o, b ∉ wr → h.get? b = some o → h'.get? b = some o) : Bg C h' :=
  have ne : ∀ {b}, C.h₀.get? b ≠ none → b ∉ wr := fun {b} e q => e (hf b q).1
  { low := B.low
    old := oldK_extL B.old (fun a ha => (hf a ha).1) hs
    kin := fun b o e => hs _ _ (ne (B.low.K b o e)) (B.kin b o e)
    gl := B.gl.at' fun o e => hs _ o (ne B.low.g) e
    bl := B.bl.at' fun o e => hs _ o (ne B.low.b) e
    nl := let ⟨mc, x, y⟩ := B.nl; ⟨mc, x.at' fun o e => hs _ o (ne B.low.s) e, y⟩
    gt := fun p hp => by
      obtain ⟨ps, x, y⟩ := B.gt p hp
      refine ⟨ps, ?_, ?_⟩
      · obtain ⟨o, vs, file, tf, flags, tg, inF, text, tt, op, a, r1, r2, r3, r4, r5, r6, b, r⟩ := x
        exact ⟨o, vs, file, tf, flags, tg, inF, text, tt, op, hs _ _ (ne (B.low.t p hp).1) a, r1, r2, r3, r4, r5, r6, hs _ _ (ne (B.low.t p hp).2) b, r⟩
      · obtain ⟨⟨o, vs, a, r⟩, b⟩ := y
        exact ⟨⟨o, vs, hs _ _ (ne (B.low.t p hp).1) a, r⟩, hs _ _ (ne (B.low.t p hp).2) b⟩
    kept := fun q hq => hs _ _ (fun hm => (hf _ hm).2 q hq rfl) (B.kept q hq)
    kpf := B.kpf }
theorem HR.extL {wr : List Addr} (H : HR C σ s) (hf : ∀ a ∈ wr, C.Free a) (hn : ∀ a ∈ wr, a ∉ σ.map Prod.fst) (hp : ∀ a ∈ wr, ∀ o, s.heap.get? a = some o → Pl o)
    (hs : ∀ b o, b ∉ wr → s.heap.get? b = some o → s'.heap.get? b = some o) (hg : AllBare s'.gens ∧ ∀ (i : Nat) (x : GenState), C.gs[i]? = some x → s'.gens[i]? = some x) (ho : s'.os = s.os) : HR C σ s' ∧ TK s.heap s'.heap := by
  have tk : TK s.heap s'.heap := fun b o e c => by
    by_cases hb : b ∈ wr
    · exact absurd c (hp b hb o e)
    · exact hs b o hb e
  refine ⟨⟨H.bg.extL hf hs, fun p hp => ?_, H.fresh, H.nd, hg, ho ▸ H.os⟩, tk⟩
  obtain ⟨o, a, b, c⟩ := H.own p hp
  exact ⟨o, hs _ _ (fun hm => hn _ hm (List.mem_map_of_mem hp)) a, b, p.2.mono tk c⟩
theorem HR.table {c P : Addr} {ps more : Array Value} {h' : Heap} {tk : Nat} (hC : C.Is K) (hKP : K.lookup P = none) (hgt : (c, P) ∈ C.gt) (H : HR C σ s) (ht : s.heap.TableAt c P ps) (hx : Heap.ExtBut P s.heap h')
    (ic' : h'.IsCode c P (ps ++ more)) (ta' : h'.TableAt c P (ps ++ more)) : HR C σ { s with heap := h', toks := tk } ∧ TK s.heap h' := by
  have low := H.bg.low
  have hP0 := (low.t _ hgt).2
  have hPs := low.ts _ hgt
  have hget : s.heap.get? P = some { cls := .none, data := .fields ps } := ht.2
  have tk : TK s.heap h' := fun b o e cc => by
    by_cases hb : b = P
    · subst hb; rw [hget] at e; cases e; obtain ⟨_, xs, n, e⟩ := cc; cases e
    · exact hx b o hb e
  have nNs : ∀ {a m}, s.heap.Ns a m → a ≠ P := fun {a m} ⟨o, es, ep, g, d, _⟩ e => by rw [e, hget] at g; cases g; cases d
  obtain ⟨ps0, t0⟩ := low.gt _ hgt
  refine ⟨⟨⟨low, OldK.step_table H.bg.old t0 ht ta' hx hPs, fun b o e => ?_, H.bg.gl.extBut hx (nNs H.bg.gl), H.bg.bl.extBut hx (nNs H.bg.bl), ?_, fun p hp => ?_, fun q hq => ?_, H.bg.kpf⟩, fun p hp => ?_, H.fresh, H.nd, H.gens, H.os⟩, tk⟩
  · refine hx b o (fun e' => ?_) (H.bg.kin b o e)
    rw [e', hC.isK, hKP] at e; cases e
  · obtain ⟨mc, x, y⟩ := H.bg.nl; exact ⟨mc, x.extBut hx (nNs x), y⟩
  · obtain ⟨ps1, x, y⟩ := H.bg.gt p hp
    have hc : p.1 ≠ P := fun e => by
      obtain ⟨⟨o, vs, a, b, _⟩, _⟩ := y
      rw [e, hget] at a; cases a; cases b
    by_cases hb : p.2 = P
    · refine ⟨ps ++ more, ?_, ?_⟩
      · obtain ⟨o, vs, file, tf, flags, tg, inF, text, tt, op, a, r1, r2, r3, r4, r5, r6, b, r⟩ := x
        obtain ⟨_, _, _, _, _, _, _, _, _, op', _, _, _, _, _, _, _, b', r7, r8, _⟩ := ic'
        exact ⟨o, vs, file, tf, flags, tg, inF, text, tt, op', hx _ _ hc a, r1, r2, r3, r4, r5, r6, by rw [hb]; exact b', r7, r8, r.2.2⟩
      · obtain ⟨⟨o, vs, a, r⟩, b⟩ := y
        exact ⟨⟨o, vs, hx _ _ hc a, r⟩, by rw [hb]; exact ta'.2⟩
    · exact ⟨ps1, x.extBut hx hc hb, y.extBut hx hc hb⟩
  · exact hx _ _ (fun e => by have := H.bg.kpf q hq; rw [e] at this; exact hP0 this) (H.bg.kept q hq)
  · obtain ⟨o, a, b, cc⟩ := H.own p hp
    exact ⟨o, hx _ _ (fun e => by have := (H.fresh p hp).1; rw [e] at this; exact hP0 this) a, b, p.2.mono tk cc⟩
theorem genCode_ {c P : Addr} {env : Env} {pos : Pos} {qn : Str} {scope : Scope} {Q : Value → Shared → Prop} {E : Value → Shared → Prop} (hC : C.Is K) (hKP : K.lookup P = none) (hgt : (c, P) ∈ C.gt) (hc : env.code = .ref c) (H : HR C σ s)
    (h : ∀ code h' tk, Heap.ExtBut P s.heap h' → s.heap.objs.size ≤ h'.objs.size → HR C σ { s with heap := h', toks := tk } → TK s.heap h' → Q code { s with heap := h', toks := tk }) : wpAny (model C.prog C.w) A (genexprCode env pos qn scope) Q E s := by
  obtain ⟨ps, ic, ta⟩ := H.bg.gt _ hgt
  cases hnf : codeAmong pos ps.toList with
  | none =>
    refine wpAny_genexprCodeX hc ic ta hnf fun c' h' tk hx hle hlt hic _ hta _ => ?_
    obtain ⟨H', k'⟩ := HR.table (tk := tk) hC hKP hgt H ta hx hic hta
    exact h _ h' tk hx (Nat.le_trans hle (Nat.le_of_lt hlt)) H' k'
  | some v =>
    obtain ⟨o, vs, file, tf, flags, tg, inF, text, tt, op, ho, hd, h11, h2, h7, h9, h10, hop, hpd, htr, hne⟩ := id ic
    unfold genexprCode codeAt
    rw [hc, if_neg (show ¬ ((Value.ref c == Value.none) = true) from Bool.false_ne_true)]
    refine wpAny_bind (wpAny_fieldsOf ho hd ?_)
    rw [h11]
    refine wpAny_bind (wpAny_fieldsOf hop hpd ?_)
    rw [hnf]
    exact wpAny_pure (h v s.heap s.toks (fun _ _ _ e => e) (Nat.le_refl _) H (TK.refl _))
end
end Mine
end
section
open PySem PySem.W PySem.Calls PyProof.Rows PySem.Spec
set_option Elab.async false
set_option maxRecDepth 100000
set_option linter.unusedVariables false
namespace Mine
theorem weakS {prog : Program} {w : World} {A : Around} {I : Addr} {fp wr : List Addr} {G : Array GenState → Array GenState → Prop} {n : Nat} {P P' : Nat → Value → Prop} {St : Nat → Shared → Prop}
    (W : WalksS prog w A I fp wr G n P St) (h : ∀ i v, P i v → P' i v) : WalksS prog w A I fp wr G n P' St where
  sub := W.sub
  grefl := W.grefl
  gtrans := W.gtrans
  frame := W.frame
  item := fun i s Q E hi st hQ => W.item i s Q E hi st fun v s' hp st' hm => hQ v s' (h i v hp) st' hm
  done := W.done
  self := W.self
noncomputable def GenW (C : Cx) (A : Around) (σ : Led) (h₀ : Heap) (a : Addr) (n : Nat) (F : Nat → Value → Prop) (s : Shared) : Prop :=
  ∃ fp wr g St, WalksS C.prog C.w A.in4 a fp wr (GenOnlyQ g) n F St ∧ St 0 s ∧ (∀ i s', St i s' → s'.TypeIs (.ref a) "generator") ∧ a ∈ fp ∧ (∀ b ∈ fp, b < s.heap.objs.size) ∧
    ∀ s' : Shared, (∀ b o, b ∉ wr → s.heap.get? b = some o → s'.heap.get? b = some o) → GenOnlyQ g s.gens s'.gens → s'.os = s.os → HR C σ s' ∧ TK h₀ s'.heap
theorem GenW.hr {C : Cx} {A : Around} {σ : Led} {h₀ : Heap} {a : Addr} {n : Nat} {F : Nat → Value → Prop} {s : Shared} (W : GenW C A σ h₀ a n F s) : HR C σ s ∧ TK h₀ s.heap := by
  obtain ⟨fp, wr, g, St, w, _, _, _, _, h⟩ := W
  exact h s (fun _ _ _ e => e) (w.grefl _) rfl
theorem passing_all (n : Nat) : passing (fun _ => true) n 0 = List.range n := by
  unfold passing
  rw [List.drop_zero]
  exact List.filter_eq_self.mpr fun _ _ => rfl
noncomputable def pairV (p : List Nat × List Nat) : V := .tup [.str (S p.1), .str (S p.2)]
noncomputable def QElt (C : Cx) (cenv : Env) (xa xb : Str) (elt : Expr) (ps : List (List Nat × List Nat)) (F : Nat → Value → Prop) : Prop :=
  ∀ (A' : Around) (E' : Value → Shared → Prop) i p ta tb (s₂ : Shared) m₂, A'.handled = none → Bg C s₂.heap → ps[i]? = some p → s₂.heap.Ns cenv.locals m₂ → m₂ xa = some (.str (S p.1) ta) → m₂ xb = some (.str (S p.2) tb) →
    wpAny (model C.prog C.w) A' (eval elt cenv) (fun y s₃ => F i y ∧ Keeps s₂ s₃) E' s₂
section
variable {C : Cx} {K : Frag} {A : Around} {σ : Led} {s : Shared}
theorem pairs_at {h : Heap} {ps : List (List Nat × List Nat)} {vs : List Value} (r : VRs h (ps.map pairV) vs) :
    ∃ (Ts : Nat → Addr) (vals : Nat → Array Value), ∀ k p, ps[k]? = some p → vs[k]? = some (.ref (Ts k)) ∧ h.IsTuple (Ts k) (vals k) ∧ ∃ ta tb, vals k = #[.str (S p.1) ta, .str (S p.2) tb] := by
  have X : ∀ k : Nat, ∃ q : Addr × Array Value, ∀ p : List Nat × List Nat, ps[k]? = some p → vs[k]? = some (Value.ref q.1) ∧ h.IsTuple q.1 q.2 ∧ ∃ ta tb, q.2 = #[Value.str (S p.1) ta, Value.str (S p.2) tb] := by
    intro k
    cases hk : ps[k]? with
    | none => exact ⟨(0, #[]), fun p e => by cases e⟩
    | some p =>
      obtain ⟨v, e, rv⟩ := r.get (i := k) (x := pairV p) (by rw [List.getElem?_map, hk]; rfl)
      obtain ⟨a, ws, rfl, g, rr⟩ := vr_tup.mp rv
      simp only [VRs] at rr
      obtain ⟨_, _, rfl, ⟨ta, rfl⟩, _, _, rfl, ⟨tb, rfl⟩, rfl⟩ := rr
      refine ⟨(a, #[.str (S p.1) ta, .str (S p.2) tb]), fun p' e' => ?_⟩
      cases e'
      exact ⟨e, ⟨_, g, rfl, 0, rfl⟩, ta, tb, rfl⟩
  obtain ⟨f, hf⟩ := Classical.axiomOfChoice X
  exact ⟨fun k => (f k).1, fun k => (f k).2, fun k p e => hf k p e⟩
theorem makeGenT {c P x D : Addr} {dc : Option Addr} {ps : List (List Nat × List Nat)} {env : Env} {elt iter : Expr} {xa xb : Str} {pa pb pt : Pos} {kt : Nat} {scope : Scope} {cl : List (Str × Addr)} {pos : Pos} {Q : Value → Shared → Prop} {E : Value → Shared → Prop} {F : Nat → Value → Prop}
    (hC : C.Is K) (hKP : K.lookup P = none) (hgt : (c, P) ∈ C.gt) (hc : env.code = .ref c) (hge : env.globals = mainGlobals) (hh : A.handled = none) (hroom : A.depth < recursionLimit)
    (hco : scope.isCoroutine = false) (hclos : closureFor scope env = pure cl) (hcell : ∀ y ∈ scope.names, y.2 ≠ .cell) (h0 : scope.names.lookup (".0" : Str) = some NameKind.local)
    (hxa : scope.names.lookup xa = some .local) (hxb : scope.names.lookup xb = some .local) (hab : xa ≠ xb) (hkind : scope.kind = .function)
    (hx : (x, AO.seq (.ref D) dc (ps.map pairV)) ∈ σ) (hml : mroIn K D (.type "list") = some true) (hf : findIn K (.ref D) "__iter__" = some (some (.builtin "list.__iter__")))
    (hit : Tr C VR A σ (eval iter env) (fun v σ' => v = .ref x ∧ σ' = σ)) (hq : ∀ (L : Addr) (code : Value), QElt C (genEnv scope cl L code builtinsNs env) xa xb elt ps F) (hs : ∀ x, genFold iter env x = pure x)
    (H : HR C σ s) (h : ∀ a s₅, GenW C A σ s.heap a ps.length F s₅ → Q (.ref a) s₅) :
    wpAny (model C.prog C.w) A (eval (.GeneratorExp elt [⟨.Tuple [.Name xa pa, .Name xb pb] kt pt, iter, [], 0⟩] scope pos) env) Q E s := by
  refine wpAny_GeneratorExp_walksQT hh hco hclos hcell h0 hxa hxb hab hkind hroom ?_ hs
  refine (hit s H).run fun xv s₁ v σ₁ H₁ r₁ k₁ q₁ => ?_
  obtain ⟨rfl, rfl⟩ := q₁
  cases vr_ref.mp r₁
  refine (it_seq (Q := fun v σ' => ∃ I, v = .ref I ∧ σ' = (I, AO.lit x 0) :: σ₁) hC hx hml hf (fun a => ⟨a, rfl, rfl⟩) s₁ _ H₁ rfl).run fun it s₂ v σ₂ H₂ r₂ k₂ q₂ => ?_
  obtain ⟨I, rfl, rfl⟩ := q₂
  cases vr_ref.mp r₂
  refine ⟨H₂.bg.nl, genCode_ hC hKP hgt hc H₂ fun code h₃ tk₃ hx₃ hsz₃ H₃ k₃ => ?_⟩
  obtain ⟨bm, ob, hb, hne, hne2, g0, hcls, hdict, hdata⟩ := hC.bm
  refine wpAny_builtinsFor (hge ▸ H₃.bg.gl) hb hne (H₃.bg.old.get_of_cls g0 (by rw [hcls]; decide)) hcls hdict hdata ?_
  obtain ⟨oI, gI, plI, cI, dI⟩ := H₃.own _ (List.Mem.head _)
  obtain ⟨ox, vs, nx, gx, cx, dx, dt, rx⟩ := seqOf H₃ (.tail _ hx)
  obtain ⟨Ts, vals, hT⟩ := pairs_at rx
  have fI := H₃.fresh _ (List.Mem.head _)
  have hlen : vs.length = ps.length := by rw [rx.length, List.length_map]
  have hsz : vs.toArray.size = ps.length := by rw [List.size_toArray, hlen]
  have at_ : ∀ k, k < vs.toArray.size → ∃ p, ps[k]? = some p := fun k hk => ⟨_, List.getElem?_eq_getElem (hsz ▸ hk)⟩
  have ndI : I ∉ σ₁.map Prod.fst := by have := H₃.nd; rw [List.map_cons] at this; exact (List.nodup_cons.mp this).1
  have hxI : x ≠ I := fun e => ndI (e ▸ List.mem_map_of_mem hx)
  have hTI : ∀ k, k < vs.toArray.size → Ts k ≠ I := fun k hk e => by
    obtain ⟨p, hp⟩ := at_ k hk
    obtain ⟨_, ⟨o, g, cc, n, dd⟩, _⟩ := hT k p hp
    rw [e] at g
    have := gI.symm.trans g
    cases this
    exact plI ⟨cc, _, n, dd⟩
  have W : ∀ A' : Around, A'.handled = none → _ := fun A' hA' => (walksSq (prog := C.prog) (w := C.w) hA' I x hxI vs.toArray Ts vals (fun j hj => by
    obtain ⟨p, hp⟩ := at_ j hj
    rw [List.getElem?_toArray]; exact (hT j p hp).1) hTI).bound
  refine ⟨I, _, _, _, _, _, _, fun _ => true, F, rfl, W, ?_, ?_, ?_, H₃.bg.nl, ?_, ?_, ?_⟩
  · rintro i vls ⟨hi, rfl⟩
    obtain ⟨p, hp⟩ := at_ i hi
    obtain ⟨_, _, ta, tb, e⟩ := hT i p hp
    exact ⟨_, _, e⟩
  · exact ⟨⟨oI, gI, cI, dI⟩, ⟨ox, nx, gx, dt⟩, fun k hk => by obtain ⟨p, hp⟩ := at_ k hk; exact (hT k p hp).2.1⟩
  · intro b hb
    rcases List.mem_cons.mp hb with rfl | hb
    · exact Heap.lt_size gI
    rcases List.mem_cons.mp hb with rfl | hb
    · exact Heap.lt_size gx
    obtain ⟨k, hk, rfl⟩ := List.mem_map.mp hb
    obtain ⟨p, hp⟩ := at_ k (List.mem_range.mp hk)
    obtain ⟨_, ⟨o, g, _⟩, _⟩ := hT k p hp
    exact Heap.lt_size g
  · intro hm
    rw [List.mem_singleton] at hm
    exact H₃.bg.low.s (by rw [hm]; exact fI.1)
  · intro href hhref
    refine ⟨fun A' E' i va vb s₂' m₂ hA' hp hn e1 e2 hk => ?_, fun A' E' i va vb s₂' m₂ hA' hp _ hn e1 e2 hk => ?_⟩
    · exact wpAny_pure ⟨rfl, s₂'.heap, s₂'.toks, rfl, fun _ _ e => e⟩
    · obtain ⟨hi, e⟩ := hp
      obtain ⟨p, hp⟩ := at_ i hi
      obtain ⟨_, _, ta, tb, e'⟩ := hT i p hp
      rw [e'] at e
      injection e with e
      injection e with ea e
      injection e with eb e
      subst ea; subst eb
      refine hq _ code A' E' i p ta tb s₂' m₂ hA' ?_ hp hn e1 e2
      refine H₃.bg.extL (wr := [I]) (fun a ha => by rw [List.mem_singleton] at ha; rw [ha]; exact fI) fun b o hb e => hk b (List.mem_range.mpr (Heap.lt_size e)) hb o (hhref b o e)
  · intro a h₅ tk gs hbare hlt hsz₅ hk₅ W5 hat
    rw [hsz] at hat
    rw [passing_all, List.length_range, hsz] at W5
    have W6 := weakS (P' := F) W5 (fun i v hv => by
      obtain ⟨j, hj, hF⟩ := hv
      obtain ⟨_, e⟩ := List.getElem?_eq_some_iff.mp hj
      rw [List.getElem_range] at e
      rw [e]; exact hF)
    refine h a _ ⟨_, _, _, _, W6, hat, fun i s' st => st.1.typeIs, List.mem_cons_self, ?_, ?_⟩
    · intro b hb
      show b < h₅.objs.size
      rw [hsz₅]
      rcases List.mem_cons.mp hb with rfl | hb
      · exact Nat.lt_succ_self _
      · rcases List.mem_cons.mp hb with rfl | hb
        · exact Nat.lt_succ_of_lt hlt
        · exact Nat.lt_succ_of_lt (Nat.lt_trans (List.mem_range.mp hb) hlt)
    · intro s' hs' hg ho
      have H₄ : HR C σ₁ { s₂ with heap := h₃, toks := tk₃ } := H₃.sub (List.sublist_cons_self _ _)
      have hb : AllBare s'.gens := AllBare.moved (AllBare.push H₄.gens.1 hbare) hg
      have X := H₄.extL (s' := s') (wr := [h₃.objs.size, I]) (fun b hb => ?_) (fun b hb => ?_) (fun b hb o e => ?_) (fun b o hb e => ?_) ⟨hb, fun i y hi => ?_⟩ (by rw [ho])
      · exact ⟨X.1, (k₁.trans k₂).trans (k₃.trans X.2)⟩
      · rcases List.mem_cons.mp hb with rfl | hb
        · exact H₄.bg.new (Nat.le_refl _)
        · rw [List.mem_singleton] at hb; rw [hb]; exact fI
      · rcases List.mem_cons.mp hb with rfl | hb
        · exact H₄.notNew (Nat.le_refl _)
        · rw [List.mem_singleton] at hb; rw [hb]; exact ndI
      · rcases List.mem_cons.mp hb with rfl | hb
        · exact absurd (Heap.lt_size e) (Nat.lt_irrefl _)
        · rw [List.mem_singleton] at hb; subst hb
          have := gI.symm.trans e
          cases this; exact plI
      · exact hs' b o (by simpa using hb) (hk₅ b o e)
      · have h1 := H₄.gens.2 i y hi
        have hlt : i < s₂.gens.size := (Array.getElem?_eq_some_iff.mp h1).1
        have h2 : (s₂.gens.push gs)[i]? = some y := by rw [Array.getElem?_push, if_neg (Nat.ne_of_lt hlt)]; exact h1
        rcases hg with e | ⟨⟨_, hk⟩, _⟩
        · rw [e]; exact h2
        · rw [hk i (Nat.ne_of_lt hlt)]; exact h2
end
end Mine
end
section
open PySem PySem.W PySem.Calls PyProof.Rows PySem.Spec
set_option Elab.async false
set_option maxRecDepth 100000
set_option linter.unusedVariables false
namespace Mine
section
variable {prog : Program} {w : World} {A : Around} {E : Value → Shared → Prop} {s : Shared} {env : Env} {pos : Pos} {Q : Value → Shared → Prop} {Ql : List Value → Shared → Prop}
theorem q_nil (h : Ql [] s) : wpAny (model prog w) A (spliced (backTo pos (starEach [] env))) Ql E s := wpAny_pure h
theorem q_cons {e : Expr} {es : List Expr} (h : wpAny (model prog w) A (eval e env) (fun v s₁ => wpAny (model prog w) A (spliced (backTo pos (starEach es env))) (fun vs s₂ => Ql (v :: vs) s₂) E s₁) E s)
    (hs : starEach (e :: es) env = (false, eval e env) :: starEach es env := by rfl) : wpAny (model prog w) A (spliced (backTo pos (starEach (e :: es) env))) Ql E s := by
  rw [hs]
  show wpAny _ _ (spliced ((false, eval e env) :: backTo pos (starEach es env))) _ _ s
  unfold spliced
  refine wpAny_bind (wpAny_mono h (fun v s₁ h₁ => ?_) fun _ _ x => x)
  exact wpAny_bind (wpAny_pure (wpAny_bind (wpAny_holding (wpAny_mono h₁ (fun vs s₂ h₂ => wpAny_pure h₂) fun _ _ x => x))))
theorem q_call {f : Expr} {as : List Expr} {C : Cx} (h : wpAny (model C.prog C.w) A (eval f env) (fun fv s₁ => wpAny (model C.prog C.w) A (spliced (backTo pos (starEach as env))) (fun vs s₂ => (∃ k, Looks (model C.prog C.w) s₂.heap (keeperOf fv) k) ∧ wpAny (model C.prog C.w) A (call fv vs) Q E s₂) E s₁) E s)
    (he : eval (.Call f as [] pos) env = (do callWith pos (← eval f env) [] (backTo pos (starEach as env)) []) := by rfl) (hs : (starEach as env).all (fun x => !x.1) = true := by rfl) : wpAny (model C.prog C.w) A (eval (.Call f as [] pos) env) Q E s := by
  rw [he]
  exact wpAny_bind (wpAny_mono h (fun fv s₁ h₁ => callWith_ hs h₁) fun _ _ x => x)
theorem q_meth {o : Expr} {name : Str} {ap : Pos} {as : List Expr} {C : Cx}
    (h : wpAny (model C.prog C.w) A (eval o env) (fun ov s₁ => ∀ pl, wpAny (model C.prog C.w) A (getMethod ov name pl) (fun p s₂ => wpAny (model C.prog C.w) A (spliced (backTo pos (starEach as env))) (fun vs s₃ => (∃ k, Looks (model C.prog C.w) s₃.heap (keeperOf p.1) k) ∧ wpAny (model C.prog C.w) A (call p.1 (p.2 ++ vs)) Q E s₃) E s₂) E s₁) E s)
    (hb : attributeBase o name env (eval o env) = eval o env := by rfl) (hl : (ap.endLine == pos.line) = true := by rfl) (hs : (starEach as env).all (fun x => !x.1) = true := by rfl)
    (hf : methodCallForm (as.length + ([] : List Keyword).length) (backTo pos (starEach as env)) (backToKw pos (keywordEach [] env)) = true := by rfl) :
    wpAny (model C.prog C.w) A (eval (.Call (.Attribute o name ap) as [] pos) env) Q E s := by
  have e : eval (.Call (.Attribute o name ap) as [] pos) env = (do
      let ov ← attributeBase o name env (eval o env)
      standAt ap.atName
      methodCall o name ap pos env ov (as.length + ([] : List Keyword).length) (backTo pos (starEach as env)) (backToKw pos (keywordEach [] env))) := rfl
  rw [e, hb]
  refine wpAny_bind (wpAny_mono h (fun ov s₁ h₁ => wpAny_bind (wpAny_standAt ?_)) fun _ _ x => x)
  unfold methodCall
  rw [hf]
  refine wpAny_bind (wpAny_holding ?_)
  show wpAny _ A (getMethod ov name _) _ _ s₁
  refine wpAny_mono (h₁ _) (fun p s₂ h₂ => ?_) fun _ _ x => x
  obtain ⟨fv, first⟩ := p
  have ep : methodCallPos true o env ap pos = pure pos := by unfold methodCallPos; rw [hl]; rfl
  show wpAny _ A (methodCallPos true o env ap pos >>= _) _ _ s₂
  rw [ep]
  exact wpAny_bind (wpAny_pure (callWith_ hs h₂))
theorem q_loc {x : Str} {p : Pos} {m : Str → Option Value} {v : Value} (hn : s.heap.Ns env.locals m) (hv : m x = some v) (h : Q v s) (hk : env.scope.kind = .function := by rfl) (hl : env.kindOf x = some .local := by rfl) (hd : (x == ("__debug__" : Str)) = false := by decide) :
    wpAny (model prog w) A (eval (.Name x p) env) Q E s := wpAny_Name (wpAny_loadName_local hk hl hn hv h) hd
theorem q_built {C : Cx} {K : Frag} {x : Str} {p : Pos} {u : Value} (hC : C.Is K) (B : Bg C s.heap) (e : nsIn K mainGlobals x = some none) (e' : bootBuiltins x = some u) (hn : x ≠ "__name__") (h : Q u s) (hg : env.globals = mainGlobals := by rfl) (hb : env.builtins = builtinsNs := by rfl)
    (hk : env.scope.kind = .function := by rfl) (hx : env.kindOf x = some .globalImplicit := by rfl) (hd : (x == ("__debug__" : Str)) = false := by decide) : wpAny (model prog w) A (eval (.Name x p) env) Q E s :=
  Name_function_global hk hx (loadGlobal_builtin (hg ▸ B.gl) (hC.globN _ e) (hb ▸ B.bl) ((hC.blt x hn).trans e') h) hd
theorem q_glob {C : Cx} {K : Frag} {x : Str} {p : Pos} {u : Value} (hC : C.Is K) (B : Bg C s.heap) (e : nsIn K mainGlobals x = some (some u)) (h : Q u s) (hg : env.globals = mainGlobals := by rfl)
    (hk : env.scope.kind = .function := by rfl) (hx : env.kindOf x = some .globalImplicit := by rfl) (hd : (x == ("__debug__" : Str)) = false := by decide) : wpAny (model prog w) A (eval (.Name x p) env) Q E s :=
  Name_function_global hk hx (loadGlobal_global (hg ▸ B.gl) (hC.glob _ _ e) h) hd
theorem q_bin {l r : Expr} {op : Operator} (h : wpAny (model prog w) A (eval l env) (fun a s₁ => wpAny (model prog w) A (eval r env) (fun b s₂ => wpAny (model prog w) A (binaryOp op a b) Q E s₂) E s₁) E s) : wpAny (model prog w) A (eval (.BinOp l op r pos) env) Q E s :=
  wpAny_BinOp h
end
section
variable {C : Cx} {K : Frag}
theorem qe_lens {cenv : Env} {xa xb : Str} {p1 p2 p3 p4 p5 p6 p7 : Pos} {ps : List (List Nat × List Nat)} (hC : C.Is K) (hz : ∀ p ∈ ps, p.1.length ≤ 1000000 ∧ p.2.length ≤ 1000000)
    (e : nsIn K mainGlobals "len" = some none) (hg : cenv.globals = mainGlobals := by rfl) (hb : cenv.builtins = builtinsNs := by rfl)
    (hk : cenv.scope.kind = .function := by rfl) (hx : cenv.kindOf "len" = some .globalImplicit := by rfl) (ha : cenv.kindOf xa = some .local := by rfl) (hb' : cenv.kindOf xb = some .local := by rfl) (hda : (xa == ("__debug__" : Str)) = false := by decide) (hdb : (xb == ("__debug__" : Str)) = false := by decide) :
    QElt C cenv xa xb (.BinOp (.Call (.Name "len" p1) [.Name xa p2] [] p3) .Add (.Call (.Name "len" p4) [.Name xb p5] [] p6) p7) ps (fun i y => ∀ p, ps[i]? = some p → ∃ t, y = .int (p.1.length + p.2.length : Nat) t) := by
  intro A' E' i p ta tb s m hA B hp hn e1 e2
  have hm := hz p (List.mem_of_getElem? hp)
  refine q_bin (q_call (q_built hC B e (by boot_by_name) (by decide) (q_cons (q_loc hn e1 (q_nil ⟨⟨.machine, Looks.of_pure rfl⟩, ?_⟩) hk ha hda)) hg hb hk hx))
  refine PySem.P.len_str (by rw [S_len]; lia) ?_
  refine q_call (q_built hC B e (by boot_by_name) (by decide) (q_cons (q_loc hn e2 (q_nil ⟨⟨.machine, Looks.of_pure rfl⟩, ?_⟩) hk hb' hdb)) hg hb hk hx)
  refine PySem.P.len_str (by rw [S_len]; lia) ?_
  refine PyProof.Rows.add_int ?_
  refine ⟨fun p' hp' => ?_, _, _, rfl, fun _ _ e => e⟩
  rw [hp] at hp'; cases hp'
  rw [S_len, S_len, ← Int.natCast_add]
  exact ⟨_, rfl⟩
theorem qe_join {cenv : Env} {xa xb : Str} {p1 p2 p3 p4 p5 p6 : Pos} {kk : Nat} {tE : Tok} {ps : List (List Nat × List Nat)} (hC : C.Is K) (hz : ∀ p ∈ ps, p.1.length ≤ 1000000 ∧ p.2.length ≤ 1000000)
    (e : nsIn K mainGlobals "EMPTYSTRING" = some (some (.str (S []) tE))) (hl : (p2.endLine == p6.line) = true) (hg : cenv.globals = mainGlobals := by rfl)
    (hk : cenv.scope.kind = .function := by rfl) (hx : cenv.kindOf "EMPTYSTRING" = some .globalImplicit := by rfl) (ha : cenv.kindOf xa = some .local := by rfl) (hb' : cenv.kindOf xb = some .local := by rfl) (hda : (xa == ("__debug__" : Str)) = false := by decide) (hdb : (xb == ("__debug__" : Str)) = false := by decide) :
    QElt C cenv xa xb (.Call (.Attribute (.Name "EMPTYSTRING" p1) "join" p2) [.Tuple [.Name xa p3, .Name xb p4] kk p5] [] p6) ps (fun i y => ∀ p, ps[i]? = some p → ∃ t, y = .str (S (p.1 ++ p.2)) t) := by
  intro A' E' i p ta tb s m hA B hp hn e1 e2
  have hm := hz p (List.mem_of_getElem? hp)
  refine q_meth (q_glob hC B e (fun pl => GM.join ?_) hg hk hx) rfl hl
  refine q_cons ?_
  show wpAny _ _ (standAt p5 >>= fun _ => spliced (backTo p5 (starEach [.Name xa p3, .Name xb p4] cenv)) >>= newTuple) _ _ s
  refine wpAny_bind (wpAny_standAt (wpAny_bind (q_cons (q_loc hn e1 (q_cons (q_loc hn e2 (q_nil ?_) hk hb' hdb)) hk ha hda))))
  refine wpAny_newObj_type ?_ (by size_fits)
  refine q_nil ⟨⟨.machine, Looks.of_pure rfl⟩, ?_⟩
  have hz' := join_ok (n := 0) (sep := S []) (l := [S p.1, S p.2]) (by simp [S_len]; lia)
  refine call_meets PySem.F.slot_str_join (typeIs_str _ _ _) PySem.F.entry_str_join (PySem.F.args_str_join_2 _ _) (meets_str_join_tuple (S []) tE _ [(S p.1, ta), (S p.2, tb)] hz')
    ⟨⟨_, _, Heap.get?_push_size _ rfl, rfl, rfl⟩, post_join [(S p.1, ta), (S p.2, tb)] ⟨joinFit_length hz', fun t' k => ?_⟩⟩
  refine ⟨fun p' hp' => ?_, _, _, rfl, fun _ _ e => Heap.get?_push_of_some _ e⟩
  rw [hp] at hp'; cases hp'
  refine ⟨t', ?_⟩
  have : Txt.join (S []) [S p.1, S p.2] = S (p.1 ++ p.2) := by
    apply Str.ext'
    apply Array.toList_inj.mp
    rw [S_cps]
    show (((S p.1).cps ++ (S []).cps ++ (S p.2).cps)).toList = _
    simp [S]
  exact congrArg (fun z => Value.str z t') this
end
end Mine
end
section
open PySem PySem.W PySem.Calls PyProof.Rows PySem.Spec
set_option Elab.async false
set_option maxRecDepth 100000
set_option linter.unusedVariables false
namespace Mine
theorem boundS {prog : Program} {w : World} {A : Around} {I : Addr} {fp wr : List Addr} {G : Array GenState → Array GenState → Prop} {n : Nat} {P : Nat → Value → Prop} {St : Nat → Shared → Prop}
    (W : WalksS prog w A I fp wr G n P St) : WalksS prog w A I fp wr G n (fun i v => i < n ∧ P i v) St where
  sub := W.sub
  grefl := W.grefl
  gtrans := W.gtrans
  frame := W.frame
  item := fun i s Q E hi st hQ => W.item i s Q E hi st fun v s' hp st' hm => hQ v s' ⟨hi, hp⟩ st' hm
  done := W.done
  self := W.self
noncomputable def pLen (ps : List (List Nat × List Nat)) : Nat := (ps.map fun p => p.1.length + p.2.length).sum
noncomputable def pCat (ps : List (List Nat × List Nat)) : List Nat := (ps.map fun p => p.1 ++ p.2).flatten
theorem pCat_len (ps : List (List Nat × List Nat)) : (pCat ps).length = pLen ps := by
  induction ps with
  | nil => rfl
  | cons p r ih => simp only [pCat, pLen, List.map_cons, List.flatten_cons, List.length_append, List.sum_cons] at ih ⊢; lia
theorem pLen_mem {ps : List (List Nat × List Nat)} {p : List Nat × List Nat} (h : p ∈ ps) : p.1.length + p.2.length ≤ pLen ps := by
  induction ps with
  | nil => cases h
  | cons q r ih =>
    simp only [pLen, List.map_cons, List.sum_cons] at ih ⊢
    rcases List.mem_cons.mp h with rfl | h
    · lia
    · have := ih h; lia
noncomputable def pVal (ps : List (List Nat × List Nat)) (i : Nat) : Int := match ps[i]? with
  | some p => ((p.1.length + p.2.length : Nat) : Int)
  | none => 0
theorem preSum_take (ps : List (List Nat × List Nat)) : ∀ k, k ≤ ps.length → preSum (pVal ps) k = (pLen (ps.take k) : Nat)
  | 0, _ => rfl
  | k + 1, h => by
    have e : ps[k]? = some (ps[k]'(by lia)) := List.getElem?_eq_getElem (by lia)
    rw [preSum, preSum_take ps k (by lia), List.take_add_one, e]
    simp only [pVal, e, pLen, List.map_append, List.sum_append, Option.toList_some, List.map_cons, List.map_nil, List.sum_cons, List.sum_nil]
    lia
section
variable {C : Cx} {K : Frag} {A : Around} {σ : Led} {x D d : Addr} {name : Str} {ks : List Str} {vs : List (Option V)} {v : V} {expr : Bool} {l : List V}
theorem a_ownLq {s : Shared} {P : Value → Shared → Prop} {E : Value → Shared → Prop} (hC : C.Is K) (H : HR C σ s) (hx : (x, AO.seq (.ref D) (some d) l) ∈ σ) (hd : (d, AO.attrs ks vs) ∈ σ) (hv : At name v ks vs) (hml : mroIn K D (.type "list") = some true) (hga : findIn K (.ref D) "__getattribute__" = some (some (.builtin "list.__getattribute__")))
    (hk : findIn K (.ref D) "__getattr__" = some none) (hh : hasDictIn K D = true) (ha : (findIn K (.ref D) name == some none) = true) (hb : noBi v = true) (h : ∀ w, VR s.heap v w → P w { s with toks := s.toks + 1 }) :
    wpAny (model C.prog C.w) A (getAttr (.ref x) name expr) P E s := by
  obtain ⟨hh', gg, dr, t, os⟩ := s
  obtain ⟨ox, es, n, I, _, _, nd, _, r⟩ := instOf H (isI_seq hx) hd
  obtain ⟨w, g, rw'⟩ := r.get nd hv
  have X : K.In hh' := hC.isK ▸ H.bg.kin
  have hf : findObj K D (some (dictOf es n)) name = some (.value w) := findObj_own hh (beq_iff_eq.mp ha) rfl (by rw [lookIn_dict]; exact g)
  have hand : handedIn w = true := handed_vr rw' fun i e => by subst e; cases hb
  have fin : P w ⟨hh', gg, dr, t + 1, os⟩ := h w rw'
  obtain ⟨ox', vs', n', g', c', _, dt, _⟩ := seqOf H hx
  have IL : Looks (model C.prog C.w) hh' (isInstance (.ref x) (.type "list")) true := (listTy_cls hC hml).inst _ _ _ H.bg.kin g' c'
  have L0 := I.type (M := model C.prog C.w)
  have L1 := looks_find (M := model C.prog C.w) X I hf
  unfold getAttr getAttrBy
  refine wpAny_bind (wpAny_mkText (wpAny_holding (wpAny_bind (L0.at (wpAny_bind ((looks_findIn X hga).at ?_))))))
  show wpAny _ _ (getAttrByItsOwn (.ref x) (.str name t) (.ref D) (.builtin "list.__getattribute__") true expr) _ _ _
  unfold getAttrByItsOwn
  refine wpAny_bind ((looks_hook X (r := none) (by rw [if_pos (by rfl)]; exact hk)).at ?_)
  refine wpAny_bind (wpAny_attempt (wpAny_holding ?_))
  unfold callGetattribute boundAndCalled
  rw [if_neg (by cases expr <;> decide)]
  refine wpAny_bind (wpAny_of_eq (slot_lga.bind _) ?_)
  refine wpAny_mono (Q := fun v' s' => v' = w ∧ s' = ⟨hh', gg, dr, t + 1, os⟩) (E := fun _ _ => False)
    (call_self (owner := "list") (n := "__getattribute__") (.inr (by decide +kernel)) (by decide +kernel) (by decide +kernel) PySem.F.entry_list_ga (args_lga _ _) IL ?_) (fun v' s' hv' => ?_) fun _ _ z => z.elim
  · refine wpAny_bind (wpAny_pure (wpAny_bind (wpAny_pure (wpAny_bind (L0.at (wpAny_bind (L1.at ?_)))))))
    exact wpAny_pure ⟨w, rfl, rfl, rfl⟩
  · obtain ⟨rfl, rfl⟩ := hv'
    dsimp only
    rw [handedOut_of hand]
    exact wpAny_pure fin
theorem q_attr {env : Env} {pos : Pos} {o : Expr} {attr : Str} {s : Shared} {P : Value → Shared → Prop} {E : Value → Shared → Prop} (h : wpAny (model C.prog C.w) A (eval o env) (fun ov s₁ => wpAny (model C.prog C.w) A (getAttr ov attr true) P E s₁) E s) (hb : attributeBase o attr env (eval o env) = eval o env := by rfl) : wpAny (model C.prog C.w) A (eval (.Attribute o attr pos) env) P E s := by
  have e : eval (.Attribute o attr pos) env = (do
    let ov ← attributeBase o attr env (eval o env)
    standAt pos.atName
    let r ← holding [ov] (getAttr ov attr true)
    letTemporaryGo o ov r
    pure r) := rfl
  rw [e, hb]
  exact wpAny_bind (wpAny_mono h (fun ov s₁ h₁ => wpAny_bind (wpAny_standAt (wpAny_bind (wpAny_holding (wpAny_mono h₁ (fun b s₂ h₂ => wpAny_bind (wpAny_letTemporaryGo (wpAny_pure h₂))) fun _ _ x => x))))) fun _ _ x => x)
theorem e_sumgen {c P : Addr} {ps : List (List Nat × List Nat)} {env : Env} {elt iter o : Expr} {attr : Str} {xa xb : Str} {pa pb pt p1 p2 : Pos} {kt : Nat} {scope : Scope} {cl : List (Str × Addr)} {pos gp : Pos} {Q : V → Led → Prop} {z : Int}
    (hC : C.Is K) (hKP : K.lookup P = none) (hgt : (c, P) ∈ C.gt) (hc : env.code = .ref c) (hge : env.globals = mainGlobals) (hgb : env.builtins = builtinsNs) (hh : A.handled = none) (hroom : A.depth < recursionLimit)
    (hco : scope.isCoroutine = false) (hclos : closureFor scope env = pure cl) (hcell : ∀ y ∈ scope.names, y.2 ≠ .cell) (h0 : scope.names.lookup (".0" : Str) = some NameKind.local)
    (hxa : scope.names.lookup xa = some .local) (hxb : scope.names.lookup xb = some .local) (hab : xa ≠ xb) (hkind : scope.kind = .function)
    (hx : (x, AO.seq (.ref D) (some d) (ps.map pairV)) ∈ σ) (hml : mroIn K D (.type "list") = some true) (hf : findIn K (.ref D) "__iter__" = some (some (.builtin "list.__iter__")))
    (hd : (d, AO.attrs ks vs) ∈ σ) (hv : At attr (.int z) ks vs) (hga : findIn K (.ref D) "__getattribute__" = some (some (.builtin "list.__getattribute__")))
    (hk : findIn K (.ref D) "__getattr__" = some none) (hhd : hasDictIn K D = true) (ha : (findIn K (.ref D) attr == some none) = true)
    (hit : Tr C VR A σ (eval iter env) (fun v σ' => v = .ref x ∧ σ' = σ)) (hq : ∀ (L : Addr) (code : Value), QElt C (genEnv scope cl L code builtinsNs env) xa xb elt ps (fun i y => ∀ p, ps[i]? = some p → ∃ t, y = .int (p.1.length + p.2.length : Nat) t)) (hs : ∀ x, genFold iter env x = pure x)
    (ho : ∀ s (P : Value → Shared → Prop) (E : Value → Shared → Prop), HR C σ s → P (.ref x) s → wpAny (model C.prog C.w) A (eval o env) P E s) (hab' : attributeBase o attr env (eval o env) = eval o env)
    (he : nsIn K mainGlobals "sum" = some none) (hkk : env.scope.kind = .function) (hxx : env.kindOf "sum" = some .globalImplicit)
    (hse : starEach [.GeneratorExp elt [⟨.Tuple [.Name xa pa, .Name xb pb] kt pt, iter, [], 0⟩] scope gp, .Attribute o attr p2] env = [(false, eval (.GeneratorExp elt [⟨.Tuple [.Name xa pa, .Name xb pb] kt pt, iter, [], 0⟩] scope gp) env), (false, eval (.Attribute o attr p2) env)])
    (hev : eval (.Call (.Name "sum" p1) [.GeneratorExp elt [⟨.Tuple [.Name xa pa, .Name xb pb] kt pt, iter, [], 0⟩] scope gp, .Attribute o attr p2] [] pos) env = (do callWith pos (← eval (.Name "sum" p1) env) [] (backTo pos (starEach [.GeneratorExp elt [⟨.Tuple [.Name xa pa, .Name xb pb] kt pt, iter, [], 0⟩] scope gp, .Attribute o attr p2] env)) []))
    (h : Q (.int (z + pLen ps)) σ) : Tr C VR A σ (eval (.Call (.Name "sum" p1) [.GeneratorExp elt [⟨.Tuple [.Name xa pa, .Name xb pb] kt pt, iter, [], 0⟩] scope gp, .Attribute o attr p2] [] pos) env) Q := by
  intro s H
  refine q_call (q_built hC H.bg he (by boot_by_name) (by decide) ?_ hge hgb hkk hxx) hev (by rw [hse]; rfl)
  refine q_cons ?_ hse
  refine makeGenT hC hKP hgt hc hge hh hroom hco hclos hcell h0 hxa hxb hab hkind hx hml hf hit hq hs H fun a s₅ W => ?_
  refine q_cons (q_attr (ho _ _ _ W.hr.1 (a_ownLq hC W.hr.1 hx hd hv hml hga hk hhd ha rfl fun wz rz => ?_)) hab')
  obtain ⟨tz, rfl⟩ := vr_int.mp rz
  refine q_nil ⟨⟨.machine, Looks.of_pure rfl⟩, ?_⟩
  obtain ⟨fp, wr, g, St, W, st, hT, haf, hfp, hcl⟩ := W
  refine call_sum2 (W.in4_1.self 0 _ _ _ (W.frame 0 s₅ s₅.heap (s₅.toks + 1) st (Nat.le_succ _) fun _ _ _ e => e) ?_)
  refine ⟨a, fp, wr, GenOnlyQ g, ps.length, _, St, pVal ps, rfl, boundS W.in4_1, W.frame 0 s₅ s₅.heap (s₅.toks + 1) st (Nat.le_succ _) fun _ _ _ e => e, hfp, ?_, ?_⟩
  · rintro i v ⟨hi, hv⟩
    have e : ps[i]? = some ps[i] := List.getElem?_eq_getElem hi
    obtain ⟨t, rfl⟩ := hv _ e
    exact ⟨t, by simp only [pVal, e]⟩
  · intro s' t' hm
    obtain ⟨H', tk⟩ := hcl s' hm.heap hm.gens hm.os
    refine ⟨_, σ, H', vr_int.mpr ⟨t', rfl⟩, tk, ?_⟩
    rw [preSum_take ps _ (Nat.le_refl _), List.take_length]; exact h
theorem e_joingen {c P : Addr} {dc : Option Addr} {ps : List (List Nat × List Nat)} {env : Env} {elt iter : Expr} {G : Str} {xa xb : Str} {pa pb pt p1 p2 : Pos} {kt : Nat} {scope : Scope} {cl : List (Str × Addr)} {pos gp : Pos} {Q : V → Led → Prop} {tE : Tok}
    (hC : C.Is K) (hKP : K.lookup P = none) (hgt : (c, P) ∈ C.gt) (hc : env.code = .ref c) (hge : env.globals = mainGlobals) (hh : A.handled = none) (hroom : A.depth < recursionLimit)
    (hco : scope.isCoroutine = false) (hclos : closureFor scope env = pure cl) (hcell : ∀ y ∈ scope.names, y.2 ≠ .cell) (h0 : scope.names.lookup (".0" : Str) = some NameKind.local)
    (hxa : scope.names.lookup xa = some .local) (hxb : scope.names.lookup xb = some .local) (hab : xa ≠ xb) (hkind : scope.kind = .function)
    (hx : (x, AO.seq (.ref D) dc (ps.map pairV)) ∈ σ) (hml : mroIn K D (.type "list") = some true) (hf : findIn K (.ref D) "__iter__" = some (some (.builtin "list.__iter__")))
    (hit : Tr C VR A σ (eval iter env) (fun v σ' => v = .ref x ∧ σ' = σ)) (hq : ∀ (L : Addr) (code : Value), QElt C (genEnv scope cl L code builtinsNs env) xa xb elt ps (fun i y => ∀ p, ps[i]? = some p → ∃ t, y = .str (S (p.1 ++ p.2)) t)) (hs : ∀ x, genFold iter env x = pure x)
    (he : nsIn K mainGlobals G = some (some (.str (S []) tE))) (hkk : env.scope.kind = .function) (hxx : env.kindOf G = some .globalImplicit) (hd : (G == ("__debug__" : Str)) = false)
    (hse : starEach [.GeneratorExp elt [⟨.Tuple [.Name xa pa, .Name xb pb] kt pt, iter, [], 0⟩] scope gp] env = [(false, eval (.GeneratorExp elt [⟨.Tuple [.Name xa pa, .Name xb pb] kt pt, iter, [], 0⟩] scope gp) env)])
    (hl : (p2.endLine == pos.line) = true) (hmf : methodCallForm ([Expr.GeneratorExp elt [⟨.Tuple [.Name xa pa, .Name xb pb] kt pt, iter, [], 0⟩] scope gp].length + ([] : List Keyword).length) (backTo pos (starEach [.GeneratorExp elt [⟨.Tuple [.Name xa pa, .Name xb pb] kt pt, iter, [], 0⟩] scope gp] env)) (backToKw pos (keywordEach [] env)) = true)
    (hz : ps.length ≤ 1000000) (hz2 : pLen ps ≤ 1000000)
    (h : Q (.str (Txt.join (S []) (ps.map fun p => S (p.1 ++ p.2)))) σ) : Tr C VR A σ (eval (.Call (.Attribute (.Name G p1) "join" p2) [.GeneratorExp elt [⟨.Tuple [.Name xa pa, .Name xb pb] kt pt, iter, [], 0⟩] scope gp] [] pos) env) Q := by
  intro s H
  refine q_meth (q_glob hC H.bg he (fun pl => GM.join ?_) hge hkk hxx hd) rfl hl (by rw [hse]; rfl) hmf
  refine q_cons ?_ hse
  refine makeGenT hC hKP hgt hc hge hh hroom hco hclos hcell h0 hxa hxb hab hkind hx hml hf hit hq hs H fun a s₅ W => ?_
  refine q_nil ⟨⟨.machine, Looks.of_pure rfl⟩, ?_⟩
  obtain ⟨fp, wr, g, St, W, st, hT, haf, hfp, hcl⟩ := W
  refine SC.joinGen (weakS (P' := fun i y => ∃ p, ps[i]? = some p ∧ ∃ t, y = .str (S (p.1 ++ p.2)) t) (boundS W.in4_2) fun i v hv => ?_) hT st hfp haf (fun i v hv => ?_) (fun s' l hm hi => ?_) (by rw [sizeLine_eq]; lia)
  · have e : ps[i]? = some (ps[i]'hv.1) := List.getElem?_eq_getElem hv.1
    exact ⟨_, e, hv.2 _ e⟩
  · obtain ⟨p, _, t, e⟩ := hv
    exact ⟨_, t, e⟩
  · have el : l.map (·.1) = ps.map fun p => S (p.1 ++ p.2) := by
      have hsz : l.length = ps.length := by have := hi.1; rw [List.size_toArray] at this; simpa [strValues] using this
      apply List.ext_getElem?
      intro i
      rw [List.getElem?_map, List.getElem?_map]
      cases hl' : l[i]? with
      | none => rw [List.getElem?_eq_none (by rw [← hsz]; exact List.getElem?_eq_none_iff.mp hl')]; rfl
      | some q =>
        obtain ⟨p, hp, t, e⟩ := hi.2 i (.str q.1 q.2) (by rw [List.getElem?_toArray]; simp [strValues, hl'])
        injection e with e _
        rw [hp]; simp [e]
    rw [el]
    have tot : ((ps.map fun p => S (p.1 ++ p.2)).map (·.length)).sum = pLen ps := by
      rw [List.map_map]; unfold pLen; congr 1
      exact List.map_congr_left fun p _ => by simp [S_len]
    refine ⟨by unfold JoinOk; rw [join_ok (n := 0) (by rw [tot]; simp [S_len]; lia)]; rfl, fun t' k => ?_⟩
    obtain ⟨H', tk⟩ := hcl s' hm.heap hm.gens hm.os
    exact ⟨_, σ, H'.toks, vr_str.mpr ⟨t', rfl⟩, tk, h⟩
end
end Mine
end
section
open PySem PySem.W PySem.Calls PyProof.Rows PySem.Spec PySem.SeqAt
set_option Elab.async false
set_option maxRecDepth 100000
set_option linter.unusedVariables false
namespace Mine
theorem Fit.in2 {n : Nat} {A : Around} (h : Fit (n + 1) A) : Fit n A.in1.in1 :=
  ⟨h.1, by have := h.2.1; show A.depth + n ≤ 900; lia, by have := h.2.2; show A.units + 1 + 1 + 12 * n ≤ 9600; lia⟩
section
variable {C : Cx} {K : Frag} {A : Around} {σ : Led} {x D d f a b : Addr} {ks : List Str} {vs : List (Option V)} {Q : V → Led → Prop} {n : Nat}
theorem c_lenO (hC : C.Is K) (hi : IsI C σ x D d) (hd : (d, AO.attrs ks vs) ∈ σ) (hs : findIn K (.ref D) "__len__" = some (some (.ref f))) (hf : isFn K (.ref f) = true)
    (h : Call C A.in1 σ (.ref f) [.ref x] (fun v σ' => ∃ n : Int, v = .int n ∧ 0 ≤ n ∧ n < 2 ^ 63 ∧ Q (.int n) σ')) : Call C A σ (.bi "len") [.ref x] Q := by
  rintro s fv vs' H rfl r
  simp only [VRs] at r
  obtain ⟨_, _, rfl, rfl, rfl⟩ := r
  obtain ⟨ox, es, n, I, _, _, nd, _, r⟩ := instOf H hi hd
  have X : K.In s.heap := hC.isK ▸ H.bg.kin
  refine Calls.call_function_entry kind_len plain_len entry_len (args_len1 _) ?_
  unfold Builtin.«len»
  refine wpAny_bind (m := oneArg "len" _) (wpAny_pure ?_)
  refine wpAny_bind (m := callSpecial? (.ref x) (Str.ofString "__len__")) (special_fn X I hs (beq_iff_eq.mp hf) ((h s (.ref f) [.ref x] H rfl (VRs.cons rfl VRs.nil)).run fun r s' v σ' H' r' k' q' => ?_))
  obtain ⟨n, rfl, h0, h1, q⟩ := q'
  obtain ⟨t, rfl⟩ := vr_int.mp r'
  refine wpAny_bind (wpAny_holding (wpAny_pure ?_))
  refine wpAny_bind (wpAny_letGo ?_)
  show wpAny _ _ (if n < 0 then _ else _) _ _ _
  rw [if_neg (by lia)]
  show wpAny _ _ (if n ≥ 2 ^ 63 then _ else _) _ _ _
  rw [if_neg (by lia)]
  exact wpAny_bind (wpAny_mkInt (wpAny_pure ⟨_, rfl, ⟨_, σ', H'.toks, vr_int.mpr ⟨_, rfl⟩, k', q⟩⟩))
theorem c_strO (hC : C.Is K) (hA : Fit (n + 1) A) (hi : IsI C σ x D d) (hd : (d, AO.attrs ks vs) ∈ σ) (hs : findIn K (.ref D) "__str__" = some (some (.ref f))) (hf : isFn K (.ref f) = true)
    (h : Call C A.in1.in1 σ (.ref f) [.ref x] (fun v σ' => ∃ y : Str, v = .str y ∧ Q (.str y) σ')) : Call C A σ (.type "str") [.ref x] Q := by
  rintro s fv vs' H rfl r
  simp only [VRs] at r
  obtain ⟨_, _, rfl, rfl, rfl⟩ := r
  obtain ⟨ox, es, n, I, _, _, nd, _, r⟩ := instOf H hi hd
  have X : K.In s.heap := hC.isK ▸ H.bg.kin
  refine kso_call hA.in2.units X I hs hf ((h s (.ref f) [.ref x] H rfl (VRs.cons rfl VRs.nil)).run fun r s' v σ' H' r' k' q' => ?_)
  obtain ⟨y, rfl, q⟩ := q'
  obtain ⟨t, rfl⟩ := vr_str.mp r'
  exact ⟨_, σ', H', vr_str.mpr ⟨t, rfl⟩, k', q⟩
theorem bin_ladd {l m : List V} (ha : (a, AO.list l) ∈ σ) (hb : (b, AO.list m) ∈ σ) (hz : l.length + m.length ≤ sizeLine) (h : ∀ c, Q (.ref c) ((c, AO.list (l ++ m)) :: σ)) : Bin C A σ .Add (.ref a) (.ref b) Q := by
  rintro s _ _ H rfl rfl
  obtain ⟨oa, ws, na, ga, ca, da, ta, ra⟩ := seqOf H ha
  obtain ⟨ob, ys, nb, gb, cb, db, tb, rb⟩ := seqOf H hb
  refine concat_meets ⟨_, ga, ca⟩ ⟨_, gb, cb⟩ noFill_list_add seq_list_add F.slot_list_add F.entry_list_add (F.args_list_add_2 _ _) (list_addW a b ws.toArray ys.toArray na nb oa.dict ob.dict oa.slots ob.slots (by rw [List.size_toArray, List.size_toArray, ra.length, rb.length]; exact hz)) ?_
  obtain ⟨oc, od, ot, os⟩ := oa
  obtain ⟨oc', od', ot', os'⟩ := ob
  dsimp only at *
  subst ca ta cb tb
  refine ⟨ga, gb, ?_⟩
  have tk : TK s.heap (s.heap.push { cls := .type "list", data := .seq (ws.toArray ++ ys.toArray) }) := TK.push _
  refine ⟨.ref s.heap.objs.size, _, H.add (X := AO.list (l ++ m)) (fun b o e => Heap.get?_push_of_some _ e) (Nat.le_refl _) (Heap.get?_push_size _ rfl)
    (Pl.seq (show Value.type "list" ≠ Value.type "tuple" by decide) rfl) ⟨⟨rfl, rfl⟩, ws ++ ys, 0, by simp, (ra.append rb).mono tk⟩ rfl rfl, vr_ref.mpr rfl, tk, h _⟩
noncomputable def leaf : V → Bool
  | .none | .bool _ | .int _ | .str _ => true
  | _ => false
noncomputable def flatD : V → Bool
  | .tup l => l.all leaf
  | v => leaf v
theorem eq_leaf {s : Shared} {v : V} {y z : Value} (hl : leaf v = true) (ry : VR s.heap v y) (rz : VR s.heap v z) : EqAt A s y z true := by
  cases v with
  | none => cases vr_none.mp ry; cases vr_none.mp rz; exact EqAt.same _
  | bool b => cases vr_bool.mp ry; cases vr_bool.mp rz; exact EqAt.same _
  | int i =>
    obtain ⟨t, rfl⟩ := vr_int.mp ry; obtain ⟨u, rfl⟩ := vr_int.mp rz
    have := EqAt.int_int (A := A) (s := s) i t i u; rwa [beq_self_eq_true] at this
  | str i =>
    obtain ⟨t, rfl⟩ := vr_str.mp ry; obtain ⟨u, rfl⟩ := vr_str.mp rz
    have := EqAt.str_str (A := A) (s := s) i t i u; rwa [beq_self_eq_true] at this
  | _ => exact Bool.noConfusion hl
theorem all_true (n : Nat) : (List.range n).all (fun _ => true) = true := by simp
theorem eq_flat {s : Shared} {v : V} {y z : Value} (hu : A.units < cLine) (hl : flatD v = true) (ry : VR s.heap v y) (rz : VR s.heap v z) : EqAt A s y z true := by
  cases v with
  | tup l =>
    obtain ⟨p, ps, rfl, gp, rp⟩ := vr_tup.mp ry
    obtain ⟨q, qs, rfl, gq, rq⟩ := vr_tup.mp rz
    by_cases e : p = q
    · subst e; exact EqAt.same _
    · have hsz : ps.toArray.size = qs.toArray.size := by rw [List.size_toArray, List.size_toArray, rp.length, rq.length]
      have X := RcAt.tuples (A := A) (s := s) (l := p) (b := q) (items := ps.toArray) (items2 := qs.toArray) (e := fun _ => true) ⟨_, gp, rfl, 0, rfl⟩ ⟨_, gq, rfl, 0, rfl⟩ hu (fun j h1 h2 => by
        have h1' : j < l.length := by rw [← rp.length]; simpa using h1
        have el : l[j]? = some l[j] := List.getElem?_eq_getElem h1'
        obtain ⟨u, eu, ru⟩ := rp.get el
        obtain ⟨w, ew, rw'⟩ := rq.get el
        obtain ⟨_, eu⟩ := List.getElem?_eq_some_iff.mp eu
        obtain ⟨_, ew⟩ := List.getElem?_eq_some_iff.mp ew
        simp only [List.getElem_toArray]
        rw [eu, ew]
        exact eq_leaf (List.all_eq_true.mp hl _ (List.getElem_mem h1')) ru rw')
      rw [hsz, Nat.min_self, all_true, beq_self_eq_true] at X
      exact EqAt.of_refs e X
  | none => exact eq_leaf (v := V.none) rfl ry rz
  | bool b => exact eq_leaf (v := V.bool b) rfl ry rz
  | int b => exact eq_leaf (v := V.int b) rfl ry rz
  | str b => exact eq_leaf (v := V.str b) rfl ry rz
  | _ => cases hl
theorem eq_items {s : Shared} {l : List V} {ps qs : List Value} (hu : A.units < cLine) (hl : l.all flatD = true) (rp : VRs s.heap l ps) (rq : VRs s.heap l qs) (j : Nat) (h1 : j < ps.toArray.size) (h2 : j < qs.toArray.size) :
    EqAt A s ps.toArray[j] qs.toArray[j] true := by
  have h1' : j < l.length := by rw [← rp.length]; simpa using h1
  have el : l[j]? = some l[j] := List.getElem?_eq_getElem h1'
  obtain ⟨u, eu, ru⟩ := rp.get el
  obtain ⟨w, ew, rw'⟩ := rq.get el
  obtain ⟨_, eu⟩ := List.getElem?_eq_some_iff.mp eu
  obtain ⟨_, ew⟩ := List.getElem?_eq_some_iff.mp ew
  simp only [List.getElem_toArray]
  rw [eu, ew]
  exact eq_flat hu (List.all_eq_true.mp hl _ (List.getElem_mem h1')) ru rw'
theorem cmp_lne {l : List V} (hA : Fit 1 A) (ha : (a, AO.list l) ∈ σ) (hb : (b, AO.list l) ∈ σ) (hl : l.all flatD = true) (h : Q (.bool false) σ) : Cmp C A σ .NotEq (.ref a) (.ref b) Q := by
  rintro s _ _ H rfl rfl
  obtain ⟨ps, La, rp⟩ := listOf H ha
  obtain ⟨qs, Lb, rq⟩ := listOf H hb
  refine EqBoolInt.of_rcne (k := false) ?_ (done_bool H h)
  have X := RcNeAt.lists (e := fun _ => true) La Lb (by rw [List.size_toArray, List.size_toArray, rp.length, rq.length]) hA.units (eq_items hA.in1.units hl rp rq)
  rw [all_true] at X
  exact X
end
end Mine
end
section
open PySem PySem.W PySem.Calls PyProof.Rows PySem.Spec Builtin Builtin.ObjectAttr Builtin.Getset_descriptor
set_option Elab.async false
set_option maxRecDepth 100000
set_option maxHeartbeats 4000000
set_option linter.unusedVariables false
namespace Mine
noncomputable def makesInL (K : Frag) (C : Addr) : Bool := match K.lookup C with
  | some ⟨_, _, .cls cd, sl⟩ => !cd.abstract && !cd.hasDel && (sl.toList[4]?).join == some (.builtin "list.__new__") && !cd.mro.isEmpty && cd.mro.contains (.ref C) && cd.mro.contains (.type "list") &&
      specialIn K (.ref C) "__call__" == some (some (.builtin "type.__call__")) && instIn K (.ref C) (.type "type") == some true
  | _ => false
structure MakesL (M : Model) (h : Heap) (C : Addr) : Prop where
  obj : ∃ oc od cd sl, h.get? C = some ⟨oc, od, .cls cd, sl⟩ ∧ cd.abstract = false ∧ cd.hasDel = false ∧ cd.mro.isEmpty = false
  made : Looks M h (Bind.madeBy (.ref C)) (some "list.__new__")
  base : Looks M h (Bind.staticBase (.ref C)) (.ref C)
  self : Looks M h (isSubtype (.ref C) (.ref C)) true
  top : Looks M h (isSubtype (.ref C) (.type "list")) true
  call : Looks M h (specialOf (.ref C) "__call__") (some (.builtin "type.__call__"))
  typ : Looks M h (isInstance (.ref C) (.type "type")) true
theorem makesL_of {K : Frag} {M : Model} {h : Heap} (X : K.In h) {C : Addr} (e : makesInL K C = true) : MakesL M h C := by
  unfold makesInL at e
  split at e
  · rename_i oc od cd sl ho
    simp only [Bool.and_eq_true, Bool.not_eq_true', beq_iff_eq] at e
    obtain ⟨⟨⟨⟨⟨⟨⟨e1, e2⟩, e3⟩, e4⟩, e5⟩, e6⟩, e7⟩, e8⟩ := e
    have hc : clsIn K C = some cd := by unfold clsIn; rw [ho]
    have hm : Looks M h (mroOf (.ref C)) cd.mro := (looks_clsIn X hc).andThen .now
    obtain ⟨c, l, hl⟩ : ∃ c l, cd.mro = c :: l := by cases q : cd.mro with | nil => rw [q] at e4; cases e4 | cons c l => exact ⟨c, l, rfl⟩
    have made : Looks M h (Bind.madeBy (.ref C)) (some "list.__new__") := by
      intro A Q E s k q
      unfold Bind.madeBy
      refine wpAny_bind (hm A _ E s k ?_)
      rw [hl, List.forIn_cons]
      refine wpAny_bind (wpAny_bind (wpAny_bind (wpAny_bind (wpAny_loadPart (k _ _ (X _ _ ho)) (wpAny_pure ?_)))))
      dsimp only
      rw [← Array.getElem?_toList, e3]
      exact wpAny_pure (wpAny_pure (wpAny_pure q))
    refine ⟨⟨oc, od, cd, sl, X _ _ ho, e1, e2, e4⟩, made, ?_, looks_mroIn X ?_, looks_mroIn X ?_, looks_specialIn X e7, looks_instIn X e8⟩
    · intro A Q E s k q
      unfold Bind.staticBase
      refine wpAny_bind (hm A _ E s k ?_)
      rw [hl, List.forIn_cons]
      exact wpAny_bind (wpAny_bind (wpAny_bind (made A _ E s k (wpAny_pure (wpAny_pure (wpAny_pure q))))))
    · unfold mroIn; rw [hc, Option.bind_some, if_neg (by rw [e4]; decide), e5]
    · unfold mroIn; rw [hc, Option.bind_some, if_neg (by rw [e4]; decide), e6]
  · cases e
noncomputable abbrev instObjL (C dx : Addr) : Obj := { cls := .ref C, dict := some dx, data := .seq #[] }
theorem ln_kind : builtinKind "list.__new__" = some .builtinFn := by decide +kernel
theorem ln_split : splitId "list.__new__" = some ("list", "__new__") := by decide +kernel
theorem ln_sig : Manifest.signature? "list.__new__" = some ⟨.any, "list", "list", .cls, [⟨"args", .varPos, false⟩, ⟨"kwargs", .varKw, false⟩]⟩ := by kernel_rfl
section
variable {prog : Program} {w : World} {A : Around} {K : Frag} {C : Addr} {R : Result → Shared → Prop} {h : Heap} {g : Array GenState} {d : Drawn} {t : Nat} {os : OsState}
theorem ln_args (C : Addr) (v : Value) : Bind.checkArgs "list.__new__" ⟨.any, "list", "list", .cls, [⟨"args", .varPos, false⟩, ⟨"kwargs", .varKw, false⟩]⟩ ⟨[.ref C, v], []⟩ = pure () := by kernel_rfl
theorem new_L {v : Value} (Y : MakesL (model prog w) h C)
    (hq : R (.ok (.ret (.ref (h.objs.size + 1)))) ⟨(h.push emptyDict).push (instObjL C h.objs.size), g, d, t, os⟩) :
    codeAny (model prog w) A (.call (.builtin "list.__new__") ⟨[.ref C, v], []⟩) R ⟨h, g, d, t, os⟩ := by
  obtain ⟨⟨oc, od, cd, sl, hC, e1, e2, e4⟩, made, base, self, top, call, typ⟩ := Y
  refine codeAny_call_builtin_code (plainId_quiet PySem.F.plain_list_new _) ?_
  simp only [checkBuiltinCall, ln_kind, ln_split, ln_sig, ln_args]
  repeat (first | simp only [bne_self_eq_false, Bool.false_eq_true, if_false] | lk)
  refine codeAny_builtin_stack PySem.F.entry_list_new rfl fun p st => ?_
  rw [Around.under_plainId PySem.F.plain_list_new _]
  have hown := owner_list_new
  simp only [hown]
  have fin : ∀ A', wpAny (model prog w) A' (do
      let x ← newDict
      match x with
      | .ref d => do ret (← newObj (.ref C) (.seq #[]) (some d))
      | _ => unsupported "internal:list.__new__") (fun fin s' => match fin with | .done f => R (.ok f) s' | .again c' => c'.quiet = true ∧ codeAny (model prog w) A c' R s') (fun e s' => R (.error e) s') ⟨h, g, d, t, os⟩ := by
    intro A'
    refine wpAny_bind (wpAny_newObj_type ?_ (by size_fits))
    dsimp only
    refine wpAny_bind ?_
    show wpAny _ _ (newObjAsIs _ _ _) _ _ _
    unfold newObjAsIs classHasDel
    refine wpAny_bind (wpAny_alloc (wpAny_bind (wpAny_bind (wpAny_load (Heap.get?_push_of_some _ (Heap.get?_push_of_some _ hC)) (wpAny_pure ?_)))))
    rw [e2]
    refine wpAny_pure (wpAny_pure ?_)
    show R _ _
    rw [Heap.size_push]
    exact hq
  repeat (first | simp only [Bool.not_true, Bool.false_eq_true, if_false] | exact fin _ | lk)
theorem make_coreL {v : Value} {init : Value} (Y : MakesL (model prog w) h C) (hi : Looks (model prog w) h (typeLookup (.ref C) "__init__") (some init))
    (hb : ∀ self, Looks (model prog w) h (bindSpecial init self) (init, [self]))
    (hq : codeAny (model prog w) (A.under (.builtin "type.__call__" ⟨[.ref C, v], []⟩)) (.call init ⟨[.ref (h.objs.size + 1), v], []⟩) (InitBack (h.objs.size + 1) R) ⟨(h.push emptyDict).push (instObjL C h.objs.size), g, d, t, os⟩) :
    codeAny (model prog w) A (.call (.ref C) ⟨[v], []⟩) R ⟨h, g, d, t, os⟩ := by
  have Y' := Y
  obtain ⟨⟨oc, od, cd, sl, hC, e1, e2, e4⟩, made, base, self, top, call, typ⟩ := Y
  refine codeAny_of_tree ?_
  show wpAny _ _ (callAny (.ref C) _) _ _ _
  refine nd_load hC ?_
  show wpAny _ _ (callAny.viaDunder (.ref C) _) _ _ _
  unfold callAny.viaDunder
  refine wpAny_bind (call.at ?_)
  dsimp only
  rw [tc_bind]
  refine wpAny_bind (wpAny_pure (wpAny_bind (wpAny_pure ?_)))
  refine wpAny_pure (a := Fin.again (.call (.builtin "type.__call__") ⟨[.ref C, v], []⟩)) (And.intro rfl ?_)
  refine codeAny_call_builtin_at (Code.quiet_builtin _ (by decide +kernel)) entry_typeCall (check_slot tc_kind tc_split typ (tc_args _ _ _) ?_)
  unfold Builtin.«type.__call__»
  have hm : Looks (model prog w) h (mroOf (.ref C)) cd.mro := ((Looks.ld (part := none) hC).andThen .now).andThen .now
  repeat (first | simp only [e4, Bool.false_eq_true, if_false] | with_reducible refine wpAny_call ?_ | lk)
  refine new_L Y' ?_
  have k : ∀ b o, h.get? b = some o → ((h.push emptyDict).push (instObjL C h.objs.size)).get? b = some o := fun b o e => Heap.get?_push_of_some _ (Heap.get?_push_of_some _ e)
  have hx : ((h.push emptyDict).push (instObjL C h.objs.size)).get? (h.objs.size + 1) = some (instObjL C h.objs.size) := by heap_get
  have t1 : Looks (model prog w) ((h.push emptyDict).push (instObjL C h.objs.size)) (typeOf (.ref (h.objs.size + 1))) (.ref C) := (Looks.ld hx).andThen .now
  have s1 := self.keeps k
  have i1 := hi.keeps k
  have b1 := (hb (.ref (h.objs.size + 1))).keeps k
  unfold isInstance callSpecial? specialOf
  repeat (first | with_reducible refine wpAny_call ?_ | lk)
  refine codeAny_mono hq fun r s' z => ?_
  rcases r with e | (v | _ | _ | _) <;> first | exact z | exact z.elim | skip
  obtain ⟨rfl, z⟩ := z
  exact wpAny_pure (wpAny_pure z)
end
theorem Fit.under1 {n : Nat} {A : Around} {D : Addr} {v : Value} (h : Fit (n + 1) A) : Fit n (A.under (.builtin "type.__call__" ⟨[.ref D, v], []⟩)) := h.under (vals := [v])
section
variable {C : Cx} {K : Frag} {A : Around} {σ : Led} {D fI : Addr} {Q : V → Led → Prop} {y : V}
theorem c_makeL (hC : C.Is K) (hm : makesInL K D = true) (hi : (findIn K (.ref D) "__init__" == some (some (.ref fI))) = true) (hf : (typeIn K (.ref fI) == some (.type "function")) = true)
    (h : ∀ x d val, CallC C (A.under (.builtin "type.__call__" ⟨[.ref D, val], []⟩)) ((x, AO.seq (.ref D) (some d) []) :: (d, AO.attrs [] []) :: σ) (.ref fI) [.ref x, y] (fun v σ' => v = .none ∧ Q (.ref x) σ')) : CallC C A σ (.ref D) [y] Q := by
  rintro s _ vals H rfl r
  simp only [VRs] at r
  obtain ⟨val, _, rfl, r, rfl⟩ := r
  have X : K.In s.heap := hC.isK ▸ H.bg.kin
  obtain ⟨hh, g, dr, t, os⟩ := s
  refine make_coreL (makesL_of X hm) (looks_findIn X (beq_iff_eq.mp hi)) (fun self => bind_fn X self (beq_iff_eq.mp hf)) ?_
  have H1 : HR C ((hh.objs.size, AO.attrs [] []) :: σ) ⟨hh.push emptyDict, g, dr, t, os⟩ := H.add (s' := ⟨hh.push emptyDict, g, dr, t, os⟩) (o := dictOf [] 0) (fun b o e => Heap.get?_push_of_some _ e) (Nat.le_refl _) (Heap.get?_push_size _ rfl) (Pl.dict rfl) ⟨List.nodup_nil, by simp, [], 0, rfl, rfl⟩ rfl rfl
  have H2 : HR C ((hh.objs.size + 1, AO.seq (.ref D) (some hh.objs.size) []) :: (hh.objs.size, AO.attrs [] []) :: σ) ⟨(hh.push emptyDict).push (instObjL D hh.objs.size), g, dr, t, os⟩ :=
    H1.add (s' := ⟨(hh.push emptyDict).push (instObjL D hh.objs.size), g, dr, t, os⟩) (o := instObjL D hh.objs.size) (fun b o e => Heap.get?_push_of_some _ e) (by show (hh.push emptyDict).objs.size ≤ _; rw [Heap.size_push]; exact Nat.le_refl _)
      (by heap_get) (Pl.seq (by intro e; cases e) rfl) ⟨⟨rfl, rfl⟩, [], 0, rfl, VRs.nil⟩ rfl rfl
  have tk : TK hh ((hh.push emptyDict).push (instObjL D hh.objs.size)) := (TK.push _).trans (TK.push _)
  refine codeAny_mono (h (hh.objs.size + 1) hh.objs.size val _ (.ref fI) [.ref (hh.objs.size + 1), val] H2 rfl (VRs.cons rfl (VRs.cons (r.mono tk) VRs.nil))) fun r s' p => ?_
  cases r with
  | error e => exact (show False from p).elim
  | ok fl =>
    cases fl with
    | ret u =>
      obtain ⟨b, σ₁, H₁, r₁, k₁, rfl, q⟩ := p
      exact ⟨vr_none.mp r₁, .ref (hh.objs.size + 1), σ₁, H₁, rfl, tk.trans k₁, q⟩
    | next => exact (show False from p).elim
    | brk => exact (show False from p).elim
    | cont => exact (show False from p).elim
end
end Mine
end
section
open PySem PySem.W PySem.Calls PyProof.Rows PySem.Spec
set_option Elab.async false
set_option maxRecDepth 100000
set_option linter.unusedVariables false
namespace Mine
section
variable {C : Cx} {A : Around} {σ τ : Led} {env cenv : Env} {elt cnd : Expr} {x : Str} {px : Pos} {D L : Addr} {Qn : Led → Prop}
theorem cloop_fmap {a : Addr} {Xo : Nat → AO} {l : List V} {G : Led → Prop} (p : Nat → Bool) (f : Nat → V) (sb : Sb ((D, AO.list []) :: (a, Xo 0) :: (cenv.locals, AO.fr [x] [none]) :: τ) σ) (I : Iter C A a Xo l G) (hG : ∀ acc u, G ((D, AO.list acc) :: (cenv.locals, AO.fr [x] [u]) :: τ)) (hz : l.length ≤ sizeLine)
    (hk : cenv.scope.kind = .function) (hl : cenv.kindOf x = some .local)
    (test : ∀ i y acc X, l[i]? = some y → Tr C RB A ((a, X) :: (D, AO.list acc) :: (cenv.locals, AO.fr [x] [some y]) :: τ) (isTrue cnd cenv (eval cnd cenv)) (fun b σ₃ => b = p i ∧ Sb ((D, AO.list acc) :: (a, X) :: (cenv.locals, AO.fr [x] [some y]) :: τ) σ₃))
    (turn : ∀ i y acc X, l[i]? = some y → p i = true → acc.length ≤ i → Tr C VR A ((D, AO.list acc) :: (a, X) :: (cenv.locals, AO.fr [x] [some y]) :: τ) (eval elt cenv) (fun v σ₃ => v = f i ∧ Sb ((D, AO.list acc) :: (a, X) :: (cenv.locals, AO.fr [x] [some y]) :: τ) σ₃))
    (fin : ∀ u, Qn ((D, AO.list (((List.range l.length).filter p).map f)) :: (cenv.locals, AO.fr [x] [u]) :: τ)) : CLoop C A cenv elt (.Name x px) [cnd] D Qn (.ref a) σ := by
  refine cloop_iter sb I (fun i acc σ' => ∃ u, acc = ((List.range i).filter p).map f ∧ σ' = (cenv.locals, AO.fr [x] [u]) :: τ) ⟨none, rfl, rfl⟩ ?_ hz ?_ ?_
  · rintro i acc σ' ⟨u, rfl, rfl⟩; exact hG _ _
  · rintro i y acc σ' hy ha ⟨u, rfl, rfl⟩
    refine asg_name (st_loc (.tail (.tail .head)) .head ?_ hk hl)
    show Tests C A cenv _ [cnd] _
    refine Tr.mono (test i y _ _ hy) fun b σ₃ ⟨e, sb⟩ => ?_
    subst e
    cases hp : p i with
    | true =>
      simp only [if_true]
      refine Tr.sb sb (Tr.mono (turn i y _ _ hy hp ha) fun v σ₃ ⟨e, sb⟩ => ⟨_, sb, some y, ?_, rfl⟩)
      rw [List.range_succ, List.filter_append, List.map_append, e]; simp [hp]
    | false =>
      simp only [Bool.false_eq_true, if_false]
      refine ⟨_, sb, some y, ?_, rfl⟩
      rw [List.range_succ, List.filter_append, List.map_append]; simp [hp]
  · rintro acc σ' ⟨u, rfl, rfl⟩; exact fin u
end
end Mine
namespace Mine
section
variable {C : Cx} {A : Around} {σ : Led} {Q : V → Led → Prop}
end
end Mine
namespace Mine
theorem loop_rangeX {C : Cx} {A : Around} {σ σ' : Led} {env : Env} {Qn : Led → Prop} {Qr : V → Led → Prop} {target : Expr} {body : List Stmt} {a : Addr} {e : Int} {n : Nat} (sb : Sb ((a, AO.rit 0 e) :: σ') σ) (he : e = n) (hA : A.handled = none) (J : Nat → Led → Prop) (h0 : J 0 σ')
    (turn : ∀ (k : Nat) (X : AO) σ, k < n → J k σ → Asg C A env ((a, X) :: σ) target (.int (k : Nat)) (fun σ₁ => Xs C A env σ₁ body (fun σ₂ => ∃ σ', Sb ((a, X) :: σ') σ₂ ∧ J (k + 1) σ') Qr (fun σ₂ => ∃ σ', Sb σ' σ₂ ∧ Qn σ') (fun σ₂ => ∃ σ', Sb ((a, X) :: σ') σ₂ ∧ J (k + 1) σ')))
    (fin : ∀ σ, J n σ → Qn σ) : Loop C A env (.ref a) target body σ Qn Qr := by
  refine loop_range sb he hA J h0 (fun k σ hk j => ?_) fin
  have e0 : (0 : Int) + k = (k : Nat) := by lia
  rw [e0]
  exact turn k _ σ hk j
end Mine
namespace Mine
section
variable {C : Cx} {A : Around} {σ τ : Led} {cenv : Env} {elt : Expr} {x : Str} {px : Pos} {D : Addr} {Qn : Led → Prop}
end
end Mine
namespace Mine
section
variable {C : Cx} {A : Around} {σ σ' : Led} {cenv : Env} {elt target : Expr} {D : Addr} {Qn : Led → Prop}
theorem cloop_rangeJ {a : Addr} {e : Int} {n : Nat} (he : e = n) (hA : A.handled = none) (sb : Sb ((D, AO.list []) :: (a, AO.rit 0 e) :: σ') σ) (hz : n ≤ sizeLine) (J : Nat → List V → Led → Prop) (h0 : J 0 [] σ')
    (turn : ∀ (i : Nat) (X : AO) acc σ, i < n → acc.length ≤ i → J i acc σ → Asg C A cenv ((a, X) :: (D, AO.list acc) :: σ) target (.int (i : Nat)) (fun σ₁ => Tr C VR A σ₁ (eval elt cenv) (fun v σ₃ => ∃ σ', Sb ((D, AO.list acc) :: (a, X) :: σ') σ₃ ∧ J (i + 1) (acc ++ [v]) σ')))
    (fin : ∀ acc σ, J n acc σ → Qn ((D, AO.list acc) :: σ)) : CLoop C A cenv elt target [] D Qn (.ref a) σ := by
  refine cloop_iter (range_sb he sb) (iter_range hA (i := 0) (n := n)) J h0 (fun _ _ _ _ => trivial) (by rw [upto_len]; exact hz) (fun i y acc σ hy ha j => ?_) (by rw [upto_len]; exact fin)
  obtain ⟨hi, rfl⟩ := upto_get hy
  have e0 : (0 : Int) + i = (i : Nat) := by lia
  rw [e0]
  refine fun s v H r => (turn i _ acc σ hi ha j s v H r).mono fun _ σ₁ q => ?_
  show Tests C A cenv σ₁ [] _
  unfold Tests
  simp only [if_true]
  exact q
end
end Mine
end
section
open PySem PySem.W PySem.Calls PyProof.Rows PySem.Spec
set_option Elab.async false
set_option maxRecDepth 100000
set_option linter.unusedVariables false
namespace Mine
noncomputable def cxOf (prog : Program) (w : World) (K : Frag) (s : Shared) (mg mb : Str → Option Value) (own : List Addr) (gt : List (Addr × Addr)) : Cx :=
  { prog := prog, w := w, K := K, h₀ := hideAll s.heap own, os := s.os, mg := mg, mb := mb, gt := gt, kp := [], gs := #[] }
section
variable {prog p : Program} {w : World} {K : Frag} {s : Shared} {mg mb : Str → Option Value} {c0 P0 : Addr} {gt : List (Addr × Addr)} {loose : List Str} {mean : ExcName → Option Value}
theorem ns_ne {h : Heap} {a P : Addr} {m : Str → Option Value} {ps : Array Value} (n : h.Ns a m) (t : h.get? P = some (tabObj ps)) : a ≠ P := fun e => by
  obtain ⟨o, es, ep, g, d, _⟩ := n
  rw [e, t] at g; cases g; cases d
theorem is_start (X : K.In s.heap) (T : Top p loose mean mg mb s.heap) (h0 : s.heap.get? P0 = some (tabObj #[])) : (cxOf prog w K s mg mb [P0] gt).Is K where
  isK := rfl
  glob := fun x v e => mg_of X T.g e
  globN := fun x e => mg_none_of X T.g e
  blt := T.builtins
  bm := by
    obtain ⟨bm, ob, h1, h2, h3, h4, h5, h6⟩ := T.bmain
    refine ⟨bm, ob, h1, h2, fun e => ?_, hideAll_get _ h3 fun q => ?_, h4, h5, h6⟩
    · obtain ⟨o, es, ep, g, d, _⟩ := T.g
      rw [← e, h3] at g; cases g; rw [h6] at d; cases d
    · rw [List.mem_singleton] at q
      rw [q, h0] at h3; cases h3; cases h4
theorem hr_start (X : K.In s.heap) (T : Top p loose mean mg mb s.heap) (hg : s.gens = #[]) (hK : K.lookup P0 = none) (h0 : s.heap.get? P0 = some (tabObj #[])) (hgt : TabsAt gt s.heap) (hne : ∀ q ∈ gt, q.2 ≠ P0) :
    HR (cxOf prog w K s mg mb [P0] gt) [(P0, AO.table #[])] s := by
  have keep : ∀ {b o}, s.heap.get? b = some o → b ≠ P0 → (hideAll s.heap [P0]).get? b = some o := fun e n => hideAll_get _ e (by simpa using n)
  have ex : ∀ {b o}, s.heap.get? b = some o → b ≠ P0 → (hideAll s.heap [P0]).get? b ≠ none := fun e n q => by rw [keep e n] at q; cases q
  have gm : ∀ {a m}, s.heap.Ns a m → (hideAll s.heap [P0]).get? a ≠ none := fun n => by
    have ne := ns_ne n h0
    obtain ⟨o, es, ep, g, _⟩ := n
    exact ex g ne
  have nc : ∀ {c P}, CodeHd s.heap c P → c ≠ P0 := fun x e => by
    obtain ⟨o, vs, _, _, _, _, _, _, _, e1, e2, _⟩ := x
    rw [e, h0] at e1; cases e1; cases e2
  obtain ⟨mc, nm, nl⟩ := T.nolimit
  refine ⟨⟨⟨fun a o e => ?_, gm T.g, gm T.b, gm nm, fun q hq => ⟨?_, ?_⟩, fun q hq => ⟨#[], ?_⟩, fun q hq e => ?_⟩, .of_keep fun b o e => of_hideAll _ e, X, T.g, T.b, T.nolimit, fun q hq => ⟨#[], ?_, ?_⟩, fun q hq => (nomatch hq), fun q hq => (nomatch hq)⟩, fun q hq => ?_, fun q hq => ?_, ?_, ⟨?_, fun i x e => ?_⟩, rfl⟩
  · refine ex (X _ _ e) fun q => ?_
    have e : K.lookup a = some o := e
    rw [q, hK] at e; cases e
  · obtain ⟨hc, _⟩ := hgt q hq
    have := nc hc
    obtain ⟨o, vs, _, _, _, _, _, _, _, e1, _⟩ := hc
    exact ex e1 this
  · exact ex (hgt q hq).2 (hne q hq)
  · have t := (hgt q hq).1.tab (hgt q hq).2
    obtain ⟨⟨o, vs, a, r⟩, b⟩ := t
    exact ⟨⟨o, vs, keep a (nc (hgt q hq).1), r⟩, keep b (hne q hq)⟩
  · exact ns_ne nm (hgt q hq).2 e.symm
  · exact (hgt q hq).1.code (hgt q hq).2 (by simp [TriplesOk])
  · exact (hgt q hq).1.tab (hgt q hq).2
  · rw [List.mem_singleton] at hq; subst hq
    exact ⟨_, h0, Pl.rec rfl, rfl⟩
  · rw [List.mem_singleton] at hq; subst hq
    exact ⟨hideAll_none _ (.head _), fun q hq => (nomatch hq)⟩
  · simp
  · rw [hg]; exact .empty
  · simp [cxOf] at e
theorem old_end {s' : Shared} {ps : Array Value} (hd : CodeHd s.heap c0 P0) (h0 : s.heap.get? P0 = some (tabObj #[])) (H : HR (cxOf prog w K s mg mb [P0] gt) [(P0, AO.table ps)] s') : OldK s.heap s'.heap ∧ s'.os = s.os ∧ AllBare s'.gens := by
  obtain ⟨o', g', _, e'⟩ := H.own _ (List.Mem.head _)
  have e' : o' = tabObj ps := e'
  subst e'
  have O : OldK (hideAll s.heap [P0]) s'.heap := H.bg.old
  have keep : ∀ {b o}, s.heap.get? b = some o → b ≠ P0 → (hideAll s.heap [P0]).get? b = some o := fun e n => hideAll_get _ e (by simpa using n)
  refine ⟨⟨fun b o e => ?_, fun b o e => ?_⟩, H.os, H.gens.1⟩
  · by_cases hb : b = P0
    · subst hb
      rw [h0] at e; cases e
      refine .inr (.inl ⟨(hd.tab h0).isCodeTable, rfl, #[], ps, rfl, ?_⟩)
      rw [Array.empty_append]; exact g'
    · rcases O.old b o (keep e hb) with x | ⟨t, hc, vs, more, hv, x⟩ | ⟨rfl, hc, z1, z2⟩
      · exact .inl x
      · refine .inr (.inl ⟨?_, hc, vs, more, hv, x⟩)
        obtain ⟨c, o, vs, a, r⟩ := t
        exact ⟨c, o, vs, of_hideAll _ a, r⟩
      · refine .inr (.inr ⟨rfl, hc, z1, fun key => ?_⟩)
        have q := OldK.staticOf_congr (h := s.heap) (h' := hideAll s.heap [P0]) ((keep e hb).trans e.symm) key
        rw [← q]; exact z2 key
  · by_cases hb : b = P0
    · subst hb; exact ⟨_, g'⟩
    · exact O.there b o (keep e hb)
theorem oldL_start {sc : Addr} {vs : List Value} {ns : List Int} (hl : s.heap.IsList sc vs.toArray) (hi : IntsAre vs ns) (h0 : s.heap.get? P0 = some (tabObj #[])) : OldL (cxOf prog w K s mg mb [P0] gt) sc ns := by
  obtain ⟨o, g, c, n, d⟩ := hl
  refine ⟨o, vs, n, hideAll_get _ g fun q => ?_, c, d, fun h => ?_⟩
  · rw [List.mem_singleton] at q
    rw [q, h0] at g; cases g; cases c
  · clear d
    induction hi with
    | nil => exact VRs.nil
    | cons n t _ ih => exact VRs.cons (vr_int.mpr ⟨_, rfl⟩) ih
end
end Mine
end
section
open PySem PySem.W PySem.Calls PyProof.Rows PySem.Spec
set_option Elab.async false
set_option maxRecDepth 100000
set_option linter.unusedVariables false
namespace Mine
section
variable {C : Cx} {K : Frag} {A : Around} {σ σ' : Led} {x D a : Addr} {l : List V} {Q : V → Led → Prop} {dc : Option Addr} {lo hi : Option Int}
theorem seqKey {prog : Program} {w : World} {s : Shared} {E : Value → Shared → Prop} {k : Value} {name : Str} {Qk : Value → Shared → Prop} (T : Looks (model prog w) s.heap (typeOf (.ref x)) (.ref D))
    (N : Looks (model prog w) s.heap (isSubtype (.ref D) (.type "collections.deque")) false) (h : Qk k s) : wpAny (model prog w) A (sequenceKey (.ref x) k name) Qk E s := by
  unfold sequenceKey
  refine wpAny_bind (T.here ?_)
  dsimp only
  refine wpAny_bind ?_
  unfold seqItemTypes List.anyM
  refine wpAny_bind (N.here ?_)
  exact wpAny_pure (wpAny_pure h)
theorem sliceParts {prog : Program} {w : World} {s : Shared} {E : Value → Shared → Prop} {sl : Addr} {vl vu : Value} {Qk : Value × Value × Value → Shared → Prop} (hs : s.heap.IsSliceOf sl vl vu .none) (pl : IsPart vl lo) (pu : IsPart vu hi)
    (h : Qk (rawPart lo, rawPart hi, rawPart none) s) : wpAny (model prog w) A (Builtin.List.listSliceParts (.ref sl)) Qk E s := by
  obtain ⟨os, hos, hcs, hds⟩ := id hs
  rw [listSliceParts_eq]
  refine wpAny_bind (wpAny_field hos hds (x := .none) rfl (wpAny_bind (wpAny_listPart .none ?_)))
  rw [if_neg (by exact Bool.false_ne_true)]
  refine wpAny_bind (wpAny_field hos hds (x := vl) rfl (wpAny_bind (wpAny_listPart pl ?_)))
  exact wpAny_bind (wpAny_field hos hds (x := vu) rfl (wpAny_bind (wpAny_listPart pu (wpAny_pure h))))
theorem g_seq_slice (hC : C.Is K) (hx : (x, AO.seq (.ref D) dc l) ∈ σ) (hml : mroIn K D (.type "list") = some true) (hmd : mroIn K D (.type "collections.deque") = some false) (hf : findIn K (.ref D) "__getitem__" = some (some (.builtin "list.__getitem__")))
    (hz : l.length ≤ sizeLine) (h : ∀ d, Q (.ref d) ((d, AO.list (cut l lo hi)) :: σ)) : Op2 C VR A ((a, AO.slice lo hi) :: σ) getItem (.ref x) (.ref a) Q := by
  rintro s _ _ H rfl rfl
  obtain ⟨p, u, _, S, e1, e2⟩ := sliceOf H
  obtain ⟨o, vs, n, g, c, dd, dt, r⟩ := seqOf H (List.Mem.tail _ hx)
  have H' := H.sub (List.sublist_cons_self ..)
  have tk : TK s.heap (s.heap.push { cls := .type "list", data := .seq (slicePick vs.toArray lo hi none) }) := TK.push _
  have X : K.In s.heap := hC.isK ▸ H.bg.kin
  have T : Looks (model C.prog C.w) s.heap (typeOf (.ref x)) (.ref D) := c ▸ (Looks.ld g).andThen .now
  have L1 : Looks (model C.prog C.w) s.heap (specialOf (.ref x) "__getitem__") (some (.builtin "list.__getitem__")) := T.andThen (looks_findIn X hf)
  have IL : Looks (model C.prog C.w) s.heap (isInstance (.ref x) (.type "list")) true := (listTy_cls hC hml).inst _ _ _ H.bg.kin g c
  have hTs : s.TypeIs (.ref a) "slice" := by obtain ⟨os, hos, hcs, hds⟩ := id S; exact ⟨os, hos, hcs⟩
  unfold WP getItem
  refine wpAny_holding (wpAny_bind (seqKey T (looks_mroIn X hmd) ?_))
  unfold callSpecial?
  refine wpAny_bind (wpAny_bind (L1.here ?_))
  dsimp only
  refine wpAny_holding (wpAny_bind ?_)
  rw [slot_list_getitem.bind]
  refine wpAny_pure (wpAny_bind ?_)
  refine call_self (owner := "list") (n := "__getitem__") (.inl (by decide +kernel)) (by decide +kernel) (by decide +kernel) entry_list_getitem (args_list_getitem _ _) IL ?_
  show wpAny _ _ (Builtin.List.listSubscript? (.ref a) >>= _) _ _ s
  refine wpAny_bind ?_
  unfold Builtin.List.listSubscript?
  refine wpAny_bind (wpAny_specialOf hTs slice_no_index ?_)
  simp only [Option.isNone_none, if_true]
  refine wpAny_pure ?_
  show wpAny _ _ (typeOf (.ref a) >>= _) _ _ s
  refine wpAny_bind (wpAny_typeOf hTs ?_)
  rw [if_neg (by decide)]
  refine wpAny_bind (sliceParts S (e1 ▸ partIs p) (e2 ▸ partIs u) ?_)
  refine wpAny_bind (m := Builtin.List.listItems (.ref x)) ?_
  unfold Builtin.List.listItems
  refine wpAny_bind (wpAny_seqItems g dt (wpAny_pure ?_))
  refine wpAny_bind (wpAny_of_eq (sliceIndices_raw lo hi none vs.toArray.size (by simp)) ?_)
  refine wpAny_bind (wpAny_newObj_type (wpAny_pure ⟨_, rfl, wpAny_pure (wpAny_pure ?_)⟩) (Nat.le_trans (slicePick_size_le vs.toArray lo hi none) (by rw [List.size_toArray, r.length]; exact hz)))
  refine ⟨.ref s.heap.objs.size, _, H'.add (X := AO.list (cut l lo hi)) (fun b o e => Heap.get?_push_of_some _ e) (Nat.le_refl _) (Heap.get?_push_size _ rfl)
    (Pl.seq (show Value.type "list" ≠ Value.type "tuple" by decide) rfl) ⟨⟨rfl, rfl⟩, (vs.drop (lo.elim 0 (clipAt l.length))).take (hi.elim l.length (clipAt l.length) - lo.elim 0 (clipAt l.length)), 0, ?_, ((r.drop _).take _).mono tk⟩ rfl rfl, vr_ref.mpr rfl, tk, h _⟩
  show Data.seq (slicePick vs.toArray lo hi none) _ = _
  rw [slicePick_plain]
  simp only [List.size_toArray, r.length]
theorem s_seq_nil {b : Addr} {Qu : Unit → Led → Prop} (hC : C.Is K) (hb : (b, AO.list []) ∈ σ) (hml : mroIn K D (.type "list") = some true) (hmd : mroIn K D (.type "collections.deque") = some false) (hf : findIn K (.ref D) "__setitem__" = some (some (.builtin "list.__setitem__")))
    (hz : l.length ≤ sizeLine) (U : LU x (AO.seq (.ref D) dc l) (AO.seq (.ref D) dc (l.take (lo.elim 0 (clipAt l.length)))) σ σ') (h : Qu () σ') : Op3 C RU A ((a, AO.slice lo none) :: σ) setItem (.ref x) (.ref a) (.ref b) Qu := by
  rintro s _ _ _ H rfl rfl rfl
  obtain ⟨p, u, _, S, e1, e2⟩ := sliceOf H
  have H' := H.sub (List.sublist_cons_self ..)
  obtain ⟨o, vs, n, g, c, dd, dt, r⟩ := seqOf H' U.mem
  obtain ⟨ws, Lb, rb⟩ := listOf H' hb
  have e0 : ws = [] := rb
  subst e0
  obtain ⟨ob, gb, cb, neb, dtb⟩ := id Lb
  have X : K.In s.heap := hC.isK ▸ H.bg.kin
  have T : Looks (model C.prog C.w) s.heap (typeOf (.ref x)) (.ref D) := c ▸ (Looks.ld g).andThen .now
  have L1 : Looks (model C.prog C.w) s.heap (specialOf (.ref x) "__setitem__") (some (.builtin "list.__setitem__")) := T.andThen (looks_findIn X hf)
  have hT := listTy_cls hC hml
  have IL : Looks (model C.prog C.w) s.heap (isInstance (.ref x) (.type "list")) true := hT.inst _ _ _ H.bg.kin g c
  have hTs : s.TypeIs (.ref a) "slice" := by obtain ⟨os, hos, hcs, hds⟩ := id S; exact ⟨os, hos, hcs⟩
  have hxb : ¬ (Builtin.List.listSameRef (.ref x) (.ref b) = true) := by
    intro e
    have e' : x = b := by simpa [Builtin.List.listSameRef] using e
    subst e'
    rw [g] at gb
    cases gb
    rw [c] at cb
    cases cb
  unfold WP setItem
  refine wpAny_holding (wpAny_bind (seqKey T (looks_mroIn X hmd) ?_))
  unfold callSpecial?
  refine wpAny_bind (wpAny_bind (L1.here ?_))
  dsimp only
  refine wpAny_holding (wpAny_bind ?_)
  rw [slot_list_setitem.bind]
  refine wpAny_pure (wpAny_bind ?_)
  refine call_self (owner := "list") (n := "__setitem__") (.inr (by decide +kernel)) (by decide +kernel) (by decide +kernel) entry_list_setitem (args_list_setitem _ _ _) IL ?_
  show wpAny _ _ (Builtin.List.listSubscript? (.ref a) >>= _) _ _ s
  refine wpAny_bind ?_
  unfold Builtin.List.listSubscript?
  refine wpAny_bind (wpAny_specialOf hTs slice_no_index ?_)
  simp only [Option.isNone_none, if_true]
  refine wpAny_pure ?_
  show wpAny _ _ (typeOf (.ref a) >>= _) _ _ s
  refine wpAny_bind (wpAny_typeOf hTs ?_)
  rw [if_neg (by decide)]
  refine wpAny_bind (sliceParts S (e1 ▸ partIs p) (e2 ▸ partIs u) ?_)
  dsimp only
  rw [if_neg hxb]
  unfold Builtin.List.listAllItems
  refine wpAny_bind (wpAny_bind (wpAny_typeOf Lb.typeIs ?_))
  rw [if_pos (by decide)]
  unfold Builtin.List.listItems
  refine wpAny_bind (wpAny_seqItems gb dtb (wpAny_pure ?_))
  refine wpAny_bind (wpAny_bind (wpAny_seqItems g dt (wpAny_pure ?_)))
  refine wpAny_bind (wpAny_of_eq (sliceIndices_raw lo none none vs.toArray.size (by simp)) ?_)
  rw [sliceBounds_plain]
  dsimp only
  rw [if_pos (by decide)]
  refine wpAny_bind (wpAny_rule ?_)
  have hsz : vs.toArray.size = l.length := by rw [List.size_toArray, r.length]
  rw [if_neg (by simp [Builtin.List.listTooLong, hsz]; exact hz)]
  show wpAny _ _ (updateSeq x _ >>= _) _ _ _
  refine wpAny_bind (upd_seq hT H' U hz (by rw [List.length_take]; lia) (fun h₁ vs₁ tk r₁ => ⟨vs₁.take (lo.elim 0 (clipAt l.length)), ?_, r₁.take _⟩) fun s' H₁ tk => wpAny_bind (wpAny_letGo (wpAny_pure ⟨_, rfl, wpAny_pure (wpAny_pure ⟨(), _, H₁, trivial, tk, h⟩)⟩)))
  rw [hsz]
  have e := r₁.length
  apply Array.toList_inj.mp
  simp [e]
  exact .inr (by lia)
variable {env : Env} {pos : Pos}
theorem e_subX {value slice : Expr} (hC : C.Is K) (h : Tr C VR A σ (eval value env) (fun o σ₁ => Tr C VR A σ₁ (eval slice env) (fun i σ₂ => (∃ y D' dc' l', o = .ref y ∧ (y, AO.seq (.ref D') dc' l') ∈ σ₂ ∧ findIn K (.ref D') "__getitem__" = some (some (.builtin "list.__getitem__"))) ∧ Op2 C VR A σ₂ getItem o i Q))) :
    Tr C VR A σ (eval (.Subscript value slice pos) env) Q := by
  intro s H
  unfold WP
  rw [eval_Subscript]
  refine wpAny_bind ((h s H).run fun ov s₁ o σ₁ H₁ r₁ k₁ q₁ => wpAny_bind (wpAny_holding ((q₁ s₁ H₁).run fun iv s₂ i σ₂ H₂ r₂ k₂ q₂ => wpAny_bind (wpAny_standAt ?_))))
  obtain ⟨⟨y, D', dc', l', rfl, hy, hf⟩, q⟩ := q₂
  have main := q s₂ ov iv H₂ (r₁.mono k₂) r₂
  obtain rfl : ov = .ref y := r₁
  obtain ⟨o, vs, n, g, c, dd, dt, r⟩ := seqOf H₂ hy
  have X : K.In s₂.heap := hC.isK ▸ H₂.bg.kin
  have T : Looks (model C.prog C.w) s₂.heap (typeOf (.ref y)) (.ref D') := c ▸ (Looks.ld g).andThen .now
  have L1 : Looks (model C.prog C.w) s₂.heap (specialOf (.ref y) "__getitem__") (some (.builtin "list.__getitem__")) := T.andThen (looks_findIn X hf)
  have fin : wpAny (model C.prog C.w) A (subscripted slice false (.ref y) iv) (fun r s₃ => wpAny (model C.prog C.w) A (letTemporaryGo value (.ref y) r >>= fun _ => pure r) (Post C VR s.heap Q) No s₃) No s₂ := by
    have g : ∀ ops, wpAny (model C.prog C.w) A (operate ops (getItem (.ref y) iv)) (fun r s₃ => wpAny (model C.prog C.w) A (letTemporaryGo value (.ref y) r >>= fun _ => pure r) (Post C VR s.heap Q) No s₃) No s₂ := fun ops =>
      wpAny_operating (main.run fun r s₃ b σ₃ H₃ r₃ k₃ q₃ => wpAny_bind (wpAny_letTemporaryGo (wpAny_pure ⟨b, σ₃, H₃, r₃, k₁.trans (k₂.trans k₃), q₃⟩)))
    obtain ⟨ops, e⟩ := sub_op slice (.ref y) iv
    rw [e]
    exact g _
  refine wpAny_bind ?_
  rw [getitemInPython_of_ne (by rintro ⟨⟩)]
  refine wpAny_bind (L1.here ?_)
  first
    | exact wpAny_pure (wpAny_bind fin)
    | exact wpAny_bind (wpAny_pure (wpAny_bind fin))
    | exact wpAny_bind fin
end
end Mine
end
section
open PySem PySem.W PySem.Calls PyProof.Rows PySem.Spec PySem.SeqAt
set_option Elab.async false
set_option maxRecDepth 100000
set_option linter.unusedVariables false
namespace Mine
noncomputable def EqD (σ : Led) : Nat → V → V → Prop
  | 0, v, w => leaf v = true ∧ v = w
  | n + 1, v, w => (leaf v = true ∧ v = w) ∨ (∃ l m, v = .tup l ∧ w = .tup m ∧ l.length = m.length ∧ ∀ (i : Nat) x y, l[i]? = some x → m[i]? = some y → EqD σ n x y) ∨
    (∃ a b l m, v = .ref a ∧ w = .ref b ∧ (a, AO.list l) ∈ σ ∧ (b, AO.list m) ∈ σ ∧ l.length = m.length ∧ ∀ (i : Nat) x y, l[i]? = some x → m[i]? = some y → EqD σ n x y)
noncomputable def EqL (σ : Led) (n : Nat) (l m : List V) : Prop := l.length = m.length ∧ ∀ (i : Nat) x y, l[i]? = some x → m[i]? = some y → EqD σ n x y
section
variable {σ : Led} {n : Nat}
theorem EqL.nil : EqL σ n [] [] := ⟨rfl, fun i x y h => by simp at h⟩
theorem EqL.cons {x y : V} {l m : List V} (h : EqD σ n x y) (H : EqL σ n l m) : EqL σ n (x :: l) (y :: m) :=
  ⟨by simp [H.1], fun i u v hu hv => by
    cases i with
    | zero => simp only [List.getElem?_cons_zero, Option.some.injEq] at hu hv; subst hu; subst hv; exact h
    | succ i => simp only [List.getElem?_cons_succ] at hu hv; exact H.2 i u v hu hv⟩
theorem EqL.map {α : Type} {l : List α} {f g : α → V} (h : ∀ x ∈ l, EqD σ n (f x) (g x)) : EqL σ n (l.map f) (l.map g) :=
  ⟨by simp, fun i x y hx hy => by
    rw [List.getElem?_map] at hx hy
    obtain ⟨u, hu, rfl⟩ := Option.map_eq_some_iff.mp hx
    rw [hu] at hy
    cases hy
    exact h u (List.mem_of_getElem? hu)⟩
theorem EqD.leaf {v : V} (h : leaf v = true) : EqD σ n v v := by
  cases n with
  | zero => exact ⟨h, rfl⟩
  | succ n => exact Or.inl ⟨h, rfl⟩
theorem EqD.tup {l m : List V} (h : EqL σ n l m) : EqD σ (n + 1) (.tup l) (.tup m) := Or.inr (Or.inl ⟨l, m, rfl, rfl, h⟩)
theorem EqD.list {a b : Addr} {l m : List V} (ha : (a, AO.list l) ∈ σ) (hb : (b, AO.list m) ∈ σ) (h : EqL σ n l m) : EqD σ (n + 1) (.ref a) (.ref b) := Or.inr (Or.inr ⟨a, b, l, m, rfl, rfl, ha, hb, h⟩)
theorem EqD.flat {v : V} (h : flatD v = true) : EqD σ (n + 1) v v := by
  cases v with
  | tup l => exact .tup ⟨rfl, fun i x y hx hy => by rw [hx] at hy; cases hy; exact .leaf (List.all_eq_true.mp h _ (List.mem_of_getElem? hx))⟩
  | none => exact .leaf h
  | bool b => exact .leaf h
  | int b => exact .leaf h
  | str b => exact .leaf h
  | _ => cases h
theorem EqL.flat {l : List V} (h : l.all flatD = true) : EqL σ (n + 1) l l := ⟨rfl, fun i x y hx hy => by rw [hx] at hy; cases hy; exact .flat (List.all_eq_true.mp h _ (List.mem_of_getElem? hx))⟩
end
section
variable {C : Cx} {σ : Led} {s : Shared}
theorem eq_its {A : Around} {n : Nat} (H : HR C σ s) (ih : ∀ {v w : V} {y z : Value}, EqD σ n v w → VR s.heap v y → VR s.heap w z → EqAt A s y z true) {l m : List V} {ps qs : List Value}
    (rp : VRs s.heap l ps) (rq : VRs s.heap m qs) (hl : l.length = m.length) (h : ∀ (i : Nat) x y, l[i]? = some x → m[i]? = some y → EqD σ n x y) (j : Nat) (h1 : j < ps.toArray.size) (h2 : j < qs.toArray.size) : EqAt A s ps.toArray[j] qs.toArray[j] true := by
  have h1' : j < l.length := by rw [← rp.length]; simpa using h1
  have h2' : j < m.length := by rw [← rq.length]; simpa using h2
  have el : l[j]? = some l[j] := List.getElem?_eq_getElem h1'
  have em : m[j]? = some m[j] := List.getElem?_eq_getElem h2'
  obtain ⟨u, eu, ru⟩ := rp.get el
  obtain ⟨w, ew, rw'⟩ := rq.get em
  obtain ⟨_, eu⟩ := List.getElem?_eq_some_iff.mp eu
  obtain ⟨_, ew⟩ := List.getElem?_eq_some_iff.mp ew
  simp only [List.getElem_toArray]
  rw [eu, ew]
  exact ih (h j _ _ el em) ru rw'
theorem eq_deep (H : HR C σ s) : ∀ (n : Nat) {A : Around} {v w : V} {y z : Value}, A.units + n < cLine → EqD σ n v w → VR s.heap v y → VR s.heap w z → EqAt A s y z true
  | 0, A, v, w, y, z, _, ⟨hl, e⟩, ry, rz => by subst e; exact eq_leaf hl ry rz
  | n + 1, A, v, w, y, z, hu, h, ry, rz => by
    have ih : ∀ {v w : V} {y z : Value}, EqD σ n v w → VR s.heap v y → VR s.heap w z → EqAt A.in1 s y z true := fun h ry rz => eq_deep H n (by show A.units + 1 + n < _; lia) h ry rz
    rcases h with ⟨hl, e⟩ | ⟨l, m, rfl, rfl, hl, h⟩ | ⟨a, b, l, m, rfl, rfl, ha, hb, hl, h⟩
    · subst e; exact eq_leaf hl ry rz
    · obtain ⟨p, ps, rfl, gp, rp⟩ := vr_tup.mp ry
      obtain ⟨q, qs, rfl, gq, rq⟩ := vr_tup.mp rz
      by_cases e : p = q
      · subst e; exact EqAt.same _
      · have hsz : ps.toArray.size = qs.toArray.size := by rw [List.size_toArray, List.size_toArray, rp.length, rq.length, hl]
        have X := RcAt.tuples (A := A) (s := s) (l := p) (b := q) (items := ps.toArray) (items2 := qs.toArray) (e := fun _ => true) ⟨_, gp, rfl, 0, rfl⟩ ⟨_, gq, rfl, 0, rfl⟩ (by lia) (eq_its H ih rp rq hl h)
        rw [hsz, Nat.min_self, all_true, beq_self_eq_true] at X
        exact EqAt.of_refs e X
    · cases ry; cases rz
      by_cases e : a = b
      · subst e; exact EqAt.same _
      · obtain ⟨ps, La, rp⟩ := listOf H ha
        obtain ⟨qs, Lb, rq⟩ := listOf H hb
        have X := RcAt.lists (A := A) (e := fun _ => true) La Lb (by rw [List.size_toArray, List.size_toArray, rp.length, rq.length, hl]) (by lia) (eq_its H ih rp rq hl h)
        rw [all_true] at X
        exact EqAt.of_refs e X
end
section
variable {C : Cx} {A : Around} {σ : Led} {a b : Addr} {Q : V → Led → Prop}
theorem cmp_lneD (n : Nat) {l m : List V} (hA : Fit 1 A) (hn : n ≤ 10) (ha : (a, AO.list l) ∈ σ) (hb : (b, AO.list m) ∈ σ) (hl : EqL σ n l m) (h : Q (.bool false) σ) : Cmp C A σ .NotEq (.ref a) (.ref b) Q := by
  rintro s _ _ H rfl rfl
  obtain ⟨ps, La, rp⟩ := listOf H ha
  obtain ⟨qs, Lb, rq⟩ := listOf H hb
  refine EqBoolInt.of_rcne (k := false) ?_ (done_bool H h)
  have hu : A.units + 12 ≤ 9600 := hA.2.2
  have X := RcNeAt.lists (e := fun _ => true) La Lb (by rw [List.size_toArray, List.size_toArray, rp.length, rq.length, hl.1]) hA.units (eq_its H (fun {v w y z} h ry rz => eq_deep H n (by show A.units + 1 + n < cLine; have : cLine = 9900 := rfl; lia) h ry rz) rp rq hl.1 hl.2)
  rw [all_true] at X
  exact X
theorem cmp_leqD (n : Nat) {l m : List V} (hA : Fit 1 A) (hn : n ≤ 10) (ha : (a, AO.list l) ∈ σ) (hb : (b, AO.list m) ∈ σ) (hl : EqL σ n l m) (h : Q (.bool true) σ) : Cmp C A σ .Eq (.ref a) (.ref b) Q := by
  rintro s _ _ H rfl rfl
  obtain ⟨ps, La, rp⟩ := listOf H ha
  obtain ⟨qs, Lb, rq⟩ := listOf H hb
  refine EqBoolInt.of_rc (k := true) ?_ (done_bool H h)
  have X := RcAt.lists (e := fun _ => true) La Lb (by rw [List.size_toArray, List.size_toArray, rp.length, rq.length, hl.1]) hA.units (eq_its H (fun {v w y z} h ry rz => eq_deep H n (by show A.units + 1 + n < cLine; have : A.units + 12 ≤ 9600 := hA.2.2; have : cLine = 9900 := rfl; lia) h ry rz) rp rq hl.1 hl.2)
  rw [all_true] at X
  exact X
end
end Mine
end
section
open PySem PySem.W PySem.Calls PyProof.Rows PySem.Spec PySem.SeqAt
set_option Elab.async false
set_option maxRecDepth 100000
set_option linter.unusedVariables false
namespace Mine
noncomputable def RD (h : Heap) : Option V → Option Value → Prop
  | none, y => y = none
  | some v, y => ∃ w, y = some w ∧ VR h v w
theorem RD.mono {h h' : Heap} (k : TK h h') : ∀ {x : Option V} {y : Option Value}, RD h x y → RD h' x y
  | none, _, e => e
  | some _, _, ⟨w, e, r⟩ => ⟨w, e, r.mono k⟩
noncomputable def AO.dct {P : Program} {w : World} {K : Type} [DecidableEq K] (knd : KeyKind P w K) (n : Nat) (F : K → Option V) : AO :=
  ⟨fun h o => ∃ kvs, o.IsDictOf knd kvs ∧ kvs.length ≤ n ∧ ∀ k, RD h (F k) (valueAt kvs k), fun t ⟨kvs, a, b, c⟩ => ⟨kvs, a, b, fun k => (c k).mono t⟩⟩
theorem valueAt_stored {K : Type} [DecidableEq K] (kvs : List (K × Value)) (k : K) (v : Value) (x : K) : valueAt (stored kvs k v) x = if x = k then some v else valueAt kvs x := by
  have hfm : ∀ l : List (K × Value), valueAt (l.map fun kv => if kv.1 = k then (kv.1, v) else kv) x = if x = k then (if l.any (fun kv => decide (kv.1 = k)) = true then some v else none) else valueAt l x := by
    intro l
    induction l with
    | nil => simp [valueAt]
    | cons p r ih =>
      unfold valueAt at ih ⊢
      rw [List.map_cons, List.find?_cons, List.find?_cons]
      by_cases h1 : p.1 = k
      · by_cases h2 : x = k
        · subst h2; simp [h1]
        · have : ¬ p.1 = x := fun e => h2 (by rw [← e, h1])
          simp only [h1, if_true, h2, if_false] at ih ⊢
          have h3 : ¬ k = x := fun e => h2 e.symm
          simp only [h3, decide_false]
          exact ih
      · simp only [h1, if_false]
        by_cases h4 : p.1 = x
        · have : ¬ x = k := fun e => h1 (by rw [h4, e])
          simp [h4, this]
        · simp only [h4, decide_false]
          rw [ih]
          rw [List.any_cons, decide_eq_false h1, Bool.false_or]
  unfold stored
  by_cases h : kvs.any (fun kv => decide (kv.1 = k)) = true
  · rw [if_pos h, hfm, if_pos h]
  · rw [if_neg h]
    unfold valueAt
    rw [List.find?_append]
    by_cases h2 : x = k
    · subst h2
      rw [if_pos rfl]
      have : kvs.find? (fun kv => decide (kv.1 = x)) = none := by
        rw [List.find?_eq_none]; intro p hp hh; exact h (List.any_eq_true.mpr ⟨p, hp, hh⟩)
      rw [this]; simp
    · rw [if_neg h2]
      have h3 : ¬ k = x := fun e => h2 e.symm
      cases kvs.find? (fun kv => decide (kv.1 = x)) <;> simp [h3]
section
variable {C : Cx} {A : Around} {σ σ' : Led} {K : Type} [DecidableEq K] {knd : KeyKind C.prog C.w K} {d : Addr} {n : Nat} {F : K → Option V}
theorem dctOf {s : Shared} (H : HR C σ s) (hm : (d, AO.dct knd n F) ∈ σ) : ∃ kvs, s.heap.DictOf knd d kvs ∧ kvs.length ≤ n ∧ ∀ k, RD s.heap (F k) (valueAt kvs k) := by
  obtain ⟨o, g, _, kvs, i, a, b⟩ := H.own _ hm
  exact ⟨kvs, Heap.dictOf_iff.mpr ⟨o, g, i⟩, a, b⟩
noncomputable def IsKey (knd : KeyKind C.prog C.w K) (x : V) (k : K) : Prop := ∀ h v, VR h x v → knd.is k v = true
theorem key_int (i : Int) : IsKey (C := C) (intKind C.prog C.w) (.int i) i := fun h v r => by obtain ⟨t, rfl⟩ := r; exact intKind_is _ _ _ _
theorem key_str (x : Str) : IsKey (C := C) (strKind C.prog C.w) (.str x) x := fun h v r => by obtain ⟨t, rfl⟩ := r; exact strKind_is _ _ _ _
theorem has_dct (hm : (d, AO.dct knd n F) ∈ σ) : Has C σ (.ref d) := ⟨"dict", _, slot_dict_getitem.lookup, fun s ov H r => by cases r; obtain ⟨kvs, D, _⟩ := dctOf H hm; exact D.typeIs⟩
theorem g_dct {x v : V} {k : K} {Q : V → Led → Prop} (hm : (d, AO.dct knd n F) ∈ σ) (hk : IsKey knd x k) (hv : F k = some v) (h : Q v σ) : Op2 C VR A σ getItem (.ref d) x Q := by
  rintro s _ kv H rfl rk
  obtain ⟨kvs, D, _, r⟩ := dctOf H hm
  have r := r k
  rw [hv] at r
  obtain ⟨w, e, rv⟩ := r
  exact wpAny_getItem_of (hk _ _ rk) D.mapOf e ⟨v, σ, H.toks, rv, TK.refl _, h⟩
theorem isDict_pl {o : Obj} {kvs : List (K × Value)} (h : o.IsDictOf knd kvs) : Pl o := by
  obtain ⟨es, ep, _, d, _⟩ := h; exact Pl.dict d
theorem dct_upd {s : Shared} {x v : V} {k : K} {w : Value} {h' : Heap} {tk : Nat} {kvs : List (K × Value)} (H : HR C σ s) (U : LU d (AO.dct knd n F) (AO.dct knd (n + 1) fun x => if x = k then some v else F x) σ σ') (hl : kvs.length ≤ n) (r : ∀ k, RD s.heap (F k) (valueAt kvs k)) (rv : VR s.heap v w)
    (D' : h'.DictOf knd d (stored kvs k w)) (hs : Heap.SameBut d s.heap h') : HR C σ' { s with heap := h', toks := tk } ∧ TK s.heap h' := by
  obtain ⟨o', g', i'⟩ := Heap.dictOf_iff.mp D'
  have hl' : (stored kvs k w).length ≤ n + 1 := by have := stored_length_le kvs k w; lia
  have tk' : TK s.heap h' := HR.tkUpd H U hs
  refine H.upd (s' := { s with heap := h', toks := tk }) U hs g' (isDict_pl i') ⟨_, i', hl', fun y => ?_⟩ rfl rfl
  rw [valueAt_stored]
  show RD h' (if y = k then some v else F y) _
  by_cases h : y = k
  · rw [if_pos h, if_pos h]; exact ⟨w, rfl, rv.mono tk'⟩
  · rw [if_neg h, if_neg h]; exact (r y).mono tk'
theorem dset_ {x v : V} {k : K} {s : Shared} {kv w : Value} {Qu : Led → Prop} (H : HR C σ s) (U : LU d (AO.dct knd n F) (AO.dct knd (n + 1) fun x => if x = k then some v else F x) σ σ') (hk : IsKey knd x k) (hz : n ≤ 1000000) (rk : VR s.heap x kv) (rv : VR s.heap v w) (h : Qu σ') : WP C RU A s (dictSet d kv w) (fun _ σ => Qu σ) := by
  obtain ⟨kvs, D, hl, r⟩ := dctOf H U.mem
  refine wpAny_dictSet_pairs (hk _ _ rk) D (fun h' D' hs => ?_) (by rw [sizeLine_eq]; lia)
  obtain ⟨H', t'⟩ := dct_upd (x := x) (tk := s.toks + 1) H U hl r rv D' hs
  exact ⟨(), σ', H', trivial, t', h⟩
theorem new_ne {s : Shared} (H : HR C σ s) : (s.heap.objs.size == sysModules) = false := by
  obtain ⟨mc, x, _⟩ := H.bg.nl
  obtain ⟨_, _, _, g, _⟩ := x
  have := Heap.lt_size g
  have e : cStatics = 2 := rfl
  have e2 : sysModules = 1 := rfl
  rw [beq_eq_false_iff_ne]
  intro q
  rw [e] at this
  rw [q, e2] at this
  exact absurd this (by decide)
theorem newDict_ (knd : KeyKind C.prog C.w K) {Q : V → Led → Prop} (h : ∀ a, (a == sysModules) = false → Q (.ref a) ((a, AO.dct knd 0 fun _ => none) :: σ)) : Tr C VR A σ newDict Q := by
  intro s H
  refine wpAny_newObj_type ?_
  have tk : TK s.heap (s.heap.push { cls := .type "dict", data := .dict #[] }) := TK.push _
  obtain ⟨o, g, i⟩ := Heap.dictOf_iff.mp (Heap.DictOf.new (knd := knd) s.heap)
  exact ⟨.ref s.heap.objs.size, _, H.add (X := AO.dct knd 0 fun _ => none) (fun b o e => Heap.get?_push_of_some _ e) (Nat.le_refl _) g (isDict_pl i) ⟨[], i, Nat.le_refl _, fun k => rfl⟩ rfl rfl, vr_ref.mpr rfl, tk, h _ (new_ne H)⟩
theorem xor_par (n m : Nat) : (n ^^^ m) % 2 = (n + m) % 2 := by
  have t3 : decide ((n ^^^ m) % 2 = 1) = (decide (n % 2 = 1) ^^ decide (m % 2 = 1)) := by rw [← Nat.testBit_zero, ← Nat.testBit_zero, ← Nat.testBit_zero, Nat.testBit_xor]
  rcases Nat.mod_two_eq_zero_or_one n with a | a <;> rcases Nat.mod_two_eq_zero_or_one m with b | b <;> rcases Nat.mod_two_eq_zero_or_one (n ^^^ m) with c | c <;> rw [a, b, c] at t3 <;> first | lia | exact absurd t3 (by decide)
theorem xa_fit {n m n2 m2 X Y x y p q r t : Nat} (h1 : 2 * n2 + p = n) (h2 : 2 * m2 + q = m) (h3 : n2 + m2 = X + 2 * Y) (h4 : p + q = t + 2 * r) (h5 : 2 * X + t = x) (h6 : 2 * Y + r = y) : n + m = x + 2 * y := by lia
theorem xor_add_and : ∀ (n m : Nat), n + m = (n ^^^ m) + 2 * (n &&& m) := by
  intro n
  induction n using Nat.strongRecOn with
  | ind n ih =>
    intro m
    by_cases h0 : n = 0
    · subst h0; simp
    · have t4 : decide ((n &&& m) % 2 = 1) = (decide (n % 2 = 1) && decide (m % 2 = 1)) := by rw [← Nat.testBit_zero, ← Nat.testBit_zero, ← Nat.testBit_zero, Nat.testBit_and]
      have e4 : (n &&& m) % 2 = (n % 2) * (m % 2) := by
        rcases Nat.mod_two_eq_zero_or_one n with a | a <;> rcases Nat.mod_two_eq_zero_or_one m with b | b <;> rcases Nat.mod_two_eq_zero_or_one (n &&& m) with c | c <;> rw [a, b, c] at t4 ⊢ <;> first | rfl | exact absurd t4 (by decide)
      have a1 := Nat.div_add_mod (n ^^^ m) 2
      have a2 := Nat.div_add_mod (n &&& m) 2
      rw [Nat.xor_div_two, xor_par] at a1
      rw [Nat.and_div_two, e4] at a2
      refine xa_fit (Nat.div_add_mod n 2) (Nat.div_add_mod m 2) (ih (n / 2) (Nat.div_lt_self (Nat.pos_of_ne_zero h0) (by decide)) (m / 2)) ?_ a1 a2
      rw [Nat.add_mod]
      rcases Nat.mod_two_eq_zero_or_one n with a | a <;> rcases Nat.mod_two_eq_zero_or_one m with b | b <;> rw [a, b]
theorem bitXor_nat (n m : Nat) : Builtin.bitXor (n : Int) (m : Int) = ((n ^^^ m : Nat) : Int) := by
  rw [bitXor_and]
  have e : Builtin.bitAnd (n : Int) (m : Int) = ((n &&& m : Nat) : Int) := by
    unfold Builtin.bitAnd
    simp
  rw [e]
  have := xor_add_and n m
  lia
theorem bin_xor {n m : Nat} {Q : V → Led → Prop} (h : Q (.int ((n ^^^ m : Nat) : Int)) σ) : Bin C A σ .BitXor (.int (n : Nat)) (.int (m : Nat)) Q := by
  rintro s a b H ⟨t, rfl⟩ ⟨u, rfl⟩
  refine PyProof.Rows.xor_int ?_
  rw [bitXor_nat]
  exact done_int (h := s.heap) (d := s.drawn) H h
theorem cmp_lnnil {l : List V} {a b : Addr} {Q : V → Led → Prop} (hA : Fit 1 A) (ha : (a, AO.list l) ∈ σ) (hb : (b, AO.list []) ∈ σ) (h : Q (.bool (!l.isEmpty)) σ) : Cmp C A σ .NotEq (.ref a) (.ref b) Q := by
  cases l with
  | nil => exact cmp_lne hA ha hb rfl h
  | cons v r =>
    rintro s _ _ H rfl rfl
    obtain ⟨ps, La, rp⟩ := listOf H ha
    obtain ⟨qs, Lb, rq⟩ := listOf H hb
    refine EqBoolInt.of_rcne (k := true) ?_ (done_bool H h)
    exact RcNeAt.lists_lengths La Lb (by rw [List.size_toArray, List.size_toArray, rp.length, rq.length]; simp) hA.units
end
end Mine
end
section
open PySem PySem.W PySem.Calls PyProof.Rows PySem.Spec PySem.SeqAt
set_option Elab.async false
set_option maxRecDepth 100000
set_option linter.unusedVariables false
namespace Mine
noncomputable def DSet (C : Cx) (A : Around) (σ : Led) (D : Addr) (k v : V) (Q : Led → Prop) : Prop := ∀ s a b, HR C σ s → VR s.heap k a → VR s.heap v b → WP C RU A s (dictSet D a b) (fun _ σ' => Q σ')
noncomputable def LoopD (C : Cx) (A : Around) (cenv : Env) (kx vx target : Expr) (ifs : List Expr) (D : Addr) (Qn : Led → Prop) (it : V) (σ : Led) : Prop :=
  ∃ (J : Nat → Led → Prop) (n : Nat), J n σ ∧ ∀ n σ, J n σ → Nx C A σ it (fun o σ₃ => match o with
    | none => Qn σ₃
    | some y => Asg C A cenv σ₃ target y (fun σ₄ => Tests C A cenv σ₄ ifs (fun b σ₅ => if b = true then Tr C VR A σ₅ (eval kx cenv) (fun k σ₆ => Tr C VR A σ₆ (eval vx cenv) (fun v σ₇ => DSet C A σ₇ D k v (fun σ₈ => ∃ m, m < n ∧ J m σ₈))) else ∃ m, m < n ∧ J m σ₅)))
noncomputable def DLoop (C : Cx) (A : Around) (cenv : Env) (kx vx target : Expr) (ifs : List Expr) (D : Addr) (Qn : Led → Prop) (it : V) (σ : Led) : Prop :=
  LoopD C A cenv kx vx target ifs D Qn it σ ∧ It C A σ it (LoopD C A cenv kx vx target ifs D Qn)
section
variable {C : Cx} {A : Around} {σ : Led} {env cenv : Env} {kx vx target iter : Expr} {ifs : List Expr} {scope : Scope} {pos : Pos} {D : Addr} {Qn : Led → Prop} {it : V}
theorem loopD_ {s : Shared} {itv : Value} {R : Result → Shared → Prop} (H : HR C σ s) (r : VR s.heap it itv) (h : LoopD C A cenv kx vx target ifs D Qn it σ)
    (k : ∀ s' σ', HR C σ' s' → TK s.heap s'.heap → Qn σ' → R (.ok .next) s') (ht : ∀ it v, letOwnedTupleGo target it v = pure ()) :
    codeAny (model C.prog C.w) A (.compLoop (.DictComp kx vx [⟨target, iter, ifs, 0⟩] scope pos) 0 itv (.ref D) cenv) R s := by
  obtain ⟨J, n, j0, turn⟩ := h
  refine codeAny_compLoop_testsD (fun n s' => ∃ σ', HR C σ' s' ∧ TK s.heap s'.heap ∧ J n σ') (fun n s' ⟨σ', H', kk, j⟩ => ?_) n ⟨σ, H, TK.refl _, j0⟩ (ht itv)
  refine (turn n σ' j s' itv H' (r.mono kk)).run fun o s₁ b σ₁ H₁ r₁ k₁ q₁ => ?_
  cases b with
  | none => cases r₁; exact k _ _ H₁ (kk.trans k₁) q₁
  | some y =>
    obtain ⟨v, rfl, rv⟩ := r₁
    refine (q₁ s₁ v H₁ rv).run fun _ s₂ _ σ₂ H₂ _ k₂ q₂ => tests_ H₂ q₂ fun b s₃ σ₃ H₃ k₃ q₃ => ?_
    have k3 := kk.trans (k₁.trans (k₂.trans k₃))
    cases b with
    | false => obtain ⟨m, hm, j⟩ := q₃; exact ⟨m, hm, σ₃, H₃, k3, j⟩
    | true =>
      simp only [if_true] at q₃ ⊢
      refine (q₃ s₃ H₃).run fun x s₄ xv σ₄ H₄ r₄ k₄ q₄ => (q₄ s₄ H₄).run fun y s₅ yv σ₅ H₅ r₅ k₅ q₅ => (q₅ s₅ x y H₅ (r₄.mono k₅) r₅).run fun _ s₆ _ σ₆ H₆ _ k₆ q₆ => ?_
      obtain ⟨m, hm, j⟩ := q₆
      exact ⟨m, hm, σ₆, H₆, k3.trans (k₄.trans (k₅.trans k₆)), j⟩
theorem dcomp_ {K : Type} [DecidableEq K] (knd : KeyKind C.prog C.w K) {cl : List (Str × Addr)} {ks : List Str} {cn : List Str} {use : Option (Value → Sem Unit)} {Q : V → Led → Prop} {pos' : Pos} (nd : ks.Nodup) (hcn : (cellNames scope).reverse = cn) (hclos : closureFor scope env = pure cl)
    (hkind : scope.kind = .function) (hnames : ∀ x ∈ scope.names, x.2 = .local → scope.names.lookup x.1 = some .local)
    (h : Tr C VR A σ (eval iter env) (fun x σ₁ => It C A σ₁ x (fun it σ₂ => ∀ D L cs, cs.map Prod.fst = cn → DLoop C A (cenvOf scope L cs cl env) kx vx target ifs D
      (CompEnd C A ks L D Q use) it ((D, AO.dct knd 0 fun _ => none) :: (L, AO.fr ks (ks.map fun _ => none)) :: (celled cs ++ σ₂)))))
    (ht : ∀ it v, letOwnedTupleGo target it v = pure ()) (hs : ∀ x, foldedSetIterable iter env x = pure x) :
    Tr C VR A σ (comprehension (.DictComp kx vx [⟨target, iter, ifs, 0⟩] scope pos) scope env pos' newDict false (eval iter env) use) Q := by
  intro s H
  refine wpAny_comprehension_free (g := ⟨target, iter, ifs, 0⟩) (gs := []) rfl hs hclos hkind hnames ?_
  refine (h s H).run fun xv s₁ x σ₁ H₁ r₁ k₁ q₁ => (q₁ s₁ xv H₁ r₁).run fun itv s₂ it σ₂ H₂ r₂ k₂ q₂ => ?_
  have hn : Tr C VR A σ₂ newDict (fun v σ' => ∃ D, v = .ref D ∧ σ' = (D, AO.dct knd 0 fun _ => none) :: σ₂) := newDict_ knd fun a _ => ⟨a, rfl, rfl⟩
  refine (hn s₂ H₂).run fun Dv s₃ Dx σ₃ H₃ r₃ k₃ q₃ => ?_
  obtain ⟨D, rfl, rfl⟩ := q₃
  obtain rfl := vr_ref.mp r₃
  have he : WP C RE A s₃ (newFunctionEnv scope env.globals cl (([] : List Str).zip ([] : List Value)) env.qual none .none (some env)) (fun cenv σ₄ => ∃ L cs, cs.map Prod.fst = cn ∧ { cenv with scope := relabel scope env } = cenvOf scope L cs cl env ∧ cenv.locals = L ∧
      σ₄ = (L, AO.fr ks (ks.map fun _ => none)) :: (celled cs ++ (D, AO.dct knd 0 fun _ => none) :: σ₂)) :=
    newFunctionEnv_ (bxs := []) (bvs := []) nd hcn rfl H₃ VRs.nil fun L cs hcs => ⟨L, cs, hcs, rfl, rfl, rfl⟩
  refine he.run fun cenv s₄ cenv' σ₄ H₄ r₄ k₄ q₄ => ?_
  cases r₄
  obtain ⟨L, cs, hcs, hce, hL, rfl⟩ := q₄
  rw [hce, hL]
  have H₅ : HR C ((D, AO.dct knd 0 fun _ => none) :: (L, AO.fr ks (ks.map fun _ => none)) :: (celled cs ++ σ₂)) s₄ := by
    refine H₄.perm ((List.Perm.swap ..).trans (List.Perm.cons _ List.perm_middle.symm))
  have kk := k₁.trans (k₂.trans (k₃.trans k₄))
  have goal : ∀ s' σ', HR C σ' s' → TK s₄.heap s'.heap → CompEnd C A ks L D Q use σ' → compPost (model C.prog C.w) A No use (Post C VR s.heap Q) (.ref D) L (.ok .next) s' := by
    intro s' σ' H' k' q
    cases use with
    | none =>
      obtain ⟨vs, σ'', sb, q⟩ := q
      have H'' := HR.sb sb H'
      obtain ⟨o, g, _, F⟩ := H''.own _ (List.Mem.head _)
      obtain ⟨m, N, _⟩ := FrIs.nsOf F g
      refine ⟨m, N, fun h' hs' => ?_⟩
      have D' := HR.del (s' := { s' with heap := h' }) H'' hs'.extBut rfl rfl
      exact ⟨.ref D, σ'', D'.1, vr_ref.mpr rfl, kk.trans (k'.trans D'.2), q⟩
    | some u =>
      refine (q s' _ H' rfl).run fun _ s'' _ σ'' H'' _ k'' q'' => ?_
      obtain ⟨vs, σ₃, sb, q⟩ := q''
      have H₃' := HR.sb sb H''
      obtain ⟨o, g, _, F⟩ := H₃'.own _ (List.Mem.head _)
      obtain ⟨m, N, _⟩ := FrIs.nsOf F g
      refine ⟨m, N, fun h' hs' => ?_⟩
      have D' := HR.del (s' := { s'' with heap := h' }) H₃' hs'.extBut rfl rfl
      exact ⟨.none, σ₃, D'.1, vr_none.mpr rfl, kk.trans (k'.trans (k''.trans D'.2)), q⟩
  have q := q₂ D L cs hcs
  have ritv := r₂.mono (k₃.trans k₄)
  refine codeAny_compStart_dict (loopD_ H₅ ritv q.1 goal ht) ?_
  refine (q.2 s₄ itv H₅ ritv).run fun it' s₅ itx σ₅ H₆ r₅ k₅ q₅ => loopD_ H₆ r₅ q₅ (fun s' σ' H' k' q => goal s' σ' H' (k₅.trans k') q) ht
end
section
variable {C : Cx} {A : Around} {σ σ' : Led} {env cenv : Env} {kx vx target iter : Expr} {ifs : List Expr} {scope : Scope} {pos : Pos} {D : Addr} {Qn : Led → Prop} {K : Type} [DecidableEq K] {knd : KeyKind C.prog C.w K}
theorem loopD_sb {it : V} {σ₀ : Led} (k : Sb σ₀ σ) (h : LoopD C A cenv kx vx target ifs D Qn it σ₀) : LoopD C A cenv kx vx target ifs D Qn it σ := by
  obtain ⟨J, n, j, turn⟩ := h
  refine ⟨fun m σ => ∃ σ', Sb σ' σ ∧ J m σ', n, ⟨σ₀, k, j⟩, ?_⟩
  rintro n σ ⟨σ', k, j⟩
  refine nx_sb k fun s v H r => (turn n σ' j s v H r).mono fun o σ₃ q => ?_
  cases o with
  | none => exact q
  | some y =>
    refine fun s v H r => (q s v H r).mono fun _ σ₄ q => tests_mono q fun b σ₅ q => ?_
    cases b with
    | false => obtain ⟨m, hm, j⟩ := q; exact ⟨m, hm, _, .refl, j⟩
    | true =>
      simp only [if_true] at q ⊢
      exact Tr.mono q fun k σ₆ q => Tr.mono q fun v σ₇ q => fun s a b H ra rb => (q s a b H ra rb).mono fun _ σ₈ ⟨m, hm, j⟩ => ⟨m, hm, _, .refl, j⟩
theorem loopD_seq {a : Addr} {Xo : Nat → AO} {l : List V} {G : Led → Prop} (I : Iter C A a Xo l G) (hz : l.length ≤ 1000000) (F : Nat → K → Option V) (J : Nat → Led → Prop) (h0 : J 0 σ) (hF0 : F 0 = fun _ => none) (hG : ∀ i σ, J i σ → G ((D, AO.dct knd i (F i)) :: σ))
    (turn : ∀ i y σ, l[i]? = some y → J i σ → Asg C A cenv ((a, Xo (i + 1)) :: (D, AO.dct knd i (F i)) :: σ) target y (fun σ₁ =>
        Tr C VR A σ₁ (eval kx cenv) (fun kv σ₂ => Tr C VR A σ₂ (eval vx cenv) (fun v σ₃ => ∃ k σ', IsKey knd kv k ∧ (F (i + 1) = fun x => if x = k then some v else F i x) ∧ Sb ((D, AO.dct knd i (F i)) :: (a, Xo (i + 1)) :: σ') σ₃ ∧ J (i + 1) σ'))))
    (fin : ∀ σ, J l.length σ → Qn ((D, AO.dct knd l.length (F l.length)) :: σ)) : LoopD C A cenv kx vx target [] D Qn (.ref a) ((D, AO.dct knd 0 fun _ => none) :: (a, Xo 0) :: σ) := by
  refine ⟨fun n σ => ∃ i σ', n = l.length + 1 - i ∧ i ≤ l.length ∧ Sb ((D, AO.dct knd i (F i)) :: (a, Xo i) :: σ') σ ∧ J i σ', l.length + 1, ⟨0, σ, rfl, Nat.zero_le _, by rw [hF0]; exact .refl, h0⟩, ?_⟩
  rintro n σ ⟨i, σ', rfl, hi, sb, j⟩
  refine (fun (h : Nx C A ((a, Xo i) :: (D, AO.dct knd i (F i)) :: σ') (.ref a) _) => (fun s v H r => h s v ((HR.sb sb H).perm (List.Perm.swap ..)) r : Nx C A σ (.ref a) _)) ?_
  rcases Nat.lt_or_ge i l.length with hl | hl
  · have e : l[i]? = some l[i] := List.getElem?_eq_getElem hl
    refine I.item i l[i] _ _ e (hG i σ' j) ?_
    refine fun s v H r => (turn i l[i] σ' e j s v H r).mono fun _ σ₁ q => ?_
    show Tests C A cenv σ₁ [] _
    unfold Tests
    simp only [if_true]
    refine Tr.mono q fun kv σ₂ q => Tr.mono q fun v σ₃ q => ?_
    obtain ⟨k, σ₄, hk, hF, sb2, j2⟩ := q
    intro s a' b' H ra rb
    refine dset_ (knd := knd) (n := i) (F := F i) (HR.sb sb2 H) .head hk (by lia) ra rb ?_
    exact ⟨l.length + 1 - (i + 1), by lia, i + 1, σ₄, rfl, hl, by rw [hF]; exact .refl, j2⟩
  · have e : i = l.length := Nat.le_antisymm hi hl
    subst e
    exact I.stop _ _ (hG _ _ j) (fin σ' j)
theorem dloop_iter {a : Addr} {Xo : Nat → AO} {l : List V} {G : Led → Prop} (sb : Sb ((D, AO.dct knd 0 fun _ => none) :: (a, Xo 0) :: σ') σ) (I : Iter C A a Xo l G) (hz : l.length ≤ 1000000) (F : Nat → K → Option V) (J : Nat → Led → Prop) (h0 : J 0 σ') (hF0 : F 0 = fun _ => none) (hG : ∀ i σ, J i σ → G ((D, AO.dct knd i (F i)) :: σ))
    (turn : ∀ i y σ, l[i]? = some y → J i σ → Asg C A cenv ((a, Xo (i + 1)) :: (D, AO.dct knd i (F i)) :: σ) target y (fun σ₁ =>
        Tr C VR A σ₁ (eval kx cenv) (fun kv σ₂ => Tr C VR A σ₂ (eval vx cenv) (fun v σ₃ => ∃ k σ', IsKey knd kv k ∧ (F (i + 1) = fun x => if x = k then some v else F i x) ∧ Sb ((D, AO.dct knd i (F i)) :: (a, Xo (i + 1)) :: σ') σ₃ ∧ J (i + 1) σ'))))
    (fin : ∀ σ, J l.length σ → Qn ((D, AO.dct knd l.length (F l.length)) :: σ)) : DLoop C A cenv kx vx target [] D Qn (.ref a) σ := by
  have L := loopD_seq (C := C) (A := A) (σ := σ') (cenv := cenv) (kx := kx) (vx := vx) (target := target) (D := D) (Qn := Qn) (knd := knd) I hz F J h0 hF0 hG turn fin
  refine ⟨loopD_sb sb L, fun s v H r => ?_⟩
  have := I.self ((D, AO.dct knd 0 fun _ => none) :: σ') (fun it σ'' => LoopD C A cenv kx vx target [] D Qn it σ'') ?_
  · exact this s v ((HR.sb sb H).perm (List.Perm.swap ..)) r
  · exact loopD_sb (.take (.tail .head) (.take .head .refl)) L
theorem e_dc (knd : KeyKind C.prog C.w K) {cl : List (Str × Addr)} {ks cn : List Str} {Q : V → Led → Prop} (nd : ks.Nodup) (hcn : (cellNames scope).reverse = cn) (hclos : closureFor scope env = pure cl)
    (hkind : scope.kind = .function) (hnames : ∀ x ∈ scope.names, x.2 = .local → scope.names.lookup x.1 = some .local)
    (h : Tr C VR A σ (eval iter env) (fun x σ₁ => It C A σ₁ x (fun it σ₂ => ∀ D L cs, cs.map Prod.fst = cn → DLoop C A (cenvOf scope L cs cl env) kx vx target ifs D
      (fun σ' => ∃ vs σ'', Sb ((L, AO.fr ks vs) :: σ'') σ' ∧ Q (.ref D) σ'') it ((D, AO.dct knd 0 fun _ => none) :: (L, AO.fr ks (ks.map fun _ => none)) :: (celled cs ++ σ₂)))))
    (ht : ∀ it v, letOwnedTupleGo target it v = pure ()) (hs : ∀ x, foldedSetIterable iter env x = pure x) :
    Tr C VR A σ (eval (.DictComp kx vx [⟨target, iter, ifs, 0⟩] scope pos) env) Q :=
  dcomp_ knd (use := none) nd hcn hclos hkind hnames h ht hs
end
end Mine
end
section
open PySem PySem.W PySem.Calls PyProof.Rows PySem.Spec PySem.SeqAt
set_option Elab.async false
set_option maxRecDepth 100000
set_option linter.unusedVariables false
namespace Mine
section
variable {C : Cx} {A : Around} {σ : Led} {a b : Addr} {l : List V} {D : Addr} {dc : Option Addr}
theorem iter_sq (hA : A.handled = none) : Iter C A a (AO.lit b) l (fun σ => (b, AO.seq (.ref D) dc l) ∈ σ) where
  item := by
    rintro i y σ Q e hm h s v H rfl
    obtain ⟨o, g, nt, hc, hd⟩ := H.own _ (List.Mem.head _)
    obtain ⟨ob, vs, n, gb, _, _, db, r⟩ := seqOf H (List.Mem.tail _ hm)
    obtain ⟨w, hw, rw'⟩ := r.get e
    refine sq_next (x := w) (i := i) ⟨o, g, hc, hd⟩ ⟨ob, n, gb, db⟩ (by simpa using hw) ?_
    rintro h' ⟨o', g', c', d'⟩ hs
    have U : LU a (AO.lit b i) (AO.lit b (i + 1)) ((a, AO.lit b i) :: σ) ((a, AO.lit b (i + 1)) :: σ) := .head
    have tk := HR.tkUpd H U hs
    exact ⟨some y, _, (H.upd (s' := { s with heap := h' }) U hs g' (Pl.fields d' (by rw [c']; intro e; cases e)) ⟨c', d'⟩ rfl rfl).1, ⟨_, rfl, rw'.mono tk⟩, tk, h⟩
  stop := by
    rintro σ Q hm h s v H rfl
    obtain ⟨o, g, nt, hc, hd⟩ := H.own _ (List.Mem.head _)
    obtain ⟨ob, vs, n, gb, _, _, db, r⟩ := seqOf H (List.Mem.tail _ hm)
    refine sq_end hA (i := l.length) ⟨o, g, hc, hd⟩ ⟨ob, n, gb, db⟩ (by simp [← r.length]) fun h' hs => ?_
    exact ⟨none, σ, (H.del (s' := { s with heap := h' }) hs rfl rfl).1, rfl, (H.del (s' := { s with heap := h' }) hs rfl rfl).2, h⟩
  self := by
    rintro σ Q h s v H rfl
    obtain ⟨o, g, nt, hc, hd⟩ := H.own _ (List.Mem.head _)
    exact wpAny_pyIter_listiter ⟨o, g, hc, hd⟩ ⟨_, _, H, vr_ref.mpr rfl, TK.refl _, h⟩
end
end Mine
end
section
set_option Elab.async false
set_option linter.unusedVariables false
namespace Mine
theorem half_eq {p q : Nat} (h : p < q) (e : p / 2 = q / 2) : p % 2 = 0 ∧ q % 2 = 1 := by lia
theorem half_r {x y p a : Nat} (e : x / 2 = y / 2) (hx : x % 2 = (p + a) % 2) (hp : p % 2 = 0) (ha : a % 2 = 0) (hq : (a + y) % 2 = 1) : x < y := by lia
theorem lt_xor : ∀ (p a m : Nat), p < a ^^^ m → p ^^^ m < a ∨ p ^^^ a < m := by
  intro p
  induction p using Nat.strongRecOn with
  | ind p ih =>
    intro a m h
    by_cases h0 : p = 0
    · subst h0
      rw [Nat.zero_xor, Nat.zero_xor]
      rcases Nat.lt_trichotomy m a with q | q | q
      · exact .inl q
      · subst q; rw [Nat.xor_self] at h; exact absurd h (Nat.lt_irrefl _)
      · exact .inr q
    · rcases Nat.lt_or_ge (p / 2) ((a ^^^ m) / 2) with hlt | hge
      · rw [Nat.xor_div_two] at hlt
        rcases ih (p / 2) (Nat.div_lt_self (Nat.pos_of_ne_zero h0) (by decide)) (a / 2) (m / 2) hlt with q | q
        · left; rw [← Nat.xor_div_two] at q; exact Nat.lt_of_div_lt_div q
        · right; rw [← Nat.xor_div_two] at q; exact Nat.lt_of_div_lt_div q
      · have q1 : p / 2 = (a ^^^ m) / 2 := Nat.le_antisymm (Nat.div_le_div_right (Nat.le_of_lt h)) hge
        obtain ⟨q2, q3⟩ := half_eq h q1
        rcases Nat.mod_two_eq_zero_or_one a with qa | qa
        · right
          refine half_r (by rw [Nat.xor_div_two, q1, Nat.xor_div_two, Nat.xor_comm (a / 2), Nat.xor_assoc, Nat.xor_self, Nat.xor_zero]) (xor_par p a) q2 qa ?_
          rw [← xor_par]; exact q3
        · left
          have qm : m % 2 = 0 := by
            rw [xor_par] at q3
            clear ih hge q1 h
            rcases Nat.mod_two_eq_zero_or_one m with e | e
            · exact e
            · rw [Nat.add_mod, qa, e] at q3; cases q3
          refine half_r (by rw [Nat.xor_div_two, q1, Nat.xor_div_two, Nat.xor_assoc, Nat.xor_self, Nat.xor_zero]) (xor_par p m) q2 qm ?_
          rw [Nat.add_comm, ← xor_par]; exact q3
noncomputable def IsMex (l : List Nat) (m : Nat) : Prop := m ∉ l ∧ ∀ i, i < m → i ∈ l
theorem mem_le_sum {l : List Nat} {x : Nat} (h : x ∈ l) : x ≤ l.sum := by
  induction l with
  | nil => cases h
  | cons a r ih =>
    rw [List.sum_cons]
    rcases List.mem_cons.mp h with rfl | h
    · lia
    · have := ih h; lia
noncomputable def mexF (l : List Nat) : Nat → Nat → Nat
  | 0, i => i
  | f + 1, i => if i ∈ l then mexF l f (i + 1) else i
noncomputable def mexN (l : List Nat) : Nat := mexF l (l.sum + 2) 0
theorem mexF_is (l : List Nat) : ∀ f i, (∀ j, j < i → j ∈ l) → l.sum + 2 ≤ i + f → IsMex l (mexF l f i)
  | 0, i, h, hf => by
    have := mem_le_sum (h (i - 1) (by lia))
    lia
  | f + 1, i, h, hf => by
    rw [mexF]
    by_cases hi : i ∈ l
    · rw [if_pos hi]
      exact mexF_is l f (i + 1) (fun j hj => by rcases Nat.lt_or_ge j i with q | q
                                                · exact h j q
                                                · have : j = i := by lia
                                                  exact this ▸ hi) (by lia)
    · rw [if_neg hi]; exact ⟨hi, h⟩
theorem mexN_is (l : List Nat) : IsMex l (mexN l) := mexF_is l _ 0 (fun j hj => absurd hj (Nat.not_lt_zero _)) (by lia)
structure Code (loud : Nat → Bool) (n : Nat) (S M : Nat → Nat) : Prop where
  odd : ∀ j k, j < k → k < n → M j = M k → loud (S j ^^^ S k) = false
  low : ∀ k p, k < n → p < M k → ∃ j, j < k ∧ M j = p ∧ loud (S j ^^^ S k) = true
  cl : ∀ j k, j < n → k < n → ∃ l, l < n ∧ S l = S j ^^^ S k ∧ M l = M j ^^^ M k
noncomputable def dbl (n : Nat) (S : Nat → Nat) (b : Nat) (k : Nat) : Nat := if k < n then S k else S (k - n) ^^^ b
theorem xx (a b c : Nat) : (a ^^^ c) ^^^ (b ^^^ c) = a ^^^ b := by
  rw [Nat.xor_comm b c, ← Nat.xor_assoc, Nat.xor_assoc a, Nat.xor_self, Nat.xor_zero]
theorem xor_rc (a b c : Nat) : a ^^^ b ^^^ c = a ^^^ c ^^^ b := by rw [Nat.xor_assoc, Nat.xor_comm b, Nat.xor_assoc]
theorem xx_ (a b c : Nat) : (a ^^^ b) ^^^ (c ^^^ b) = a ^^^ c := xx a c b
theorem Code.more {loud : Nat → Bool} {n : Nat} {S M : Nat → Nat} (h : Code loud n S M) (b m : Nat) (tk : List Nat) (ht : ∀ x, x ∈ tk ↔ ∃ l, l < n ∧ loud (S l ^^^ b) = true ∧ M l = x) (hm : IsMex tk m) :
    Code loud (n + n) (dbl n S b) (dbl n M m) where
  odd := by
    intro j k hjk hk e
    unfold dbl at *
    by_cases hkn : k < n
    · rw [if_pos hkn, if_pos (by lia)] at e ⊢
      exact h.odd j k hjk hkn e
    · rw [if_neg hkn] at e ⊢
      by_cases hjn : j < n
      · rw [if_pos hjn] at e ⊢
        obtain ⟨l, hl, el, ml⟩ := h.cl j (k - n) hjn (by lia)
        rw [← Nat.xor_assoc, ← el]
        cases hh : loud (S l ^^^ b) with
        | false => rfl
        | true =>
          refine absurd ((ht m).mpr ⟨l, hl, hh, ?_⟩) hm.1
          rw [ml, e, Nat.xor_comm (M (k - n)), Nat.xor_assoc, Nat.xor_self, Nat.xor_zero]
      · rw [if_neg hjn] at e ⊢
        rw [xx]
        refine h.odd (j - n) (k - n) (by lia) (by lia) ?_
        have := congrArg (· ^^^ m) e
        simp only [Nat.xor_assoc, Nat.xor_self, Nat.xor_zero] at this
        exact this
  low := by
    intro k p hk hp
    unfold dbl at hp ⊢
    by_cases hkn : k < n
    · rw [if_pos hkn] at hp ⊢
      obtain ⟨j, hj, mj, lj⟩ := h.low k p hkn hp
      exact ⟨j, hj, by rw [if_pos (by lia)]; exact mj, by rw [if_pos (by lia)]; exact lj⟩
    · rw [if_neg hkn] at hp ⊢
      rcases lt_xor _ _ _ hp with q | q
      · obtain ⟨j, hj, mj, lj⟩ := h.low (k - n) (p ^^^ m) (by lia) q
        refine ⟨n + j, by lia, ?_, ?_⟩
        · rw [if_neg (by lia), show n + j - n = j by lia, mj, Nat.xor_assoc, Nat.xor_self, Nat.xor_zero]
        · rw [if_neg (by lia), show n + j - n = j by lia, xx]; exact lj
      · obtain ⟨l, hl, ll, ml⟩ := (ht _).mp (hm.2 _ q)
        obtain ⟨j, hj, sj, mj⟩ := h.cl l (k - n) hl (by lia)
        refine ⟨j, by lia, ?_, ?_⟩
        · rw [if_pos hj, mj, ml, Nat.xor_assoc, Nat.xor_self, Nat.xor_zero]
        · rw [if_pos hj, sj, Nat.xor_comm (S (k - n)) b, xx_ , ll]
  cl := by
    intro j k hj hk
    unfold dbl
    by_cases hjn : j < n <;> by_cases hkn : k < n
    · obtain ⟨l, hl, sl, ml⟩ := h.cl j k hjn hkn
      exact ⟨l, by lia, by rw [if_pos hl, if_pos hjn, if_pos hkn, sl], by rw [if_pos hl, if_pos hjn, if_pos hkn, ml]⟩
    · obtain ⟨l, hl, sl, ml⟩ := h.cl j (k - n) hjn (by lia)
      exact ⟨n + l, by lia, by rw [if_neg (by lia), if_pos hjn, if_neg hkn, show n + l - n = l by lia, sl, Nat.xor_assoc], by rw [if_neg (by lia), if_pos hjn, if_neg hkn, show n + l - n = l by lia, ml, Nat.xor_assoc]⟩
    · obtain ⟨l, hl, sl, ml⟩ := h.cl (j - n) k (by lia) hkn
      exact ⟨n + l, by lia, by rw [if_neg (by lia), if_neg hjn, if_pos hkn, show n + l - n = l by lia, sl, xor_rc], by rw [if_neg (by lia), if_neg hjn, if_pos hkn, show n + l - n = l by lia, ml, xor_rc]⟩
    · obtain ⟨l, hl, sl, ml⟩ := h.cl (j - n) (k - n) (by lia) (by lia)
      exact ⟨l, by lia, by rw [if_pos hl, if_neg hjn, if_neg hkn, xx, sl], by rw [if_pos hl, if_neg hjn, if_neg hkn, xx, ml]⟩
theorem Code.one (loud : Nat → Bool) (S M : Nat → Nat) (hS : S 0 = 0) (hM : M 0 = 0) : Code loud 1 S M where
  odd := by intro j k h1 h2; lia
  low := by intro k p h1 h2; have : k = 0 := by lia
            subst this; lia
  cl := by intro j k h1 h2
           have : j = 0 := by lia
           subst this
           have : k = 0 := by lia
           subst this
           exact ⟨0, by lia, by rw [hS]; rfl, by rw [hM]; rfl⟩
end Mine
end
section
open PySem PySem.W PySem.Calls PyProof.Rows PySem.Spec
set_option Elab.async false
set_option maxRecDepth 100000
set_option linter.unusedVariables false
namespace Mine
section
variable {C : Cx} {A : Around} {σ σ' : Led} {cenv : Env} {elt target cnd : Expr} {D : Addr} {Qn : Led → Prop}
theorem cloop_ff {a : Addr} {Xo : Nat → AO} {l : List V} {G : Led → Prop} (p : Nat → Bool) (f : Nat → V) (sb : Sb ((D, AO.list []) :: (a, Xo 0) :: σ') σ) (I : Iter C A a Xo l G) (J : Nat → Led → Prop) (h0 : J 0 σ') (hG : ∀ i acc σ, J i σ → G ((D, AO.list acc) :: σ)) (hz : l.length ≤ sizeLine)
    (turn : ∀ i y acc σ, l[i]? = some y → J i σ → Asg C A cenv ((a, Xo (i + 1)) :: (D, AO.list acc) :: σ) target y (fun σ₁ => Tr C RB A σ₁ (isTrue cnd cenv (eval cnd cenv)) (fun b σ₂ => b = p i ∧
        (p i = true → Tr C VR A σ₂ (eval elt cenv) (fun v σ₃ => v = f i ∧ ∃ σ', Sb ((D, AO.list acc) :: (a, Xo (i + 1)) :: σ') σ₃ ∧ J (i + 1) σ')) ∧ (p i = false → ∃ σ', Sb ((D, AO.list acc) :: (a, Xo (i + 1)) :: σ') σ₂ ∧ J (i + 1) σ'))))
    (fin : ∀ σ, J l.length σ → Qn ((D, AO.list (((List.range l.length).filter p).map f)) :: σ)) : CLoop C A cenv elt target [cnd] D Qn (.ref a) σ := by
  refine cloop_iter sb I (fun i acc σ' => acc = ((List.range i).filter p).map f ∧ J i σ') ⟨rfl, h0⟩ (fun i acc σ h => hG i acc σ h.2) hz (fun i y acc σ hy ha j => ?_) (fun acc σ h => by rw [h.1]; exact fin σ h.2)
  obtain ⟨ea, j⟩ := j
  refine fun s v H r => (turn i y acc σ hy j s v H r).mono fun _ σ₁ q => ?_
  show Tests C A cenv σ₁ [cnd] _
  refine Tr.mono q fun b σ₂ q => ?_
  obtain ⟨rfl, ht, hf⟩ := q
  cases hp : p i with
  | true =>
    simp only [if_true]
    refine Tr.mono (ht hp) fun v σ₃ q => ?_
    obtain ⟨rfl, σ', k, j⟩ := q
    exact ⟨σ', k, by rw [List.range_succ, List.filter_append, List.map_append, ← ea]; simp [hp], j⟩
  | false =>
    simp only [Bool.false_eq_true, if_false]
    obtain ⟨σ', k, j⟩ := hf hp
    exact ⟨σ', k, by rw [List.range_succ, List.filter_append, List.map_append, ← ea]; simp [hp], j⟩
end
noncomputable def rowF (f : Nat → List Nat) (n : Nat) : List (List Nat) := (List.range n).map f
theorem rowF_len (f : Nat → List Nat) (n : Nat) : (rowF f n).length = n := by simp [rowF]
theorem rowF_succ (f : Nat → List Nat) (n : Nat) : rowF f (n + 1) = rowF f n ++ [f n] := by simp [rowF, List.range_succ]
theorem rowF_at (f : Nat → List Nat) {n i : Nat} (h : i < n) : (rowF f n)[i]? = some (f i) := by simp [rowF, h]
theorem rowF_drop (f : Nat → List Nat) {n i : Nat} (h : i < n) : (rowF f n).drop i = f i :: (rowF f n).drop (i + 1) := by
  rw [List.drop_eq_getElem_cons (by rw [rowF_len]; exact h)]
  simp [rowF]
theorem rowF_dropall (f : Nat → List Nat) (n : Nat) : (rowF f n).drop n = [] := List.drop_eq_nil_of_le (by rw [rowF_len]; exact Nat.le_refl _)
theorem rowF_add (f : Nat → List Nat) (n m : Nat) : rowF f (n + m) = rowF f n ++ rowF (fun i => f (n + i)) m := by
  unfold rowF; rw [List.range_add, List.map_append, List.map_map]; rfl
noncomputable def sumN (b : Nat → Nat) : Nat → Nat → Nat
  | 0 => fun _ => 0
  | t + 1 => dbl (2 ^ t) (sumN b t) (b t)
theorem sumN_lt (b : Nat → Nat) (B : Nat) (hb : ∀ i, b i < 2 ^ B) : ∀ t k, sumN b t k < 2 ^ B
  | 0, k => Nat.pow_pos (by decide)
  | t + 1, k => by
    unfold sumN dbl
    split
    · exact sumN_lt b B hb t k
    · exact Nat.xor_lt_two_pow (sumN_lt b B hb t _) (hb t)
end Mine
end
section
open PySem PySem.W PySem.Calls PyProof.Rows PySem.Spec
set_option Elab.async false
set_option maxRecDepth 100000
set_option linter.unusedVariables false
namespace Mine
section
variable {C : Cx} {A : Around} {σ : Led} {env : Env} {pos : Pos} {Qn R : Led → Prop} {Qr : V → Led → Prop} {Qb Qc : Led → Prop} {t : Expr} {b o : List Stmt}
theorem Xs.next {st : List Stmt} (h : Xs C A env σ st R Qr Qb Qc) (k : ∀ σ', R σ' → Qn σ') : Xs C A env σ st Qn Qr Qb Qc :=
  Tr.mono h fun f σ' q => by
    cases f with
    | next => exact k _ q
    | cont => exact q
    | brk => exact q
    | ret x => exact q
theorem X.next {st : Stmt} (h : X C A env σ st R Qr Qb Qc) (k : ∀ σ', R σ' → Qn σ') : X C A env σ st Qn Qr Qb Qc :=
  Tr.mono h fun f σ' q => by
    cases f with
    | next => exact k _ q
    | cont => exact q
    | brk => exact q
    | ret x => exact q
theorem x_ifJ (R : Led → Prop) (h : Tr C RB A σ (isTrue t env (eval t env)) (fun c σ₁ => if c = true then Xs C A env σ₁ b R Qr Qb Qc else Xs C A env σ₁ o R Qr Qb Qc)) (k : ∀ σ', R σ' → Qn σ') : X C A env σ (.If t b o pos) Qn Qr Qb Qc :=
  x_if (Tr.mono h fun c σ₁ q => by
    cases c with
    | true => simp only [if_true] at q ⊢; exact q.next k
    | false => simp only [Bool.false_eq_true, if_false] at q ⊢; exact q.next k)
end
noncomputable def fd {K : Type} [DecidableEq K] (k : Nat → K) (v : Nat → V) : Nat → K → Option V
  | 0, _ => none
  | i + 1, x => if x = k i then some (v i) else fd k v i x
theorem fd_succ {K : Type} [DecidableEq K] (k : Nat → K) (v : Nat → V) (i : Nat) : fd k v (i + 1) = fun x => if x = k i then some (v i) else fd k v i x := rfl
theorem fd_at {K : Type} [DecidableEq K] (k : Nat → K) (v : Nat → V) : ∀ n, (∀ i j, i < n → j < n → k i = k j → v i = v j) → ∀ i, i < n → fd k v n (k i) = some (v i)
  | 0, _, i, h => absurd h (Nat.not_lt_zero _)
  | n + 1, H, i, h => by
    rw [fd_succ]
    show (if k i = k n then some (v n) else fd k v n (k i)) = _
    by_cases e : k i = k n
    · rw [if_pos e, H i n h (Nat.lt_succ_self n) e]
    · rw [if_neg e]
      refine fd_at k v n (fun a b ha hb => H a b (by lia) (by lia)) i ?_
      rcases Nat.lt_or_ge i n with q | q
      · exact q
      · have : i = n := by lia
        subst this; exact absurd rfl e
noncomputable def PL (D : Addr) (z : Nat) (pa da : Nat → Addr) (it : Nat → List (List Nat × List Nat)) : Nat → Led
  | 0 => []
  | n + 1 => (pa n, AO.seq (.ref D) (some (da n)) ((it n).map pairV)) :: (da n, AO.attrs ["_initial_size"] [some (.int (z : Nat))]) :: PL D z pa da it n
section
variable {D : Addr} {z : Nat} {pa da : Nat → Addr} {it : Nat → List (List Nat × List Nat)} {σ : Led}
theorem PL_mem : ∀ {n i : Nat}, i < n → (pa i, AO.seq (.ref D) (some (da i)) ((it i).map pairV)) ∈ PL D z pa da it n ++ σ ∧ (da i, AO.attrs ["_initial_size"] [some (.int (z : Nat))]) ∈ PL D z pa da it n ++ σ
  | 0, i, h => absurd h (Nat.not_lt_zero _)
  | n + 1, i, h => by
    by_cases e : i = n
    · subst e; exact ⟨.head _, .tail _ (.head _)⟩
    · have ih := PL_mem (n := n) (i := i) (by lia)
      exact ⟨.tail _ (.tail _ ih.1), .tail _ (.tail _ ih.2)⟩
theorem PL_congr {pa' da' : Nat → Addr} {it' : Nat → List (List Nat × List Nat)} : ∀ {n : Nat}, (∀ i, i < n → pa i = pa' i ∧ da i = da' i ∧ it i = it' i) → PL D z pa da it n = PL D z pa' da' it' n
  | 0, _ => rfl
  | n + 1, h => by
    have e := h n (Nat.lt_succ_self n)
    rw [PL, PL, e.1, e.2.1, e.2.2, PL_congr fun i hi => h i (Nat.lt_succ_of_lt hi)]
theorem PL_upd {it' : Nat → List (List Nat × List Nat)} : ∀ {n i : Nat}, i < n → (∀ j, j < n → j ≠ i → it' j = it j) → LU (pa i) (AO.seq (.ref D) (some (da i)) ((it i).map pairV)) (AO.seq (.ref D) (some (da i)) ((it' i).map pairV)) (PL D z pa da it n ++ σ) (PL D z pa da it' n ++ σ)
  | 0, i, h, _ => absurd h (Nat.not_lt_zero _)
  | n + 1, i, h, H => by
    by_cases e : i = n
    · subst e
      rw [PL, PL, PL_congr (it := it') (it' := it) (pa' := pa) (da' := da) fun j hj => ⟨rfl, rfl, H j (by lia) (by lia)⟩]
      exact .head
    · rw [PL, PL, H n (by lia) (fun q => e q.symm)]
      exact .tail (.tail (PL_upd (by lia) fun j hj => H j (by lia)))
end
theorem PL_new {D : Addr} {z : Nat} {pa da : Nat → Addr} {it : Nat → List (List Nat × List Nat)} {n : Nat} (x d : Addr) (h : it n = []) : PL D z (fun p => if p = n then x else pa p) (fun p => if p = n then d else da p) it (n + 1) = (x, AO.seq (.ref D) (some d) []) :: (d, AO.attrs ["_initial_size"] [some (.int (z : Nat))]) :: PL D z pa da it n := by
  rw [PL, h, if_pos rfl, if_pos rfl, PL_congr (pa' := pa) (da' := da) (it' := it) fun i hi => ⟨if_neg (by lia), if_neg (by lia), rfl⟩]; rfl
theorem refs_new {pa : Nat → Addr} {n : Nat} (x : Addr) : (List.range (n + 1)).map (fun p => V.ref (if p = n then x else pa p)) = (List.range n).map (fun p => V.ref (pa p)) ++ [V.ref x] := by
  rw [List.range_succ, List.map_append]
  congr 1
  · exact List.map_congr_left fun p hp => by rw [if_neg (by have := List.mem_range.mp hp; lia)]
  · simp
noncomputable def ws3 (v : Nat) : List Nat := [32, 9].take (v % 3)
end Mine
end
section
open PySem PySem.W PySem.Calls PyProof.Rows PySem.Spec
set_option Elab.async false
set_option maxRecDepth 100000
set_option linter.unusedVariables false
namespace Mine
section
variable {prog : Program} {w : World} {A : Around} {E : Value → Shared → Prop} {R : Result → Shared → Prop} {s : Shared}
theorem compLoop_tests2 {elt target iter : Expr} {ifs : List Expr} {scope : Scope} {pos : Pos} {it acc : Value} {env : Env} (I : Nat → Shared → Prop)
    (turn : ∀ n s, I n s → wpAny (model prog w) A (pyNext it) (fun r s₁ => match r with
      | none => R (.ok .next) s₁
      | some v => wpAny (model prog w) A (letOwnedTupleGo target it v) (fun _ s₁' => wpAny (model prog w) A (assign target env v) (fun _ s₂ =>
          wpAny (model prog w) A (forIn ifs true fun c r => if r = true then do let ok ← isTrue c env (eval c env); pure (ForInStep.yield ok) else pure (ForInStep.yield r)) (fun ok s₃ =>
            if ok = true then wpAny (model prog w) A (eval elt env) (fun x s₄ =>
              wpAny (model prog w) A (call (.builtin "list.append") [acc, x]) (fun _ s₅ => ∃ m, m < n ∧ I m s₅) (notedBy (model prog w) A env fun e s' => R (.error e) s') s₄) (notedBy (model prog w) A env fun e s' => R (.error e) s') s₃
            else ∃ m, m < n ∧ I m s₃) (notedBy (model prog w) A env fun e s' => R (.error e) s') s₂) (notedBy (model prog w) A env fun e s' => R (.error e) s') s₁') (notedBy (model prog w) A env fun e s' => R (.error e) s') s₁) (notedBy (model prog w) A env fun e s' => R (.error e) s') s)
    (n : Nat) (h : I n s) :
    codeAny (model prog w) A (.compLoop (.ListComp elt [⟨target, iter, ifs, 0⟩] scope pos) 0 it acc env) R s := by
  refine codeAny_loop rfl I (fun n s hI => ?_) n h
  show wpAny _ A ((compTurn (.ListComp elt [⟨target, iter, ifs, 0⟩] scope pos) 0 it acc env).onRaise (fun x => do noteFrame x env; theTreesLotGoes x)) _ _ s
  refine wpAny_noted ?_
  rw [compTurn_list]
  refine wpAny_bind (wpAny_standAt (wpAny_bind (wpAny_mono (turn n s hI) (fun r s₁ h₁ => ?_) fun _ _ h' => h')))
  cases r with
  | none => exact wpAny_pure h₁
  | some v =>
    refine wpAny_bind (wpAny_mono h₁ (fun _ s₁' h₁' => ?_) fun _ _ h' => h')
    refine wpAny_bind (wpAny_mono h₁' (fun _ s₂ h₂ => wpAny_bind (wpAny_mono h₂ (fun ok s₃ h₃ => ?_) fun _ _ h' => h')) fun _ _ h' => h')
    cases ok with
    | false => exact wpAny_pure ⟨rfl, h₃⟩
    | true =>
      exact wpAny_bind (wpAny_bind (wpAny_mono h₃ (fun x s₄ h₄ => wpAny_bind (wpAny_mono h₄ (fun _ s₅ h₅ => wpAny_pure (wpAny_pure ⟨rfl, h₅⟩)) fun _ _ h' => h')) fun _ _ h' => h'))
end
noncomputable def Lit (σ : Led) (it y : V) : Prop := ∃ a b i l, it = .ref a ∧ (a, AO.lit b i) ∈ σ ∧ y = .tup l
noncomputable def LoopT (C : Cx) (A : Around) (cenv : Env) (elt target : Expr) (ifs : List Expr) (D : Addr) (Qn : Led → Prop) (it : V) (σ : Led) : Prop :=
  ∃ (J : Nat → Led → Prop) (n : Nat), J n σ ∧ ∀ n σ, J n σ → Nx C A σ it (fun o σ₃ => match o with
    | none => Qn σ₃
    | some y => Lit σ₃ it y ∧ Asg C A cenv σ₃ target y (fun σ₄ => Tests C A cenv σ₄ ifs (fun b σ₅ => if b = true then Tr C VR A σ₅ (eval elt cenv) (fun v σ₆ => Call C A σ₆ (.bi "list.append") [.ref D, v] (fun _ σ₇ => ∃ m, m < n ∧ J m σ₇)) else ∃ m, m < n ∧ J m σ₅)))
noncomputable def CLoopT (C : Cx) (A : Around) (cenv : Env) (elt target : Expr) (ifs : List Expr) (D : Addr) (Qn : Led → Prop) (it : V) (σ : Led) : Prop :=
  LoopT C A cenv elt target ifs D Qn it σ ∧ It C A σ it (LoopT C A cenv elt target ifs D Qn)
section
variable {C : Cx} {A : Around} {σ : Led} {env cenv : Env} {elt iter : Expr} {elts : List Expr} {x1 : Nat} {tp : Pos} {ifs : List Expr} {scope : Scope} {pos : Pos} {D : Addr} {Qn : Led → Prop} {it : V}
theorem loopT_ {s : Shared} {itv : Value} {R : Result → Shared → Prop} (H : HR C σ s) (r : VR s.heap it itv) (h : LoopT C A cenv elt (.Tuple elts x1 tp) ifs D Qn it σ)
    (k : ∀ s' σ', HR C σ' s' → TK s.heap s'.heap → Qn σ' → R (.ok .next) s') :
    codeAny (model C.prog C.w) A (.compLoop (.ListComp elt [⟨.Tuple elts x1 tp, iter, ifs, 0⟩] scope pos) 0 itv (.ref D) cenv) R s := by
  obtain ⟨J, n, j0, turn⟩ := h
  refine compLoop_tests2 (fun n s' => ∃ σ', HR C σ' s' ∧ TK s.heap s'.heap ∧ J n σ') (fun n s' ⟨σ', H', kk, j⟩ => ?_) n ⟨σ, H, TK.refl _, j0⟩
  refine (turn n σ' j s' itv H' (r.mono kk)).run fun o s₁ b σ₁ H₁ r₁ k₁ q₁ => ?_
  cases b with
  | none => cases r₁; exact k _ _ H₁ (kk.trans k₁) q₁
  | some y =>
    obtain ⟨v, rfl, rv⟩ := r₁
    obtain ⟨⟨ia, ib, ii, l, rfl, hm, rfl⟩, q₁⟩ := q₁
    obtain ⟨oi, gi, _, ci, di⟩ := H₁.own _ hm
    obtain ⟨ta, tvs, rfl, _⟩ := vr_tup.mp rv
    cases vr_ref.mp r
    refine wpAny_letOwnedTupleGo_listiter ⟨oi, gi, ci, di⟩ ?_
    refine (q₁ s₁ _ H₁ rv).run fun _ s₂ _ σ₂ H₂ _ k₂ q₂ => tests_ H₂ q₂ fun b s₃ σ₃ H₃ k₃ q₃ => ?_
    have k3 := kk.trans (k₁.trans (k₂.trans k₃))
    cases b with
    | false => obtain ⟨m, hm, j⟩ := q₃; exact ⟨m, hm, σ₃, H₃, k3, j⟩
    | true =>
      simp only [if_true] at q₃ ⊢
      refine (q₃ s₃ H₃).run fun x s₄ xv σ₄ H₄ r₄ k₄ q₄ => (q₄ s₄ _ [.ref D, x] H₄ rfl (VRs.cons rfl (VRs.cons r₄ VRs.nil))).run fun _ s₅ _ σ₅ H₅ _ k₅ q₅ => ?_
      obtain ⟨m, hm, j⟩ := q₅
      exact ⟨m, hm, σ₅, H₅, k3.trans (k₄.trans k₅), j⟩
theorem e_lcT {cl : List (Str × Addr)} {ks : List Str} {cn : List Str} {Q : V → Led → Prop} (nd : ks.Nodup) (hcn : (cellNames scope).reverse = cn) (hclos : closureFor scope env = pure cl)
    (hkind : scope.kind = .function) (hnames : ∀ x ∈ scope.names, x.2 = .local → scope.names.lookup x.1 = some .local)
    (h : Tr C VR A σ (eval iter env) (fun x σ₁ => It C A σ₁ x (fun it σ₂ => ∀ D L cs, cs.map Prod.fst = cn → CLoopT C A (cenvOf scope L cs cl env) elt (.Tuple elts x1 tp) ifs D
      (fun σ' => ∃ vs σ'', Sb ((L, AO.fr ks vs) :: σ'') σ' ∧ Q (.ref D) σ'') it ((D, AO.list []) :: (L, AO.fr ks (ks.map fun _ => none)) :: (celled cs ++ σ₂)))))
    (hs : ∀ x, foldedSetIterable iter env x = pure x) :
    Tr C VR A σ (eval (.ListComp elt [⟨.Tuple elts x1 tp, iter, ifs, 0⟩] scope pos) env) Q := by
  intro s H
  show wpAny _ _ (comprehension (.ListComp elt [⟨.Tuple elts x1 tp, iter, ifs, 0⟩] scope pos) scope env _ (newList []) false (eval iter env) none) _ _ s
  refine wpAny_comprehension_free (g := ⟨.Tuple elts x1 tp, iter, ifs, 0⟩) (gs := []) rfl hs hclos hkind hnames ?_
  refine (h s H).run fun xv s₁ x σ₁ H₁ r₁ k₁ q₁ => (q₁ s₁ xv H₁ r₁).run fun itv s₂ it σ₂ H₂ r₂ k₂ q₂ => ?_
  have hn : OpL C VR A σ₂ newList [] (fun v σ' => ∃ D, v = .ref D ∧ σ' = (D, AO.list []) :: σ₂) := newList_ (Nat.zero_le _) fun a => ⟨a, rfl, rfl⟩
  refine (hn s₂ [] H₂ VRs.nil).run fun Dv s₃ Dx σ₃ H₃ r₃ k₃ q₃ => ?_
  obtain ⟨D, rfl, rfl⟩ := q₃
  obtain rfl := vr_ref.mp r₃
  have he : WP C RE A s₃ (newFunctionEnv scope env.globals cl (([] : List Str).zip ([] : List Value)) env.qual none .none (some env)) (fun cenv σ₄ => ∃ L cs, cs.map Prod.fst = cn ∧ { cenv with scope := relabel scope env } = cenvOf scope L cs cl env ∧ cenv.locals = L ∧
      σ₄ = (L, AO.fr ks (ks.map fun _ => none)) :: (celled cs ++ (D, AO.list []) :: σ₂)) :=
    newFunctionEnv_ (bxs := []) (bvs := []) nd hcn rfl H₃ VRs.nil fun L cs hcs => ⟨L, cs, hcs, rfl, rfl, rfl⟩
  refine he.run fun cenv s₄ cenv' σ₄ H₄ r₄ k₄ q₄ => ?_
  cases r₄
  obtain ⟨L, cs, hcs, hce, hL, rfl⟩ := q₄
  rw [hce, hL]
  have H₅ : HR C ((D, AO.list []) :: (L, AO.fr ks (ks.map fun _ => none)) :: (celled cs ++ σ₂)) s₄ := by
    refine H₄.perm ((List.Perm.swap ..).trans (List.Perm.cons _ List.perm_middle.symm))
  have kk := k₁.trans (k₂.trans (k₃.trans k₄))
  have goal : ∀ s' σ', HR C σ' s' → TK s₄.heap s'.heap → (∃ vs σ'', Sb ((L, AO.fr ks vs) :: σ'') σ' ∧ Q (.ref D) σ'') → compPost (model C.prog C.w) A No none (Post C VR s.heap Q) (.ref D) L (.ok .next) s' := by
    intro s' σ' H' k' q
    obtain ⟨vs, σ'', sb, q⟩ := q
    have H'' := HR.sb sb H'
    obtain ⟨o, g, _, F⟩ := H''.own _ (List.Mem.head _)
    obtain ⟨m, N, _⟩ := FrIs.nsOf F g
    refine ⟨m, N, fun h' hs' => ?_⟩
    have D' := HR.del (s' := { s' with heap := h' }) H'' hs'.extBut rfl rfl
    exact ⟨.ref D, σ'', D'.1, vr_ref.mpr rfl, kk.trans (k'.trans D'.2), q⟩
  have q := q₂ D L cs hcs
  have ritv := r₂.mono (k₃.trans k₄)
  refine codeAny_compStart_list (loopT_ H₅ ritv q.1 goal) ?_
  refine (q.2 s₄ itv H₅ ritv).run fun it' s₅ itx σ₅ H₆ r₅ k₅ q₅ => loopT_ H₆ r₅ q₅ (fun s' σ' H' k' q => goal s' σ' H' (k₅.trans k') q)
end
section
variable {C : Cx} {A : Around} {σ σ' : Led} {cenv : Env} {elt target cnd : Expr} {ifs : List Expr} {D b : Addr} {Qn : Led → Prop}
theorem loopT_sb {it : V} {σ₀ : Led} (k : Sb σ₀ σ) (h : LoopT C A cenv elt target ifs D Qn it σ₀) : LoopT C A cenv elt target ifs D Qn it σ := by
  obtain ⟨J, n, j, turn⟩ := h
  refine ⟨fun n σ => ∃ σ₀, Sb σ₀ σ ∧ J n σ₀, n, ⟨σ₀, k, j⟩, fun n σ ⟨σ₁, k, j⟩ => nx_sb k fun s v H r => (turn n σ₁ j s v H r).mono fun o σ₃ q => ?_⟩
  cases o with
  | none => exact q
  | some y =>
    refine ⟨q.1, fun s a H r => (q.2 s a H r).mono fun _ σ₄ q => tests_mono q fun b σ₅ q => ?_⟩
    cases b with
    | false => obtain ⟨m, hm, j⟩ := q; exact ⟨m, hm, _, .refl, j⟩
    | true => exact Tr.mono q fun v σ₆ q => fun s fv vs H r rr => (q s fv vs H r rr).mono fun _ σ₇ ⟨m, hm, j⟩ => ⟨m, hm, _, .refl, j⟩
theorem loopT_seq {a : Addr} {l : List V} {G : Led → Prop} (I : Iter C A a (AO.lit b) l G) (ht : ∀ y ∈ l, ∃ t, y = V.tup t) (J : Nat → List V → Led → Prop) (h0 : J 0 [] σ) (hG : ∀ i acc σ, J i acc σ → G ((D, AO.list acc) :: σ)) (hz : l.length ≤ sizeLine)
    (turn : ∀ i y acc σ, l[i]? = some y → acc.length ≤ i → J i acc σ → Asg C A cenv ((a, AO.lit b (i + 1)) :: (D, AO.list acc) :: σ) target y (fun σ₁ => Tests C A cenv σ₁ ifs (fun t σ₂ => if t = true then
        Tr C VR A σ₂ (eval elt cenv) (fun v σ₃ => ∃ σ', Sb ((D, AO.list acc) :: (a, AO.lit b (i + 1)) :: σ') σ₃ ∧ J (i + 1) (acc ++ [v]) σ')
        else ∃ σ', Sb ((D, AO.list acc) :: (a, AO.lit b (i + 1)) :: σ') σ₂ ∧ J (i + 1) acc σ')))
    (fin : ∀ acc σ, J l.length acc σ → Qn ((D, AO.list acc) :: σ)) : LoopT C A cenv elt target ifs D Qn (.ref a) ((D, AO.list []) :: (a, AO.lit b 0) :: σ) := by
  refine ⟨fun n σ => ∃ i acc σ', n = l.length + 1 - i ∧ i ≤ l.length ∧ acc.length ≤ i ∧ Sb ((D, AO.list acc) :: (a, AO.lit b i) :: σ') σ ∧ J i acc σ', l.length + 1, ⟨0, [], σ, rfl, Nat.zero_le _, Nat.le_refl _, .refl, h0⟩, ?_⟩
  rintro n σ ⟨i, acc, σ', rfl, hi, ha, sb, j⟩
  refine (fun (h : Nx C A ((a, AO.lit b i) :: (D, AO.list acc) :: σ') (.ref a) _) => (fun s v H r => h s v ((HR.sb sb H).perm (List.Perm.swap ..)) r : Nx C A σ (.ref a) _)) ?_
  rcases Nat.lt_or_ge i l.length with hl | hl
  · have e : l[i]? = some l[i] := List.getElem?_eq_getElem hl
    refine I.item i l[i] _ _ e (hG i acc σ' j) ?_
    obtain ⟨tt, ett⟩ := ht l[i] (List.getElem_mem hl)
    refine ⟨⟨a, b, i + 1, tt, rfl, List.Mem.head _, ett⟩, ?_⟩
    refine fun s v H r => (turn i l[i] acc σ' e ha j s v H r).mono fun _ σ₁ q => ?_
    have back : ∀ {acc' : List V} {σ₂ : Led}, acc'.length ≤ i + 1 → (∃ σ', Sb ((D, AO.list acc') :: (a, AO.lit b (i + 1)) :: σ') σ₂ ∧ J (i + 1) acc' σ') →
        ∃ m, m < l.length + 1 - i ∧ ∃ i acc σ', m = l.length + 1 - i ∧ i ≤ l.length ∧ acc.length ≤ i ∧ Sb ((D, AO.list acc) :: (a, AO.lit b i) :: σ') σ₂ ∧ J i acc σ' := by
      rintro acc' σ₂ hh ⟨σ', k, j⟩
      exact ⟨l.length + 1 - (i + 1), by lia, i + 1, acc', σ', rfl, hl, hh, k, j⟩
    refine tests_mono q fun t σ₂ q => ?_
    cases t with
    | false => exact back (by lia) q
    | true =>
      simp only [if_true] at q ⊢
      refine Tr.mono q fun v σ₃ ⟨σ', k, j⟩ => ?_
      intro s fv vs H r rr
      refine c_append (Q := fun _ σ₇ => ∃ m, m < l.length + 1 - i ∧ ∃ i acc σ', m = l.length + 1 - i ∧ i ≤ l.length ∧ acc.length ≤ i ∧ Sb ((D, AO.list acc) :: (a, AO.lit b i) :: σ') σ₇ ∧ J i acc σ') .head (by lia) ?_ s fv vs (HR.sb k H) r rr
      exact back (by simp; lia) ⟨σ', .refl, j⟩
  · have e : i = l.length := Nat.le_antisymm hi hl
    subst e
    exact I.stop _ _ (hG _ _ _ j) (fin acc σ' j)
theorem cloopT_iter {a : Addr} {l : List V} {G : Led → Prop} (sb : Sb ((D, AO.list []) :: (a, AO.lit b 0) :: σ') σ) (I : Iter C A a (AO.lit b) l G) (ht : ∀ y ∈ l, ∃ t, y = V.tup t) (J : Nat → List V → Led → Prop) (h0 : J 0 [] σ') (hG : ∀ i acc σ, J i acc σ → G ((D, AO.list acc) :: σ)) (hz : l.length ≤ sizeLine)
    (turn : ∀ i y acc σ, l[i]? = some y → acc.length ≤ i → J i acc σ → Asg C A cenv ((a, AO.lit b (i + 1)) :: (D, AO.list acc) :: σ) target y (fun σ₁ => Tests C A cenv σ₁ ifs (fun t σ₂ => if t = true then
        Tr C VR A σ₂ (eval elt cenv) (fun v σ₃ => ∃ σ', Sb ((D, AO.list acc) :: (a, AO.lit b (i + 1)) :: σ') σ₃ ∧ J (i + 1) (acc ++ [v]) σ')
        else ∃ σ', Sb ((D, AO.list acc) :: (a, AO.lit b (i + 1)) :: σ') σ₂ ∧ J (i + 1) acc σ')))
    (fin : ∀ acc σ, J l.length acc σ → Qn ((D, AO.list acc) :: σ)) : CLoopT C A cenv elt target ifs D Qn (.ref a) σ := by
  have main := loopT_seq (D := D) I ht J h0 hG hz turn fin
  refine ⟨loopT_sb sb main, fun s v H r => ?_⟩
  have := I.self ((D, AO.list []) :: σ') (fun it σ'' => LoopT C A cenv elt target ifs D Qn it σ'') ?_
  · exact this s v ((HR.sb sb H).perm (List.Perm.swap ..)) r
  · exact loopT_sb (.take (.tail .head) (.take .head .refl)) main
theorem cloopT_ff {a : Addr} {l : List V} {G : Led → Prop} (p : Nat → Bool) (f : Nat → V) (sb : Sb ((D, AO.list []) :: (a, AO.lit b 0) :: σ') σ) (I : Iter C A a (AO.lit b) l G) (ht : ∀ y ∈ l, ∃ t, y = V.tup t) (J : Nat → Led → Prop) (h0 : J 0 σ') (hG : ∀ i acc σ, J i σ → G ((D, AO.list acc) :: σ)) (hz : l.length ≤ sizeLine)
    (turn : ∀ i y acc σ, l[i]? = some y → J i σ → Asg C A cenv ((a, AO.lit b (i + 1)) :: (D, AO.list acc) :: σ) target y (fun σ₁ => Tr C RB A σ₁ (isTrue cnd cenv (eval cnd cenv)) (fun t σ₂ => t = p i ∧
        (p i = true → Tr C VR A σ₂ (eval elt cenv) (fun v σ₃ => v = f i ∧ ∃ σ', Sb ((D, AO.list acc) :: (a, AO.lit b (i + 1)) :: σ') σ₃ ∧ J (i + 1) σ')) ∧ (p i = false → ∃ σ', Sb ((D, AO.list acc) :: (a, AO.lit b (i + 1)) :: σ') σ₂ ∧ J (i + 1) σ'))))
    (fin : ∀ σ, J l.length σ → Qn ((D, AO.list (((List.range l.length).filter p).map f)) :: σ)) : CLoopT C A cenv elt target [cnd] D Qn (.ref a) σ := by
  refine cloopT_iter sb I ht (fun i acc σ' => acc = ((List.range i).filter p).map f ∧ J i σ') ⟨rfl, h0⟩ (fun i acc σ h => hG i acc σ h.2) hz (fun i y acc σ hy ha j => ?_) (fun acc σ h => by rw [h.1]; exact fin σ h.2)
  obtain ⟨ea, j⟩ := j
  refine fun s v H r => (turn i y acc σ hy j s v H r).mono fun _ σ₁ q => ?_
  show Tests C A cenv σ₁ [cnd] _
  refine Tr.mono q fun b σ₂ q => ?_
  obtain ⟨rfl, ht, hf⟩ := q
  cases hp : p i with
  | true =>
    simp only [if_true]
    refine Tr.mono (ht hp) fun v σ₃ q => ?_
    obtain ⟨rfl, σ', k, j⟩ := q
    exact ⟨σ', k, by rw [List.range_succ, List.filter_append, List.map_append, ← ea]; simp [hp], j⟩
  | false =>
    simp only [Bool.false_eq_true, if_false]
    obtain ⟨σ', k, j⟩ := hf hp
    exact ⟨σ', k, by rw [List.range_succ, List.filter_append, List.map_append, ← ea]; simp [hp], j⟩
theorem cloopT_map {a : Addr} {l : List V} {G : Led → Prop} (f : Nat → V) (sb : Sb ((D, AO.list []) :: (a, AO.lit b 0) :: σ') σ) (I : Iter C A a (AO.lit b) l G) (ht : ∀ y ∈ l, ∃ t, y = V.tup t) (J : Nat → Led → Prop) (h0 : J 0 σ') (hG : ∀ i acc σ, J i σ → G ((D, AO.list acc) :: σ)) (hz : l.length ≤ sizeLine)
    (turn : ∀ i y acc σ, l[i]? = some y → J i σ → Asg C A cenv ((a, AO.lit b (i + 1)) :: (D, AO.list acc) :: σ) target y (fun σ₁ => Tr C VR A σ₁ (eval elt cenv) (fun v σ₃ => v = f i ∧ ∃ σ', Sb ((D, AO.list acc) :: (a, AO.lit b (i + 1)) :: σ') σ₃ ∧ J (i + 1) σ')))
    (fin : ∀ σ, J l.length σ → Qn ((D, AO.list ((List.range l.length).map f)) :: σ)) : CLoopT C A cenv elt target [] D Qn (.ref a) σ := by
  refine cloopT_iter sb I ht (fun i acc σ' => acc = (List.range i).map f ∧ J i σ') ⟨rfl, h0⟩ (fun i acc σ h => hG i acc σ h.2) hz (fun i y acc σ hy ha j => ?_) (fun acc σ h => by rw [h.1]; exact fin σ h.2)
  obtain ⟨ea, j⟩ := j
  refine fun s v H r => (turn i y acc σ hy j s v H r).mono fun _ σ₁ q => ?_
  show Tests C A cenv σ₁ [] _
  unfold Tests
  simp only [if_true]
  refine Tr.mono q fun v σ₃ q => ?_
  obtain ⟨rfl, σ', k, j⟩ := q
  exact ⟨σ', k, by rw [List.range_succ, List.map_append, ← ea]; rfl, j⟩
end
end Mine
end
section
open PySem PySem.W PySem.Calls PyProof.Rows PySem.Spec
set_option Elab.async false
set_option maxRecDepth 100000
set_option linter.unusedVariables false
namespace Mine
theorem ints_are {h : Heap} : ∀ {ns : List Int} {vs : List Value}, VRs h (ns.map V.int) vs → IntsAre vs ns
  | [], vs, r => by simp only [List.map_nil, VRs] at r; subst r; exact .nil
  | n :: ns, vs, r => by
    simp only [List.map_cons, VRs] at r
    obtain ⟨v, w, rfl, ⟨t, rfl⟩, r⟩ := r
    exact .cons n t (ints_are r)
section
variable {C : Cx} {A : Around} {σ : Led} {a : Addr} {Q : V → Led → Prop} {ns : List Int} {k : Int}
theorem cmp_inI (hm : (a, AO.list (ns.map V.int)) ∈ σ) (h : Q (.bool (ns.any (· == k))) σ) : Cmp C A σ .In (.int k) (.ref a) Q := by
  rintro s _ _ H ⟨t, rfl⟩ rfl
  obtain ⟨vs, L, r⟩ := listOf H hm
  exact in_list_ints L (ints_are r) (done_bool H h)
theorem c_max (hA : A.handled = none) (hm : (a, AO.list (ns.map V.int)) ∈ σ) (hne : 0 < ns.length) (h : ∀ M, M ∈ ns → (∀ x ∈ ns, x ≤ M) → Q (.int M) σ) : Call C A σ (.bi "max") [.ref a] Q := by
  rintro s fv vs' H rfl r
  simp only [VRs] at r
  obtain ⟨_, _, rfl, rfl, rfl⟩ := r
  obtain ⟨vs, L, rv⟩ := listOf H hm
  have hi := ints_are rv
  obtain ⟨xs, e⟩ := hi.allInts.items
  have hns : ns = xs.toList.map (·.1) := by
    rw [← hi.numsOf, ← nums_intItems, ← e]
  have hsz : 0 < xs.size := by
    have h3 := hne; rw [hns, List.length_map, Array.length_toList] at h3; exact h3
  rw [e] at L
  refine max_intList hA L hsz fun v h' tk hv hk => ?_
  obtain ⟨t, rfl⟩ := intItems_at hv
  obtain ⟨h1, h2⟩ := argBest_gt (numAt xs) (xs.size - 1)
  refine ⟨.int _, σ, H.grow (s' := { s with heap := h', toks := tk }) hk rfl rfl, ⟨t, rfl⟩, fun _ _ e _ => hk _ _ e, h _ ?_ fun a ha => ?_⟩
  · rw [hns, numAt_eq]; exact getD_mem (by rw [List.length_map, Array.length_toList]; lia)
  · rw [hns] at ha
    obtain ⟨j, hj, rfl⟩ := mem_getD ha
    rw [List.length_map, Array.length_toList] at hj
    rw [← numAt_eq]; exact h2 j (by lia)
noncomputable def RwL (ra : Nat → Addr) (it : Nat → List V) : Nat → Led
  | 0 => []
  | n + 1 => (ra n, AO.list (it n)) :: RwL ra it n
theorem RwL_mem {ra : Nat → Addr} {it : Nat → List V} : ∀ {n i : Nat}, i < n → (ra i, AO.list (it i)) ∈ RwL ra it n ++ σ
  | 0, i, h => absurd h (Nat.not_lt_zero _)
  | n + 1, i, h => by
    by_cases e : i = n
    · subst e; exact .head _
    · exact .tail _ (RwL_mem (by lia))
theorem RwL_congr {ra ra' : Nat → Addr} {it it' : Nat → List V} : ∀ {n : Nat}, (∀ i, i < n → ra i = ra' i ∧ it i = it' i) → RwL ra it n = RwL ra' it' n
  | 0, _ => rfl
  | n + 1, h => by
    have e := h n (Nat.lt_succ_self n)
    rw [RwL, RwL, e.1, e.2, RwL_congr fun i hi => h i (Nat.lt_succ_of_lt hi)]
theorem RwL_upd {ra : Nat → Addr} {it it' : Nat → List V} : ∀ {n i : Nat}, i < n → (∀ j, j < n → j ≠ i → it' j = it j) → LU (ra i) (AO.list (it i)) (AO.list (it' i)) (RwL ra it n ++ σ) (RwL ra it' n ++ σ)
  | 0, i, h, _ => absurd h (Nat.not_lt_zero _)
  | n + 1, i, h, H => by
    by_cases e : i = n
    · subst e
      rw [RwL, RwL, RwL_congr (it := it') (it' := it) (ra' := ra) fun j hj => ⟨rfl, H j (by lia) (by lia)⟩]
      exact .head
    · rw [RwL, RwL, H n (by lia) (fun q => e q.symm)]
      exact .tail (RwL_upd (by lia) fun j hj => H j (by lia))
theorem RwL_new {ra : Nat → Addr} {it : Nat → List V} {n : Nat} (x : Addr) (l : List V) (h : it n = l) : RwL (fun p => if p = n then x else ra p) it (n + 1) = (x, AO.list l) :: RwL ra it n := by
  rw [RwL, h, if_pos rfl, RwL_congr (ra' := ra) (it' := it) fun i hi => ⟨if_neg (by lia), rfl⟩]
end
end Mine
end
section
open PySem PySem.W PySem.Calls PyProof.Rows PySem.Spec
set_option Elab.async false
set_option maxRecDepth 100000
set_option linter.unusedVariables false
namespace Mine
theorem pick_mid (p : Addr × AO) : ∀ (P σ : Led), Pick p (P ++ p :: σ) (P ++ σ)
  | [], σ => .head
  | q :: P, σ => .tail (pick_mid p P σ)
theorem sb_rot (P : Led) : ∀ (X σ : Led), Sb (X ++ (P ++ σ)) (P ++ (X ++ σ))
  | [], σ => .refl
  | x :: X, σ => .take (pick_mid x P (X ++ σ)) (sb_rot P X σ)
theorem LU.behind {a : Addr} {X X' : AO} {σ σ' : Led} (U : LU a X X' σ σ') : ∀ P : Led, LU a X X' (P ++ σ) (P ++ σ')
  | [] => U
  | _ :: P => .tail (LU.behind U P)
theorem Call.drop {C : Cx} {A : Around} {σ : Led} {f : V} {xs : List V} {Q : V → Led → Prop} (h : Call C A σ f xs (Drop Q)) : Call C A σ f xs Q := fun s fv vs H r rr => (h s fv vs H r rr).drop
theorem clipN (n i : Nat) : clipAt n (i : Int) = min i n := clipAt_nat n i
theorem cut_from (l : List V) (i : Nat) : cut l (some (i : Int)) none = l.drop i := by
  unfold cut
  simp only [Option.elim, clipN]
  by_cases h : i ≤ l.length
  · rw [Nat.min_eq_left h, List.take_of_length_le (by simp)]
  · rw [Nat.min_eq_right (by lia), List.drop_length, List.drop_eq_nil_of_le (by lia)]; simp
theorem cut_to (l : List V) (i : Nat) : cut l none (some (i : Int)) = l.take i := by
  unfold cut
  simp only [Option.elim, clipN, Nat.sub_zero, List.drop_zero]
  by_cases h : i ≤ l.length
  · rw [Nat.min_eq_left h]
  · rw [Nat.min_eq_right (by lia), List.take_length, List.take_of_length_le (by lia)]
theorem take_clip (l : List V) (i : Nat) : l.take (clipAt l.length (i : Int)) = l.take i := by
  rw [clipN]
  by_cases h : i ≤ l.length
  · rw [Nat.min_eq_left h]
  · rw [Nat.min_eq_right (by lia), List.take_length, List.take_of_length_le (by lia)]
theorem pLen_le (B : Nat) : ∀ ps : List (List Nat × List Nat), (∀ p ∈ ps, p.1.length + p.2.length ≤ B) → pLen ps ≤ B * ps.length
  | [], _ => by simp [pLen]
  | p :: ps, h => by
    have h1 := h p (.head _)
    have h2 := pLen_le B ps fun q hq => h q (.tail _ hq)
    unfold pLen at *
    rw [List.map_cons, List.sum_cons, List.length_cons, Nat.mul_succ]; lia
theorem fmod3 (k : Nat) : ((k : Nat) : Int).fmod 3 = ((k % 3 : Nat) : Int) := by rw [Int.fmod_eq_emod_of_nonneg _ (by decide)]; rfl
end Mine
end
section
open PySem PySem.W PyProof.Rows
set_option Elab.async false
set_option maxRecDepth 100000
set_option maxHeartbeats 8000000
set_option compiler.extract_closed false
namespace Mine
noncomputable def vw : Program := { PySem.Challenge.pw_xl0005_01 with main := { PySem.Challenge.pw_xl0005_01.main with body := [0, 2, 3, 5, 7, 9, 10, 11, 12, 13, 14, 15, 16, 17, 18].filterMap fun i => PySem.Challenge.pw_xl0005_01.main.body[i]? } }
noncomputable abbrev xv (s : Shared) : Bool := xlAt vw [] s && recOk (RowW.records (OpenRow.toRowW (OpenLaw.row PySem.Challenge.rw_xl0005_01))) s
theorem ho {d : DefRec} {kwd : List (Str × Expr)} (H : Hook) (hl : LeftO (OpenLaw.row PySem.Challenge.rw_xl0005_01).prog vw [Str.ofString "_Accumulator"] xv H.obs H.val 2500)
    (hdef : defOf vw (OpenLaw.row PySem.Challenge.rw_xl0005_01).name = some (d, kwd)) (hp : (OpenLaw.row PySem.Challenge.rw_xl0005_01).prog.theDef (OpenLaw.row PySem.Challenge.rw_xl0005_01).name = some (d.params, d.body, d.scope)) (hk : kwWritten? d.params.kwonlyargs d.params.kw_defaults = some kwd)
    (hwr : (!(OpenLaw.row PySem.Challenge.rw_xl0005_01).writes || (OpenLaw.row PySem.Challenge.rw_xl0005_01).records.isEmpty) = true) (k1 : (OpenLaw.row PySem.Challenge.rw_xl0005_01).wellSaid = true)
    (ok : (chainsOk vw && opensWell (OpenLaw.row PySem.Challenge.rw_xl0005_01).prog && (frees (OpenLaw.row PySem.Challenge.rw_xl0005_01).toRowW && (OpenLaw.row PySem.Challenge.rw_xl0005_01).within.isEmpty)) = true) (hb : (OpenLaw.row PySem.Challenge.rw_xl0005_01).prog.bare) (hw : (OpenLaw.row PySem.Challenge.rw_xl0005_01).toRowW.promised)
    (call : WalkO vw [Str.ofString "_Accumulator"] (XL vw []) H.says (OpenLaw.row PySem.Challenge.rw_xl0005_01).toRowW d kwd fun f vs => PySem.call f vs) : (OpenLaw.row PySem.Challenge.rw_xl0005_01).Holds :=
  holds_open (Xt := xv) (XP := XL vw []) (Yf := H.obs) (Ya := H.val) (YP := H.says) hl H.of H.keeps (fun s e => xl_of s (Bool.and_eq_true_iff.mp e).1) XL.keeps hdef hp hk (fun s e => recFacts_of (Bool.and_eq_true_iff.mp e).2) hwr k1 ok hb hw call
local macro_rules | `(tactic| o_law) => `(tactic| refine holds_law (by kernel_rfl) fun said => ?_)
local macro_rules | `(tactic| o_head ($f:ident $k $a $e $ts)) => `(tactic| (refine ho ($f $k $a $e [182, 63, 70]) ?hl (by rfl) (by rfl) (by rfl) (by rfl) (by first | assumption | decide +kernel) (by decide +kernel) ⟨rfl, rfl, rfl, rfl, rfl, by decide +kernel⟩ ?hw ?hc; (case hl => exact fun w => by kernel_rfl)))
open_top hd for PySem.Challenge.rw_xl0005_01
end Mine
end
section
open PySem PySem.W PySem.Calls PyProof.Rows PySem.Spec
set_option Elab.async false
set_option maxRecDepth 100000
set_option linter.unusedVariables false
set_option linter.unusedSimpArgs false
set_option maxHeartbeats 4000000
namespace Mine
example : PySem.Challenge.rw_xl0005_01 = PySem.Challenge.rw_xl0005_01 ∧ Mine.hd.heap_1 = Mine.hd.heap_1 := by
  k_fill
  exact ⟨rfl, rfl⟩
local macro_rules | `(tactic| walk_at "M.mem") => `(tactic| first | exact List.Mem.head _ | (apply List.Mem.tail; walk_at "M.mem"))
local macro_rules | `(tactic| walk_at "M.at") => `(tactic| first | (with_reducible exact At.head) | (apply At.tail; walk_at "M.at"))
local macro_rules | `(tactic| walk_at "M.put") => `(tactic| first | (with_reducible exact Put.head) | (apply Put.tail; walk_at "M.put"))
local macro_rules | `(tactic| walk_at "M.lu") => `(tactic| first | exact LU.head | (apply LU.tail; walk_at "M.lu"))
local macro_rules | `(tactic| walk_at "E.name") => `(tactic| first
  | (refine' n_loc ?m ?a ?_; (case m => walk_at "M.mem"); (case a => walk_at "M.at"))
  | (refine' n_cell ?c ?m ?_; (case c => rfl); (case m => walk_at "M.mem"))
  | (refine' n_free ?c ?m ?_; (case c => rfl); (case m => walk_at "M.mem"))
  | (refine' n_globK ?hc ?e ?f ?_; (case hc => assumption); (case e => k_is); (case f => rfl))
  | (refine' n_builtK ?hc ?e ?e' ?n ?f ?_; (case hc => assumption); (case e => k_is); (case e' => boot_by_name); (case n => decide); (case f => rfl)))
local macro_rules | `(tactic| walk_at "E.store") => `(tactic| first
  | (refine' st_loc ?u ?p ?_; rotate_left 1; (case u => walk_at "M.lu"); (case p => walk_at "M.put"))
  | (refine' st_cell ?c ?u ?_; (case c => rfl); (case u => walk_at "M.lu")))
local macro_rules | `(tactic| walk_at "E.eval") => `(tactic| first
  | ((with_reducible (show Tr _ _ _ _ (eval (.Constant _ _ _) _) _)); refine e_const rfl ?_)
  | ((with_reducible (show Tr _ _ _ _ (eval (.Name _ _) _) _)); walk_at "E.name")
  | with_reducible refine e_bin ?_
  | ((with_reducible refine e_cmp ?_ ?_); rotate_left; rfl)
  | ((with_reducible refine e_meth ?_ ?_ ?_ ?_ ?_); rotate_left; iterate 4 rfl)
  | ((with_reducible refine e_call ?_ ?_ ?_); rotate_left; iterate 2 rfl)
  | with_reducible refine e_una ?_
  | with_reducible refine e_tuple ?_
  | with_reducible refine e_list ?_
  | with_reducible refine e_if ?_
  | with_reducible refine e_sub ?_
  | ((with_reducible refine e_attr ?_ ?_); rotate_left; rfl)
  | with_reducible refine e_slice ?_)
local macro_rules | `(tactic| walk_at "E.true") => `(tactic| first
  | ((with_reducible refine t_cmp ?_ ?_); rotate_left; rfl)
  | with_reducible refine t_not ?_
  | with_reducible refine t_and ?_
  | with_reducible refine t_or ?_
  | ((with_reducible refine t_value ?_ ?_); rotate_left; rfl))
local macro_rules | `(tactic| walk_at "E.stmt") => `(tactic| first
  | ((with_reducible refine x_name ?_ ?_); rotate_left; rfl)
  | ((with_reducible refine x_asg ?_ ?_ ?_); rotate_left; iterate 2 rfl)
  | ((with_reducible refine x_attr ?_ ?_); rotate_left; rfl)
  | ((with_reducible refine x_sub ?_ ?_); rotate_left; rfl)
  | with_reducible refine x_if ?_
  | with_reducible refine x_ret ?_
  | ((with_reducible refine x_expr ?_ ?_ ?_); rotate_left; iterate 2 rfl)
  | with_reducible refine x_aug ?_
  | ((with_reducible refine x_augsub ?_ ?_); rotate_left; (intro _ _ _; rfl))
  | with_reducible refine x_augattr ?_
  | with_reducible refine x_cont ?_)
local macro_rules | `(tactic| walk_at "E.op") => `(tactic| first
  | refine bin_add ?_
  | refine bin_sub ?_
  | refine bin_mod ?_ (by decide)
  | refine bin_fdiv ?_ (by decide) (by decide)
  | refine inp_add ?_
  | refine una_neg ?_
  | refine cmp_eq ?_
  | refine cmp_ne ?_
  | refine cmp_lt ?_
  | refine cmp_gt ?_
  | refine tru_bool ?_
  | refine tru_int ?_
  | refine bin_pow (by decide) (by decide) ?_)
local macro_rules | `(tactic| walk_at "E.step") => `(tactic| first
  | walk_at "E.eval"
  | ((with_reducible (show Tr _ _ _ _ (loadName _ _) _)); refine l_loc (by walk_at "M.mem") (by walk_at "M.at") ?_)
  | ((with_reducible refine es_cons ?_ ?_); rotate_left; rfl)
  | with_reducible refine es_nil ?_
  | walk_at "E.true"
  | with_reducible refine xs_cons ?_
  | with_reducible refine xs_nil ?_
  | with_reducible refine asgs_cons ?_
  | with_reducible refine asgs_nil ?_
  | with_reducible refine any_cons ?_
  | with_reducible refine any_nil ?_
  | with_reducible refine all_cons ?_
  | with_reducible refine all_nil ?_
  | walk_at "E.stmt"
  | ((with_reducible (show St _ _ _ (storeName _ _) _ _)); walk_at "E.store")
  | with_reducible refine asg_name ?_
  | walk_at "E.op"
  | with_reducible refine p_some ?_
  | with_reducible refine p_none ?_
  | ((with_reducible refine ⟨(?_ : Has _ _ _), ?_⟩); first | exact has_str | exact has_tup | exact has_bytes | exact has_list (by walk_at "M.mem"))
  | ((with_reducible refine ⟨(?_ : Kp _ _ _), ?_⟩); first | exact kp_bi | exact kp_type | exact kp_fn (by walk_at "M.mem") | exact kp_K (by assumption) (by k_is)))
local macro_rules | `(tactic| walk_at "E.run") => `(tactic| repeat (walk_at "E.step"))
theorem er0 (n : Nat) : (((n : Nat) : Int) - 0).toNat = n := by rw [Int.sub_zero]; rfl
theorem er1 (n : Nat) : (((n : Nat) : Int) + 1 - 0).toNat = n + 1 := by rw [Int.sub_zero]; rfl
theorem erm (n : Nat) : (((n : Nat) : Int) - 1).toNat = n - 1 := Int.toNat_sub n 1
theorem fm3 (m : Nat) : ((m : Nat) : Int).fmod 3 = ((m % 3 : Nat) : Int) := by rw [Int.fmod_eq_emod_of_nonneg _ (by decide)]; rfl
theorem fd3 (m : Nat) : ((m : Nat) : Int).fdiv 3 = ((m / 3 : Nat) : Int) := by rw [Int.fdiv_eq_ediv_of_nonneg _ (by decide)]; rfl
theorem fm16 {j : Int} (h : 0 < j) : (65 : Int) + j.fmod 16 = ((65 + j.toNat % 16 : Nat) : Int) := by
  obtain ⟨n, rfl⟩ := Int.eq_ofNat_of_zero_le (Int.le_of_lt h)
  rw [Int.fmod_eq_emod_of_nonneg _ (by decide)]; rfl
theorem fd16 {j : Int} (h : 0 < j) : (j.fdiv 16).toNat = j.toNat / 16 := by
  obtain ⟨n, rfl⟩ := Int.eq_ofNat_of_zero_le (Int.le_of_lt h)
  rw [Int.fdiv_eq_ediv_of_nonneg _ (by decide)]; rfl
noncomputable def drawn (m : Nat) (l : List Int) (ns : List Int) : Nat → List Int
  | 0 => l
  | k + 1 => (drawn m l ns k).set (k % m) ((drawn m l ns k).getD (k % m) 0 + (ns.getD k 0).fmod 1000000)
theorem drawn_len (m : Nat) (l ns : List Int) : ∀ k, (drawn m l ns k).length = l.length
  | 0 => rfl
  | k + 1 => by simp [drawn, drawn_len m l ns k]
theorem get_ints {l : List Int} {i : Nat} (h : i < l.length) : (l.map V.int)[i]? = some (.int (l.getD i 0)) := by
  simp [List.getElem?_map, List.getElem?_eq_getElem h, List.getD_eq_getElem?_getD]
theorem map_set (l : List Int) (i : Nat) (x : Int) : (l.map V.int).set i (.int x) = (l.set i x).map V.int := by
  rw [List.map_set]
noncomputable def hw (n : Nat) : List Nat := if h : n = 0 then [] else hw (n / 16) ++ [65 + n % 16]
termination_by n
decreasing_by lia
theorem hw_zero : hw 0 = [] := by rw [hw]; simp
theorem hw_pos {n : Nat} (h : n ≠ 0) : hw n = hw (n / 16) ++ [65 + n % 16] := by rw [hw]; simp [h]
theorem hw_len : ∀ (k n : Nat), n < 16 ^ k → (hw n).length ≤ k
  | 0, n, h => by have : n = 0 := by simpa using h
                  subst this; simp [hw_zero]
  | k + 1, n, h => by
    by_cases h0 : n = 0
    · subst h0; simp [hw_zero]
    · rw [hw_pos h0, List.length_append]
      have := hw_len k (n / 16) (by rw [Nat.div_lt_iff_lt_mul (by decide)]; rw [Nat.pow_succ] at h; lia)
      simp; lia
theorem hw_mem : ∀ (k n : Nat), n < 16 ^ k → ∀ c ∈ hw n, 65 ≤ c ∧ c < 81
  | 0, n, h => by have : n = 0 := by simpa using h
                  subst this; simp [hw_zero]
  | k + 1, n, h => by
    by_cases h0 : n = 0
    · subst h0; simp [hw_zero]
    · rw [hw_pos h0]
      intro c hc
      rcases List.mem_append.mp hc with hc | hc
      · exact hw_mem k (n / 16) (by rw [Nat.div_lt_iff_lt_mul (by decide)]; rw [Nat.pow_succ] at h; lia) c hc
      · simp at hc; lia
noncomputable def wv (l : List Nat) (n : Int) : Int := l.foldl (fun (n : Int) (c : Nat) => 16 * n + (c : Int) - 65) n
theorem wv_hw : ∀ (k n : Nat), n < 16 ^ k → wv (hw n) 0 = n
  | 0, n, h => by have : n = 0 := by simpa using h
                  subst this; simp [hw_zero, wv]
  | k + 1, n, h => by
    by_cases h0 : n = 0
    · subst h0; simp [hw_zero, wv]
    · rw [hw_pos h0]
      have := wv_hw k (n / 16) (by rw [Nat.div_lt_iff_lt_mul (by decide)]; rw [Nat.pow_succ] at h; lia)
      unfold wv at this ⊢
      rw [List.foldl_append, this]
      simp only [List.foldl_cons, List.foldl_nil]
      lia
theorem take1 (x : List Nat) (pos : Nat) : (x.drop pos).take 1 = (x[pos]?).toList := by
  rw [List.take_one, List.head?_drop]
theorem drop_some {x : List Nat} {p c : Nat} (h : x[p]? = some c) : x.drop p = c :: x.drop (p + 1) := by
  obtain ⟨hp, e⟩ := List.getElem?_eq_some_iff.mp h
  rw [List.drop_eq_getElem_cons hp, e]
theorem drop_none {x : List Nat} {p : Nat} (h : x[p]? = none) : x.drop p = [] := List.drop_eq_nil_of_le (List.getElem?_eq_none_iff.mp h)
theorem qd_none {x : List Nat} {p : Nat} (h : x[p]? = none) : qd (x.drop p) = ([], 1) := by rw [drop_none h, qd]
theorem qd_bs {x : List Nat} {p : Nat} (h : x[p]? = some 92) : qd (x.drop p) = ((x.drop (p + 1)).take 1 ++ (qd (x.drop (p + 2))).1, (qd (x.drop (p + 2))).2 + 2) := by
  rw [drop_some h]
  cases h1 : x[p + 1]? with
  | none =>
    have e2 : x.drop (p + 2) = [] := List.drop_eq_nil_of_le (by have := List.getElem?_eq_none_iff.mp h1; lia)
    rw [drop_none h1, e2]; rfl
  | some d => rw [drop_some h1]; rfl
theorem qd_q {x : List Nat} {p : Nat} (h : x[p]? = some 34) : qd (x.drop p) = ([], 1) := by rw [drop_some h]; rfl
theorem qd_c {x : List Nat} {p c : Nat} (h : x[p]? = some c) (h1 : c ≠ 92) (h2 : c ≠ 34) : qd (x.drop p) = (c :: (qd (x.drop (p + 1))).1, (qd (x.drop (p + 1))).2 + 1) := by
  rw [drop_some h]
  rw [qd]
  · rw [if_neg h2]
  · intro e _; exact h1 e
  · intro d r e _; exact h1 e
theorem bd_none {x : List Nat} {p : Nat} (h : x[p]? = none) : bd (x.drop p) = ([], 1) := by rw [drop_none h, bd]
theorem bd_bs {x : List Nat} {p : Nat} (h : x[p]? = some 92) : bd (x.drop p) = ((x.drop (p + 1)).take 1 ++ (bd (x.drop (p + 2))).1, (bd (x.drop (p + 2))).2 + 2) := by
  rw [drop_some h]
  cases h1 : x[p + 1]? with
  | none =>
    have e2 : x.drop (p + 2) = [] := List.drop_eq_nil_of_le (by have := List.getElem?_eq_none_iff.mp h1; lia)
    rw [drop_none h1, e2]; rfl
  | some d => rw [drop_some h1]; rfl
theorem bd_w {x : List Nat} {p c : Nat} (h : x[p]? = some c) (hw : isWs c = true) : bd (x.drop p) = ([], 1) := by
  rw [drop_some h, bd]
  · rw [if_pos hw]
  · intro e _; subst e; revert hw; decide
  · intro d r e _; subst e; revert hw; decide
theorem bd_c {x : List Nat} {p c : Nat} (h : x[p]? = some c) (h1 : c ≠ 92) (h2 : isWs c = false) : bd (x.drop p) = (c :: (bd (x.drop (p + 1))).1, (bd (x.drop (p + 1))).2 + 1) := by
  rw [drop_some h, bd]
  · rw [h2]; rfl
  · intro e _; exact h1 e
  · intro d r e _; exact h1 e
theorem tk_none {x : List Nat} {p : Nat} (h : x[p]? = none) : tk (x.drop p) = ([], 1) := by rw [drop_none h, tk]
theorem tk_bs {x : List Nat} {p : Nat} (h : x[p]? = some 92) : tk (x.drop p) = ((x.drop (p + 1)).take 1 ++ (bd (x.drop (p + 2))).1, (bd (x.drop (p + 2))).2 + 2) := by
  rw [drop_some h]
  cases h1 : x[p + 1]? with
  | none =>
    have e2 : x.drop (p + 2) = [] := List.drop_eq_nil_of_le (by have := List.getElem?_eq_none_iff.mp h1; lia)
    rw [drop_none h1, e2]; rfl
  | some d => rw [drop_some h1]; rfl
theorem tk_w {x : List Nat} {p c : Nat} (h : x[p]? = some c) (hw : isWs c = true) : tk (x.drop p) = ((tk (x.drop (p + 1))).1, (tk (x.drop (p + 1))).2 + 1) := by
  rw [drop_some h, tk]
  · rw [if_pos hw]
  · intro e _; subst e; revert hw; decide
  · intro d r e _; subst e; revert hw; decide
theorem tk_q {x : List Nat} {p : Nat} (h : x[p]? = some 34) : tk (x.drop p) = ((qd (x.drop (p + 1))).1, (qd (x.drop (p + 1))).2 + 1) := by
  rw [drop_some h]; rfl
theorem tk_c {x : List Nat} {p c : Nat} (h : x[p]? = some c) (h1 : c ≠ 92) (h2 : isWs c = false) (h3 : c ≠ 34) : tk (x.drop p) = (c :: (bd (x.drop (p + 1))).1, (bd (x.drop (p + 1))).2 + 1) := by
  rw [drop_some h, tk]
  · rw [h2, if_neg h3]; rfl
  · intro e _; exact h1 e
  · intro d r e _; exact h1 e
noncomputable def nls (x : List Nat) (p : Nat) : Nat → Int
  | 0 => 0
  | k + 1 => nls x p k + if x[p + k]? = some 10 then 1 else 0
theorem nls_add (x : List Nat) (p a : Nat) : ∀ b, nls x p (a + b) = nls x p a + nls x (p + a) b
  | 0 => by simp [nls]
  | b + 1 => by rw [← Nat.add_assoc]; simp only [nls]; rw [nls_add x p a b, Nat.add_assoc]; lia
theorem qd_len (r : List Nat) : (qd r).1.length ≤ r.length := by fun_induction qd r <;> simp_all <;> lia
theorem bd_len (r : List Nat) : (bd r).1.length ≤ r.length := by fun_induction bd r <;> simp_all <;> lia
theorem tk_len (r : List Nat) : (tk r).1.length ≤ r.length := by
  fun_induction tk r with
  | case1 => simp
  | case2 => simp
  | case3 d r => have := bd_len r; simp; lia
  | case4 c r h1 h2 h3 ih => simp; lia
  | case5 r h1 h2 h3 => have := qd_len r; simp; lia
  | case6 c r h1 h2 h3 h4 => have := bd_len r; simp; lia
noncomputable def Bs (l : List Nat) : Array UInt8 := (l.map UInt8.ofNat).toArray
theorem Bs_cat (a b : List Nat) : Bs a ++ Bs b = Bs (a ++ b) := by simp [Bs]
theorem Bs_size (a : List Nat) : (Bs a).size = a.length := by simp [Bs]
noncomputable def apB : Array UInt8 := Bs [65, 66, 67, 68, 69, 70, 71, 72, 73, 74, 75, 76, 77, 78, 79, 80]
theorem ap_pick : ∀ m : Fin 16, KBy.picked apB (some (m.val : Int)) (some (m.val + 1 : Int)) = Bs [65 + m.val] := by decide
noncomputable def rot : List Nat → List Nat
  | [] => []
  | a :: r => r ++ [a]
noncomputable def piece (wh : List Nat) (m : Nat) (w : List Nat) : List Nat :=
  if m % 3 = 0 ∨ w = [] then [wh.getD 0 0] ++ [34] ++ w ++ [34] else [wh.getD 0 0] ++ (w.map fun c => reps (m % 3 - 1) [92] ++ [c]).flatten ++ [wh.getD 3 0]
noncomputable def bodyT : List Nat → Nat → List (List Nat) → List Nat
  | _, _, [] => []
  | wh, m, w :: ws => piece wh m w ++ bodyT (rot wh) (m / 3) ws
noncomputable def mOf (m : Nat) (ws : List (List Nat)) : Nat := ws.foldl (fun m _ => m / 3) m
noncomputable def tabT : List Nat := [34, 92, 32, 10, 9, 13, 35, 97]
noncomputable def lastT (m : Nat) : List Nat := (List.range 3).map fun k => tabT.getD (m / 8 ^ k % 8) 0
noncomputable def esc1 (c : Nat) : List Nat := if c ∈ [34, 92] then [92, c] else [c]
noncomputable def esc2 (l : List Nat) (k : Nat) : List Nat := if k = 0 ∨ l.getD k 0 ∈ [92, 32, 10, 9, 13] then [92, l.getD k 0] else [l.getD k 0]
noncomputable def textT (ws : List (List Nat)) (m : Nat) : List Nat :=
  bodyT [10, 32, 13, 9] m ws ++ ([34] ++ ((lastT (mOf m ws)).map esc1).flatten ++ [34]) ++ ((List.range 3).map (esc2 (lastT (mOf m ws)))).flatten
theorem join_foldl (l : List (List Nat)) (acc : Array Nat) : ((l.map S).foldl (fun (acc : Array Nat) (p : Str) => acc ++ (S []).cps ++ p.cps) acc).toList = acc.toList ++ l.flatten := by
  induction l generalizing acc with
  | nil => simp
  | cons x r ih => rw [List.map_cons, List.foldl_cons, ih]; simp [S]
theorem join_S (l : List (List Nat)) : Txt.join (S []) (l.map S) = S l.flatten := by
  apply Str.ext'
  apply Array.toList_inj.mp
  rw [S_cps]
  cases l with
  | nil => rfl
  | cons x r =>
    show (((r.map S).foldl (fun (acc : Array Nat) (p : Str) => acc ++ (S []).cps ++ p.cps) (S x).cps)).toList = _
    rw [join_foldl]; simp [S]
theorem reps_len (n : Nat) (x : List Nat) : (reps n x).length = n * x.length := by simp [reps]
theorem piece_len (wh : List Nat) (m : Nat) (w : List Nat) : (piece wh m w).length ≤ 2 * w.length + 3 := by
  unfold piece
  split
  · simp; lia
  · have : ∀ l : List Nat, ((l.map fun c => reps (m % 3 - 1) [92] ++ [c]).flatten).length ≤ 2 * l.length := fun l => by
      induction l with
      | nil => simp
      | cons c r ih =>
        rw [List.map_cons, List.flatten_cons, List.length_append, List.length_append, reps_len]
        simp only [List.length_cons, List.length_nil]
        have : m % 3 < 3 := Nat.mod_lt _ (by decide)
        lia
    have := this w
    simp only [List.length_append, List.length_cons, List.length_nil]; lia
theorem bodyT_len : ∀ (ws : List (List Nat)) (wh : List Nat) (m : Nat), (∀ w ∈ ws, w.length ≤ 100) → (bodyT wh m ws).length ≤ 203 * ws.length
  | [], _, _, _ => by simp [bodyT]
  | w :: ws, wh, m, h => by
    have h1 := piece_len wh m w
    have h2 := h w (List.Mem.head _)
    have h3 := bodyT_len ws (rot wh) (m / 3) fun v hv => h v (.tail _ hv)
    simp only [bodyT, List.length_append, List.length_cons]; lia
theorem rot_eq {wh : List Nat} (h : 0 < wh.length) : rot wh = wh.drop 1 ++ [wh.getD 0 0] := by
  cases wh with
  | nil => simp at h
  | cons a r => simp [rot]
theorem rot_len (wh : List Nat) : (rot wh).length = wh.length := by cases wh <;> simp [rot]
theorem map_range_get {α β : Type} (x : List α) (f : α → β) (g : Nat → β) (h : ∀ i c, x[i]? = some c → g i = f c) : (List.range x.length).map g = x.map f := by
  apply List.ext_getElem?
  intro i
  rw [List.getElem?_map, List.getElem?_map]
  by_cases hi : i < x.length
  · rw [List.getElem?_range hi, List.getElem?_eq_getElem hi]; simp [h i _ (List.getElem?_eq_getElem hi)]
  · rw [List.getElem?_eq_none (by simpa using hi), List.getElem?_eq_none (by lia)]; rfl
theorem flat_len (l : List (List Nat)) (B : Nat) (h : ∀ x ∈ l, x.length ≤ B) : l.flatten.length ≤ B * l.length := by
  induction l with
  | nil => simp
  | cons a r ih =>
    have h1 := h a (List.Mem.head _)
    have h2 := ih fun x hx => h x (.tail _ hx)
    rw [List.flatten_cons, List.length_append, List.length_cons, Nat.mul_succ]; lia
theorem strsV_S (l : List (List Nat)) : strsV l = (l.map S).map V.str := by simp [strsV]
theorem sum_len (l : List (List Nat)) : ((l.map S).map (·.length)).sum = l.flatten.length := by induction l with
  | nil => rfl
  | cons a r ih => simp only [List.map_cons, List.sum_cons, List.flatten_cons, List.length_append, S_len, ih]
theorem c_joinS {C : Cx} {A : Around} {σ : Led} {Q : V → Led → Prop} {l : List (List Nat)} {a : Addr} (hm : (a, AO.list (strsV l)) ∈ σ) (hz : l.flatten.length ≤ 1000000) (h : Q (.str (S l.flatten)) σ) : Call C A σ (.bi "str.join") [.str (S []), .ref a] Q := by
  rw [strsV_S] at hm
  refine c_join_list hm (by rw [sum_len, S_len]; simp only [List.length_map, List.length_nil, Nat.mul_zero, Nat.add_zero]; show _ ≤ _; lia) ?_
  rw [join_S]; exact h
theorem strsV_len (l : List (List Nat)) : (strsV l).length = l.length := by simp [strsV]
theorem pow8b {k : Nat} (h : k < 3) : Builtin.Int.intBits 8 * ((0 : Int) + (k : Nat)) ≤ 2 ^ 27 := by
  obtain rfl | rfl | rfl : k = 0 ∨ k = 1 ∨ k = 2 := by lia
  all_goals decide
theorem pow8n {k : Nat} (h : k < 3) : (8 : Int) ^ ((0 : Int) + (k : Nat)).toNat ≠ 0 := by
  obtain rfl | rfl | rfl : k = 0 ∨ k = 1 ∨ k = 2 := by lia
  all_goals decide
theorem pow8l {k : Nat} (h : k < 3) : ((8 : Int) ^ ((0 : Int) + (k : Nat)).toNat).natAbs.log2 < 9000 := by
  obtain rfl | rfl | rfl : k = 0 ∨ k = 1 ∨ k = 2 := by lia
  all_goals decide
theorem dig8 (m k : Nat) : (((m : Nat) : Int).fdiv ((8 : Int) ^ ((0 : Int) + (k : Nat)).toNat)).fmod 8 = ((m / 8 ^ k % 8 : Nat) : Int) := by
  rw [Int.zero_add, Int.toNat_natCast, show (8 : Int) ^ k = ((8 ^ k : Nat) : Int) by simp, Int.fdiv_eq_ediv_of_nonneg _ (Int.natCast_nonneg _), Int.fmod_eq_emod_of_nonneg _ (by decide), ← Int.natCast_ediv]
  exact (Int.natCast_emod _ 8).symm
theorem tab_get (n : Nat) : tabT[n % 8]? = some (tabT.getD (n % 8) 0) := by
  have : n % 8 < 8 := Nat.mod_lt _ (by decide)
  rw [List.getD_eq_getElem?_getD, List.getElem?_eq_getElem (show n % 8 < tabT.length from this)]; rfl
theorem lastT_len (m : Nat) : (lastT m).length = 3 := by simp [lastT]
theorem lastT_get (m k : Nat) (h : k < 3) : (lastT m)[k]? = some ((lastT m).getD k 0) := by
  rw [List.getD_eq_getElem?_getD, List.getElem?_eq_getElem (show k < (lastT m).length by rw [lastT_len]; exact h)]; rfl
theorem single_flat (l : List Nat) : (l.map fun c => [c]).flatten = l := by induction l with
  | nil => rfl
  | cons a r ih => rw [List.map_cons, List.flatten_cons, ih]; rfl
theorem esc1_len (l : List Nat) : ((l.map esc1).flatten).length ≤ 2 * l.length := by
  have := flat_len (l.map esc1) 2 fun x hx => by
    obtain ⟨c, _, rfl⟩ := List.mem_map.mp hx
    unfold esc1; split <;> simp
  rw [List.length_map] at this; exact this
theorem esc2_len (l : List Nat) (n : Nat) : (((List.range n).map (esc2 l)).flatten).length ≤ 2 * n := by
  have := flat_len ((List.range n).map (esc2 l)) 2 fun x hx => by
    obtain ⟨c, _, rfl⟩ := List.mem_map.mp hx
    unfold esc2; split <;> simp
  rw [List.length_map, List.length_range] at this; exact this
theorem last_join (m : Nat) : (List.range 3).map (fun i => V.str (S [tabT.getD (m / 8 ^ i % 8) 0])) = strsV ((lastT m).map fun c => [c]) := by
  simp only [strsV, lastT, List.map_map]; rfl
theorem appush_ {C : Cx} {A : Around} {σ σ' : Led} {Q : V → Led → Prop} (hC : C.Is (Mine.hd.heap_1 C.w.params)) (hA : Fit 1 A) {x d : Addr} {items : List V} {u v : List Nat} {ks : List Str} {vs : List (Option V)} (hz : items.length ≤ 1000000) (hd : (d, AO.attrs ks vs) ∈ σ) (hn : ("append" : Str) ∉ ks)
    (U : LU x (AO.seq (.ref 101) (some d) items) (AO.seq (.ref 101) (some d) (items ++ [.tup [.str (S u), .str (S v)]])) σ σ') (h : Q .none σ') : Call C A σ (.ref 45) [.ref x, .str (S u), .str (S v)] Q := by
  refine' call_defK (n := 0) (ks := ["self", "fws", "string"]) (vs := [some (.ref x), some (.str (S u)), some (.str (S v))]) ?hC ?ho ?hcd ?hA ?nd ?hcell ?hbind ?h ?c1 ?c2 ?c3
  (((case hC => assumption); (case ho => k_is); (case hcd => k_is); (case nd => decide); (case hcell => decide); (case c1 => rfl); (case c2 => rfl); (case c3 => rfl); (case hA => assumption)))
  case hbind => ((intro s as hk r; (repeat (obtain ⟨_, _, e, _, r⟩ := r; subst e)); subst r; refine ⟨_, BindsTo.of_eq rfl, locs rfl, ?_⟩; (repeat (first | exact FrOk.nil | refine FrOk.some ?_ rfl (by assumption) | refine FrOk.none ?_))))
  case h =>
    intro L A' hA'
    walk_at "E.run"
    refine m_any (D := 101) (ga := "list.__getattribute__") (ty := "method_descriptor") (f := .builtin "list.append") (fV := .bi "list.append") hC (isI_seq (.tail _ U.mem)) (.tail _ hd) hn (by kernel_rfl) (by decide +kernel) (by kernel_rfl) (by kernel_rfl) (by kernel_rfl) (by decide) (fun _ => vr_bi.mpr rfl) ?_
    walk_at "E.run"
    refine ⟨by rw [sizeLine_eq]; show 2 ≤ _; lia, ?_⟩
    walk_at "E.run"
    refine c_append' (listTy_cls hC (by k_is)) (.tail U) (by rw [sizeLine_eq]; lia) ?_
    walk_at "E.run"
    exact ⟨_, by ((repeat (first | exact Sb.refl | exact Sb.nil | (apply Sb.take; focus ((repeat (first | exact Pick.head | apply Pick.tail)); done)) | apply Sb.skip))), h⟩
theorem accinit_ {C : Cx} {A : Around} {σ σ' : Led} {Q : V → Led → Prop} (hC : C.Is (Mine.hd.heap_1 C.w.params)) (hM : C.Main (Str.ofString "/claim/cut.py")) (hA : Fit 2 A) {x d : Addr} {n : Int} (hx : (x, AO.seq (.ref 101) (some d) []) ∈ σ) (hx' : (x, AO.seq (.ref 101) (some d) []) ∈ σ')
    (U : LU d (AO.attrs [] []) (AO.attrs ["_initial_size"] [some (.int n)]) σ σ') (h : Q .none σ') : CallC C A σ (.ref 38) [.ref x, .int n] Q := by
  refine' call_defA (n := 1) (ks := ["self", "initial_size"]) (vs := [some (.ref x), some (.int n)]) ?hC ?ho ?hcd ?hA ?nd ?hcell ?hbind ?h ?c1 ?c2 ?c3
  (((case hC => assumption); (case ho => k_is); (case hcd => k_is); (case nd => decide); (case hcell => decide); (case c1 => rfl); (case c2 => rfl); (case c3 => rfl); (case hA => assumption)))
  case hbind =>
    intro s as hk r
    simp only [VRs] at r
    obtain ⟨v1, w1, e1, r1, v2, w2, e2, r2, e3⟩ := r
    subst e3; subst e2; subst e1
    refine ⟨_, BindsTo.of_defaults rfl (hk _ _ (show (Mine.hd.heap_1 C.w.params).lookup 30 = some _ from by k_is)) rfl rfl rfl, locs rfl, ?_⟩
    exact FrOk.some (FrOk.some FrOk.nil rfl r2) rfl r1
  case h =>
    intro L A' hA'
    refine xsA_cons ?_
    refine XA.of ?_
    walk_at "E.run"
    refine a_newL (ks := []) (vs := []) (name := "_initial_size") hC (isI_seq (.tail _ hx)) (.tail U) (by decide) (by decide) (by decide) (by kernel_rfl) (by kernel_rfl) (by kernel_rfl) (by kernel_rfl) ?_
    refine xsA_cons ?_
    refine xA_expr ?_
    refine eA_m0 ?_
    refine super_base hC hM (isI_seq (.tail _ hx')) (by k_is) (by rfl) (List.Mem.head _) At.head (by k_is) (by rfl) (by k_is) (by k_is) (by k_is) (by k_is) (by decide) (by rfl) (by rfl) (by rfl) (by rfl) (by first | boot_by_name | rfl | kernel_rfl) (fun so => ?_)
    refine m_sup hC (List.Mem.head _) (.tail _ (.tail _ hx')) (by k_is) (by k_is) (by ks_is) type_init slot_wd entry_wd args_wd (by decide) (fun IL q => run_init IL q) (fun q => ?_)
    refine ⟨kp_bbi (List.Mem.head _) rfl rfl, c_bbi (List.Mem.head _) rfl rfl (Code.quiet_builtin _ (by decide +kernel)) PySem.F.entry_list_init (fun _ q => ck_slot ck_init _ q) (b_init (listTy_cls hC (by k_is)) (.tail _ (.tail _ (.tail _ hx'))) ?_)⟩
    refine xsA_nil ?_
    exact ⟨_, by ((repeat (first | exact Sb.refl | exact Sb.nil | (apply Sb.take; focus ((repeat (first | exact Pick.head | apply Pick.tail)); done)) | apply Sb.skip))), h⟩
example (p : _) : codeHdIn (Mine.hd.heap_1 p) 67 63 = true := by kernel_rfl
example (p : _) : codeHdIn (Mine.hd.heap_1 p) 74 70 = true := by kernel_rfl
theorem acclen_ {C : Cx} {A : Around} {σ : Led} {Q : V → Led → Prop} (hC : C.Is (Mine.hd.heap_1 C.w.params)) (hgt : (67, 63) ∈ C.gt) (hA : Fit 1 A) {x d : Addr} {ps : List (List Nat × List Nat)} {z : Int} (hz : pLen ps ≤ 1000000)
    (hx : (x, AO.seq (.ref 101) (some d) (ps.map pairV)) ∈ σ) (hd : (d, AO.attrs ["_initial_size"] [some (.int z)]) ∈ σ) (h : Q (.int (z + pLen ps)) σ) : Call C A σ (.ref 68) [.ref x] Q := by
  refine' call_defK (n := 0) (ks := ["self"]) (vs := [some (.ref x)]) ?hC ?ho ?hcd ?hA ?nd ?hcell ?hbind ?h ?c1 ?c2 ?c3
  (((case hC => assumption); (case ho => k_is); (case hcd => k_is); (case nd => decide); (case hcell => decide); (case c1 => rfl); (case c2 => rfl); (case c3 => rfl); (case hA => assumption)))
  case hbind => ((intro s as hk r; (repeat (obtain ⟨_, _, e, _, r⟩ := r; subst e)); subst r; refine ⟨_, BindsTo.of_eq rfl, locs rfl, ?_⟩; (repeat (first | exact FrOk.nil | refine FrOk.some ?_ rfl (by assumption) | refine FrOk.none ?_))))
  case h =>
    intro L A' hA'
    refine xs_cons ?_
    refine x_ret ?_
    refine' e_sumgen (c := 67) (P := 63) (x := x) (d := d) (D := 101) (ps := ps) (z := z) (cl := []) hC ?hKP hgt rfl rfl rfl hA'.1 hA'.room rfl rfl ?hcell2 rfl rfl rfl ?hab rfl (.tail _ hx) ?hml ?hf (.tail _ hd) .head ?hga ?hk ?hhd ?ha ?hit ?hq ?hs ?hoo rfl ?he rfl rfl rfl rfl ?hh
    case hKP => kernel_rfl
    case hcell2 => decide
    case hab => decide
    case hml => k_is
    case hf => kernel_rfl
    case hga => kernel_rfl
    case hk => kernel_rfl
    case hhd => kernel_rfl
    case ha => kernel_rfl
    case hit =>
      walk_at "E.run"
      exact ⟨rfl, rfl⟩
    case hq =>
      intro L' code
      exact qe_lens hC (fun p hp => by have := pLen_mem hp; lia) (by k_is)
    case hs => intro _; rfl
    case hoo => exact fun s P E H hP => wpAny_Name (n_loc' H (.head _) At.head (fun w r => by cases r; exact hP) rfl rfl) (by decide)
    case he => k_is
    case hh => exact ⟨_, by ((repeat (first | exact Sb.refl | exact Sb.nil | (apply Sb.take; focus ((repeat (first | exact Pick.head | apply Pick.tail)); done)) | apply Sb.skip))), h⟩
theorem accstr_ {C : Cx} {A : Around} {σ : Led} {Q : V → Led → Prop} (hC : C.Is (Mine.hd.heap_1 C.w.params)) (hgt : (74, 70) ∈ C.gt) (hA : Fit 1 A) {x d : Addr} {ps : List (List Nat × List Nat)} (hz : pLen ps ≤ 1000000) (hz1 : ps.length ≤ 1000000)
    (hx : (x, AO.seq (.ref 101) (some d) (ps.map pairV)) ∈ σ) (h : Q (.str (S (pCat ps))) σ) : Call C A σ (.ref 75) [.ref x] Q := by
  refine' call_defK (n := 0) (ks := ["self"]) (vs := [some (.ref x)]) ?hC ?ho ?hcd ?hA ?nd ?hcell ?hbind ?h ?c1 ?c2 ?c3
  (((case hC => assumption); (case ho => k_is); (case hcd => k_is); (case nd => decide); (case hcell => decide); (case c1 => rfl); (case c2 => rfl); (case c3 => rfl); (case hA => assumption)))
  case hbind => ((intro s as hk r; (repeat (obtain ⟨_, _, e, _, r⟩ := r; subst e)); subst r; refine ⟨_, BindsTo.of_eq rfl, locs rfl, ?_⟩; (repeat (first | exact FrOk.nil | refine FrOk.some ?_ rfl (by assumption) | refine FrOk.none ?_))))
  case h =>
    intro L A' hA'
    refine xs_cons ?_
    refine x_ret ?_
    refine' e_joingen (c := 74) (P := 70) (x := x) (dc := some d) (D := 101) (ps := ps) (cl := []) hC ?hKP hgt rfl rfl hA'.1 hA'.room rfl rfl ?hcell2 rfl rfl rfl ?hab rfl (.tail _ hx) ?hml ?hf ?hit ?hq ?hs ?he rfl rfl ?hdd rfl rfl rfl hz1 hz ?hh
    case hKP => kernel_rfl
    case hcell2 => decide
    case hab => decide
    case hml => k_is
    case hf => kernel_rfl
    case hit =>
      walk_at "E.run"
      exact ⟨rfl, rfl⟩
    case hq =>
      intro L' code
      exact qe_join hC (fun p hp => by have := pLen_mem hp; lia) (by k_is) rfl
    case hs => intro _; rfl
    case he => k_is
    case hdd => decide
    case hh =>
      refine ⟨σ, by ((repeat (first | exact Sb.refl | exact Sb.nil | (apply Sb.take; focus ((repeat (first | exact Pick.head | apply Pick.tail)); done)) | apply Sb.skip))), ?_⟩
      rw [show (ps.map fun p => S (p.1 ++ p.2)) = ((ps.map fun p => p.1 ++ p.2).map S) by rw [List.map_map]; rfl, join_S]
      exact h
theorem accmake_ {C : Cx} {A : Around} {σ : Led} {Q : V → Led → Prop} (hC : C.Is (Mine.hd.heap_1 C.w.params)) (hM : C.Main (Str.ofString "/claim/cut.py")) (hA : Fit 3 A) {n : Int} (h : ∀ x d, Q (.ref x) ((x, AO.seq (.ref 101) (some d) []) :: (d, AO.attrs ["_initial_size"] [some (.int n)]) :: σ)) : Call C A σ (.ref 101) [.int n] Q :=
  (c_makeL hC (by kernel_rfl) (fI := 38) (by kernel_rfl) (by kernel_rfl) fun x d val => accinit_ hC hM hA.under1 (.head _) (.head _) (.tail .head) ⟨rfl, h x d⟩).call
theorem acclenC_ {C : Cx} {A : Around} {σ : Led} {Q : V → Led → Prop} (hC : C.Is (Mine.hd.heap_1 C.w.params)) (hgt : (67, 63) ∈ C.gt) (hA : Fit 2 A) {x d : Addr} {ps : List (List Nat × List Nat)} {z : Nat} (hz : pLen ps ≤ 1000000) (hz2 : z ≤ 1000000)
    (hx : (x, AO.seq (.ref 101) (some d) (ps.map pairV)) ∈ σ) (hd : (d, AO.attrs ["_initial_size"] [some (.int (z : Nat))]) ∈ σ) (h : Q (.int ((z + pLen ps : Nat) : Int)) σ) : Call C A σ (.bi "len") [.ref x] Q := by
  refine c_lenO hC (isI_seq hx) hd (f := 68) (by kernel_rfl) (by kernel_rfl) ?_
  refine acclen_ hC hgt hA.in1 hz hx hd ⟨_, rfl, by lia, by lia, ?_⟩
  rw [← Int.natCast_add]; exact h
theorem accstrC_ {C : Cx} {A : Around} {σ : Led} {Q : V → Led → Prop} (hC : C.Is (Mine.hd.heap_1 C.w.params)) (hgt : (74, 70) ∈ C.gt) (hA : Fit 2 A) {x d : Addr} {ps : List (List Nat × List Nat)} {ks : List Str} {vs : List (Option V)} (hz : pLen ps ≤ 1000000) (hz1 : ps.length ≤ 1000000)
    (hx : (x, AO.seq (.ref 101) (some d) (ps.map pairV)) ∈ σ) (hd : (d, AO.attrs ks vs) ∈ σ) (h : Q (.str (S (pCat ps))) σ) : Call C A σ (.type "str") [.ref x] Q := by
  refine c_strO (n := 1) hC hA (isI_seq hx) hd (f := 75) (by kernel_rfl) (by kernel_rfl) ?_
  exact accstr_ hC hgt hA.in2 hz hz1 hx ⟨_, rfl, h⟩
theorem getp_ {C : Cx} {A : Around} {σ : Led} {Q : V → Led → Prop} (hC : C.Is (Mine.hd.heap_1 C.w.params)) (hA : Fit 2 A) {L : LxA} {ln : Int} {x t : List Nat} {toks : List (List Nat)} {pos : Nat} (hz : toks.length ≤ 1000000)
    (h : Q (.str (S t)) (Lx 150 L ln toks x pos σ)) : Call C A (Lx 150 L ln (t :: toks) x pos σ) (.ref 140) [.ref L.lx] Q := by
  refine' call_defK (n := 1) (ks := ["self", "token", "fiter", "ch"]) (vs := [some (.ref L.lx), none, none, none]) ?hC ?ho ?hcd ?hA ?nd ?hcell ?hbind ?h ?c1 ?c2 ?c3
  (((case hC => assumption); (case ho => k_is); (case hcd => k_is); (case nd => decide); (case hcell => decide); (case c1 => rfl); (case c2 => rfl); (case c3 => rfl); (case hA => assumption)))
  case hbind => ((intro s as hk r; (repeat (obtain ⟨_, _, e, _, r⟩ := r; subst e)); subst r; refine ⟨_, BindsTo.of_eq rfl, locs rfl, ?_⟩; (repeat (first | exact FrOk.nil | refine FrOk.some ?_ rfl (by assumption) | refine FrOk.none ?_))))
  case h =>
    intro F A' hA'
    walk_at "E.run"
    (((refine' a_own (by assumption) ?hix14 ?dx14 ?vx14 ?gx14 ?hhx14 ?hax14 ?nbx14 ?_); (case hix14 => exact isI_inst (by walk_at "M.mem")); (case dx14 => walk_at "M.mem"); (case vx14 => walk_at "M.at"); (case gx14 => kernel_rfl); (case hhx14 => kernel_rfl); (case hax14 => kernel_rfl); (case nbx14 => rfl)))
    refine tru_list (by walk_at "M.mem") (by rw [strsV_len, sizeLine_eq]; show _ + 1 ≤ _; lia) ?_
    rw [if_pos (show (!(strsV (t :: toks)).isEmpty) = true from rfl)]
    walk_at "E.run"
    (((refine' a_own (by assumption) ?hix15 ?dx15 ?vx15 ?gx15 ?hhx15 ?hax15 ?nbx15 ?_); (case hix15 => exact isI_inst (by walk_at "M.mem")); (case dx15 => walk_at "M.mem"); (case vx15 => walk_at "M.at"); (case gx15 => kernel_rfl); (case hhx15 => kernel_rfl); (case hax15 => kernel_rfl); (case nbx15 => rfl)))
    refine m_pop (by walk_at "M.mem") ?_
    walk_at "E.run"
    refine c_pop0 (l := strsV toks) (y := .str (S t)) listTy (by walk_at "M.lu") (by rw [sizeLine_eq]; show (strsV toks).length + 1 ≤ _; rw [strsV_len]; lia) ?_
    exact ⟨_, by ((repeat (first | exact Sb.refl | exact Sb.nil | (apply Sb.take; focus ((repeat (first | exact Pick.head | apply Pick.tail)); done)) | apply Sb.skip))), h⟩
theorem draws_ {C : Cx} {A : Around} {σ : Led} {Q : V → Led → Prop} {sc : Addr} {ns : List Int} (hC : C.Is (Mine.hd.heap_1 C.w.params)) (hA : Fit 3 A) (hs : OldL C sc ns) (hn : ns.length ≤ 63)
    (h : ∀ a, Q (.ref a) ((a, AO.list ((drawn 7 [20, 35, 261, 71, 136, 202, 10470] ns ns.length).map V.int)) :: σ)) : Call C A σ (.ref 161) [.ref sc] Q := by
  refine' call_defK (n := 2) (ks := ["script", "draws", "k"]) (vs := [some (.ref sc), none, none]) ?hC ?ho ?hcd ?hA ?nd ?hcell ?hbind ?h ?c1 ?c2 ?c3
  (((case hC => assumption); (case ho => k_is); (case hcd => k_is); (case nd => decide); (case hcell => decide); (case c1 => rfl); (case c2 => rfl); (case c3 => rfl); (case hA => assumption)))
  case hbind => ((intro s as hk r; (repeat (obtain ⟨_, _, e, _, r⟩ := r; subst e)); subst r; refine ⟨_, BindsTo.of_eq rfl, locs rfl, ?_⟩; (repeat (first | exact FrOk.nil | refine FrOk.some ?_ rfl (by assumption) | refine FrOk.none ?_))))
  case h =>
    intro L A' hA'
    walk_at "E.run"
    refine ⟨by rw [sizeLine_eq]; decide, fun a => ?_⟩
    walk_at "E.run"
    refine x_for' ?_
    walk_at "E.run"
    refine c_len_listH hs.has (by rw [sizeLine_eq]; simp; lia) ?_
    walk_at "E.run"
    refine c_range1 fun a1 => ?_
    refine it_range (by walk_at "M.mem") (by lia) (by lia) (by lia) (by simp; lia) fun a2 => ?_
    have en : ((((ns.map V.int).length : Int) - 0).toNat : Int) = ns.length := by simp
    refine' loop_range (i := 0) (σ' := (a, AO.list ((drawn 7 [20, 35, 261, 71, 136, 202, 10470] ns 0).map V.int)) :: (L, AO.fr ["script", "draws", "k"] [some (.ref sc), some (.ref a), none]) :: σ) ?sb en hA'.1 (fun k σ' => ∃ u, σ' = (a, AO.list ((drawn 7 [20, 35, 261, 71, 136, 202, 10470] ns k).map V.int)) :: (L, AO.fr ["script", "draws", "k"] [some (.ref sc), some (.ref a), u]) :: σ) ⟨_, rfl⟩ ?_ ?_
    case sb => ((repeat (first | exact Sb.refl | exact Sb.nil | (apply Sb.take; focus ((repeat (first | exact Pick.head | apply Pick.tail)); done)) | apply Sb.skip)))
    · rintro k σ' hk ⟨u, rfl⟩
      walk_at "E.run"
      have e7 : ((0 : Int) + k).fmod 7 = ((k % 7 : Nat) : Int) := by rw [Int.zero_add, Int.fmod_eq_emod_of_nonneg _ (by decide)]; rfl
      have hl := drawn_len 7 [20, 35, 261, 71, 136, 202, 10470] ns k
      have h7 : k % 7 < 7 := Nat.mod_lt _ (by decide)
      rw [e7]
      refine g_list (by walk_at "M.mem") (by lia) (by lia) (get_ints (by rw [hl, Int.toNat_natCast]; exact h7)) ?_
      walk_at "E.run"
      refine ⟨has_listH hs.has, ?_⟩
      have e0 : (0 : Int) + k = k := Int.zero_add _
      rw [e0]
      refine g_listH hs.has (by lia) (by lia) (get_ints (by rw [Int.toNat_natCast]; exact hk)) ?_
      walk_at "E.run"
      refine s_list (by walk_at "M.lu") (by lia) (by simp [hl]; lia) (by lia) ?_
      walk_at "E.run"
      rw [map_set, Int.toNat_natCast, Int.toNat_natCast]
      exact ⟨_, by ((repeat (first | exact Sb.refl | exact Sb.nil | (apply Sb.take; focus ((repeat (first | exact Pick.head | apply Pick.tail)); done)) | apply Sb.skip))), _, rfl⟩
    · rintro σ' ⟨u, rfl⟩
      walk_at "E.run"
      exact ⟨_, by ((repeat (first | exact Sb.refl | exact Sb.nil | (apply Sb.take; focus ((repeat (first | exact Pick.head | apply Pick.tail)); done)) | apply Sb.skip))), h a⟩
theorem word_ {C : Cx} {A : Around} {σ : Led} {Q : V → Led → Prop} (hC : C.Is (Mine.hd.heap_1 C.w.params)) (hA : Fit 3 A) (i : Int) (hi : i.toNat < 16 ^ 100) (h : Q (.str (S (hw i.toNat))) σ) : Call C A σ (.ref 168) [.int i] Q := by
  refine' call_defK (n := 2) (ks := ["number", "word"]) (vs := [some (.int i), none]) ?hC ?ho ?hcd ?hA ?nd ?hcell ?hbind ?h ?c1 ?c2 ?c3
  (((case hC => assumption); (case ho => k_is); (case hcd => k_is); (case nd => decide); (case hcell => decide); (case c1 => rfl); (case c2 => rfl); (case c3 => rfl); (case hA => assumption)))
  case hbind => ((intro s as hk r; (repeat (obtain ⟨_, _, e, _, r⟩ := r; subst e)); subst r; refine ⟨_, BindsTo.of_eq rfl, locs rfl, ?_⟩; (repeat (first | exact FrOk.nil | refine FrOk.some ?_ rfl (by assumption) | refine FrOk.none ?_))))
  case h =>
    intro L A' hA'
    walk_at "E.run"
    refine x_while (fun n σ' => ∃ (j : Int) (w : List Nat), n = j.toNat ∧ j.toNat < 16 ^ 100 ∧ hw j.toNat ++ w = hw i.toNat ∧ σ' = (L, AO.fr ["number", "word"] [some (.int j), some (.str (S w))]) :: σ) i.toNat ⟨i, [], rfl, hi, by simp, rfl⟩ ?_
    rintro n σ' ⟨j, w, rfl, hj, e, rfl⟩
    have hlen : (hw j.toNat ++ w).length ≤ 100 := by rw [e]; exact hw_len 100 _ hi
    rw [List.length_append] at hlen
    walk_at "E.run"
    by_cases h0 : 0 < j
    · rw [if_pos (by simpa using h0)]
      have ej : j.toNat ≠ 0 := by lia
      walk_at "E.run"
      rw [fm16 h0]
      refine c_chr (by lia) (by lia) ?_
      walk_at "E.run"
      rw [Int.toNat_natCast]
      show Bin _ _ _ _ (.str (S [65 + j.toNat % 16])) _ _
      refine bin_cat (by rw [S_cat, S_len, sizeLine_eq]; simp; lia) ?_
      rw [S_cat]
      walk_at "E.run"
      refine ⟨j.toNat / 16, Nat.div_lt_self (Nat.pos_of_ne_zero ej) (by decide), j.fdiv 16, _, (fd16 h0).symm, by rw [fd16 h0]; exact Nat.lt_of_le_of_lt (Nat.div_le_self _ _) hj, ?_, rfl⟩
      rw [fd16 h0, ← e, hw_pos ej]; simp
    · rw [if_neg (by simpa using h0)]
      have ej : j.toNat = 0 := by lia
      rw [ej, hw_zero, List.nil_append] at e
      subst e
      walk_at "E.run"
      exact ⟨_, by ((repeat (first | exact Sb.refl | exact Sb.nil | (apply Sb.take; focus ((repeat (first | exact Pick.head | apply Pick.tail)); done)) | apply Sb.skip))), h⟩
theorem worth_ {C : Cx} {A : Around} {σ : Led} {Q : V → Led → Prop} (hC : C.Is (Mine.hd.heap_1 C.w.params)) (hA : Fit 3 A) (x : List Nat) (h : Q (.int (wv x 0)) σ) : Call C A σ (.ref 175) [.str (S x)] Q := by
  refine' call_defK (n := 2) (ks := ["word", "number", "letter"]) (vs := [some (.str (S x)), none, none]) ?hC ?ho ?hcd ?hA ?nd ?hcell ?hbind ?h ?c1 ?c2 ?c3
  (((case hC => assumption); (case ho => k_is); (case hcd => k_is); (case nd => decide); (case hcell => decide); (case c1 => rfl); (case c2 => rfl); (case c3 => rfl); (case hA => assumption)))
  case hbind => ((intro s as hk r; (repeat (obtain ⟨_, _, e, _, r⟩ := r; subst e)); subst r; refine ⟨_, BindsTo.of_eq rfl, locs rfl, ?_⟩; (repeat (first | exact FrOk.nil | refine FrOk.some ?_ rfl (by assumption) | refine FrOk.none ?_))))
  case h =>
    intro L A' hA'
    walk_at "E.run"
    refine x_for' ?_
    walk_at "E.run"
    refine it_str fun a => ?_
    refine loop_it Sb.refl (iter_str hA'.1) (fun k σ' => ∃ u, σ' = (L, AO.fr ["word", "number", "letter"] [some (.str (S x)), some (.int (wv (x.take k) 0)), u]) :: σ) ⟨_, rfl⟩ (fun _ _ _ => trivial) ?_ ?_
    · rintro k y σ' hy ⟨u, rfl⟩
      unfold chars at hy
      rw [S_cps, List.getElem?_map] at hy
      obtain ⟨c, hc, rfl⟩ := Option.map_eq_some_iff.mp hy
      walk_at "E.run"
      refine bin_mul ?_ (IntMulOk.of_left (by decide))
      walk_at "E.run"
      refine c_ord (by rfl) ?_
      walk_at "E.run"
      refine ⟨_, Sb.refl, some (.str ⟨#[c]⟩), ?_⟩
      have e : wv (x.take (k + 1)) 0 = 16 * wv (x.take k) 0 + c - 65 := by rw [List.take_add_one, hc]; simp [wv]
      rw [e]; rfl
    · rintro σ' ⟨u, rfl⟩
      have e : (chars (S x)).length = x.length := by simp [chars]
      rw [e, List.take_length]
      walk_at "E.run"
      exact ⟨_, by ((repeat (first | exact Sb.refl | exact Sb.nil | (apply Sb.take; focus ((repeat (first | exact Pick.head | apply Pick.tail)); done)) | apply Sb.skip))), h⟩
theorem lexer_ {C : Cx} {A : Around} {σ : Led} {Q : V → Led → Prop} (hC : C.Is (Mine.hd.heap_1 C.w.params)) (hA : Fit 6 A) (x : List Nat) (h : ∀ (L : LxA) ps, RL Mine.hd.heap_1 L.fdR L.cR L.cA L.cT → Q (.ref L.lx) (Lx 150 L 1 [] x 0 ((182, AO.table ps) :: σ))) : Call C A ((182, AO.table #[]) :: σ) (.ref 187) [.str (S x)] Q := by
  refine' call_fn (n := 5) (ks := ["read", "stream"]) (ps := ["text"]) (bxs := [.str (S x)]) (cn := ["at", "text"]) rfl ?ho hA ?nd ?hcn rfl ?hbind ?h ?c1 ?c2
  case ho =>
    intro s H
    refine ⟨_, H.bg.kin _ _ (show C.K.lookup 187 = some _ from (by rw [hC.isK]; k_is)), rfl, ?_⟩
    refine codeRec_of (K := Mine.hd.heap_1 C.w.params) (hC.isK ▸ H.bg.kin) ?_
    k_is
  (((case nd => decide); (case hcn => rfl); (case c1 => rfl); (case c2 => rfl)))
  case hbind => ((intro s as hk r; refine ⟨as, ?_, r⟩; (repeat (obtain ⟨_, _, e, _, r⟩ := r; subst e)); (first | subst r | skip); exact BindsTo.of_eq rfl))
  case h =>
    intro A₁ L cs hcs
    obtain ⟨cA, cT, rfl⟩ := cs_2 hcs
    ((simp only [celled, List.map_cons, List.map_nil, List.cons_append, List.nil_append]))
    show St _ _ _ (storeName _ _) _ _
    walk_at "E.run"
    intro A' hA'
    walk_at "E.run"
    refine ⟨by rw [sizeLine_eq]; decide, fun atl => ?_⟩
    walk_at "E.run"
    refine' x_def (c := 186) (P := 182) (ps := #[]) (σ₀ := (atl, AO.list [.int 0]) :: (L, AO.fr ["read", "stream"] [none, none]) :: (cA, AO.cell (some (.ref atl))) :: (cT, AO.cell (some (.str (S x)))) :: σ) hC ?sb rfl rfl rfl ?k trivial rfl rfl rfl rfl ?_
    case sb => ((repeat (first | exact Sb.refl | exact Sb.nil | (apply Sb.take; focus ((repeat (first | exact Pick.head | apply Pick.tail)); done)) | apply Sb.skip)))
    case k => kernel_rfl
    intro rd cR ctv doc pm
    walk_at "E.run"
    refine' e_lambda (c := 186) (P := 182) (σ₀ := (rd, AO.fn none _) :: (cR, AO.code _) :: (atl, AO.list [.int 0]) :: (L, AO.fr ["read", "stream"] [some (.ref rd), none]) :: (cA, AO.cell (some (.ref atl))) :: (cT, AO.cell (some (.str (S x)))) :: σ) hC ?sb2 rfl rfl rfl ?k2 ?tr ?nf rfl ?_
    case sb2 => ((repeat (first | exact Sb.refl | exact Sb.nil | (apply Sb.take; focus ((repeat (first | exact Pick.head | apply Pick.tail)); done)) | apply Sb.skip)))
    case k2 => kernel_rfl
    case tr => simp [TriplesOk, rawInt]
    case nf => rfl
    intro st cL ctv2 pm2
    walk_at "E.run"
    refine a_setfn Sb.refl fn_read fun sd => ?_
    walk_at "E.run"
    refine (c_make hC (by kernel_rfl) (fI := 126) (by kernel_rfl) (by kernel_rfl) fun lx d vals => ?_).call
    refine' call_defKC (n := 3) (ks := ["self", "fp"]) (vs := [some (.ref lx), some (.ref st)]) ?hC ?ho ?hcd ?hA ?nd ?hcell ?hbind ?h ?c1 ?c2 ?c3
    case hA => exact hA'.under
    case hC => assumption
    case ho => k_is
    case hcd => k_is
    case nd => decide
    case hcell => decide
    case c1 => rfl
    case c2 => rfl
    case c3 => rfl
    case hbind => ((intro s as hk r; (repeat (obtain ⟨_, _, e, _, r⟩ := r; subst e)); subst r; refine ⟨_, BindsTo.of_eq rfl, locs rfl, ?_⟩; (repeat (first | exact FrOk.nil | refine FrOk.some ?_ rfl (by assumption) | refine FrOk.none ?_))))
    case h =>
      intro L2 A2 hA2
      walk_at "E.run"
      (((refine' a_new (by assumption) ?hix34 ?ux34 ?nx34 ?ndx34 ?zx34 ?sx34 ?px34 ?tx34 ?hhx34 ?_); rotate_left 1; (case hix34 => exact isI_inst (by walk_at "M.mem")); (case ux34 => walk_at "M.lu"); (case nx34 => decide); (case ndx34 => decide); (case zx34 => decide); (case sx34 => kernel_rfl); (case px34 => kernel_rfl); (case tx34 => kernel_rfl); (case hhx34 => kernel_rfl); (try simp only [List.nil_append, List.cons_append])))
      walk_at "E.run"
      (((refine' a_new (by assumption) ?hix35 ?ux35 ?nx35 ?ndx35 ?zx35 ?sx35 ?px35 ?tx35 ?hhx35 ?_); rotate_left 1; (case hix35 => exact isI_inst (by walk_at "M.mem")); (case ux35 => walk_at "M.lu"); (case nx35 => decide); (case ndx35 => decide); (case zx35 => decide); (case sx35 => kernel_rfl); (case px35 => kernel_rfl); (case tx35 => kernel_rfl); (case hhx35 => kernel_rfl); (try simp only [List.nil_append, List.cons_append])))
      walk_at "E.run"
      (((refine' a_new (by assumption) ?hix36 ?ux36 ?nx36 ?ndx36 ?zx36 ?sx36 ?px36 ?tx36 ?hhx36 ?_); rotate_left 1; (case hix36 => exact isI_inst (by walk_at "M.mem")); (case ux36 => walk_at "M.lu"); (case nx36 => decide); (case ndx36 => decide); (case zx36 => decide); (case sx36 => kernel_rfl); (case px36 => kernel_rfl); (case tx36 => kernel_rfl); (case hhx36 => kernel_rfl); (try simp only [List.nil_append, List.cons_append])))
      walk_at "E.run"
      refine ⟨by rw [sizeLine_eq]; decide, fun pb => ?_⟩
      walk_at "E.run"
      (((refine' a_new (by assumption) ?hix37 ?ux37 ?nx37 ?ndx37 ?zx37 ?sx37 ?px37 ?tx37 ?hhx37 ?_); rotate_left 1; (case hix37 => exact isI_inst (by walk_at "M.mem")); (case ux37 => walk_at "M.lu"); (case nx37 => decide); (case ndx37 => decide); (case zx37 => decide); (case sx37 => kernel_rfl); (case px37 => kernel_rfl); (case tx37 => kernel_rfl); (case hhx37 => kernel_rfl); (try simp only [List.nil_append, List.cons_append])))
      walk_at "E.run"
      refine ⟨_, Sb.refl, rfl, ?_⟩
      refine' ⟨_, ?sbE, h ⟨lx, d, st, sd, rd, cR, cA, cT, atl, pb, _, _⟩ _ ?rl⟩
      case sbE => ((repeat (first | exact Sb.refl | exact Sb.nil | (apply Sb.take; focus ((repeat (first | exact Pick.head | apply Pick.tail)); done)) | apply Sb.skip)))
      intro C A σ rd atl x pos Q hC hA hx h
      refine' call_fnC (n := 2) (ks := ["size"]) (ps := ["size"]) (bxs := [.int 1]) (cn := []) rfl ?ho hA ?nd ?hcn rfl ?hbind ?h ?c1 ?c2
      case ho =>
        intro s H
        obtain ⟨o, g, _, e⟩ := H.own _ (List.Mem.head _)
        exact ⟨o, g, by rw [show o = fnObj none _ from e]; rfl, codeRec_own H (List.Mem.tail _ (List.Mem.head _))⟩
      (((case nd => decide); (case hcn => rfl); (case c1 => rfl); (case c2 => rfl)))
      case hbind => ((intro s as hk r; refine ⟨as, ?_, r⟩; (repeat (obtain ⟨_, _, e, _, r⟩ := r; subst e)); (first | subst r | skip); exact BindsTo.of_eq rfl))
      case h =>
        intro A₁ L cs hcs
        cases cs_0 hcs
        ((simp only [celled, List.map_cons, List.map_nil, List.cons_append, List.nil_append]))
        show St _ _ _ (storeName _ _) _ _
        walk_at "E.run"
        intro A' hA'
        walk_at "E.run"
        refine g_list (by walk_at "M.mem") (by decide) (by decide) rfl ?_
        walk_at "E.run"
        refine s_list (by walk_at "M.lu") (by decide) (by simp) (by decide) ?_
        simp only [Int.toNat_zero, List.set_cons_zero]
        walk_at "E.run"
        refine g_list (by walk_at "M.mem") (by decide) (by decide) rfl ?_
        walk_at "E.run"
        refine g_list (by walk_at "M.mem") (by decide) (by decide) rfl ?_
        walk_at "E.run"
        refine ⟨_, _, .int, .int, fun a => ?_⟩
        walk_at "E.run"
        refine g_str_slice (by rw [S_len, sizeLine_eq]; lia) ?_
        have e1 : (pos : Int) + 1 - 1 = ((pos : Nat) : Int) := by lia
        have e2 : (pos : Int) + 1 = ((pos + 1 : Nat) : Int) := by lia
        rw [e1, e2, slice_S _ _ _ (by lia), Nat.add_sub_cancel_left]
        refine ⟨_, ?_, h⟩
        ((repeat (first | exact Sb.refl | exact Sb.nil | (apply Sb.take; focus ((repeat (first | exact Pick.head | apply Pick.tail)); done)) | apply Sb.skip)))
theorem rc_ {C : Cx} {A : Around} {σ : Led} {Q : V → Led → Prop} (hC : C.Is (Mine.hd.heap_1 C.w.params)) (hA : Fit 4 A) {L : LxA} (hr : RL Mine.hd.heap_1 L.fdR L.cR L.cA L.cT) {ln : Int} {toks : List (List Nat)} {x : List Nat} {pos : Nat} (hx : x.length ≤ 1000000)
    (h : Q (.str (S ((x.drop pos).take 1))) (Lx 150 L (ln + if x[pos]? = some 10 then 1 else 0) toks x (pos + 1) σ)) : CallC C A (Lx 150 L ln toks x pos σ) (.ref 133) [.ref L.lx] Q := by
  refine' call_defKC (n := 3) (ks := ["self", "ch"]) (vs := [some (.ref L.lx), none]) ?hC ?ho ?hcd ?hA ?nd ?hcell ?hbind ?h ?c1 ?c2 ?c3
  (((case hC => assumption); (case ho => k_is); (case hcd => k_is); (case nd => decide); (case hcell => decide); (case c1 => rfl); (case c2 => rfl); (case c3 => rfl); (case hA => assumption)))
  case hbind => ((intro s as hk r; (repeat (obtain ⟨_, _, e, _, r⟩ := r; subst e)); subst r; refine ⟨_, BindsTo.of_eq rfl, locs rfl, ?_⟩; (repeat (first | exact FrOk.nil | refine FrOk.some ?_ rfl (by assumption) | refine FrOk.none ?_))))
  case h =>
    intro F A' hA'
    walk_at "E.run"
    (((refine' a_own (by assumption) ?hix45 ?dx45 ?vx45 ?gx45 ?hhx45 ?hax45 ?nbx45 ?_); (case hix45 => exact isI_inst (by walk_at "M.mem")); (case dx45 => walk_at "M.mem"); (case vx45 => walk_at "M.at"); (case gx45 => kernel_rfl); (case hhx45 => kernel_rfl); (case hax45 => kernel_rfl); (case nbx45 => rfl)))
    refine m_fnattr (by walk_at "M.mem") (by walk_at "M.mem") (by walk_at "M.at") rfl fn_read ?_
    walk_at "E.run"
    refine (CallC.sb (σ' := (L.rd, AO.fn none L.fdR) :: (L.cR, AO.code L.fdR.qualname) :: (L.cA, AO.cell (some (.ref L.atl))) :: (L.cT, AO.cell (some (.str (S x)))) :: (L.atl, AO.list [.int (pos : Nat)]) ::
      (F, AO.fr ["self", "ch"] [some (.ref L.lx), none]) :: (L.lx, AO.inst 150 L.d) :: (L.d, AO.attrs ["lineno", "instream", "whitespace", "pushback"] [some (.int ln), some (.ref L.st), some (.str wsS), some (.ref L.pb)]) :: (L.pb, AO.list (strsV toks)) :: (L.st, AO.fn (some L.sd) L.fdL) :: (L.sd, AO.attrs ["read"] [some (.ref L.rd)]) :: σ) ?_ (hr C A' _ L.rd L.atl x pos _ hC hA' hx ?_)).call
    · ((repeat (first | exact Sb.refl | exact Sb.nil | (apply Sb.take; focus ((repeat (first | exact Pick.head | apply Pick.tail)); done)) | apply Sb.skip)))
    walk_at "E.run"
    refine cmp_seqS (y := [10]) ?_
    walk_at "E.run"
    have e10 : ((x.drop pos).take 1 == [10]) = decide (x[pos]? = some 10) := by
      rw [take1]
      cases x[pos]? with
      | none => rfl
      | some c => by_cases hc : c = 10 <;> simp [hc]
    rw [e10]
    by_cases hc : x[pos]? = some 10
    · rw [if_pos (by simpa using hc)]
      rw [if_pos hc] at h
      walk_at "E.run"
      (((refine' a_own (by assumption) ?hix47 ?dx47 ?vx47 ?gx47 ?hhx47 ?hax47 ?nbx47 ?_); (case hix47 => exact isI_inst (by walk_at "M.mem")); (case dx47 => walk_at "M.mem"); (case vx47 => walk_at "M.at"); (case gx47 => kernel_rfl); (case hhx47 => kernel_rfl); (case hax47 => kernel_rfl); (case nbx47 => rfl)))
      walk_at "E.run"
      (((refine' a_set (by assumption) ?hix48 ?ux48 ?vx48 ?sx48 ?px48 ?tx48 ?hhx48 ?_); rotate_left 1; (case hix48 => exact isI_inst (by walk_at "M.mem")); (case ux48 => walk_at "M.lu"); (case vx48 => walk_at "M.put"); (case sx48 => kernel_rfl); (case px48 => kernel_rfl); (case tx48 => kernel_rfl); (case hhx48 => kernel_rfl)))
      walk_at "E.run"
      exact ⟨_, by ((repeat (first | exact Sb.refl | exact Sb.nil | (apply Sb.take; focus ((repeat (first | exact Pick.head | apply Pick.tail)); done)) | apply Sb.skip))), h⟩
    · rw [if_neg (by simpa using hc)]
      rw [if_neg hc, Int.add_zero] at h
      walk_at "E.run"
      exact ⟨_, by ((repeat (first | exact Sb.refl | exact Sb.nil | (apply Sb.take; focus ((repeat (first | exact Pick.head | apply Pick.tail)); done)) | apply Sb.skip))), h⟩
theorem push_ {C : Cx} {A : Around} {σ : Led} {Q : V → Led → Prop} (hC : C.Is (Mine.hd.heap_1 C.w.params)) (hA : Fit 3 A) {L : LxA} {ln : Int} {toks : List (List Nat)} {x t : List Nat} {pos : Nat} (hz : toks.length ≤ 1000000)
    (h : Q .none (Lx 150 L ln (toks ++ [t]) x pos σ)) : Call C A (Lx 150 L ln toks x pos σ) (.ref 147) [.ref L.lx, .str (S t)] Q := by
  refine' call_defK (n := 2) (ks := ["self", "token"]) (vs := [some (.ref L.lx), some (.str (S t))]) ?hC ?ho ?hcd ?hA ?nd ?hcell ?hbind ?h ?c1 ?c2 ?c3
  (((case hC => assumption); (case ho => k_is); (case hcd => k_is); (case nd => decide); (case hcell => decide); (case c1 => rfl); (case c2 => rfl); (case c3 => rfl); (case hA => assumption)))
  case hbind => ((intro s as hk r; (repeat (obtain ⟨_, _, e, _, r⟩ := r; subst e)); subst r; refine ⟨_, BindsTo.of_eq rfl, locs rfl, ?_⟩; (repeat (first | exact FrOk.nil | refine FrOk.some ?_ rfl (by assumption) | refine FrOk.none ?_))))
  case h =>
    intro F A' hA'
    walk_at "E.run"
    (((refine' a_own (by assumption) ?hix53 ?dx53 ?vx53 ?gx53 ?hhx53 ?hax53 ?nbx53 ?_); (case hix53 => exact isI_inst (by walk_at "M.mem")); (case dx53 => walk_at "M.mem"); (case vx53 => walk_at "M.at"); (case gx53 => kernel_rfl); (case hhx53 => kernel_rfl); (case hax53 => kernel_rfl); (case nbx53 => rfl)))
    refine m_append (by walk_at "M.mem") ?_
    walk_at "E.run"
    refine c_append (by walk_at "M.lu") (by rw [List.length_map, sizeLine_eq]; lia) ?_
    walk_at "E.run"
    refine ⟨_, ?_, h⟩
    rw [show strsV toks ++ [V.str (S t)] = strsV (toks ++ [t]) by simp [strsV]]
    ((repeat (first | exact Sb.refl | exact Sb.nil | (apply Sb.take; focus ((repeat (first | exact Pick.head | apply Pick.tail)); done)) | apply Sb.skip)))
theorem nxrc_ {C : Cx} {A : Around} {σ : Led} {Q : Option V → Led → Prop} (hC : C.Is (Mine.hd.heap_1 C.w.params)) (hA : Fit 5 A) {L : LxA} (hr : RL Mine.hd.heap_1 L.fdR L.cR L.cA L.cT) {ln : Int} {toks : List (List Nat)} {x : List Nat} {pos : Nat} (hx : x.length ≤ 1000000) {it q : Addr}
    (h1 : ∀ c, x[pos]? = some c → Q (some (.str (S [c]))) (Lx 150 L (ln + if c = 10 then 1 else 0) toks x (pos + 1) ((it, AO.cit q) :: (q, AO.meth 133 L.lx) :: σ)))
    (h0 : x[pos]? = none → Q none (Lx 150 L ln toks x (pos + 1) ((it, AO.cdone) :: (q, AO.meth 133 L.lx) :: σ))) : Nx C A (Lx 150 L ln toks x pos ((it, AO.cit q) :: (q, AO.meth 133 L.lx) :: σ)) (.ref it) Q := by
  refine nx_cit (q := q) (f := 133) (x := L.lx) hC hA.1 (by kernel_rfl) (by walk_at "M.mem") (by walk_at "M.mem") ?_
  refine rc_ hC hA.in1 hr hx ?_
  refine ⟨_, rfl, by walk_at "M.mem", by walk_at "M.mem", fun hl => ?_, fun hl => ?_⟩
  · rw [take1] at hl ⊢
    cases hc : x[pos]? with
    | none => rw [hc] at hl; exact absurd rfl hl
    | some c =>
      have := h1 c hc
      simp only [Option.some.injEq]
      exact this
  · rw [take1] at hl
    cases hc : x[pos]? with
    | some c => rw [hc] at hl; cases hl
    | none =>
      refine ⟨_, by walk_at "M.lu", ?_⟩
      simp only [reduceCtorEq, if_false, Int.add_zero]
      exact h0 hc
noncomputable abbrev Gt (L : LxA) (F it q : Addr) (ln : Int) (x : List Nat) (p : Nat) (X : AO) (acc : List Nat) (u : Option V) (σ : Led) : Led :=
  Lx 150 L ln [] x p ((it, X) :: (q, AO.meth 133 L.lx) :: (F, AO.fr ["self", "token", "fiter", "ch"] [some (.ref L.lx), some (.str (S acc)), some (.ref it), u]) :: σ)
theorem sl1 {n p : Nat} (h : p < n) : n - (p + 1) < n - p := by lia
theorem sl2 {n p : Nat} (h : p < n) : n - (p + 2) < n - p := Nat.sub_lt_sub_left h (Nat.lt_add_of_pos_right (by decide))
theorem get_ {C : Cx} {A : Around} {σ : Led} {Q : V → Led → Prop} (hC : C.Is (Mine.hd.heap_1 C.w.params)) (hA : Fit 6 A) {L : LxA} (hr : RL Mine.hd.heap_1 L.fdR L.cR L.cA L.cT) {ln : Int} {x : List Nat} {pos : Nat} (hx : x.length ≤ 1000000)
    (h : Q (.str (S (tk (x.drop pos)).1)) (Lx 150 L (ln + nls x pos (tk (x.drop pos)).2) [] x (pos + (tk (x.drop pos)).2) σ)) : Call C A (Lx 150 L ln [] x pos σ) (.ref 140) [.ref L.lx] Q := by
  refine' call_defK (n := 5) (ks := ["self", "token", "fiter", "ch"]) (vs := [some (.ref L.lx), none, none, none]) ?hC ?ho ?hcd ?hA ?nd ?hcell ?hbind ?h ?c1 ?c2 ?c3
  (((case hC => assumption); (case ho => k_is); (case hcd => k_is); (case nd => decide); (case hcell => decide); (case c1 => rfl); (case c2 => rfl); (case c3 => rfl); (case hA => assumption)))
  case hbind => ((intro s as hk r; (repeat (obtain ⟨_, _, e, _, r⟩ := r; subst e)); subst r; refine ⟨_, BindsTo.of_eq rfl, locs rfl, ?_⟩; (repeat (first | exact FrOk.nil | refine FrOk.some ?_ rfl (by assumption) | refine FrOk.none ?_))))
  case h =>
    intro F A' hA'
    have hlen : (tk (x.drop pos)).1.length ≤ 1000000 := Nat.le_trans (tk_len _) (by rw [List.length_drop]; lia)
    generalize hT : tk (x.drop pos) = T at h hlen
    have n1 : ∀ p, pos ≤ p → nls x pos (p + 1 - pos) = nls x pos (p - pos) + if x[p]? = some 10 then 1 else 0 := fun p hp => by
      have e : p + 1 - pos = (p - pos) + 1 := Nat.sub_add_comm (by assumption)
      have e2 : pos + (p - pos) = p := by lia
      rw [e, nls, e2]
    have nlsome : ∀ p c, pos ≤ p → x[p]? = some c → ln + nls x pos (p - pos) + (if c = 10 then 1 else 0) = ln + nls x pos (p + 1 - pos) := fun p c hp hc => by
      rw [n1 p hp, hc]; simp only [Option.some.injEq]; lia
    have nlnone : ∀ p, pos ≤ p → x[p]? = none → ln + nls x pos (p - pos) = ln + nls x pos (p + 1 - pos) := fun p hp hc => by
      rw [n1 p hp, hc]; simp
    have nlrc : ∀ p, pos ≤ p → ln + nls x pos (p - pos) + (if x[p]? = some 10 then 1 else 0) = ln + nls x pos (p + 1 - pos) := fun p hp => by
      rw [n1 p hp]; lia
    walk_at "E.run"
    (((refine' a_own (by assumption) ?hix57 ?dx57 ?vx57 ?gx57 ?hhx57 ?hax57 ?nbx57 ?_); (case hix57 => exact isI_inst (by walk_at "M.mem")); (case dx57 => walk_at "M.mem"); (case vx57 => walk_at "M.at"); (case gx57 => kernel_rfl); (case hhx57 => kernel_rfl); (case hax57 => kernel_rfl); (case nbx57 => rfl)))
    refine tru_list (by walk_at "M.mem") (by simp) ?_
    rw [if_neg (by simp)]
    walk_at "E.run"
    refine a_bound hC (isI_inst (by walk_at "M.mem")) (by walk_at "M.mem") (by decide) (by kernel_rfl) (by kernel_rfl) (f := 133) (by kernel_rfl) (by kernel_rfl) (by kernel_rfl) (by kernel_rfl) (by decide) fun q => ?_
    walk_at "E.run"
    refine c_iter2 (by walk_at "M.mem") fun it => ?_
    walk_at "E.run"
    refine x_for' ?_
    walk_at "E.run"
    refine it_cit (.inl rfl) (by walk_at "M.mem") ?_
    refine ⟨fun n σ' => (∃ p u, n = x.length - p + 1 ∧ pos ≤ p ∧ (tk (x.drop p)).1 = T.1 ∧ p + (tk (x.drop p)).2 = pos + T.2 ∧ Sb (Gt L F it q (ln + nls x pos (p - pos)) x p (AO.cit q) [] u σ) σ') ∨
      (∃ u, n = 0 ∧ Sb (Gt L F it q (ln + nls x pos T.2) x (pos + T.2) AO.cdone T.1 u σ) σ'), x.length - pos + 1, .inl ⟨pos, none, rfl, Nat.le_refl _, by rw [hT], by rw [hT], ?_⟩, ?_⟩
    · rw [Nat.sub_self]
      simp only [nls, Int.add_zero]
      ((repeat (first | exact Sb.refl | exact Sb.nil | (apply Sb.take; focus ((repeat (first | exact Pick.head | apply Pick.tail)); done)) | apply Sb.skip)))
    rintro n σ' (⟨p, u, rfl, hp, e1, e2, sb⟩ | ⟨u, rfl, sb⟩)
    · refine nx_sb sb ?_
      refine nxrc_ hC hA' hr hx (fun c hc => ?_) (fun hc => ?_)
      · rw [nlsome p c hp hc]
        have hlt : p < x.length := (List.getElem?_eq_some_iff.mp hc).1
        walk_at "E.run"
        (((refine' a_own (by assumption) ?hix59 ?dx59 ?vx59 ?gx59 ?hhx59 ?hax59 ?nbx59 ?_); (case hix59 => exact isI_inst (by walk_at "M.mem")); (case dx59 => walk_at "M.mem"); (case vx59 => walk_at "M.at"); (case gx59 => kernel_rfl); (case hhx59 => kernel_rfl); (case hax59 => kernel_rfl); (case nbx59 => rfl)))
        walk_at "E.run"
        refine cmp_inW ?_
        walk_at "E.run"
        by_cases hw : isWs c = true
        · rw [if_pos hw]
          rw [tk_w hc hw] at e1 e2
          walk_at "E.run"
          exact ⟨x.length - (p + 1) + 1, Nat.succ_lt_succ (sl1 (by assumption)), .inl ⟨p + 1, _, rfl, by lia, e1, by dsimp only at e2; lia, Sb.refl⟩⟩
        rw [if_neg hw]
        have hw' : isWs c = false := by simpa using hw
        walk_at "E.run"
        refine cmp_seqS (y := [34]) ?_
        walk_at "E.run"
        by_cases hq : c = 34
        · subst hq
          rw [if_pos (by decide)]
          rw [tk_q hc] at e1 e2
          dsimp only at e1 e2
          walk_at "E.run"
          refine x_for' ?_
          walk_at "E.run"
          refine it_cit (.inl rfl) (by walk_at "M.mem") ?_
          refine ⟨fun n σ' => ∃ p acc u, n = x.length - p ∧ pos ≤ p ∧ acc ++ (qd (x.drop p)).1 = T.1 ∧ p + (qd (x.drop p)).2 = pos + T.2 ∧ Sb (Gt L F it q (ln + nls x pos (p - pos)) x p (AO.cit q) acc u σ) σ', x.length - (p + 1), ⟨p + 1, [], _, rfl, by lia, e1, by lia, Sb.refl⟩, ?_⟩
          clear e1 e2 hc hlt sb hw hw' hp
          rintro n σ' ⟨p, acc, u, rfl, hp, e1, e2, sb⟩
          have hacc : acc.length ≤ 1000000 := Nat.le_trans (by rw [← e1, List.length_append]; lia) hlen
          refine nx_sb sb ?_
          refine nxrc_ hC hA' hr hx (fun c hc => ?_) (fun hc => ?_)
          · rw [nlsome p c hp hc]
            have hlt : p < x.length := (List.getElem?_eq_some_iff.mp hc).1
            walk_at "E.run"
            refine cmp_seqS (y := [34]) ?_
            walk_at "E.run"
            by_cases hq : c = 34
            · subst hq
              rw [if_pos (by decide)]
              rw [qd_q hc] at e1 e2
              dsimp only at e1 e2
              rw [List.append_nil] at e1
              subst e1
              have e3 : p + 1 - pos = T.2 := by lia
              have e4 : p + 1 = pos + T.2 := by lia
              rw [e3, e4]
              walk_at "E.run"
              exact ⟨_, by ((repeat (first | exact Sb.refl | exact Sb.nil | (apply Sb.take; focus ((repeat (first | exact Pick.head | apply Pick.tail)); done)) | apply Sb.skip))), h⟩
            rw [if_neg (by simpa using hq)]
            walk_at "E.run"
            refine cmp_seqS (y := [92]) ?_
            walk_at "E.run"
            by_cases hb : c = 92
            · subst hb
              rw [if_pos (by decide)]
              rw [qd_bs hc] at e1 e2
              dsimp only at e1 e2
              walk_at "E.run"
              refine m_fn hC (isI_inst (by walk_at "M.mem")) (by walk_at "M.mem") (by decide) (by kernel_rfl) (f := 133) (by kernel_rfl) (by kernel_rfl) ?_
              walk_at "E.run"
              refine (rc_ hC (hA'.le (by decide)) hr hx ?_).call
              rw [nlrc (p + 1) (by lia)]
              walk_at "E.run"
              have ht1 : ((x.drop (p + 1)).take 1).length ≤ 1 := by rw [List.length_take]; lia
              refine inp_catS (x := acc) (y := (x.drop (p + 1)).take 1) (by rw [sizeLine_eq]; lia) ?_
              walk_at "E.run"
              exact ⟨x.length - (p + 2), sl2 (by assumption), p + 2, acc ++ (x.drop (p + 1)).take 1, _, rfl, by lia, by rw [List.append_assoc]; exact e1, by lia, Sb.refl⟩
            · rw [if_neg (by simpa using hb)]
              rw [qd_c hc hb hq] at e1 e2
              dsimp only at e1 e2
              walk_at "E.run"
              refine inp_catS (x := acc) (y := [c]) (by rw [sizeLine_eq]; show acc.length + 1 ≤ _; lia) ?_
              walk_at "E.run"
              exact ⟨x.length - (p + 1), sl1 (by assumption), p + 1, acc ++ [c], _, rfl, by lia, by simpa using e1, by lia, Sb.refl⟩
          · rw [qd_none hc] at e1 e2
            dsimp only at e1 e2
            rw [List.append_nil] at e1
            subst e1
            have e3 : p + 1 - pos = T.2 := by lia
            have e4 : p + 1 = pos + T.2 := by lia
            rw [nlnone p hp hc, e3, e4]
            walk_at "E.run"
            exact ⟨0, by lia, .inr ⟨_, rfl, Sb.refl⟩⟩
        rw [if_neg (by simpa using hq)]
        walk_at "E.run"
        refine cmp_seqS (y := [92]) ?_
        walk_at "E.run"
        by_cases hb : c = 92
        · subst hb
          rw [if_pos (by decide)]
          rw [tk_bs hc] at e1 e2
          dsimp only at e1 e2
          walk_at "E.run"
          refine m_fn hC (isI_inst (by walk_at "M.mem")) (by walk_at "M.mem") (by decide) (by kernel_rfl) (f := 133) (by kernel_rfl) (by kernel_rfl) ?_
          walk_at "E.run"
          refine (rc_ hC (hA'.le (by decide)) hr hx ?_).call
          rw [nlrc (p + 1) (by lia)]
          walk_at "E.run"
          have ht1 : ((x.drop (p + 1)).take 1).length ≤ 1 := by rw [List.length_take]; lia
          refine inp_catS (x := []) (y := (x.drop (p + 1)).take 1) (by rw [sizeLine_eq]; simp; lia) ?_
          rw [List.nil_append]
          walk_at "E.run"
          refine x_for' ?_
          walk_at "E.run"
          refine it_cit (.inl rfl) (by walk_at "M.mem") ?_
          refine ⟨fun n σ' => ∃ p acc u, n = x.length - p ∧ pos ≤ p ∧ acc ++ (bd (x.drop p)).1 = T.1 ∧ p + (bd (x.drop p)).2 = pos + T.2 ∧ Sb (Gt L F it q (ln + nls x pos (p - pos)) x p (AO.cit q) acc u σ) σ', x.length - (p + 2), ⟨p + 2, (x.drop (p + 1)).take 1, _, rfl, by lia, e1, by lia, Sb.refl⟩, ?_⟩
          clear e1 e2 hc hlt sb hw hw' hp hq
          rintro n σ' ⟨p, acc, u, rfl, hp, e1, e2, sb⟩
          have hacc : acc.length ≤ 1000000 := Nat.le_trans (by rw [← e1, List.length_append]; lia) hlen
          refine nx_sb sb ?_
          refine nxrc_ hC hA' hr hx (fun c hc => ?_) (fun hc => ?_)
          · rw [nlsome p c hp hc]
            have hlt : p < x.length := (List.getElem?_eq_some_iff.mp hc).1
            walk_at "E.run"
            (((refine' a_own (by assumption) ?hix61 ?dx61 ?vx61 ?gx61 ?hhx61 ?hax61 ?nbx61 ?_); (case hix61 => exact isI_inst (by walk_at "M.mem")); (case dx61 => walk_at "M.mem"); (case vx61 => walk_at "M.at"); (case gx61 => kernel_rfl); (case hhx61 => kernel_rfl); (case hax61 => kernel_rfl); (case nbx61 => rfl)))
            walk_at "E.run"
            refine cmp_inW ?_
            walk_at "E.run"
            by_cases hw : isWs c = true
            · rw [if_pos hw]
              rw [bd_w hc hw] at e1 e2
              dsimp only at e1 e2
              rw [List.append_nil] at e1
              subst e1
              have e3 : p + 1 - pos = T.2 := by lia
              have e4 : p + 1 = pos + T.2 := by lia
              rw [e3, e4]
              walk_at "E.run"
              exact ⟨_, by ((repeat (first | exact Sb.refl | exact Sb.nil | (apply Sb.take; focus ((repeat (first | exact Pick.head | apply Pick.tail)); done)) | apply Sb.skip))), h⟩
            rw [if_neg hw]
            have hw' : isWs c = false := by simpa using hw
            walk_at "E.run"
            refine cmp_seqS (y := [92]) ?_
            walk_at "E.run"
            by_cases hb : c = 92
            · subst hb
              rw [if_pos (by decide)]
              rw [bd_bs hc] at e1 e2
              dsimp only at e1 e2
              walk_at "E.run"
              refine m_fn hC (isI_inst (by walk_at "M.mem")) (by walk_at "M.mem") (by decide) (by kernel_rfl) (f := 133) (by kernel_rfl) (by kernel_rfl) ?_
              walk_at "E.run"
              refine (rc_ hC (hA'.le (by decide)) hr hx ?_).call
              rw [nlrc (p + 1) (by lia)]
              walk_at "E.run"
              have ht1 : ((x.drop (p + 1)).take 1).length ≤ 1 := by rw [List.length_take]; lia
              refine inp_catS (x := acc) (y := (x.drop (p + 1)).take 1) (by rw [sizeLine_eq]; lia) ?_
              walk_at "E.run"
              exact ⟨x.length - (p + 2), sl2 (by assumption), p + 2, acc ++ (x.drop (p + 1)).take 1, _, rfl, by lia, by rw [List.append_assoc]; exact e1, by lia, Sb.refl⟩
            · rw [if_neg (by simpa using hb)]
              rw [bd_c hc hb hw'] at e1 e2
              dsimp only at e1 e2
              walk_at "E.run"
              refine inp_catS (x := acc) (y := [c]) (by rw [sizeLine_eq]; show acc.length + 1 ≤ _; lia) ?_
              walk_at "E.run"
              exact ⟨x.length - (p + 1), sl1 (by assumption), p + 1, acc ++ [c], _, rfl, by lia, by simpa using e1, by lia, Sb.refl⟩
          · rw [bd_none hc] at e1 e2
            dsimp only at e1 e2
            rw [List.append_nil] at e1
            subst e1
            have e3 : p + 1 - pos = T.2 := by lia
            have e4 : p + 1 = pos + T.2 := by lia
            rw [nlnone p hp hc, e3, e4]
            walk_at "E.run"
            exact ⟨0, by lia, .inr ⟨_, rfl, Sb.refl⟩⟩
        · rw [if_neg (by simpa using hb)]
          rw [tk_c hc hb hw' hq] at e1 e2
          dsimp only at e1 e2
          walk_at "E.run"
          refine inp_catS (x := []) (y := [c]) (by rw [sizeLine_eq]; simp) ?_
          rw [List.nil_append]
          walk_at "E.run"
          refine x_for' ?_
          walk_at "E.run"
          refine it_cit (.inl rfl) (by walk_at "M.mem") ?_
          refine ⟨fun n σ' => ∃ p acc u, n = x.length - p ∧ pos ≤ p ∧ acc ++ (bd (x.drop p)).1 = T.1 ∧ p + (bd (x.drop p)).2 = pos + T.2 ∧ Sb (Gt L F it q (ln + nls x pos (p - pos)) x p (AO.cit q) acc u σ) σ', x.length - (p + 1), ⟨p + 1, [c], _, rfl, by lia, e1, by lia, Sb.refl⟩, ?_⟩
          clear e1 e2 hc hlt sb hw hw' hp hq
          rintro n σ' ⟨p, acc, u, rfl, hp, e1, e2, sb⟩
          have hacc : acc.length ≤ 1000000 := Nat.le_trans (by rw [← e1, List.length_append]; lia) hlen
          refine nx_sb sb ?_
          refine nxrc_ hC hA' hr hx (fun c hc => ?_) (fun hc => ?_)
          · rw [nlsome p c hp hc]
            have hlt : p < x.length := (List.getElem?_eq_some_iff.mp hc).1
            walk_at "E.run"
            (((refine' a_own (by assumption) ?hix63 ?dx63 ?vx63 ?gx63 ?hhx63 ?hax63 ?nbx63 ?_); (case hix63 => exact isI_inst (by walk_at "M.mem")); (case dx63 => walk_at "M.mem"); (case vx63 => walk_at "M.at"); (case gx63 => kernel_rfl); (case hhx63 => kernel_rfl); (case hax63 => kernel_rfl); (case nbx63 => rfl)))
            walk_at "E.run"
            refine cmp_inW ?_
            walk_at "E.run"
            by_cases hw : isWs c = true
            · rw [if_pos hw]
              rw [bd_w hc hw] at e1 e2
              dsimp only at e1 e2
              rw [List.append_nil] at e1
              subst e1
              have e3 : p + 1 - pos = T.2 := by lia
              have e4 : p + 1 = pos + T.2 := by lia
              rw [e3, e4]
              walk_at "E.run"
              exact ⟨_, by ((repeat (first | exact Sb.refl | exact Sb.nil | (apply Sb.take; focus ((repeat (first | exact Pick.head | apply Pick.tail)); done)) | apply Sb.skip))), h⟩
            rw [if_neg hw]
            have hw' : isWs c = false := by simpa using hw
            walk_at "E.run"
            refine cmp_seqS (y := [92]) ?_
            walk_at "E.run"
            by_cases hb : c = 92
            · subst hb
              rw [if_pos (by decide)]
              rw [bd_bs hc] at e1 e2
              dsimp only at e1 e2
              walk_at "E.run"
              refine m_fn hC (isI_inst (by walk_at "M.mem")) (by walk_at "M.mem") (by decide) (by kernel_rfl) (f := 133) (by kernel_rfl) (by kernel_rfl) ?_
              walk_at "E.run"
              refine (rc_ hC (hA'.le (by decide)) hr hx ?_).call
              rw [nlrc (p + 1) (by lia)]
              walk_at "E.run"
              have ht1 : ((x.drop (p + 1)).take 1).length ≤ 1 := by rw [List.length_take]; lia
              refine inp_catS (x := acc) (y := (x.drop (p + 1)).take 1) (by rw [sizeLine_eq]; lia) ?_
              walk_at "E.run"
              exact ⟨x.length - (p + 2), sl2 (by assumption), p + 2, acc ++ (x.drop (p + 1)).take 1, _, rfl, by lia, by rw [List.append_assoc]; exact e1, by lia, Sb.refl⟩
            · rw [if_neg (by simpa using hb)]
              rw [bd_c hc hb hw'] at e1 e2
              dsimp only at e1 e2
              walk_at "E.run"
              refine inp_catS (x := acc) (y := [c]) (by rw [sizeLine_eq]; show acc.length + 1 ≤ _; lia) ?_
              walk_at "E.run"
              exact ⟨x.length - (p + 1), sl1 (by assumption), p + 1, acc ++ [c], _, rfl, by lia, by simpa using e1, by lia, Sb.refl⟩
          · rw [bd_none hc] at e1 e2
            dsimp only at e1 e2
            rw [List.append_nil] at e1
            subst e1
            have e3 : p + 1 - pos = T.2 := by lia
            have e4 : p + 1 = pos + T.2 := by lia
            rw [nlnone p hp hc, e3, e4]
            walk_at "E.run"
            exact ⟨0, by lia, .inr ⟨_, rfl, Sb.refl⟩⟩
      · rw [tk_none hc] at e1 e2
        rw [nlnone p hp hc]
        have e3 : p + 1 - pos = T.2 := by lia
        have e4 : p + 1 = pos + T.2 := by lia
        rw [e3, e4]
        walk_at "E.run"
        rw [show (S []) = S T.1 from congrArg S e1]
        exact ⟨_, by ((repeat (first | exact Sb.refl | exact Sb.nil | (apply Sb.take; focus ((repeat (first | exact Pick.head | apply Pick.tail)); done)) | apply Sb.skip))), h⟩
    · refine nx_sb sb ?_
      refine nx_cdone hA'.1 (by walk_at "M.mem") ?_
      walk_at "E.run"
      exact ⟨_, by ((repeat (first | exact Sb.refl | exact Sb.nil | (apply Sb.take; focus ((repeat (first | exact Pick.head | apply Pick.tail)); done)) | apply Sb.skip))), h⟩
theorem int2ap_ {C : Cx} {A : Around} {σ : Led} {Q : V → Led → Prop} (hC : C.Is (Mine.hd.heap_1 C.w.params)) (hA : Fit 3 A) (i : Int) (hi : i.natAbs < 16 ^ 100) (h : Q (.bytes (Bs (hw i.natAbs))) σ) : Call C A σ (.ref 112) [.int i] Q := by
  refine' call_defK (n := 2) (ks := ["num", "val", "AP", "mod"]) (vs := [some (.int i), none, none, none]) ?hC ?ho ?hcd ?hA ?nd ?hcell ?hbind ?h ?c1 ?c2 ?c3
  (((case hC => assumption); (case ho => k_is); (case hcd => k_is); (case nd => decide); (case hcell => decide); (case c1 => rfl); (case c2 => rfl); (case c3 => rfl); (case hA => assumption)))
  case hbind => ((intro s as hk r; (repeat (obtain ⟨_, _, e, _, r⟩ := r; subst e)); subst r; refine ⟨_, BindsTo.of_eq rfl, locs rfl, ?_⟩; (repeat (first | exact FrOk.nil | refine FrOk.some ?_ rfl (by assumption) | refine FrOk.none ?_))))
  case h =>
    intro L A' hA'
    walk_at "E.run"
    refine c_abs ?_
    walk_at "E.run"
    refine c_int ?_
    walk_at "E.run"
    refine x_while (fun n σ' => ∃ (j : Nat) (w : List Nat) (u : Option V), n = j ∧ j < 16 ^ 100 ∧ hw j ++ w = hw i.natAbs ∧ σ' = (L, AO.fr ["num", "val", "AP", "mod"] [some (.int (j : Int)), some (.bytes (Bs w)), some (.bytes apB), u]) :: σ) i.natAbs ⟨i.natAbs, [], none, rfl, hi, by simp, ?_⟩ ?_
    · rfl
    rintro n σ' ⟨j, w, u, rfl, hj, e, rfl⟩
    have hlen : (hw n ++ w).length ≤ 100 := by rw [e]; exact hw_len 100 _ hi
    rw [List.length_append] at hlen
    walk_at "E.run"
    by_cases h0 : n = 0
    · subst h0
      rw [if_neg (by decide)]
      rw [hw_zero, List.nil_append] at e
      subst e
      walk_at "E.run"
      exact ⟨_, by ((repeat (first | exact Sb.refl | exact Sb.nil | (apply Sb.take; focus ((repeat (first | exact Pick.head | apply Pick.tail)); done)) | apply Sb.skip))), h⟩
    · rw [if_pos (by simpa using h0)]
      walk_at "E.run"
      refine c_divmod (by decide) (by decide) ?_
      have e1 : ((n : Nat) : Int).fdiv 16 = ((n / 16 : Nat) : Int) := by rw [Int.fdiv_eq_ediv_of_nonneg _ (by decide)]; lia
      have e2 : ((n : Nat) : Int).fmod 16 = ((n % 16 : Nat) : Int) := by rw [Int.fmod_eq_emod_of_nonneg _ (by decide)]; lia
      rw [e1, e2]
      refine asg_tup hA'.1 ?_ (by simp) rfl rfl
      walk_at "E.run"
      refine ⟨_, _, .int, .int, fun a => ?_⟩
      walk_at "E.run"
      refine g_bytes_slice (by rw [sizeLine_eq]; decide) ?_
      have e3 := ap_pick ⟨n % 16, Nat.mod_lt _ (by decide)⟩
      dsimp only at e3
      rw [e3]
      walk_at "E.run"
      refine bin_bcat (by rw [Bs_size, Bs_size]; simp; lia) ?_
      rw [Bs_cat]
      walk_at "E.run"
      exact ⟨n / 16, by lia, n / 16, [65 + n % 16] ++ w, _, rfl, by lia, by rw [← e, hw_pos h0]; simp, rfl⟩
theorem text_ {C : Cx} {A : Around} {σ : Led} {Q : V → Led → Prop} (hC : C.Is (Mine.hd.heap_1 C.w.params)) (hA : Fit 4 A) {a : Addr} {ws : List (List Nat)} (m : Nat) (hm : m < 2 ^ 60) (hz : ws.length ≤ 100) (hw : ∀ w ∈ ws, w.length ≤ 100)
    (h : Q (.tup [.str (S (textT ws m)), .str (S (lastT (mOf m ws)))]) ((a, AO.list (strsV ws)) :: σ)) : Call C A ((a, AO.list (strsV ws)) :: σ) (.ref 180) [.ref a, .int (m : Nat)] Q := by
  refine' call_fn (n := 3) (ks := ["words", "white", "text", "word"]) (ps := ["words", "manner"]) (bxs := [.ref a, .int (m : Nat)]) (cn := ["last", "mark", "manner"]) rfl ?ho hA ?nd ?hcn rfl ?hbind ?h ?c1 ?c2
  case ho =>
    intro s H
    refine ⟨_, H.bg.kin _ _ (show C.K.lookup 180 = some _ from (by rw [hC.isK]; k_is)), rfl, ?_⟩
    refine codeRec_of (K := Mine.hd.heap_1 C.w.params) (hC.isK ▸ H.bg.kin) ?_
    k_is
  (((case nd => decide); (case hcn => rfl); (case c1 => rfl); (case c2 => rfl)))
  case hbind => ((intro s as hk r; refine ⟨as, ?_, r⟩; (repeat (obtain ⟨_, _, e, _, r⟩ := r; subst e)); (first | subst r | skip); exact BindsTo.of_eq rfl))
  case h =>
    intro A₁ L cs hcs
    obtain ⟨cL, cM, cN, rfl⟩ := cs_3 hcs
    ((simp only [celled, List.map_cons, List.map_nil, List.cons_append, List.nil_append]))
    show St _ _ _ (storeName _ _) _ _
    walk_at "E.run"
    show St _ _ _ (storeName _ _) _ _
    walk_at "E.run"
    intro A' hA'
    walk_at "E.run"
    refine x_for' ?_
    walk_at "E.run"
    refine it_list (by walk_at "M.mem") fun it => ?_
    have hB : (bodyT [10, 32, 13, 9] m ws).length ≤ 203 * 100 := Nat.le_trans (bodyT_len _ _ _ hw) (Nat.mul_le_mul_left _ hz)
    refine loop_it (l := strsV ws) (σ' := (a, AO.list (strsV ws)) :: (L, AO.fr ["words", "white", "text", "word"] [some (.ref a), some (.str (S [10, 32, 13, 9])), some (.str (S [])), none]) :: (cL, AO.cell none) :: (cM, AO.cell none) :: (cN, AO.cell (some (.int (m : Nat)))) :: σ) ?_ (iter_list (b := a) hA'.1)
      (fun k σ' => ∃ (wh t : List Nat) (mk : Nat) (u um : Option V), wh.length = 4 ∧ t ++ bodyT wh mk (ws.drop k) = bodyT [10, 32, 13, 9] m ws ∧ mOf mk (ws.drop k) = mOf m ws ∧ mk ≤ m ∧
        σ' = (a, AO.list (strsV ws)) :: (L, AO.fr ["words", "white", "text", "word"] [some (.ref a), some (.str (S wh)), some (.str (S t)), u]) :: (cL, AO.cell none) :: (cM, AO.cell um) :: (cN, AO.cell (some (.int (mk : Nat)))) :: σ)
      ⟨[10, 32, 13, 9], [], m, none, none, rfl, rfl, rfl, Nat.le_refl _, rfl⟩ ?_ ?_ ?_
    · ((repeat (first | exact Sb.refl | exact Sb.nil | (apply Sb.take; focus ((repeat (first | exact Pick.head | apply Pick.tail)); done)) | apply Sb.skip)))
    · rintro k σ' ⟨wh, t, mk, u, um, _, _, _, _, rfl⟩; exact List.Mem.head _
    · rintro k y σ' hy ⟨wh, t, mk, u, um, hwh, e1, e2, hmk, rfl⟩
      rw [List.getElem?_map] at hy
      obtain ⟨w, hk, rfl⟩ := Option.map_eq_some_iff.mp hy
      have ed : ws.drop k = w :: ws.drop (k + 1) := by
        obtain ⟨hp, e⟩ := List.getElem?_eq_some_iff.mp hk
        rw [List.drop_eq_getElem_cons hp, e]
      have hwl : w.length ≤ 100 := hw w (List.mem_of_getElem? hk)
      rw [ed] at e1 e2
      have ht : t.length ≤ 203 * 100 := Nat.le_trans (by rw [← e1, List.length_append]; lia) hB
      have ew0 : ∀ {i : Nat}, i < 4 → wh[i]? = some (wh.getD i 0) := fun {i} hi => by rw [List.getElem?_eq_getElem (by lia), List.getD_eq_getElem?_getD, List.getElem?_eq_getElem (by lia)]; rfl
      walk_at "E.run"
      rw [fm3 mk]
      by_cases h3 : mk % 3 = 0
      · rw [if_pos (by simp [h3]), if_pos rfl]
        have ep : piece wh mk w = [wh.getD 0 0] ++ [34] ++ w ++ [34] := by unfold piece; rw [if_pos (.inl h3)]
        walk_at "E.run"
        refine g_strS (n := 0) rfl (ew0 (by decide)) (by lia) ?_
        refine bin_catS (by rw [sizeLine_eq]; show _ + 1 ≤ _; lia) ?_
        walk_at "E.run"
        refine bin_catS (y := [34]) (by rw [sizeLine_eq]; simp; lia) ?_
        walk_at "E.run"
        refine bin_catS (by rw [sizeLine_eq]; simp; lia) ?_
        walk_at "E.run"
        refine bin_catS (y := [34]) (by rw [sizeLine_eq]; simp; lia) ?_
        walk_at "E.run"
        refine ⟨_, _, .int, .none, fun sl => ?_⟩
        walk_at "E.run"
        refine g_fromS (n := 1) rfl (by lia) (by lia) ?_
        walk_at "E.run"
        refine g_strS (n := 0) rfl (ew0 (by decide)) (by lia) ?_
        refine bin_catS (by rw [sizeLine_eq, List.length_drop]; show _ + 1 ≤ _; lia) ?_
        rw [← rot_eq (by lia)]
        walk_at "E.run"
        rw [fd3 mk]
        refine ⟨_, ?_, rot wh, t ++ piece wh mk w, mk / 3, some (.str (S w)), um, by rw [rot_len]; exact hwh, by rw [List.append_assoc]; exact e1, e2, by lia, rfl⟩
        rw [ep]
        simp only [← List.append_assoc]
        ((repeat (first | exact Sb.refl | exact Sb.nil | (apply Sb.take; focus ((repeat (first | exact Pick.head | apply Pick.tail)); done)) | apply Sb.skip)))
      · rw [if_neg (by simp; lia)]
        walk_at "E.run"
        refine cmp_seqS (y := []) ?_
        walk_at "E.run"
        by_cases hw0 : w = []
        · rw [if_pos (by simpa using hw0), if_pos rfl]
          have ep : piece wh mk w = [wh.getD 0 0] ++ [34] ++ w ++ [34] := by unfold piece; rw [if_pos (.inr hw0)]
          walk_at "E.run"
          refine g_strS (n := 0) rfl (ew0 (by decide)) (by lia) ?_
          refine bin_catS (by rw [sizeLine_eq]; show _ + 1 ≤ _; lia) ?_
          walk_at "E.run"
          refine bin_catS (y := [34]) (by rw [sizeLine_eq]; simp; lia) ?_
          walk_at "E.run"
          refine bin_catS (by rw [sizeLine_eq]; simp; lia) ?_
          walk_at "E.run"
          refine bin_catS (y := [34]) (by rw [sizeLine_eq]; simp; lia) ?_
          walk_at "E.run"
          refine ⟨_, _, .int, .none, fun sl => ?_⟩
          walk_at "E.run"
          refine g_fromS (n := 1) rfl (by lia) (by lia) ?_
          walk_at "E.run"
          refine g_strS (n := 0) rfl (ew0 (by decide)) (by lia) ?_
          refine bin_catS (by rw [sizeLine_eq, List.length_drop]; show _ + 1 ≤ _; lia) ?_
          rw [← rot_eq (by lia)]
          walk_at "E.run"
          rw [fd3 mk]
          refine ⟨_, ?_, rot wh, t ++ piece wh mk w, mk / 3, some (.str (S w)), um, by rw [rot_len]; exact hwh, by rw [List.append_assoc]; exact e1, e2, by lia, rfl⟩
          rw [ep]
          simp only [← List.append_assoc]
          ((repeat (first | exact Sb.refl | exact Sb.nil | (apply Sb.take; focus ((repeat (first | exact Pick.head | apply Pick.tail)); done)) | apply Sb.skip)))
        · rw [if_neg (by simpa using hw0)]
          walk_at "E.run"
          rw [if_neg (by decide)]
          have ep : piece wh mk w = [wh.getD 0 0] ++ (w.map fun c => reps (mk % 3 - 1) [92] ++ [c]).flatten ++ [wh.getD 3 0] := by unfold piece; rw [if_neg (by simp [h3, hw0])]
          walk_at "E.run"
          rw [fm3 mk]
          refine bin_smul (a := [92]) (by lia) (by lia) (by decide) ?_
          rw [erm (mk % 3)]
          have hrl : (reps (mk % 3 - 1) [92]).length ≤ 1 := by rw [reps_len]; simp; lia
          walk_at "E.run"
          refine g_strS (n := 0) rfl (ew0 (by decide)) (by lia) ?_
          refine bin_catS (by rw [sizeLine_eq]; show _ + 1 ≤ _; lia) ?_
          walk_at "E.run"
          refine m_join ?_
          walk_at "E.run"
          refine' e_lc (ks := ["letter"]) (cn := []) ?nd ?hcn ?hclos ?hk ?hn ?_ ?ht ?hs
          (((case nd => decide); (case hcn => rfl); (case hclos => rfl); (case hk => rfl); (case hn => decide); (case ht => intro _ _; rfl); (case hs => intro _; rfl)))
          walk_at "E.run"
          refine it_str fun ci => ?_
          intro D LC cs hcs
          cases cs_0 hcs
          ((simp only [celled, List.map_cons, List.map_nil, List.cons_append, List.nil_append]))
          have hcl : (chars (S w)).length = w.length := by simp [chars]
          refine' cloop_map (τ := (it, AO.lit a (k + 1)) :: (a, AO.list (strsV ws)) :: (L, AO.fr ["words", "white", "text", "word"] [some (.ref a), some (.str (S wh)), some (.str (S t)), some (.str (S w))]) :: (cL, AO.cell none) :: (cM, AO.cell (some (.str (S (reps (mk % 3 - 1) [92]))))) :: (cN, AO.cell (some (.int (mk : Nat)))) :: σ)
            (fun i => V.str (S (reps (mk % 3 - 1) [92] ++ [w.getD i 0]))) ?sbc (iter_str hA'.1) (fun _ _ => trivial) (by rw [hcl, sizeLine_eq]; lia) rfl rfl ?_ ?_
          case sbc => ((repeat (first | exact Sb.refl | exact Sb.nil | (apply Sb.take; focus ((repeat (first | exact Pick.head | apply Pick.tail)); done)) | apply Sb.skip)))
          · intro i y acc hy ha
            unfold chars at hy
            rw [S_cps, List.getElem?_map] at hy
            obtain ⟨c, hc, rfl⟩ := Option.map_eq_some_iff.mp hy
            walk_at "E.run"
            refine bin_catS (y := [c]) (by rw [sizeLine_eq]; show _ + 1 ≤ _; lia) ?_
            refine ⟨by rw [List.getD_eq_getElem?_getD, hc]; rfl, ?_⟩
            ((repeat (first | exact Sb.refl | exact Sb.nil | (apply Sb.take; focus ((repeat (first | exact Pick.head | apply Pick.tail)); done)) | apply Sb.skip)))
          intro uc
          refine ⟨[uc], (D, AO.list (strsV (w.map fun c => reps (mk % 3 - 1) [92] ++ [c]))) :: (it, AO.lit a (k + 1)) :: (a, AO.list (strsV ws)) :: (L, AO.fr ["words", "white", "text", "word"] [some (.ref a), some (.str (S wh)), some (.str (S t)), some (.str (S w))]) :: (cL, AO.cell none) :: (cM, AO.cell (some (.str (S (reps (mk % 3 - 1) [92]))))) :: (cN, AO.cell (some (.int (mk : Nat)))) :: σ, ?_, ?_⟩
          · rw [hcl, show (List.range w.length).map (fun i => V.str (S (reps (mk % 3 - 1) [92] ++ [w.getD i 0]))) = strsV (w.map fun c => reps (mk % 3 - 1) [92] ++ [c]) from by
              rw [strsV, List.map_map]; exact map_range_get w _ _ fun i c hc => by rw [List.getD_eq_getElem?_getD, hc]; rfl]
            ((repeat (first | exact Sb.refl | exact Sb.nil | (apply Sb.take; focus ((repeat (first | exact Pick.head | apply Pick.tail)); done)) | apply Sb.skip)))
          have hfl : ((w.map fun c => reps (mk % 3 - 1) [92] ++ [c]).flatten).length ≤ 2 * 100 + 1 := by
            have := piece_len wh mk w
            rw [ep] at this
            simp only [List.length_append, List.length_cons, List.length_nil] at this
            lia
          walk_at "E.run"
          refine c_joinS (by walk_at "M.mem") (by lia) ?_
          refine bin_catS (by rw [sizeLine_eq, List.length_append]; show t.length + 1 + _ ≤ _; lia) ?_
          walk_at "E.run"
          refine g_strS (n := 3) rfl (ew0 (by decide)) (by lia) ?_
          refine bin_catS (by rw [sizeLine_eq, List.length_append, List.length_append]; show t.length + 1 + _ + 1 ≤ _; lia) ?_
          walk_at "E.run"
          refine ⟨_, _, .int, .none, fun sl => ?_⟩
          walk_at "E.run"
          refine g_fromS (n := 1) rfl (by lia) (by lia) ?_
          walk_at "E.run"
          refine g_strS (n := 0) rfl (ew0 (by decide)) (by lia) ?_
          refine bin_catS (by rw [sizeLine_eq, List.length_drop]; show _ + 1 ≤ _; lia) ?_
          rw [← rot_eq (by lia)]
          walk_at "E.run"
          rw [fd3 mk]
          refine ⟨_, ?_, rot wh, t ++ piece wh mk w, mk / 3, some (.str (S w)), some (.str (S (reps (mk % 3 - 1) [92]))), by rw [rot_len]; exact hwh, by rw [List.append_assoc]; exact e1, e2, by lia, rfl⟩
          rw [ep]
          simp only [← List.append_assoc]
          ((repeat (first | exact Sb.refl | exact Sb.nil | (apply Sb.take; focus ((repeat (first | exact Pick.head | apply Pick.tail)); done)) | apply Sb.skip)))
    · rintro σ' ⟨wh, t, mk, u, um, hwh, e1, e2, hmk, rfl⟩
      rw [strsV_len, List.drop_length] at e1 e2
      have e2' : mk = mOf m ws := e2
      have e1' : t = bodyT [10, 32, 13, 9] m ws := by rw [← e1]; show _ = _ ++ []; rw [List.append_nil]
      subst e2'
      have hmk' : mOf m ws < 2 ^ 60 := by lia
      walk_at "E.run"
      refine m_join ?_
      walk_at "E.run"
      refine' e_lc (ks := ["k"]) (cn := []) ?nd ?hcn ?hclos ?hk ?hn ?_ ?ht ?hs
      (((case nd => decide); (case hcn => rfl); (case hclos => rfl); (case hk => rfl); (case hn => decide); (case ht => intro _ _; rfl); (case hs => intro _; rfl)))
      walk_at "E.run"
      refine c_range1 fun rg => ?_
      refine it_range (by walk_at "M.mem") (by decide) (by decide) (by decide) (by decide) fun it2 => ?_
      intro D LC cs hcs
      cases cs_0 hcs
      ((simp only [celled, List.map_cons, List.map_nil, List.cons_append, List.nil_append]))
      refine' cloop_rmap (τ := (a, AO.list (strsV ws)) :: (L, AO.fr ["words", "white", "text", "word"] [some (.ref a), some (.str (S wh)), some (.str (S t)), u]) :: (cL, AO.cell none) :: (cM, AO.cell um) :: (cN, AO.cell (some (.int (mOf m ws : Nat)))) :: σ) (n := 3)
        (fun i => V.str (S [tabT.getD (mOf m ws / 8 ^ i % 8) 0])) rfl hA'.1 ?sbc (by decide) rfl rfl ?_ ?_
      case sbc => ((repeat (first | exact Sb.refl | exact Sb.nil | (apply Sb.take; focus ((repeat (first | exact Pick.head | apply Pick.tail)); done)) | apply Sb.skip)))
      · intro k acc X hk ha
        walk_at "E.run"
        refine bin_pow (by lia) (pow8b hk) ?_
        walk_at "E.run"
        refine bin_fdiv ?_ (pow8n hk) (pow8l hk)
        walk_at "E.run"
        rw [dig8]
        refine g_strS (n := mOf m ws / 8 ^ k % 8) (x := tabT) rfl (tab_get _) (by decide) ?_
        refine ⟨rfl, ?_⟩
        ((repeat (first | exact Sb.refl | exact Sb.nil | (apply Sb.take; focus ((repeat (first | exact Pick.head | apply Pick.tail)); done)) | apply Sb.skip)))
      intro uc
      refine ⟨[uc], (D, AO.list (strsV ((lastT (mOf m ws)).map fun c => [c]))) :: (a, AO.list (strsV ws)) :: (L, AO.fr ["words", "white", "text", "word"] [some (.ref a), some (.str (S wh)), some (.str (S t)), u]) :: (cL, AO.cell none) :: (cM, AO.cell um) :: (cN, AO.cell (some (.int (mOf m ws : Nat)))) :: σ, ?_, ?_⟩
      · rw [last_join]; ((repeat (first | exact Sb.refl | exact Sb.nil | (apply Sb.take; focus ((repeat (first | exact Pick.head | apply Pick.tail)); done)) | apply Sb.skip)))
      walk_at "E.run"
      refine c_joinS (by walk_at "M.mem") (by rw [single_flat, lastT_len]; decide) ?_
      rw [single_flat]
      walk_at "E.run"
      have htl : t.length ≤ 203 * 100 := by rw [e1']; exact hB
      have hl3 := lastT_len (mOf m ws)
      refine bin_catS (y := [34]) (by rw [sizeLine_eq]; show _ + 1 ≤ _; lia) ?_
      walk_at "E.run"
      refine m_join ?_
      walk_at "E.run"
      refine' e_lc (ks := ["sign"]) (cn := []) ?nd ?hcn ?hclos ?hk ?hn ?_ ?ht ?hs
      (((case nd => decide); (case hcn => rfl); (case hclos => rfl); (case hk => rfl); (case hn => decide); (case ht => intro _ _; rfl); (case hs => intro _; rfl)))
      walk_at "E.run"
      refine it_str fun ci => ?_
      intro D2 LC2 cs2 hcs2
      cases cs_0 hcs2
      ((simp only [celled, List.map_cons, List.map_nil, List.cons_append, List.nil_append]))
      have hcl : (chars (S (lastT (mOf m ws)))).length = 3 := by rw [← hl3]; simp [chars]
      refine' cloop_map (τ := (D, AO.list (strsV ((lastT (mOf m ws)).map fun c => [c]))) :: (a, AO.list (strsV ws)) :: (L, AO.fr ["words", "white", "text", "word"] [some (.ref a), some (.str (S wh)), some (.str (S t)), u]) :: (cL, AO.cell (some (.str (S (lastT (mOf m ws)))))) :: (cM, AO.cell um) :: (cN, AO.cell (some (.int (mOf m ws : Nat)))) :: σ)
        (fun i => V.str (S (esc1 ((lastT (mOf m ws)).getD i 0)))) ?sbc (iter_str hA'.1) (fun _ _ => trivial) (by rw [hcl]; decide) rfl rfl ?_ ?_
      case sbc => ((repeat (first | exact Sb.refl | exact Sb.nil | (apply Sb.take; focus ((repeat (first | exact Pick.head | apply Pick.tail)); done)) | apply Sb.skip)))
      · intro i y acc hy ha
        unfold chars at hy
        rw [S_cps, List.getElem?_map] at hy
        obtain ⟨c, hc, rfl⟩ := Option.map_eq_some_iff.mp hy
        have hgd : (lastT (mOf m ws)).getD i 0 = c := by rw [List.getD_eq_getElem?_getD, hc]; rfl
        rw [hgd]
        walk_at "E.run"
        refine cmp_in1 (x := [34, 92]) ?_
        walk_at "E.run"
        by_cases h2 : c ∈ [34, 92]
        · rw [if_pos (by simpa using h2)]
          walk_at "E.run"
          refine bin_catS (x := [92]) (y := [c]) (by rw [sizeLine_eq]; show 1 + 1 ≤ _; lia) ?_
          refine ⟨by unfold esc1; rw [if_pos h2]; rfl, ?_⟩
          ((repeat (first | exact Sb.refl | exact Sb.nil | (apply Sb.take; focus ((repeat (first | exact Pick.head | apply Pick.tail)); done)) | apply Sb.skip)))
        · rw [if_neg (by simpa using h2)]
          walk_at "E.run"
          refine ⟨by unfold esc1; rw [if_neg h2]; rfl, ?_⟩
          ((repeat (first | exact Sb.refl | exact Sb.nil | (apply Sb.take; focus ((repeat (first | exact Pick.head | apply Pick.tail)); done)) | apply Sb.skip)))
      intro uc2
      refine ⟨[uc2], (D2, AO.list (strsV ((lastT (mOf m ws)).map esc1))) :: (a, AO.list (strsV ws)) :: (L, AO.fr ["words", "white", "text", "word"] [some (.ref a), some (.str (S wh)), some (.str (S t)), u]) :: (cL, AO.cell (some (.str (S (lastT (mOf m ws)))))) :: (cM, AO.cell um) :: (cN, AO.cell (some (.int (mOf m ws : Nat)))) :: σ, ?_, ?_⟩
      · rw [hcl, show (List.range 3).map (fun i => V.str (S (esc1 ((lastT (mOf m ws)).getD i 0)))) = strsV ((lastT (mOf m ws)).map esc1) from by
          rw [strsV, List.map_map, ← hl3]; exact map_range_get (lastT (mOf m ws)) _ _ fun i c hc => by rw [List.getD_eq_getElem?_getD, hc]; rfl]
        ((repeat (first | exact Sb.refl | exact Sb.nil | (apply Sb.take; focus ((repeat (first | exact Pick.head | apply Pick.tail)); done)) | apply Sb.skip)))
      have he1 := esc1_len (lastT (mOf m ws))
      rw [hl3] at he1
      walk_at "E.run"
      refine c_joinS (by walk_at "M.mem") (by lia) ?_
      refine bin_catS (by rw [sizeLine_eq, List.length_append]; show t.length + 1 + _ ≤ _; lia) ?_
      walk_at "E.run"
      refine bin_catS (y := [34]) (by rw [sizeLine_eq, List.length_append, List.length_append]; show t.length + 1 + _ + 1 ≤ _; lia) ?_
      walk_at "E.run"
      refine m_join ?_
      walk_at "E.run"
      refine' e_lc (ks := ["k"]) (cn := []) ?nd ?hcn ?hclos ?hk ?hn ?_ ?ht ?hs
      (((case nd => decide); (case hcn => rfl); (case hclos => rfl); (case hk => rfl); (case hn => decide); (case ht => intro _ _; rfl); (case hs => intro _; rfl)))
      walk_at "E.run"
      refine c_range1 fun rg2 => ?_
      refine it_range (by walk_at "M.mem") (by decide) (by decide) (by decide) (by decide) fun it3 => ?_
      intro D3 LC3 cs3 hcs3
      cases cs_0 hcs3
      ((simp only [celled, List.map_cons, List.map_nil, List.cons_append, List.nil_append]))
      refine' cloop_rmap (τ := (a, AO.list (strsV ws)) :: (L, AO.fr ["words", "white", "text", "word"] [some (.ref a), some (.str (S wh)), some (.str (S (t ++ [34] ++ ((lastT (mOf m ws)).map esc1).flatten ++ [34]))), u]) :: (cL, AO.cell (some (.str (S (lastT (mOf m ws)))))) :: (cM, AO.cell um) :: (cN, AO.cell (some (.int (mOf m ws : Nat)))) :: σ) (n := 3)
        (fun i => V.str (S (esc2 (lastT (mOf m ws)) i))) rfl hA'.1 ?sbc (by decide) rfl rfl ?_ ?_
      case sbc => ((repeat (first | exact Sb.refl | exact Sb.nil | (apply Sb.take; focus ((repeat (first | exact Pick.head | apply Pick.tail)); done)) | apply Sb.skip)))
      · intro k acc X hk ha
        walk_at "E.run"
        have hgk := lastT_get (mOf m ws) k hk
        have e0 : (0 : Int) + (k : Nat) = (k : Nat) := by lia
        rw [e0]
        by_cases k0 : k = 0
        · subst k0
          rw [if_pos (by decide)]
          rw [if_pos rfl]
          walk_at "E.run"
          refine g_strS (n := 0) (by rfl) hgk (by rw [hl3]; decide) ?_
          refine bin_catS (x := [92]) (by rw [sizeLine_eq]; show 1 + 1 ≤ _; lia) ?_
          refine ⟨by unfold esc2; rw [if_pos (.inl rfl)]; rfl, ?_⟩
          ((repeat (first | exact Sb.refl | exact Sb.nil | (apply Sb.take; focus ((repeat (first | exact Pick.head | apply Pick.tail)); done)) | apply Sb.skip)))
        · rw [if_neg (by simp; lia)]
          walk_at "E.run"
          refine g_strS (n := k) (by lia) hgk (by rw [hl3]; decide) ?_
          walk_at "E.run"
          refine cmp_in1 (x := [92, 32, 10, 9, 13]) ?_
          walk_at "E.run"
          by_cases h2 : (lastT (mOf m ws)).getD k 0 ∈ [92, 32, 10, 9, 13]
          · rw [if_pos (by simpa using h2)]
            rw [if_pos rfl]
            walk_at "E.run"
            refine g_strS (n := k) (by lia) hgk (by rw [hl3]; decide) ?_
            refine bin_catS (x := [92]) (by rw [sizeLine_eq]; show 1 + 1 ≤ _; lia) ?_
            refine ⟨by unfold esc2; rw [if_pos (.inr h2)]; rfl, ?_⟩
            ((repeat (first | exact Sb.refl | exact Sb.nil | (apply Sb.take; focus ((repeat (first | exact Pick.head | apply Pick.tail)); done)) | apply Sb.skip)))
          · rw [if_neg (by simpa using h2)]
            walk_at "E.run"
            rw [if_neg (by decide)]
            walk_at "E.run"
            refine g_strS (n := k) (by lia) hgk (by rw [hl3]; decide) ?_
            refine ⟨by unfold esc2; rw [if_neg (fun h => h.elim k0 h2)], ?_⟩
            ((repeat (first | exact Sb.refl | exact Sb.nil | (apply Sb.take; focus ((repeat (first | exact Pick.head | apply Pick.tail)); done)) | apply Sb.skip)))
      intro uc3
      refine ⟨[uc3], (D3, AO.list (strsV ((List.range 3).map (esc2 (lastT (mOf m ws)))))) :: (a, AO.list (strsV ws)) :: (L, AO.fr ["words", "white", "text", "word"] [some (.ref a), some (.str (S wh)), some (.str (S (t ++ [34] ++ ((lastT (mOf m ws)).map esc1).flatten ++ [34]))), u]) :: (cL, AO.cell (some (.str (S (lastT (mOf m ws)))))) :: (cM, AO.cell um) :: (cN, AO.cell (some (.int (mOf m ws : Nat)))) :: σ, ?_, ?_⟩
      · rw [show (List.range 3).map (fun i => V.str (S (esc2 (lastT (mOf m ws)) i))) = strsV ((List.range 3).map (esc2 (lastT (mOf m ws)))) from by rw [strsV, List.map_map]; rfl]
        ((repeat (first | exact Sb.refl | exact Sb.nil | (apply Sb.take; focus ((repeat (first | exact Pick.head | apply Pick.tail)); done)) | apply Sb.skip)))
      have he2 := esc2_len (lastT (mOf m ws)) 3
      walk_at "E.run"
      refine c_joinS (by walk_at "M.mem") (by lia) ?_
      refine bin_catS (by rw [sizeLine_eq]; simp only [List.length_append, List.length_cons, List.length_nil]; lia) ?_
      walk_at "E.run"
      refine ⟨by rw [sizeLine_eq]; show 2 ≤ _; lia, ?_⟩
      have et : t ++ [34] ++ ((lastT (mOf m ws)).map esc1).flatten ++ [34] ++ ((List.range 3).map (esc2 (lastT (mOf m ws)))).flatten = textT ws m := by
        rw [e1']; unfold textT; simp only [List.append_assoc]
      rw [et]
      exact ⟨_, by ((repeat (first | exact Sb.refl | exact Sb.nil | (apply Sb.take; focus ((repeat (first | exact Pick.head | apply Pick.tail)); done)) | apply Sb.skip))), h⟩
theorem octets_get {l : List Nat} {i : Nat} {y : V} (h : (octets (Bs l))[i]? = some y) : ∃ c, l[i]? = some c ∧ y = .int ((c % 256 : Nat) : Int) := by
  unfold octets Bs at h
  rw [List.map_map, List.getElem?_map] at h
  obtain ⟨c, hc, rfl⟩ := Option.map_eq_some_iff.mp h
  refine ⟨c, hc, ?_⟩
  simp
theorem octets_len (l : List Nat) : (octets (Bs l)).length = l.length := by simp [octets, Bs]
theorem accpopf_ {C : Cx} {A : Around} {σ σ' : Led} {Q : V → Led → Prop} (hC : C.Is (Mine.hd.heap_1 C.w.params)) (hA : Fit 1 A) {x d : Addr} {items : List V} (i : Nat) (hi : i ≤ 1000000) (hz : items.length ≤ 1000000)
    (U : LU x (AO.seq (.ref 101) (some d) items) (AO.seq (.ref 101) (some d) (items.take (clipAt items.length i))) σ σ') (h : ∀ r, Q (.ref r) ((r, AO.list (cut items (some (i : Int)) none)) :: σ')) : Call C A σ (.ref 53) [.ref x, .int (i : Nat)] Q := by
  refine' call_defK (n := 0) (ks := ["self", "i", "popped"]) (vs := [some (.ref x), some (.int (i : Nat)), none]) ?hC ?ho ?hcd ?hA ?nd ?hcell ?hbind ?h ?c1 ?c2 ?c3
  (((case hC => assumption); (case ho => k_is); (case hcd => k_is); (case nd => decide); (case hcell => decide); (case c1 => rfl); (case c2 => rfl); (case c3 => rfl); (case hA => assumption)))
  case hbind =>
    intro s as hk r
    simp only [VRs] at r
    obtain ⟨v1, w1, e1, r1, v2, w2, e2, r2, e3⟩ := r
    subst e3; subst e2; subst e1
    refine ⟨_, BindsTo.of_defaults rfl (hk _ _ (show (Mine.hd.heap_1 C.w.params).lookup 46 = some _ from by k_is)) rfl rfl rfl, locs rfl, ?_⟩
    exact FrOk.some (FrOk.some (FrOk.none FrOk.nil) rfl r2) rfl r1
  case h =>
    intro L A' hA'
    have hz' : items.length ≤ sizeLine := Nat.le_trans hz (by rw [sizeLine_eq]; decide)
    refine xs_cons ?_
    refine x_name ?_
    refine e_subX hC ?_
    walk_at "E.run"
    refine ⟨_, _, .int, .none, fun sl => ?_⟩
    refine ⟨⟨x, _, _, _, rfl, .tail _ (.tail _ U.mem), by first | k_is | kernel_rfl⟩, ?_⟩
    refine g_seq_slice hC (.tail _ U.mem) (by first | k_is | kernel_rfl) (by first | k_is | kernel_rfl) (by first | k_is | kernel_rfl) hz' fun r => ?_
    walk_at "E.run"
    refine ⟨by rw [sizeLine_eq]; decide, fun b => ?_⟩
    walk_at "E.run"
    refine ⟨_, _, .int, .none, fun sl => ?_⟩
    refine s_seq_nil hC (b := b) (List.Mem.head _) (by first | k_is | kernel_rfl) (by first | k_is | kernel_rfl) (by first | k_is | kernel_rfl) hz' (.tail (.tail (.tail U))) ?_
    walk_at "E.run"
    exact ⟨_, by ((repeat (first | exact Sb.refl | exact Sb.nil | (apply Sb.take; focus ((repeat (first | exact Pick.head | apply Pick.tail)); done)) | apply Sb.skip))), h r⟩
theorem clip00 (n : Nat) : clipAt n 0 = 0 := by rw [show (0 : Int) = ((0 : Nat) : Int) from rfl, clipAt_nat]; simp
theorem cut_all (l : List V) : cut l (some 0) none = l := by simp [cut, clip00]
theorem take_clip0 (l : List V) : l.take ((some (0 : Int)).elim 0 (clipAt l.length)) = [] := by simp [clip00]
theorem accpopf0_ {C : Cx} {A : Around} {σ σ' : Led} {Q : V → Led → Prop} (hC : C.Is (Mine.hd.heap_1 C.w.params)) (hA : Fit 1 A) {x d : Addr} {items : List V} (hz : items.length ≤ 1000000)
    (U : LU x (AO.seq (.ref 101) (some d) items) (AO.seq (.ref 101) (some d) []) σ σ') (h : ∀ r, Q (.ref r) ((r, AO.list (items)) :: σ')) : Call C A σ (.ref 53) [.ref x] Q := by
  refine' call_defK (n := 0) (ks := ["self", "i", "popped"]) (vs := [some (.ref x), some (.int 0), none]) ?hC ?ho ?hcd ?hA ?nd ?hcell ?hbind ?h ?c1 ?c2 ?c3
  (((case hC => assumption); (case ho => k_is); (case hcd => k_is); (case nd => decide); (case hcell => decide); (case c1 => rfl); (case c2 => rfl); (case c3 => rfl); (case hA => assumption)))
  case hbind =>
    intro s as hk r
    simp only [VRs] at r
    obtain ⟨v1, w1, e1, r1, e3⟩ := r
    subst e3; subst e1
    refine ⟨_, BindsTo.of_defaults rfl (hk _ _ (show (Mine.hd.heap_1 C.w.params).lookup 46 = some _ from by k_is)) rfl rfl rfl, locs rfl, ?_⟩
    exact FrOk.some (FrOk.some (FrOk.none FrOk.nil) rfl ⟨_, rfl⟩) rfl r1
  case h =>
    intro L A' hA'
    have hz' : items.length ≤ sizeLine := Nat.le_trans hz (by rw [sizeLine_eq]; decide)
    refine xs_cons ?_
    refine x_name ?_
    refine e_subX hC ?_
    walk_at "E.run"
    refine ⟨_, _, .int, .none, fun sl => ?_⟩
    refine ⟨⟨x, _, _, _, rfl, .tail _ (.tail _ U.mem), by first | k_is | kernel_rfl⟩, ?_⟩
    refine g_seq_slice hC (.tail _ U.mem) (by first | k_is | kernel_rfl) (by first | k_is | kernel_rfl) (by first | k_is | kernel_rfl) hz' fun r => ?_
    rw [cut_all]
    walk_at "E.run"
    refine ⟨by rw [sizeLine_eq]; decide, fun b => ?_⟩
    walk_at "E.run"
    refine ⟨_, _, .int, .none, fun sl => ?_⟩
    refine s_seq_nil hC (b := b) (List.Mem.head _) (by first | k_is | kernel_rfl) (by first | k_is | kernel_rfl) (by first | k_is | kernel_rfl) hz' (.tail (.tail (.tail (by rw [take_clip0]; exact U)))) ?_
    walk_at "E.run"
    exact ⟨_, by ((repeat (first | exact Sb.refl | exact Sb.nil | (apply Sb.take; focus ((repeat (first | exact Pick.head | apply Pick.tail)); done)) | apply Sb.skip))), h r⟩
theorem chars_list (w : List Nat) : (List.range w.length).map (fun i => V.str (S [w.getD i 0])) = strsV (w.map fun c => [c]) := by
  rw [strsV, List.map_map]
  exact map_range_get w _ _ fun i c hc => by simp [List.getD_eq_getElem?_getD, hc]
theorem m1bits (k : Nat) : Builtin.Int.intBits ((-1) ^ k) ≤ 64 := intBits_le_iff.mpr (by rw [Int.natAbs_pow]; simp)
theorem pow1b' {k : Nat} (h : k < 100) : Builtin.Int.intBits (-1) * ((k : Nat) : Int) ≤ 2 ^ 27 := by
  rw [show Builtin.Int.intBits (-1) = 1 by decide]; lia
theorem pow2b {k : Nat} (h : k < 100) : Builtin.Int.intBits 2 * ((k : Nat) : Int) ≤ 2 ^ 27 := by
  rw [show Builtin.Int.intBits 2 = 2 by decide]; lia
theorem cast2 (k : Nat) : (2 : Int) ^ k = ((2 ^ k : Nat) : Int) := by simp
theorem abs_alt' (n k : Nat) : ((n : Int) * (-1) ^ k).natAbs = n := by
  rw [Int.natAbs_mul, Int.natAbs_pow]; simp
theorem strsV_at {l : List (List Nat)} {k : Nat} {y : V} (h : (strsV l)[k]? = some y) : ∃ w, l[k]? = some w ∧ y = .str (S w) := by
  rw [strsV, List.getElem?_map] at h
  obtain ⟨w, hw, rfl⟩ := Option.map_eq_some_iff.mp h
  exact ⟨w, hw, rfl⟩
theorem take_at {α : Type} {l : List α} {k : Nat} {w : α} (h : l[k]? = some w) : l.take (k + 1) = l.take k ++ [w] := by
  rw [List.take_add_one, h]; rfl
theorem letters_ {C : Cx} {A : Around} {σ : Led} {Q : V → Led → Prop} (hC : C.Is (Mine.hd.heap_1 C.w.params)) (hA : Fit 6 A) (n : Int) (hn : n.natAbs < 16 ^ 100) (h : Q (.str (S (hw n.natAbs))) σ) : Call C A σ (.ref 192) [.int n] Q := by
  refine' call_defK (n := 5) (ks := ["number"]) (vs := [some (.int n)]) ?hC ?ho ?hcd ?hA ?nd ?hcell ?hbind ?h ?c1 ?c2 ?c3
  (((case hC => assumption); (case ho => k_is); (case hcd => k_is); (case nd => decide); (case hcell => decide); (case c1 => rfl); (case c2 => rfl); (case c3 => rfl); (case hA => assumption)))
  case hbind => ((intro s as hk r; (repeat (obtain ⟨_, _, e, _, r⟩ := r; subst e)); subst r; refine ⟨_, BindsTo.of_eq rfl, locs rfl, ?_⟩; (repeat (first | exact FrOk.nil | refine FrOk.some ?_ rfl (by assumption) | refine FrOk.none ?_))))
  case h =>
    intro L A' hA'
    walk_at "E.run"
    refine m_join ?_
    walk_at "E.run"
    refine' e_lc (ks := ["octet"]) (cn := []) ?nd ?hcn ?hclos ?hk ?hn ?_ ?ht ?hs
    (((case nd => decide); (case hcn => rfl); (case hclos => rfl); (case hk => rfl); (case hn => decide); (case ht => intro _ _; rfl); (case hs => intro _; rfl)))
    walk_at "E.run"
    refine int2ap_ hC (hA'.le (by decide)) _ hn ?_
    have hwl := hw_len 100 _ hn
    refine it_bytes fun bi => ?_
    intro D LC cs hcs
    cases cs_0 hcs
    ((simp only [celled, List.map_cons, List.map_nil, List.cons_append, List.nil_append]))
    refine' cloop_map (l := octets (Bs (hw n.natAbs))) (τ := (L, AO.fr ["number"] [some (.int n)]) :: σ)
      (fun i => V.str (S [(hw n.natAbs).getD i 0])) ?sbc (iter_bytes hA'.1) (fun _ _ => trivial) (by rw [octets_len, sizeLine_eq]; lia) rfl rfl ?_ ?_
    case sbc => ((repeat (first | exact Sb.refl | exact Sb.nil | (apply Sb.take; focus ((repeat (first | exact Pick.head | apply Pick.tail)); done)) | apply Sb.skip)))
    · intro i y acc hy ha
      obtain ⟨c, hc, rfl⟩ := octets_get hy
      have hc2 := hw_mem 100 _ hn c (List.mem_of_getElem? hc)
      rw [Nat.mod_eq_of_lt (by lia)]
      walk_at "E.run"
      refine c_chr (by lia) (by lia) ?_
      refine ⟨by rw [List.getD_eq_getElem?_getD, hc, Int.toNat_natCast]; rfl, ?_⟩
      ((repeat (first | exact Sb.refl | exact Sb.nil | (apply Sb.take; focus ((repeat (first | exact Pick.head | apply Pick.tail)); done)) | apply Sb.skip)))
    intro uc
    refine ⟨[uc], (D, AO.list (strsV ((hw n.natAbs).map fun c => [c]))) :: (L, AO.fr ["number"] [some (.int n)]) :: σ, ?_, ?_⟩
    · rw [octets_len, chars_list]
      ((repeat (first | exact Sb.refl | exact Sb.nil | (apply Sb.take; focus ((repeat (first | exact Pick.head | apply Pick.tail)); done)) | apply Sb.skip)))
    walk_at "E.run"
    refine c_joinS (by walk_at "M.mem") (by rw [single_flat]; lia) ?_
    rw [single_flat]
    exact ⟨_, by ((repeat (first | exact Sb.refl | exact Sb.nil | (apply Sb.take; focus ((repeat (first | exact Pick.head | apply Pick.tail)); done)) | apply Sb.skip))), h⟩
noncomputable abbrev LineS (L : LxA) (F cL : Addr) (n : Nat) (u1 u2 u3 u4 : Option V) (σ : Led) : Led :=
  (F, AO.fr ["count", "turn", "words", "number", "word"] [some (.int (n : Nat)), u1, u2, u3, u4]) :: (cL, AO.cell (some (.ref L.lx))) :: σ
theorem line_ {C : Cx} {A : Around} {σ : Led} {Q : V → Led → Prop} (hC : C.Is (Mine.hd.heap_1 C.w.params)) (hA : Fit 14 A)
    {L : LxA} (hr : RL Mine.hd.heap_1 L.fdR L.cR L.cA L.cT) (LN : Nat → Int) {x : List Nat} (hx : x.length ≤ 1000000) (n : Nat) (hn : n ≤ 6) (b : Nat → Nat) (hb : ∀ i, b i < 2 ^ 40) (P : Nat → Nat) (h0 : ∀ r, r < n → (tk (x.drop (P r))).1 = hw (b r) ∧ P r + (tk (x.drop (P r))).2 = P (r + 1))
    (hl : ∀ r, r < n → LN r + nls x (P r) (tk (x.drop (P r))).2 = LN (r + 1))
    (h : ∀ a, Q (.ref a) ((a, AO.list (strsV (rowF (fun k => hw (sumN b n k)) (2 ^ n)))) :: Lx 150 L (LN n) [] x (P n) σ)) :
    Call C A (Lx 150 L (LN 0) [] x (P 0) σ) (.ref 197) [.ref L.lx, .int (n : Nat)] Q := by
  have hs : ∀ t k, sumN b t k < 16 ^ 100 := fun t k => Nat.lt_of_lt_of_le (sumN_lt b 40 hb t k) (by decide)
  have hbb : ∀ k, b k < 16 ^ 100 := fun k => Nat.lt_of_lt_of_le (hb k) (by decide)
  have h2 : ∀ t, t ≤ n → 2 ^ t ≤ 64 := fun t ht => Nat.le_trans (Nat.pow_le_pow_right (by decide) (show t ≤ 6 by lia)) (by decide)
  refine' call_fn (n := 13) (ks := ["count", "turn", "words", "number", "word"]) (ps := ["lexer", "count"]) (bxs := [.ref L.lx, .int (n : Nat)]) (cn := ["lexer"]) rfl ?ho hA ?nd ?hcn rfl ?hbind ?h ?c1 ?c2
  case ho =>
    intro s H
    refine ⟨_, H.bg.kin _ _ (show C.K.lookup 197 = some _ from (by rw [hC.isK]; k_is)), rfl, ?_⟩
    refine codeRec_of (K := Mine.hd.heap_1 C.w.params) (hC.isK ▸ H.bg.kin) ?_
    k_is
  (((case nd => decide); (case hcn => rfl); (case c1 => rfl); (case c2 => rfl)))
  case hbind => ((intro s as hk r; refine ⟨as, ?_, r⟩; (repeat (obtain ⟨_, _, e, _, r⟩ := r; subst e)); (first | subst r | skip); exact BindsTo.of_eq rfl))
  case h =>
    intro A₁ F cs hcs
    obtain ⟨cL, rfl⟩ := cs_1 hcs
    ((simp only [celled, List.map_cons, List.map_nil, List.cons_append, List.nil_append]))
    show St _ _ _ (storeName _ _) _ _
    walk_at "E.run"
    show St _ _ _ (storeName _ _) _ _
    walk_at "E.run"
    intro A' hA'
    walk_at "E.run"
    (refine m_fn (by assumption) (isI_inst (by walk_at "M.mem")) (by walk_at "M.mem") (by decide) (by kernel_rfl) (f := 147) (by kernel_rfl) (by kernel_rfl) ?_)
    walk_at "E.run"
    refine letters_ hC (hA'.le (by decide)) _ (by decide) ?_
    rw [show (0 : Int).natAbs = 0 from rfl]
    walk_at "E.run"
    refine Call.sb (σ' := Lx 150 L (LN 0) ([]) x (P 0) (LineS L F cL n none none none none σ)) (by ((repeat (first | exact Sb.refl | exact Sb.nil | (apply Sb.take; focus ((repeat (first | exact Pick.head | apply Pick.tail)); done)) | apply Sb.skip)))) (push_ hC (hA'.le (by decide)) (by simp) ?_)
    rw [List.nil_append]
    walk_at "E.run"
    refine x_for' ?_
    walk_at "E.run"
    refine c_range1 fun r1 => ?_
    refine it_range (by walk_at "M.mem") (by decide) (by decide) (by lia) (by lia) fun r2 => ?_
    rw [er0 n]
    refine' loop_rangeX (n := n) (σ' := Lx 150 L (LN 0) ([hw 0]) x (P 0) (LineS L F cL n none none none none σ)) ?sb rfl hA'.1
      (fun t σ' => ∃ u1 u2 u3 u4, σ' = Lx 150 L (LN t) (rowF (fun k => hw (sumN b t k)) (2 ^ t)) x (P t) (LineS L F cL n u1 u2 u3 u4 σ)) ?z0 ?_ ?_
    case sb => ((repeat (first | exact Sb.refl | exact Sb.nil | (apply Sb.take; focus ((repeat (first | exact Pick.head | apply Pick.tail)); done)) | apply Sb.skip)))
    case z0 => exact ⟨none, none, none, none, rfl⟩
    · rintro t X σ' ht ⟨u1, u2, u3, u4, rfl⟩
      have h2t := h2 t (by lia)
      walk_at "E.run"
      refine' x_lc (ks := ["k"]) (cn := []) ?nd ?hcn ?hclos ?hk ?hn ?_ ?ht ?hs ?hsw
      (((case nd => decide); (case hcn => rfl); (case hclos => rfl); (case hk => rfl); (case hn => decide); (case ht => intro _ _; rfl); (case hs => intro _; rfl)))
      case hsw => rfl
      walk_at "E.run"
      refine bin_pow (by lia) (pow2b (by lia)) ?_
      rw [Int.toNat_natCast, cast2]
      walk_at "E.run"
      refine c_range1 fun r3 => ?_
      refine it_range (by walk_at "M.mem") (by decide) (by decide) (by lia) (by lia) fun r4 => ?_
      rw [er0 (2 ^ t)]
      intro D1 L1 cs1 hcs1
      cases cs_0 hcs1
      ((simp only [celled, List.map_cons, List.map_nil, List.cons_append, List.nil_append]))
      refine' cloop_rangeJ (n := 2 ^ t) (σ' := (L1, AO.fr ["k"] [none]) :: Lx 150 L (LN t) (rowF (fun k => hw (sumN b t k)) (2 ^ t)) x (P t) ((r2, X) :: LineS L F cL n (some (.int (t : Nat))) u2 u3 u4 σ)) rfl hA'.1 ?sb1 (by rw [sizeLine_eq]; lia)
        (fun i acc σ' => ∃ u, acc = strsV (rowF (fun k => hw (sumN b t k)) i) ∧ σ' = (L1, AO.fr ["k"] [u]) :: Lx 150 L (LN t) ((rowF (fun k => hw (sumN b t k)) (2 ^ t)).drop i) x (P t) ((r2, X) :: LineS L F cL n (some (.int (t : Nat))) u2 u3 u4 σ)) ⟨none, rfl, rfl⟩ ?_ ?_
      case sb1 => ((repeat (first | exact Sb.refl | exact Sb.nil | (apply Sb.take; focus ((repeat (first | exact Pick.head | apply Pick.tail)); done)) | apply Sb.skip)))
      · rintro i Y acc σ' hi hacc ⟨u, rfl, rfl⟩
        rw [rowF_drop (fun k => hw (sumN b t k)) hi]
        walk_at "E.run"
        (refine m_fn (by assumption) (isI_inst (by walk_at "M.mem")) (by walk_at "M.mem") (by decide) (by kernel_rfl) (f := 140) (by kernel_rfl) (by kernel_rfl) ?_)
        walk_at "E.run"
        refine Call.sb (σ' := Lx 150 L (LN t) (hw (sumN b t i) :: (rowF (fun k => hw (sumN b t k)) (2 ^ t)).drop (i + 1)) x (P t) ((r4, Y) :: (D1, AO.list (strsV (rowF (fun k => hw (sumN b t k)) i))) :: (L1, AO.fr ["k"] [some (.int ((i : Nat) : Int))]) :: (r2, X) :: LineS L F cL n (some (.int (t : Nat))) u2 u3 u4 σ)) (by ((repeat (first | exact Sb.refl | exact Sb.nil | (apply Sb.take; focus ((repeat (first | exact Pick.head | apply Pick.tail)); done)) | apply Sb.skip)))) (getp_ hC (hA'.le (by decide)) (by rw [List.length_drop, rowF_len]; lia) ?_)
        refine ⟨_, ?_, some (.int ((i : Nat) : Int)), by rw [rowF_succ]; simp [strsV], rfl⟩
        ((repeat (first | exact Sb.refl | exact Sb.nil | (apply Sb.take; focus ((repeat (first | exact Pick.head | apply Pick.tail)); done)) | apply Sb.skip)))
      rintro acc σ' ⟨u, rfl, rfl⟩
      rw [rowF_dropall]
      walk_at "E.run"
      refine ⟨[u], (D1, AO.list (strsV (rowF (fun k => hw (sumN b t k)) (2 ^ t)))) :: Lx 150 L (LN t) ([]) x (P t) ((r2, X) :: LineS L F cL n (some (.int (t : Nat))) (some (.ref D1)) u3 u4 σ), by ((repeat (first | exact Sb.refl | exact Sb.nil | (apply Sb.take; focus ((repeat (first | exact Pick.head | apply Pick.tail)); done)) | apply Sb.skip))), ?_⟩
      walk_at "E.run"
      (refine m_fn (by assumption) (isI_inst (by walk_at "M.mem")) (by walk_at "M.mem") (by decide) (by kernel_rfl) (f := 140) (by kernel_rfl) (by kernel_rfl) ?_)
      walk_at "E.run"
      refine Call.sb (σ' := Lx 150 L (LN t) ([]) x (P t) ((D1, AO.list (strsV (rowF (fun k => hw (sumN b t k)) (2 ^ t)))) :: (r2, X) :: LineS L F cL n (some (.int (t : Nat))) (some (.ref D1)) u3 u4 σ)) (by ((repeat (first | exact Sb.refl | exact Sb.nil | (apply Sb.take; focus ((repeat (first | exact Pick.head | apply Pick.tail)); done)) | apply Sb.skip)))) (get_ hC (hA'.le (by decide)) hr hx ?_)
      rw [hl t ht, (h0 t ht).2, (h0 t ht).1]
      walk_at "E.run"
      refine worth_ hC (hA'.le (by decide)) _ ?_
      rw [wv_hw 100 _ (hbb t)]
      walk_at "E.run"
      refine x_for' ?_
      walk_at "E.run"
      refine it_list (by walk_at "M.mem") fun it2 => ?_
      refine loop_it (σ' := Lx 150 L (LN (t + 1)) ([]) x (P (t + 1)) ((D1, AO.list (strsV (rowF (fun k => hw (sumN b t k)) (2 ^ t)))) :: (r2, X) :: LineS L F cL n (some (.int (t : Nat))) (some (.ref D1)) (some (.int (b t : Nat))) u4 σ)) (by ((repeat (first | exact Sb.refl | exact Sb.nil | (apply Sb.take; focus ((repeat (first | exact Pick.head | apply Pick.tail)); done)) | apply Sb.skip)))) (iter_list (l := strsV (rowF (fun k => hw (sumN b t k)) (2 ^ t))) hA'.1)
        (fun k σ' => ∃ u4, σ' = Lx 150 L (LN (t + 1)) ((rowF (fun k => hw (sumN b t k)) (2 ^ t)).take k) x (P (t + 1)) ((D1, AO.list (strsV (rowF (fun k => hw (sumN b t k)) (2 ^ t)))) :: (r2, X) :: LineS L F cL n (some (.int (t : Nat))) (some (.ref D1)) (some (.int (b t : Nat))) u4 σ)) ⟨u4, rfl⟩ (by rintro _ _ ⟨_, rfl⟩; walk_at "M.mem") ?_ ?_
      · rintro k y σ' hy ⟨u4, rfl⟩
        obtain ⟨cl, hcl, rfl⟩ := strsV_at hy
        walk_at "E.run"
        (refine m_fn (by assumption) (isI_inst (by walk_at "M.mem")) (by walk_at "M.mem") (by decide) (by kernel_rfl) (f := 147) (by kernel_rfl) (by kernel_rfl) ?_)
        walk_at "E.run"
        refine Call.sb (σ' := Lx 150 L (LN (t + 1)) ((rowF (fun k => hw (sumN b t k)) (2 ^ t)).take k) x (P (t + 1)) ((it2, AO.lit D1 (k + 1)) :: (D1, AO.list (strsV (rowF (fun k => hw (sumN b t k)) (2 ^ t)))) :: (r2, X) :: LineS L F cL n (some (.int (t : Nat))) (some (.ref D1)) (some (.int (b t : Nat))) (some (.str (S cl))) σ)) (by ((repeat (first | exact Sb.refl | exact Sb.nil | (apply Sb.take; focus ((repeat (first | exact Pick.head | apply Pick.tail)); done)) | apply Sb.skip)))) (push_ hC (hA'.le (by decide)) (by rw [List.length_take, rowF_len]; lia) ?_)
        rw [← take_at hcl]
        walk_at "E.run"
        exact ⟨_, by ((repeat (first | exact Sb.refl | exact Sb.nil | (apply Sb.take; focus ((repeat (first | exact Pick.head | apply Pick.tail)); done)) | apply Sb.skip))), some (.str (S cl)), rfl⟩
      rintro σ' ⟨u4, rfl⟩
      rw [strsV_len, rowF_len, List.take_of_length_le (Nat.le_of_eq (rowF_len _ _))]
      walk_at "E.run"
      refine x_for' ?_
      walk_at "E.run"
      refine it_list (by walk_at "M.mem") fun it3 => ?_
      refine loop_it (σ' := Lx 150 L (LN (t + 1)) (rowF (fun k => hw (sumN b t k)) (2 ^ t)) x (P (t + 1)) ((D1, AO.list (strsV (rowF (fun k => hw (sumN b t k)) (2 ^ t)))) :: (r2, X) :: LineS L F cL n (some (.int (t : Nat))) (some (.ref D1)) (some (.int (b t : Nat))) u4 σ)) (by ((repeat (first | exact Sb.refl | exact Sb.nil | (apply Sb.take; focus ((repeat (first | exact Pick.head | apply Pick.tail)); done)) | apply Sb.skip)))) (iter_list (l := strsV (rowF (fun k => hw (sumN b t k)) (2 ^ t))) hA'.1)
        (fun k σ' => ∃ u4, σ' = Lx 150 L (LN (t + 1)) (rowF (fun k => hw (sumN b t k)) (2 ^ t) ++ rowF (fun k => hw (sumN b t k ^^^ b t)) k) x (P (t + 1)) ((D1, AO.list (strsV (rowF (fun k => hw (sumN b t k)) (2 ^ t)))) :: (r2, X) :: LineS L F cL n (some (.int (t : Nat))) (some (.ref D1)) (some (.int (b t : Nat))) u4 σ)) ⟨u4, by simp [rowF]⟩ (by rintro _ _ ⟨_, rfl⟩; walk_at "M.mem") ?_ ?_
      · rintro k y σ' hy ⟨u4, rfl⟩
        have hk : k < 2 ^ t := by have := (List.getElem?_eq_some_iff.mp hy).1; rw [strsV_len, rowF_len] at this; exact this
        obtain ⟨cl, hcl, rfl⟩ := strsV_at hy
        rw [rowF_at _ hk] at hcl
        cases hcl
        walk_at "E.run"
        (refine m_fn (by assumption) (isI_inst (by walk_at "M.mem")) (by walk_at "M.mem") (by decide) (by kernel_rfl) (f := 147) (by kernel_rfl) (by kernel_rfl) ?_)
        walk_at "E.run"
        refine worth_ hC (hA'.le (by decide)) _ ?_
        rw [wv_hw 100 _ (hs t k)]
        walk_at "E.run"
        refine bin_xor ?_
        walk_at "E.run"
        refine bin_pow (by lia) (pow1b' (by lia)) ?_
        rw [Int.toNat_natCast]
        refine bin_mul ?_ (IntMulOk.of_right (m1bits t))
        have hxb : sumN b t k ^^^ b t < 16 ^ 100 := Nat.lt_of_lt_of_le (Nat.xor_lt_two_pow (sumN_lt b 40 hb t k) (hb t)) (by decide)
        walk_at "E.run"
        refine letters_ hC (hA'.le (by decide)) _ (by rw [abs_alt']; exact hxb) ?_
        rw [abs_alt']
        walk_at "E.run"
        refine Call.sb (σ' := Lx 150 L (LN (t + 1)) (rowF (fun k => hw (sumN b t k)) (2 ^ t) ++ rowF (fun k => hw (sumN b t k ^^^ b t)) k) x (P (t + 1)) ((it3, AO.lit D1 (k + 1)) :: (D1, AO.list (strsV (rowF (fun k => hw (sumN b t k)) (2 ^ t)))) :: (r2, X) :: LineS L F cL n (some (.int (t : Nat))) (some (.ref D1)) (some (.int (b t : Nat))) (some (.str (S (hw (sumN b t k))))) σ)) (by ((repeat (first | exact Sb.refl | exact Sb.nil | (apply Sb.take; focus ((repeat (first | exact Pick.head | apply Pick.tail)); done)) | apply Sb.skip)))) (push_ hC (hA'.le (by decide)) (by rw [List.length_append, rowF_len, rowF_len]; lia) ?_)
        rw [List.append_assoc, ← rowF_succ (fun k => hw (sumN b t k ^^^ b t))]
        walk_at "E.run"
        exact ⟨_, by ((repeat (first | exact Sb.refl | exact Sb.nil | (apply Sb.take; focus ((repeat (first | exact Pick.head | apply Pick.tail)); done)) | apply Sb.skip))), some (.str (S (hw (sumN b t k)))), rfl⟩
      rintro σ' ⟨u4, rfl⟩
      rw [strsV_len, rowF_len]
      walk_at "E.run"
      refine ⟨_, ?_, some (.int (t : Nat)), some (.ref D1), some (.int (b t : Nat)), u4, rfl⟩
      have ecat : rowF (fun k => hw (sumN b t k)) (2 ^ t) ++ rowF (fun k => hw (sumN b t k ^^^ b t)) (2 ^ t) = rowF (fun k => hw (sumN b (t + 1) k)) (2 ^ (t + 1)) := by
        rw [show 2 ^ (t + 1) = 2 ^ t + 2 ^ t by rw [Nat.pow_succ]; lia, rowF_add]
        congr 1
        · exact List.map_congr_left fun k hk => by rw [sumN, dbl, if_pos (List.mem_range.mp hk)]
        · exact List.map_congr_left fun k hk => by rw [sumN, dbl, if_neg (by lia), Nat.add_sub_cancel_left]
      rw [← ecat]
      ((repeat (first | exact Sb.refl | exact Sb.nil | (apply Sb.take; focus ((repeat (first | exact Pick.head | apply Pick.tail)); done)) | apply Sb.skip)))
    rintro σ' ⟨u1, u2, u3, u4, rfl⟩
    have h2t := h2 n (Nat.le_refl n)
    walk_at "E.run"
    refine' e_lc (ks := ["k"]) (cn := []) ?nd ?hcn ?hclos ?hk ?hn ?_ ?ht ?hs
    (((case nd => decide); (case hcn => rfl); (case hclos => rfl); (case hk => rfl); (case hn => decide); (case ht => intro _ _; rfl); (case hs => intro _; rfl)))
    walk_at "E.run"
    refine bin_pow (by lia) (pow2b (by lia)) ?_
    rw [Int.toNat_natCast, cast2]
    walk_at "E.run"
    refine c_range1 fun r5 => ?_
    refine it_range (by walk_at "M.mem") (by decide) (by decide) (by lia) (by lia) fun r6 => ?_
    rw [er0 (2 ^ n)]
    intro D2 L2 cs2 hcs2
    cases cs_0 hcs2
    ((simp only [celled, List.map_cons, List.map_nil, List.cons_append, List.nil_append]))
    refine' cloop_rangeJ (n := 2 ^ n) (σ' := (L2, AO.fr ["k"] [none]) :: Lx 150 L (LN n) (rowF (fun k => hw (sumN b n k)) (2 ^ n)) x (P n) (LineS L F cL n u1 u2 u3 u4 σ)) rfl hA'.1 ?sb2 (by rw [sizeLine_eq]; lia)
      (fun i acc σ' => ∃ u, acc = strsV (rowF (fun k => hw (sumN b n k)) i) ∧ σ' = (L2, AO.fr ["k"] [u]) :: Lx 150 L (LN n) ((rowF (fun k => hw (sumN b n k)) (2 ^ n)).drop i) x (P n) (LineS L F cL n u1 u2 u3 u4 σ)) ⟨none, rfl, rfl⟩ ?_ ?_
    case sb2 => ((repeat (first | exact Sb.refl | exact Sb.nil | (apply Sb.take; focus ((repeat (first | exact Pick.head | apply Pick.tail)); done)) | apply Sb.skip)))
    · rintro i Y acc σ' hi hacc ⟨u, rfl, rfl⟩
      rw [rowF_drop (fun k => hw (sumN b n k)) hi]
      walk_at "E.run"
      (refine m_fn (by assumption) (isI_inst (by walk_at "M.mem")) (by walk_at "M.mem") (by decide) (by kernel_rfl) (f := 140) (by kernel_rfl) (by kernel_rfl) ?_)
      walk_at "E.run"
      refine Call.sb (σ' := Lx 150 L (LN n) (hw (sumN b n i) :: (rowF (fun k => hw (sumN b n k)) (2 ^ n)).drop (i + 1)) x (P n) ((r6, Y) :: (D2, AO.list (strsV (rowF (fun k => hw (sumN b n k)) i))) :: (L2, AO.fr ["k"] [some (.int ((i : Nat) : Int))]) :: LineS L F cL n u1 u2 u3 u4 σ)) (by ((repeat (first | exact Sb.refl | exact Sb.nil | (apply Sb.take; focus ((repeat (first | exact Pick.head | apply Pick.tail)); done)) | apply Sb.skip)))) (getp_ hC (hA'.le (by decide)) (by rw [List.length_drop, rowF_len]; lia) ?_)
      refine ⟨_, ?_, some (.int ((i : Nat) : Int)), by rw [rowF_succ]; simp [strsV], rfl⟩
      ((repeat (first | exact Sb.refl | exact Sb.nil | (apply Sb.take; focus ((repeat (first | exact Pick.head | apply Pick.tail)); done)) | apply Sb.skip)))
    rintro acc σ' ⟨u, rfl, rfl⟩
    rw [rowF_dropall]
    refine ⟨[u], (D2, AO.list (strsV (rowF (fun k => hw (sumN b n k)) (2 ^ n)))) :: Lx 150 L (LN n) ([]) x (P n) (LineS L F cL n u1 u2 u3 u4 σ), by ((repeat (first | exact Sb.refl | exact Sb.nil | (apply Sb.take; focus ((repeat (first | exact Pick.head | apply Pick.tail)); done)) | apply Sb.skip))), ?_⟩
    exact ⟨_, by ((repeat (first | exact Sb.refl | exact Sb.nil | (apply Sb.take; focus ((repeat (first | exact Pick.head | apply Pick.tail)); done)) | apply Sb.skip))), h D2⟩
theorem hw_inj {n m : Nat} (hn : n < 16 ^ 100) (hm : m < 16 ^ 100) (e : hw n = hw m) : n = m := by
  have h1 := wv_hw 100 n hn
  have h2 := wv_hw 100 m hm
  rw [e] at h1; lia
noncomputable def prF (Sf : Nat → Nat) (j : Nat) : List Nat × List Nat := (ws3 (Sf j), hw (Sf j))
noncomputable def idxF (M : Nat → Nat) (k p : Nat) : List Nat := (List.range k).filter fun j => M j == p
noncomputable def itsF (Sf M : Nat → Nat) (k p : Nat) : List (List Nat × List Nat) := (idxF M k p).map (prF Sf)
theorem itsF_succ (Sf M : Nat → Nat) (k p : Nat) : itsF Sf M (k + 1) p = if p = M k then itsF Sf M k p ++ [prF Sf k] else itsF Sf M k p := by
  unfold itsF idxF
  rw [List.range_succ, List.filter_append, List.map_append]
  by_cases h : p = M k
  · rw [if_pos h]; simp [h]
  · rw [if_neg h]
    have : (M k == p) = false := by rw [beq_eq_false_iff_ne]; exact fun q => h q.symm
    simp [this]
theorem idxF_mem {M : Nat → Nat} {k p j : Nat} : j ∈ idxF M k p ↔ j < k ∧ M j = p := by simp [idxF]
theorem idxF_len (M : Nat → Nat) (k p : Nat) : (idxF M k p).length ≤ k := Nat.le_trans (List.length_filter_le _ _) (by simp)
theorem itsF_none (Sf M : Nat → Nat) (k p : Nat) (h : ∀ j, j < k → M j < p) : itsF Sf M k p = [] := by
  rw [itsF, show idxF M k p = [] from List.filter_eq_nil_iff.mpr fun j hj => by have := h j (List.mem_range.mp hj); simp; lia]; rfl
noncomputable def npF (M : Nat → Nat) : Nat → Nat
  | 0 => 0
  | k + 1 => max (npF M k) (M k + 1)
theorem npF_lt (M : Nat → Nat) : ∀ k j, j < k → M j < npF M k
  | 0, j, h => absurd h (Nat.not_lt_zero _)
  | k + 1, j, h => by
    rw [npF]
    by_cases e : j = k
    · subst e; lia
    · have := npF_lt M k j (by lia); lia
theorem npF_le {lo : Nat → Bool} {n : Nat} {Sf M : Nat → Nat} (H : Code lo n Sf M) : ∀ k, k ≤ n → npF M k ≤ k ∧ ∀ j, j < n → k ≤ j → M j ≤ npF M k ∨ ∃ i, i < j ∧ k ≤ i
  | 0, _ => ⟨Nat.le_refl _, fun j hj _ => by
    by_cases e : j = 0
    · subst e
      left
      rcases Nat.eq_zero_or_pos (M 0) with q | q
      · rw [q]; exact Nat.zero_le _
      · obtain ⟨i, hi, _⟩ := H.low 0 0 hj q; lia
    · exact .inr ⟨0, by lia, Nat.le_refl _⟩⟩
  | k + 1, hk => by
    have ih := npF_le H k (by lia)
    have hMk : M k ≤ npF M k := by
      rcases Nat.eq_zero_or_pos (M k) with q | q
      · rw [q]; exact Nat.zero_le _
      · obtain ⟨i, hi, e, _⟩ := H.low k (M k - 1) hk (by lia)
        have := npF_lt M k i hi; lia
    refine ⟨by rw [npF]; lia, fun j hj hkj => ?_⟩
    by_cases e : j = k + 1
    · subst e
      left
      rcases Nat.eq_zero_or_pos (M (k + 1)) with q | q
      · rw [q]; exact Nat.zero_le _
      · obtain ⟨i, hi, e, _⟩ := H.low (k + 1) (M (k + 1) - 1) hj (by lia)
        have := npF_lt M (k + 1) i hi; lia
    · exact .inr ⟨k + 1, by lia, Nat.le_refl _⟩
theorem npF_M {lo : Nat → Bool} {n : Nat} {Sf M : Nat → Nat} (H : Code lo n Sf M) (k : Nat) (hk : k < n) : M k ≤ npF M k := by
  rcases (npF_le H k (Nat.le_of_lt hk)).2 k hk (Nat.le_refl _) with h | ⟨i, h1, h2⟩
  · exact h
  · lia
noncomputable def lo (ls : List Nat) (n : Nat) : Bool := !((List.range ls.length).filter fun i => decide (ls.getD i 0 ∈ hw n)).isEmpty
theorem slice3 (v : Nat) : Txt.slice (S [32, 9]) none (some (((v : Nat) : Int).fmod 3)) = S (ws3 v) := by
  rw [show ((v : Nat) : Int).fmod 3 = ((v % 3 : Nat) : Int) by rw [Int.fmod_eq_emod_of_nonneg _ (by decide)]; rfl, ws3]
  have h : v % 3 < 3 := Nat.mod_lt _ (by decide)
  generalize v % 3 = m at *
  revert h; revert m; decide
theorem refs_get {pa : Nat → Addr} {i n : Nat} (h : i < n) : ((List.range n).map fun p => V.ref (pa p))[i]? = some (.ref (pa i)) := by simp [h]
theorem g_refs {C : Cx} {A : Around} {σ : Led} {Q : V → Led → Prop} {a : Addr} {pa : Nat → Addr} {i n : Nat} {j : Int} (hj : j = (i : Nat)) (hm : (a, AO.list ((List.range n).map fun p => V.ref (pa p))) ∈ σ) (hi : i < n) (hz : n ≤ 1000000) (h : Q (.ref (pa i)) σ) : Op2 C VR A σ getItem (.ref a) (.int j) Q := by
  subst hj
  exact g_list hm (by lia) (by lia) (by rw [Int.toNat_natCast]; exact refs_get hi) h
noncomputable abbrev PilS (F wa la : Addr) (z : Nat) (piles at_ word loud worth : Option V) (cWd cLo cWo cLe : Addr) (σ : Led) : Led :=
  (F, AO.fr ["words", "size", "piles", "at"] [some (.ref wa), some (.int (z : Nat)), piles, at_]) :: (cWd, AO.cell word) :: (cLo, AO.cell loud) :: (cWo, AO.cell worth) :: (cLe, AO.cell (some (.ref la))) :: σ
theorem piles_ {C : Cx} {A : Around} {σ : Led} {Q : V → Led → Prop} (hC : C.Is (Mine.hd.heap_1 C.w.params)) (hM : C.Main (Str.ofString "/claim/cut.py")) (hA : Fit 14 A) {wa la : Addr} (n : Nat) (hn : n ≤ 64) (Sf M : Nat → Nat) (hS : ∀ k, Sf k < 2 ^ 40) (ls : List Nat) (hls : ls.length ≤ 100) (H : Code (lo ls) n Sf M) (z : Nat) (hz : z ≤ 1000)
    (hwa : (wa, AO.list (strsV (rowF (fun k => hw (Sf k)) n))) ∈ σ) (hla : (la, AO.list (strsV (ls.map fun c => [c]))) ∈ σ)
    (h : ∀ pl pa da, Q (.ref pl) ((pl, AO.list ((List.range (npF M n)).map fun p => V.ref (pa p))) :: (PL 101 z pa da (itsF Sf M n) (npF M n) ++ σ))) :
    Call C A σ (.ref 202) [.ref wa, .ref la, .int (z : Nat)] Q := by
  have hSb : ∀ k, Sf k < 16 ^ 100 := fun k => Nat.lt_of_lt_of_le (hS k) (by decide)
  have hW : ∀ k, (hw (Sf k)).length ≤ 100 := fun k => hw_len 100 _ (hSb k)
  have hW1 : ∀ i j, i < n → j < n → S (hw (Sf i)) = S (hw (Sf j)) → V.int (Sf i : Nat) = V.int (Sf j : Nat) := fun i j _ _ e => by rw [hw_inj (hSb i) (hSb j) (S_inj e)]
  have hL1 : ∀ i j, i < n → j < n → ((Sf i : Nat) : Int) = ((Sf j : Nat) : Int) → V.bool (lo ls (Sf i)) = V.bool (lo ls (Sf j)) := fun i j _ _ e => by rw [Int.natCast_inj.mp e]
  have gW := fun i (hi : i < n) => fd_at (fun k => S (hw (Sf k))) (fun k => V.int (Sf k : Nat)) n hW1 i hi
  have gL := fun i (hi : i < n) => fd_at (fun k => ((Sf k : Nat) : Int)) (fun k => V.bool (lo ls (Sf k))) n hL1 i hi
  refine' call_fn (n := 13) (ks := ["words", "size", "piles", "at"]) (ps := ["words", "letters", "size"]) (bxs := [.ref wa, .ref la, .int (z : Nat)]) (cn := ["loud", "worth", "word", "letters"]) rfl ?ho hA ?nd ?hcn rfl ?hbind ?h ?c1 ?c2
  case ho =>
    intro s H
    refine ⟨_, H.bg.kin _ _ (show C.K.lookup 202 = some _ from (by rw [hC.isK]; k_is)), rfl, ?_⟩
    refine codeRec_of (K := Mine.hd.heap_1 C.w.params) (hC.isK ▸ H.bg.kin) ?_
    k_is
  (((case nd => decide); (case hcn => rfl); (case c1 => rfl); (case c2 => rfl)))
  case hbind => ((intro s as hk r; refine ⟨as, ?_, r⟩; (repeat (obtain ⟨_, _, e, _, r⟩ := r; subst e)); (first | subst r | skip); exact BindsTo.of_eq rfl))
  case h =>
    intro A₁ F cs hcs
    obtain ⟨cLo, t1, rfl, g1⟩ := cs_c hcs
    obtain ⟨cWo, t2, rfl, g2⟩ := cs_c g1
    obtain ⟨cWd, t3, rfl, g3⟩ := cs_c g2
    obtain ⟨cLe, t4, rfl, g4⟩ := cs_c g3
    cases cs_0 g4
    ((simp only [celled, List.map_cons, List.map_nil, List.cons_append, List.nil_append]))
    show St _ _ _ (storeName _ _) _ _
    walk_at "E.run"
    show St _ _ _ (storeName _ _) _ _
    walk_at "E.run"
    show St _ _ _ (storeName _ _) _ _
    walk_at "E.run"
    intro A' hA'
    walk_at "E.run"
    refine' e_dc (strKind C.prog C.w) (ks := ["word"]) (cn := []) ?nd ?hcn ?hclos ?hk ?hn ?_ ?ht ?hs
    (((case nd => decide); (case hcn => rfl); (case hclos => rfl); (case hk => rfl); (case hn => decide); (case ht => intro _ _; rfl); (case hs => intro _; rfl)))
    walk_at "E.run"
    refine it_list (by ((repeat (first | exact List.Mem.head _ | apply List.Mem.tail | assumption)))) fun i1 => ?_
    intro D1 L1 cs1 hcs1
    cases cs_0 hcs1
    ((simp only [celled, List.map_cons, List.map_nil, List.cons_append, List.nil_append]))
    refine' dloop_iter (σ' := (L1, AO.fr ["word"] [none]) :: PilS F wa la z none none none none none cWd cLo cWo cLe (σ)) (l := strsV (rowF (fun k => hw (Sf k)) n)) (G := fun σ => (wa, AO.list (strsV (rowF (fun k => hw (Sf k)) n))) ∈ σ) ?sb1 (iter_list hA'.1) (by rw [strsV_len, rowF_len]; lia) (fd (fun k => S (hw (Sf k))) (fun k => V.int (Sf k : Nat)))
      (fun i σ' => ∃ u, σ' = (L1, AO.fr ["word"] [u]) :: PilS F wa la z none none none none none cWd cLo cWo cLe (σ)) ⟨none, rfl⟩ rfl (by rintro i _ ⟨u, rfl⟩; ((repeat (first | exact List.Mem.head _ | apply List.Mem.tail | assumption)))) ?_ ?_
    case sb1 => ((repeat (first | exact Sb.refl | exact Sb.nil | (apply Sb.take; focus ((repeat (first | exact Pick.head | apply Pick.tail)); done)) | apply Sb.skip)))
    · rintro i y σ' hy ⟨u, rfl⟩
      have hi : i < n := by have := (List.getElem?_eq_some_iff.mp hy).1; rw [strsV_len, rowF_len] at this; exact this
      obtain ⟨cl, hcl, rfl⟩ := strsV_at hy
      rw [rowF_at _ hi] at hcl
      cases hcl
      walk_at "E.run"
      refine worth_ hC (hA'.le (by decide)) _ ?_
      rw [wv_hw 100 _ (hSb i)]
      exact ⟨_, _, key_str _, fd_succ _ _ _, by ((repeat (first | exact Sb.refl | exact Sb.nil | (apply Sb.take; focus ((repeat (first | exact Pick.head | apply Pick.tail)); done)) | apply Sb.skip))), some (.str (S (hw (Sf i)))), rfl⟩
    rintro σ' ⟨u, rfl⟩
    rw [strsV_len, rowF_len]
    walk_at "E.run"
    refine ⟨[u], (D1, AO.dct (strKind C.prog C.w) n (fd (fun k => S (hw (Sf k))) (fun k => V.int (Sf k : Nat)) n)) :: PilS F wa la z none none none none none cWd cLo cWo cLe (σ), by ((repeat (first | exact Sb.refl | exact Sb.nil | (apply Sb.take; focus ((repeat (first | exact Pick.head | apply Pick.tail)); done)) | apply Sb.skip))), ?_⟩
    walk_at "E.run"
    refine' e_dc (intKind C.prog C.w) (ks := []) (cn := ["word"]) ?nd ?hcn ?hclos ?hk ?hn ?_ ?ht ?hs
    (((case nd => decide); (case hcn => rfl); (case hclos => rfl); (case hk => rfl); (case hn => decide); (case ht => intro _ _; rfl); (case hs => intro _; rfl)))
    walk_at "E.run"
    refine it_list (by ((repeat (first | exact List.Mem.head _ | apply List.Mem.tail | assumption)))) fun i2 => ?_
    intro D2 L2 cs2 hcs2
    obtain ⟨cW2, rfl⟩ := cs_1 hcs2
    ((simp only [celled, List.map_cons, List.map_nil, List.cons_append, List.nil_append]))
    refine' dloop_iter (σ' := (cW2, AO.cell none) :: (L2, AO.fr [] []) :: (D1, AO.dct (strKind C.prog C.w) n (fd (fun k => S (hw (Sf k))) (fun k => V.int (Sf k : Nat)) n)) :: PilS F wa la z none none none none (some (.ref D1)) cWd cLo cWo cLe (σ)) (l := strsV (rowF (fun k => hw (Sf k)) n)) (G := fun σ => (wa, AO.list (strsV (rowF (fun k => hw (Sf k)) n))) ∈ σ) ?sb2 (iter_list hA'.1) (by rw [strsV_len, rowF_len]; lia) (fd (fun k => ((Sf k : Nat) : Int)) (fun k => V.bool (lo ls (Sf k))))
      (fun i σ' => ∃ u, σ' = (cW2, AO.cell u) :: (L2, AO.fr [] []) :: (D1, AO.dct (strKind C.prog C.w) n (fd (fun k => S (hw (Sf k))) (fun k => V.int (Sf k : Nat)) n)) :: PilS F wa la z none none none none (some (.ref D1)) cWd cLo cWo cLe (σ)) ⟨none, rfl⟩ rfl (by rintro i _ ⟨u, rfl⟩; ((repeat (first | exact List.Mem.head _ | apply List.Mem.tail | assumption)))) ?_ ?_
    case sb2 => ((repeat (first | exact Sb.refl | exact Sb.nil | (apply Sb.take; focus ((repeat (first | exact Pick.head | apply Pick.tail)); done)) | apply Sb.skip)))
    · rintro i y σ' hy ⟨u, rfl⟩
      have hi : i < n := by have := (List.getElem?_eq_some_iff.mp hy).1; rw [strsV_len, rowF_len] at this; exact this
      obtain ⟨cl, hcl, rfl⟩ := strsV_at hy
      rw [rowF_at _ hi] at hcl
      cases hcl
      walk_at "E.run"
      refine ⟨has_dct (knd := strKind C.prog C.w) (by walk_at "M.mem"), ?_⟩
      refine g_dct (knd := strKind C.prog C.w) (by walk_at "M.mem") (key_str _) (gW i hi) ?_
      walk_at "E.run"
      refine' e_lc (ks := ["letter"]) (cn := []) ?nd ?hcn ?hclos ?hk ?hn ?_ ?ht ?hs
      (((case nd => decide); (case hcn => rfl); (case hclos => rfl); (case hk => rfl); (case hn => decide); (case ht => intro _ _; rfl); (case hs => intro _; rfl)))
      walk_at "E.run"
      refine it_list (by ((repeat (first | exact List.Mem.head _ | apply List.Mem.tail | assumption)))) fun i3 => ?_
      intro D3 L3 cs3 hcs3
      cases cs_0 hcs3
      ((simp only [celled, List.map_cons, List.map_nil, List.cons_append, List.nil_append]))
      refine' cloop_fmap (l := strsV (ls.map fun c => [c])) (G := fun σ => (la, AO.list (strsV (ls.map fun c => [c]))) ∈ σ) (τ := (i2, AO.lit wa (i + 1)) :: (D2, AO.dct (intKind C.prog C.w) i (fd (fun k => ((Sf k : Nat) : Int)) (fun k => V.bool (lo ls (Sf k))) i)) :: (cW2, AO.cell (some (.str (S (hw (Sf i)))))) :: (L2, AO.fr [] []) :: (D1, AO.dct (strKind C.prog C.w) n (fd (fun k => S (hw (Sf k))) (fun k => V.int (Sf k : Nat)) n)) :: PilS F wa la z none none none none (some (.ref D1)) cWd cLo cWo cLe (σ))
        (fun i' => decide (ls.getD i' 0 ∈ hw (Sf i))) (fun i' => V.str (S [ls.getD i' 0])) ?sb3 (iter_list (b := la) hA'.1) ?hG3 (by rw [strsV_len, List.length_map, sizeLine_eq]; lia) rfl rfl ?_ ?_ ?_
      case sb3 => ((repeat (first | exact Sb.refl | exact Sb.nil | (apply Sb.take; focus ((repeat (first | exact Pick.head | apply Pick.tail)); done)) | apply Sb.skip)))
      case hG3 => intro acc u'; exact .tail _ (.tail _ (by ((repeat (first | exact List.Mem.head _ | apply List.Mem.tail | assumption)))))
      · intro j y acc X hy
        obtain ⟨cl, hcl, rfl⟩ := strsV_at hy
        rw [List.getElem?_map] at hcl
        obtain ⟨c, hc, rfl⟩ := Option.map_eq_some_iff.mp hcl
        walk_at "E.run"
        refine cmp_in1 ?_
        walk_at "E.run"
        exact ⟨by rw [List.getD_eq_getElem?_getD, hc]; rfl, by ((repeat (first | exact Sb.refl | exact Sb.nil | (apply Sb.take; focus ((repeat (first | exact Pick.head | apply Pick.tail)); done)) | apply Sb.skip)))⟩
      · intro j y acc X hy hp ha
        obtain ⟨cl, hcl, rfl⟩ := strsV_at hy
        rw [List.getElem?_map] at hcl
        obtain ⟨c, hc, rfl⟩ := Option.map_eq_some_iff.mp hcl
        walk_at "E.run"
        exact ⟨by rw [List.getD_eq_getElem?_getD, hc]; rfl, by ((repeat (first | exact Sb.refl | exact Sb.nil | (apply Sb.take; focus ((repeat (first | exact Pick.head | apply Pick.tail)); done)) | apply Sb.skip)))⟩
      intro u3
      refine ⟨[u3], (D3, AO.list (((List.range (strsV (ls.map fun c => [c])).length).filter fun i' => decide (ls.getD i' 0 ∈ hw (Sf i))).map fun i' => V.str (S [ls.getD i' 0]))) :: (i2, AO.lit wa (i + 1)) :: (D2, AO.dct (intKind C.prog C.w) i (fd (fun k => ((Sf k : Nat) : Int)) (fun k => V.bool (lo ls (Sf k))) i)) :: (cW2, AO.cell (some (.str (S (hw (Sf i)))))) :: (L2, AO.fr [] []) :: (D1, AO.dct (strKind C.prog C.w) n (fd (fun k => S (hw (Sf k))) (fun k => V.int (Sf k : Nat)) n)) :: PilS F wa la z none none none none (some (.ref D1)) cWd cLo cWo cLe (σ), by ((repeat (first | exact Sb.refl | exact Sb.nil | (apply Sb.take; focus ((repeat (first | exact Pick.head | apply Pick.tail)); done)) | apply Sb.skip))), ?_⟩
      walk_at "E.run"
      refine ⟨by rw [sizeLine_eq]; decide, fun l0 => ?_⟩
      refine cmp_lnnil (hA'.le (by decide)) (a := D3) (b := l0) (by walk_at "M.mem") (by walk_at "M.mem") ?_
      rw [strsV_len, List.length_map, List.isEmpty_map]
      exact ⟨_, _, key_int _, fd_succ _ _ _, by ((repeat (first | exact Sb.refl | exact Sb.nil | (apply Sb.take; focus ((repeat (first | exact Pick.head | apply Pick.tail)); done)) | apply Sb.skip))), some (.str (S (hw (Sf i)))), rfl⟩
    rintro σ' ⟨u2, rfl⟩
    rw [strsV_len, rowF_len]
    walk_at "E.run"
    refine ⟨[], (D2, AO.dct (intKind C.prog C.w) n (fd (fun k => ((Sf k : Nat) : Int)) (fun k => V.bool (lo ls (Sf k))) n)) :: (D1, AO.dct (strKind C.prog C.w) n (fd (fun k => S (hw (Sf k))) (fun k => V.int (Sf k : Nat)) n)) :: PilS F wa la z none none none none (some (.ref D1)) cWd cLo cWo cLe (σ), by ((repeat (first | exact Sb.refl | exact Sb.nil | (apply Sb.take; focus ((repeat (first | exact Pick.head | apply Pick.tail)); done)) | apply Sb.skip))), ?_⟩
    walk_at "E.run"
    refine ⟨by rw [sizeLine_eq]; decide, fun pl => ?_⟩
    walk_at "E.run"
    refine x_for' ?_
    walk_at "E.run"
    refine it_list (by ((repeat (first | exact List.Mem.head _ | apply List.Mem.tail | assumption)))) fun i4 => ?_
    refine loop_it (σ' := (pl, AO.list []) :: (D2, AO.dct (intKind C.prog C.w) n (fd (fun k => ((Sf k : Nat) : Int)) (fun k => V.bool (lo ls (Sf k))) n)) :: (D1, AO.dct (strKind C.prog C.w) n (fd (fun k => S (hw (Sf k))) (fun k => V.int (Sf k : Nat)) n)) :: PilS F wa la z (some (.ref pl)) none none (some (.ref D2)) (some (.ref D1)) cWd cLo cWo cLe (σ)) (by ((repeat (first | exact Sb.refl | exact Sb.nil | (apply Sb.take; focus ((repeat (first | exact Pick.head | apply Pick.tail)); done)) | apply Sb.skip)))) (iter_list (l := strsV (rowF (fun k => hw (Sf k)) n)) hA'.1)
      (fun k σ' => ∃ pa da u v, σ' = (pl, AO.list ((List.range (npF M k)).map fun p => V.ref (pa p))) :: (D2, AO.dct (intKind C.prog C.w) n (fd (fun k => ((Sf k : Nat) : Int)) (fun k => V.bool (lo ls (Sf k))) n)) :: (D1, AO.dct (strKind C.prog C.w) n (fd (fun k => S (hw (Sf k))) (fun k => V.int (Sf k : Nat)) n)) :: PilS F wa la z (some (.ref pl)) u v (some (.ref D2)) (some (.ref D1)) cWd cLo cWo cLe (PL 101 z pa da (itsF Sf M k) (npF M k) ++ σ)) ⟨fun _ => 0, fun _ => 0, none, none, rfl⟩ (by rintro k _ ⟨pa, da, u, v, rfl⟩; have hwx := List.mem_append_right (PL 101 z pa da (itsF Sf M k) (npF M k)) hwa; ((repeat (first | exact List.Mem.head _ | apply List.Mem.tail | assumption)))) ?_ ?_
    · rintro k y σ' hy ⟨pa, da, u, v, rfl⟩
      have hk : k < n := by have := (List.getElem?_eq_some_iff.mp hy).1; rw [strsV_len, rowF_len] at this; exact this
      obtain ⟨cl, hcl, rfl⟩ := strsV_at hy
      rw [rowF_at _ hk] at hcl
      cases hcl
      have hnp := (npF_le H k (Nat.le_of_lt hk)).1
      have hMk := npF_M H k hk
      walk_at "E.run"
      refine X.next (R := fun σ'' => Sb ((i4, AO.lit wa (k + 1)) :: (pl, AO.list ((List.range (npF M k)).map fun p => V.ref (pa p))) :: (D2, AO.dct (intKind C.prog C.w) n (fd (fun k => ((Sf k : Nat) : Int)) (fun k => V.bool (lo ls (Sf k))) n)) :: (D1, AO.dct (strKind C.prog C.w) n (fd (fun k => S (hw (Sf k))) (fun k => V.int (Sf k : Nat)) n)) :: PilS F wa la z (some (.ref pl)) (some (.int ((M k : Nat) : Int))) (some (.str (S (hw (Sf k))))) (some (.ref D2)) (some (.ref D1)) cWd cLo cWo cLe (PL 101 z pa da (itsF Sf M k) (npF M k) ++ σ)) σ'') (x_while (fun m σ'' => ∃ i, m = M k - i ∧ i ≤ M k ∧ Sb ((i4, AO.lit wa (k + 1)) :: (pl, AO.list ((List.range (npF M k)).map fun p => V.ref (pa p))) :: (D2, AO.dct (intKind C.prog C.w) n (fd (fun k => ((Sf k : Nat) : Int)) (fun k => V.bool (lo ls (Sf k))) n)) :: (D1, AO.dct (strKind C.prog C.w) n (fd (fun k => S (hw (Sf k))) (fun k => V.int (Sf k : Nat)) n)) :: PilS F wa la z (some (.ref pl)) (some (.int ((i : Nat) : Int))) (some (.str (S (hw (Sf k))))) (some (.ref D2)) (some (.ref D1)) cWd cLo cWo cLe (PL 101 z pa da (itsF Sf M k) (npF M k) ++ σ)) σ'') (M k) ⟨0, rfl, Nat.zero_le _, .refl⟩ ?_) ?_
      · rintro m σ'' ⟨i, rfl, hi, sb⟩
        refine Tr.sb sb ?_
        walk_at "E.run"
        refine c_len_list (by walk_at "M.mem") (by rw [List.length_map, List.length_range, sizeLine_eq]; lia) ?_
        rw [List.length_map, List.length_range]
        walk_at "E.run"
        by_cases hin : i < npF M k
        · rw [if_pos (by simpa using hin)]
          have hpm := (PL_mem (D := 101) (z := z) (pa := pa) (da := da) (it := itsF Sf M k) (σ := σ) hin).1
          have hix : ∀ q, q < (idxF M k i).length → (idxF M k i).getD q 0 < k ∧ M ((idxF M k i).getD q 0) = i := fun q hq => by
            rw [List.getD_eq_getElem?_getD, List.getElem?_eq_getElem hq]
            exact idxF_mem.mp (List.getElem_mem _)
          walk_at "E.run"
          refine' e_lcT (ks := ["fws", "part"]) (cn := []) ?nd ?hcn ?hclos ?hk ?hn ?_ ?hs
          (((case nd => decide); (case hcn => rfl); (case hclos => rfl); (case hk => rfl); (case hn => decide); (case hs => intro _; rfl)))
          walk_at "E.run"
          refine g_refs rfl (by walk_at "M.mem") hin (by lia) ?_
          refine it_seq hC (by ((repeat (first | exact List.Mem.head _ | apply List.Mem.tail | assumption)))) (by first | k_is | kernel_rfl) (by first | k_is | kernel_rfl) fun i5 => ?_
          intro D3 L3 cs3 hcs3
          cases cs_0 hcs3
          ((simp only [celled, List.map_cons, List.map_nil, List.cons_append, List.nil_append]))
          refine' cloopT_ff (fun q => lo ls (Sf ((idxF M k i).getD q 0) ^^^ Sf k)) (fun q => V.str (S (hw (Sf ((idxF M k i).getD q 0))))) (l := (itsF Sf M k i).map pairV) (G := fun σ => (pa i, AO.seq (.ref 101) (some (da i)) ((itsF Sf M k i).map pairV)) ∈ σ) (σ' := (L3, AO.fr ["fws", "part"] [none, none]) :: (i4, AO.lit wa (k + 1)) :: (pl, AO.list ((List.range (npF M k)).map fun p => V.ref (pa p))) :: (D2, AO.dct (intKind C.prog C.w) n (fd (fun k => ((Sf k : Nat) : Int)) (fun k => V.bool (lo ls (Sf k))) n)) :: (D1, AO.dct (strKind C.prog C.w) n (fd (fun k => S (hw (Sf k))) (fun k => V.int (Sf k : Nat)) n)) :: PilS F wa la z (some (.ref pl)) (some (.int ((i : Nat) : Int))) (some (.str (S (hw (Sf k))))) (some (.ref D2)) (some (.ref D1)) cWd cLo cWo cLe (PL 101 z pa da (itsF Sf M k) (npF M k) ++ σ)) ?sb5 (iter_sq hA'.1) (fun y hy => by obtain ⟨pr, _, rfl⟩ := List.mem_map.mp hy; exact ⟨_, rfl⟩)
            (fun q σ' => ∃ u v, σ' = (L3, AO.fr ["fws", "part"] [u, v]) :: (i4, AO.lit wa (k + 1)) :: (pl, AO.list ((List.range (npF M k)).map fun p => V.ref (pa p))) :: (D2, AO.dct (intKind C.prog C.w) n (fd (fun k => ((Sf k : Nat) : Int)) (fun k => V.bool (lo ls (Sf k))) n)) :: (D1, AO.dct (strKind C.prog C.w) n (fd (fun k => S (hw (Sf k))) (fun k => V.int (Sf k : Nat)) n)) :: PilS F wa la z (some (.ref pl)) (some (.int ((i : Nat) : Int))) (some (.str (S (hw (Sf k))))) (some (.ref D2)) (some (.ref D1)) cWd cLo cWo cLe (PL 101 z pa da (itsF Sf M k) (npF M k) ++ σ)) ⟨none, none, rfl⟩ (by rintro q acc _ ⟨u, v, rfl⟩; ((repeat (first | exact List.Mem.head _ | apply List.Mem.tail | assumption)))) (by rw [List.length_map, itsF, List.length_map, sizeLine_eq]; have := idxF_len M k i; lia) ?_ ?_
          case sb5 => ((repeat (first | exact Sb.refl | exact Sb.nil | (apply Sb.take; focus ((repeat (first | exact Pick.head | apply Pick.tail)); done)) | apply Sb.skip)))
          · rintro q y acc σ' hy ⟨u', v', rfl⟩
            rw [List.getElem?_map, itsF, List.getElem?_map] at hy
            obtain ⟨pr, hpr, rfl⟩ := Option.map_eq_some_iff.mp hy
            obtain ⟨j, hj, rfl⟩ := Option.map_eq_some_iff.mp hpr
            have ej : (idxF M k i).getD q 0 = j := by rw [List.getD_eq_getElem?_getD, hj]; rfl
            have hjk := idxF_mem.mp (List.mem_of_getElem? hj)
            rw [ej]
            have hjn : j < n := by lia
            obtain ⟨l, hln, sl, _⟩ := H.cl j k hjn hk
            have gl := gL l hln
            rw [sl] at gl
            refine asg_tup hA'.1 ?_ (by simp) rfl rfl
            walk_at "E.run"
            refine ⟨has_dct (knd := strKind C.prog C.w) (by walk_at "M.mem"), ?_⟩
            refine g_dct (knd := strKind C.prog C.w) (by walk_at "M.mem") (key_str _) (gW j hjn) ?_
            walk_at "E.run"
            refine ⟨has_dct (knd := strKind C.prog C.w) (by walk_at "M.mem"), ?_⟩
            refine g_dct (knd := strKind C.prog C.w) (by walk_at "M.mem") (key_str _) (gW k hk) ?_
            refine bin_xor ?_
            refine ⟨has_dct (knd := intKind C.prog C.w) (by walk_at "M.mem"), ?_⟩
            refine g_dct (knd := intKind C.prog C.w) (by walk_at "M.mem") (key_int _) gl ?_
            walk_at "E.run"
            refine ⟨rfl, fun hp => ?_, fun hp => ?_⟩
            · walk_at "E.run"
              exact ⟨rfl, _, by ((repeat (first | exact Sb.refl | exact Sb.nil | (apply Sb.take; focus ((repeat (first | exact Pick.head | apply Pick.tail)); done)) | apply Sb.skip))), _, _, rfl⟩
            · exact ⟨_, by ((repeat (first | exact Sb.refl | exact Sb.nil | (apply Sb.take; focus ((repeat (first | exact Pick.head | apply Pick.tail)); done)) | apply Sb.skip))), _, _, rfl⟩
          rintro σ' ⟨u', v', rfl⟩
          rw [List.length_map, itsF, List.length_map]
          refine ⟨[u', v'], (D3, AO.list (((List.range (idxF M k i).length).filter fun q => lo ls (Sf ((idxF M k i).getD q 0) ^^^ Sf k)).map fun q => V.str (S (hw (Sf ((idxF M k i).getD q 0)))))) :: (i4, AO.lit wa (k + 1)) :: (pl, AO.list ((List.range (npF M k)).map fun p => V.ref (pa p))) :: (D2, AO.dct (intKind C.prog C.w) n (fd (fun k => ((Sf k : Nat) : Int)) (fun k => V.bool (lo ls (Sf k))) n)) :: (D1, AO.dct (strKind C.prog C.w) n (fd (fun k => S (hw (Sf k))) (fun k => V.int (Sf k : Nat)) n)) :: PilS F wa la z (some (.ref pl)) (some (.int ((i : Nat) : Int))) (some (.str (S (hw (Sf k))))) (some (.ref D2)) (some (.ref D1)) cWd cLo cWo cLe (PL 101 z pa da (itsF Sf M k) (npF M k) ++ σ), by ((repeat (first | exact Sb.refl | exact Sb.nil | (apply Sb.take; focus ((repeat (first | exact Pick.head | apply Pick.tail)); done)) | apply Sb.skip))), ?_⟩
          walk_at "E.run"
          refine ⟨by rw [sizeLine_eq]; decide, fun l0 => ?_⟩
          refine cmp_lnnil (hA'.le (by decide)) (a := D3) (b := l0) (by walk_at "M.mem") (by walk_at "M.mem") ?_
          rw [List.isEmpty_map]
          walk_at "E.run"
          by_cases hiM : i < M k
          · obtain ⟨j, hj, mj, lj⟩ := H.low k i hk hiM
            obtain ⟨q, hq, eq⟩ := List.getElem_of_mem (idxF_mem.mpr ⟨hj, mj⟩)
            have hne : (List.range (idxF M k i).length).filter (fun q => lo ls (Sf ((idxF M k i).getD q 0) ^^^ Sf k)) ≠ [] := fun e => by
              have hm := List.filter_eq_nil_iff.mp e q (List.mem_range.mpr hq)
              rw [List.getD_eq_getElem?_getD, List.getElem?_eq_getElem hq, eq] at hm
              exact hm lj
            rw [if_pos (by simpa using hne)]
            walk_at "E.run"
            rw [if_pos rfl]
            walk_at "E.run"
            exact ⟨M k - (i + 1), by lia, i + 1, rfl, hiM, by ((repeat (first | exact Sb.refl | exact Sb.nil | (apply Sb.take; focus ((repeat (first | exact Pick.head | apply Pick.tail)); done)) | apply Sb.skip)))⟩
          · have hall : (List.range (idxF M k i).length).filter (fun q => lo ls (Sf ((idxF M k i).getD q 0) ^^^ Sf k)) = [] := List.filter_eq_nil_iff.mpr fun q hq => by
              have hq := hix q (List.mem_range.mp hq)
              rw [H.odd _ k hq.1 hk (by rw [hq.2]; lia)]
              decide
            have ei : i = M k := by lia
            rw [hall]
            rw [if_neg (by decide), if_neg (by decide)]
            rw [← ei]
            ((repeat (first | exact Sb.refl | exact Sb.nil | (apply Sb.take; focus ((repeat (first | exact Pick.head | apply Pick.tail)); done)) | apply Sb.skip)))
        · rw [if_neg (by simpa using hin), if_neg (by decide)]
          have ei : i = M k := by lia
          rw [← ei]
          ((repeat (first | exact Sb.refl | exact Sb.nil | (apply Sb.take; focus ((repeat (first | exact Pick.head | apply Pick.tail)); done)) | apply Sb.skip)))
      · intro σ'' sb
        refine Xs.sb sb ?_
        refine xs_cons ?_
        refine x_ifJ (fun σ' => ∃ pa da, Sb ((i4, AO.lit wa (k + 1)) :: (pl, AO.list ((List.range (npF M (k + 1))).map fun p => V.ref (pa p))) :: (D2, AO.dct (intKind C.prog C.w) n (fd (fun k => ((Sf k : Nat) : Int)) (fun k => V.bool (lo ls (Sf k))) n)) :: (D1, AO.dct (strKind C.prog C.w) n (fd (fun k => S (hw (Sf k))) (fun k => V.int (Sf k : Nat)) n)) :: PilS F wa la z (some (.ref pl)) (some (.int ((M k : Nat) : Int))) (some (.str (S (hw (Sf k))))) (some (.ref D2)) (some (.ref D1)) cWd cLo cWo cLe (PL 101 z pa da (itsF Sf M k) (npF M (k + 1)) ++ σ)) σ') ?_ ?_
        · walk_at "E.run"
          refine c_len_list (by walk_at "M.mem") (by rw [List.length_map, List.length_range, sizeLine_eq]; lia) ?_
          rw [List.length_map, List.length_range]
          walk_at "E.run"
          by_cases hq : M k = npF M k
          · rw [if_pos (by rw [hq]; simp)]
            have en : npF M (k + 1) = npF M k + 1 := by rw [npF]; lia
            walk_at "E.run"
            refine m_append (by walk_at "M.mem") ?_
            walk_at "E.run"
            refine accmake_ hC hM (hA'.le (by decide)) fun xa dA => ?_
            walk_at "E.run"
            refine c_append (by walk_at "M.lu") (by rw [List.length_map, List.length_range, sizeLine_eq]; lia) ?_
            walk_at "E.run"
            refine ⟨fun p => if p = npF M k then xa else pa p, fun p => if p = npF M k then dA else da p, ?_⟩
            rw [en, refs_new, PL_new xa dA (itsF_none Sf M k _ fun j hj => npF_lt M k j hj), List.cons_append, List.cons_append]
            ((repeat (first | exact Sb.refl | exact Sb.nil | (apply Sb.take; focus ((repeat (first | exact Pick.head | apply Pick.tail)); done)) | apply Sb.skip)))
          · rw [if_neg (by simpa [Int.natCast_inj] using hq)]
            have en : npF M (k + 1) = npF M k := by rw [npF]; lia
            walk_at "E.run"
            exact ⟨pa, da, by rw [en]; ((repeat (first | exact Sb.refl | exact Sb.nil | (apply Sb.take; focus ((repeat (first | exact Pick.head | apply Pick.tail)); done)) | apply Sb.skip)))⟩
        · rintro σ' ⟨pa', da', sb⟩
          refine Xs.sb sb ?_
          have hlt : M k < npF M (k + 1) := by rw [npF]; lia
          have hnp' : npF M (k + 1) ≤ 64 := Nat.le_trans (npF_le H (k + 1) hk).1 (by lia)
          have hpm := PL_mem (D := 101) (z := z) (pa := pa') (da := da') (it := itsF Sf M k) (σ := σ) hlt
          have hpm1 := hpm.1
          have hpm2 := hpm.2
          have hup := PL_upd (D := 101) (z := z) (pa := pa') (da := da') (it := itsF Sf M k) (it' := itsF Sf M (k + 1)) (σ := σ) hlt fun j _ hj => by rw [itsF_succ, if_neg hj]
          rw [itsF_succ Sf M k (M k), if_pos rfl, List.map_append] at hup
          walk_at "E.run"
          refine g_refs rfl (by walk_at "M.mem") hlt (by lia) ?_
          (refine m_any (D := 101) (ga := "list.__getattribute__") (ty := "function") (f := .ref 45) (fV := .ref 45) (by assumption) (isI_seq (by ((repeat (first | exact List.Mem.head _ | apply List.Mem.tail | assumption))))) (by ((repeat (first | exact List.Mem.head _ | apply List.Mem.tail | assumption)))) (by decide) (by kernel_rfl) (by decide +kernel) (by kernel_rfl) (by kernel_rfl) (by kernel_rfl) (by decide) (fun _ => rfl) ?_)
          walk_at "E.run"
          refine ⟨has_dct (knd := strKind C.prog C.w) (by walk_at "M.mem"), ?_⟩
          refine g_dct (knd := strKind C.prog C.w) (by walk_at "M.mem") (key_str _) (gW k hk) ?_
          walk_at "E.run"
          refine ⟨_, _, .none, .int, fun sl => ?_⟩
          walk_at "E.run"
          refine g_str_slice (by decide) ?_
          rw [show Str.ofString " \t" = S [32, 9] from rfl, slice3]
          walk_at "E.run"
          refine appush_ (x := pa' (M k)) (d := da' (M k)) (items := (itsF Sf M k (M k)).map pairV) (u := ws3 (Sf k)) (v := hw (Sf k)) (σ' := (i4, AO.lit wa (k + 1)) :: (pl, AO.list ((List.range (npF M (k + 1))).map fun p => V.ref (pa' p))) :: (D2, AO.dct (intKind C.prog C.w) n (fd (fun k => ((Sf k : Nat) : Int)) (fun k => V.bool (lo ls (Sf k))) n)) :: (D1, AO.dct (strKind C.prog C.w) n (fd (fun k => S (hw (Sf k))) (fun k => V.int (Sf k : Nat)) n)) :: PilS F wa la z (some (.ref pl)) (some (.int ((M k : Nat) : Int))) (some (.str (S (hw (Sf k))))) (some (.ref D2)) (some (.ref D1)) cWd cLo cWo cLe (PL 101 z pa' da' (itsF Sf M (k + 1)) (npF M (k + 1)) ++ σ)) hC (hA'.le (by decide)) (by rw [List.length_map, itsF, List.length_map]; have := idxF_len M k (M k); lia) (by ((repeat (first | exact List.Mem.head _ | apply List.Mem.tail | assumption)))) (by decide) (by ((repeat (first | exact LU.head | apply LU.tail | assumption)))) ?_
          walk_at "E.run"
          exact ⟨_, by ((repeat (first | exact Sb.refl | exact Sb.nil | (apply Sb.take; focus ((repeat (first | exact Pick.head | apply Pick.tail)); done)) | apply Sb.skip))), pa', da', _, _, rfl⟩
    rintro σ' ⟨pa, da, u, v, rfl⟩
    rw [strsV_len, rowF_len]
    walk_at "E.run"
    exact ⟨_, by ((repeat (first | exact Sb.refl | exact Sb.nil | (apply Sb.take; focus ((repeat (first | exact Pick.head | apply Pick.tail)); done)) | apply Sb.skip))), h pl pa da⟩
noncomputable abbrev natsV (l : List Nat) : List V := l.map fun x => V.int (x : Nat)
theorem natsV_at {l : List Nat} {i : Nat} (h : i < l.length) : (natsV l)[i]? = some (.int (l.getD i 0 : Nat)) := by
  rw [List.getElem?_map, List.getElem?_eq_getElem h, List.getD_eq_getElem?_getD, List.getElem?_eq_getElem h]; rfl
theorem g_nats {C : Cx} {A : Around} {σ : Led} {Q : V → Led → Prop} {a : Addr} {l : List Nat} {i : Nat} {j : Int} (hj : j = (i : Nat)) (hm : (a, AO.list (natsV l)) ∈ σ) (hi : i < l.length) (hz : l.length ≤ 1000000) (h : Q (.int (l.getD i 0 : Nat)) σ) : Op2 C VR A σ getItem (.ref a) (.int j) Q := by
  subst hj
  exact g_list hm (by lia) (by lia) (by rw [Int.toNat_natCast]; exact natsV_at hi) h
theorem len_c {l : List Nat} {n : Nat} (h : l.length = n + 1) : ∃ a t, l = a :: t ∧ t.length = n := by
  cases l with
  | nil => cases h
  | cons a t => exact ⟨a, t, rfl, Nat.succ.inj h⟩
theorem fmod_nat (i : Int) : ∃ n : Nat, i.fmod 1000000 = (n : Nat) ∧ n < 1000000 := by
  rw [Int.fmod_eq_emod_of_nonneg _ (by decide)]
  exact ⟨(i % 1000000).toNat, by lia, by lia⟩
theorem drawn_nat (m : Nat) (l0 : List Nat) (ns : List Int) (B : Nat) (h0 : ∀ x ∈ l0, x ≤ B) : ∀ k, ∃ l : List Nat, drawn m (l0.map fun (x : Nat) => (x : Int)) ns k = l.map (fun (x : Nat) => (x : Int)) ∧ l.length = l0.length ∧ ∀ x ∈ l, x ≤ B + k * 1000000
  | 0 => ⟨l0, rfl, rfl, fun x hx => by have := h0 x hx; lia⟩
  | k + 1 => by
    obtain ⟨l, e, hl, hb⟩ := drawn_nat m l0 ns B h0 k
    obtain ⟨n, en, hn⟩ := fmod_nat (ns.getD k 0)
    have hg : (l.map fun (x : Nat) => (x : Int)).getD (k % m) 0 = ((l.getD (k % m) 0 : Nat) : Int) := by
      simp only [List.getD_eq_getElem?_getD, List.getElem?_map]
      cases l[k % m]? <;> rfl
    refine ⟨l.set (k % m) (l.getD (k % m) 0 + n), ?_, by rw [List.length_set, hl], ?_⟩
    · rw [drawn, e, hg, en, ← Int.natCast_add, List.map_set]
    · intro x hx
      rcases List.mem_or_eq_of_mem_set hx with h | h
      · have := hb x h
        rw [Nat.succ_mul]; generalize k * 1000000 = t at *; lia
      · subst h
        have : l.getD (k % m) 0 ≤ B + k * 1000000 := by
          rw [List.getD_eq_getElem?_getD]
          cases e : l[k % m]? with
          | none => simp
          | some y => exact hb y (List.mem_of_getElem? e)
        rw [Nat.succ_mul]; generalize k * 1000000 = t at *; lia
theorem natsV_cast (l : List Nat) : (l.map fun (x : Nat) => (x : Int)).map V.int = natsV l := by rw [List.map_map]; rfl
noncomputable def markN (ls : List Nat) (b : Nat → Nat) : Nat → Nat → Nat
  | 0 => fun _ => 0
  | t + 1 => dbl (2 ^ t) (markN ls b t) (mexN (((List.range (2 ^ t)).filter fun k => lo ls (sumN b t k ^^^ b t)).map (markN ls b t)))
noncomputable def takN (ls : List Nat) (b : Nat → Nat) (t : Nat) : List Nat := ((List.range (2 ^ t)).filter fun k => lo ls (sumN b t k ^^^ b t)).map (markN ls b t)
theorem mark_code (ls : List Nat) (b : Nat → Nat) : ∀ t, Code (lo ls) (2 ^ t) (sumN b t) (markN ls b t)
  | 0 => Code.one _ _ _ rfl rfl
  | t + 1 => by
    rw [show 2 ^ (t + 1) = 2 ^ t + 2 ^ t by rw [Nat.pow_succ]; lia]
    refine (mark_code ls b t).more (b t) _ (takN ls b t) (fun x => ?_) (mexN_is _)
    unfold takN
    constructor
    · intro h
      obtain ⟨l, hl, e⟩ := List.mem_map.mp h
      have hl := List.mem_filter.mp hl
      exact ⟨l, List.mem_range.mp hl.1, hl.2, e⟩
    · rintro ⟨l, h1, h2, e⟩
      exact List.mem_map.mpr ⟨l, List.mem_filter.mpr ⟨List.mem_range.mpr h1, h2⟩, e⟩
theorem npF_max (M : Nat → Nat) (m : Nat) : ∀ n, (∀ j, j < n → M j ≤ m) → (∃ j, j < n ∧ M j = m) → npF M n = m + 1 := by
  intro n h1 h2
  have h3 : ∀ k, (∀ j, j < k → M j ≤ m) → npF M k ≤ m + 1 := fun k => by
    induction k with
    | zero => intro _; exact Nat.zero_le _
    | succ k ih => intro h; have := ih fun j hj => h j (by lia); have := h k (by lia); rw [npF]; lia
  obtain ⟨j, hj, e⟩ := h2
  have := npF_lt M n j hj
  have := h3 n h1
  lia
theorem any_mem (l : List Nat) (x : Nat) : ((l.map fun (y : Nat) => (y : Int)).any (· == ((x : Nat) : Int))) = decide (x ∈ l) := by
  rw [Bool.eq_iff_iff, decide_eq_true_iff, List.any_eq_true]
  constructor
  · rintro ⟨y, hy, e⟩
    obtain ⟨z, hz, rfl⟩ := List.mem_map.mp hy
    rw [beq_iff_eq, Int.natCast_inj] at e
    exact e ▸ hz
  · intro h; exact ⟨_, List.mem_map.mpr ⟨x, h, rfl⟩, by rw [beq_iff_eq]⟩
theorem natsV_range {n i : Nat} (f : Nat → Nat) (h : i < n) : (natsV ((List.range n).map f))[i]? = some (.int (f i : Nat)) := by simp [h]
theorem g_natsR {C : Cx} {A : Around} {σ : Led} {Q : V → Led → Prop} {a : Addr} {f : Nat → Nat} {n i : Nat} {j : Int} (hj : j = (i : Nat)) (hm : (a, AO.list (natsV ((List.range n).map f))) ∈ σ) (hi : i < n) (hz : n ≤ 1000000) (h : Q (.int (f i : Nat)) σ) : Op2 C VR A σ getItem (.ref a) (.int j) Q := by
  subst hj
  exact g_list hm (by lia) (by lia) (by rw [Int.toNat_natCast]; exact natsV_range f hi) h
theorem rangeV (n : Nat) (f : Nat → Nat) : (List.range n).map (fun i => V.int (f i : Nat)) = natsV ((List.range n).map f) := by rw [natsV, List.map_map]; rfl
theorem rangeS (n : Nat) (f : Nat → List Nat) : (List.range n).map (fun i => V.str (S (f i))) = strsV ((List.range n).map f) := by rw [strsV, List.map_map]; rfl
theorem natsR_len (n : Nat) (f : Nat → Nat) : (natsV ((List.range n).map f)).length = n := by simp
theorem natsR_cat (n m : Nat) (f : Nat → Nat) : natsV ((List.range n).map f) ++ natsV ((List.range m).map fun i => f (n + i)) = natsV ((List.range (n + m)).map f) := by
  simp only [natsV, List.range_add, List.map_append, List.map_map]; rfl
theorem dbl_lo (n : Nat) (f : Nat → Nat) (b : Nat) : (List.range n).map (dbl n f b) = (List.range n).map f := List.map_congr_left fun k hk => by rw [dbl, if_pos (List.mem_range.mp hk)]
theorem dbl_hi (n : Nat) (f : Nat → Nat) (b : Nat) (i : Nat) : dbl n f b (n + i) = f i ^^^ b := by rw [dbl, if_neg (by lia), Nat.add_sub_cancel_left]
theorem natsR_dbl (n : Nat) (f : Nat → Nat) (b : Nat) : natsV ((List.range n).map f) ++ natsV ((List.range n).map fun i => f i ^^^ b) = natsV ((List.range (n + n)).map (dbl n f b)) := by
  rw [← natsR_cat n n (dbl n f b), dbl_lo, show (fun i => dbl n f b (n + i)) = fun i => f i ^^^ b from funext fun i => dbl_hi n f b i]
theorem strsV_app (l m : List (List Nat)) : strsV l ++ strsV m = strsV (l ++ m) := by rw [strsV, strsV, strsV, List.map_append]
theorem rowF_get {C : Cx} {A : Around} {σ : Led} {Q : V → Led → Prop} {a : Addr} {f : Nat → List Nat} {n i : Nat} {j : Int} (hj : j = (i : Nat)) (hm : (a, AO.list (strsV (rowF f n))) ∈ σ) (hi : i < n) (hz : n ≤ 1000000) (h : Q (.str (S (f i))) σ) : Op2 C VR A σ getItem (.ref a) (.int j) Q := by
  subst hj
  exact g_list hm (by lia) (by lia) (by rw [Int.toNat_natCast, strsV, List.getElem?_map, rowF_at f hi]; rfl) h
noncomputable abbrev DueS (F la : Addr) (ba : Addr) (sums words taken rows k least new number marks : Option V) (cLe cNe cNu cMa cLt : Addr) (σ : Led) : Led :=
  (F, AO.fr ["base", "sums", "words", "taken", "rows", "k"] [some (.ref ba), sums, words, taken, rows, k]) :: (cLe, AO.cell least) :: (cNe, AO.cell new) :: (cNu, AO.cell number) :: (cMa, AO.cell marks) :: (cLt, AO.cell (some (.ref la))) :: σ
theorem due_ {C : Cx} {A : Around} {σ : Led} {Q : V → Led → Prop} (hC : C.Is (Mine.hd.heap_1 C.w.params)) (hA : Fit 14 A) {ba la : Addr} (c : Nat) (hc : c ≤ 6) (b : Nat → Nat) (hb : ∀ i, b i < 2 ^ 40) (ls : List Nat) (hls : ls.length ≤ 100)
    (hba : (ba, AO.list (natsV ((List.range c).map b))) ∈ σ) (hla : (la, AO.list (strsV (ls.map fun c => [c]))) ∈ σ)
    (h : ∀ rl ra, Q (.ref rl) ((rl, AO.list ((List.range (npF (markN ls b c) (2 ^ c))).map fun p => V.ref (ra p))) :: (RwL ra (fun p => (itsF (sumN b c) (markN ls b c) (2 ^ c) p).map pairV) (npF (markN ls b c) (2 ^ c)) ++ σ))) :
    Call C A σ (.ref 207) [.ref ba, .ref la] Q := by
  have h2 : ∀ t, t ≤ c → 2 ^ t ≤ 64 := fun t ht => Nat.le_trans (Nat.pow_le_pow_right (by decide) (show t ≤ 6 by lia)) (by decide)
  have hxb : ∀ t k, sumN b t k ^^^ b t < 16 ^ 100 := fun t k => Nat.lt_of_lt_of_le (Nat.xor_lt_two_pow (sumN_lt b 40 hb t k) (hb t)) (by decide)
  refine' call_fn (n := 13) (ks := ["base", "sums", "words", "taken", "rows", "k"]) (ps := ["base", "letters"]) (bxs := [.ref ba, .ref la]) (cn := ["least", "new", "number", "marks", "letters"]) rfl ?ho hA ?nd ?hcn rfl ?hbind ?h ?c1 ?c2
  case ho =>
    intro s H
    refine ⟨_, H.bg.kin _ _ (show C.K.lookup 207 = some _ from (by rw [hC.isK]; k_is)), rfl, ?_⟩
    refine codeRec_of (K := Mine.hd.heap_1 C.w.params) (hC.isK ▸ H.bg.kin) ?_
    k_is
  (((case nd => decide); (case hcn => rfl); (case c1 => rfl); (case c2 => rfl)))
  case hbind => ((intro s as hk r; refine ⟨as, ?_, r⟩; (repeat (obtain ⟨_, _, e, _, r⟩ := r; subst e)); (first | subst r | skip); exact BindsTo.of_eq rfl))
  case h =>
    intro A₁ F cs hcs
    obtain ⟨cLe, t1, rfl, g1⟩ := cs_c hcs
    obtain ⟨cNe, t2, rfl, g2⟩ := cs_c g1
    obtain ⟨cNu, t3, rfl, g3⟩ := cs_c g2
    obtain ⟨cMa, t4, rfl, g4⟩ := cs_c g3
    obtain ⟨cLt, t5, rfl, g5⟩ := cs_c g4
    cases cs_0 g5
    ((simp only [celled, List.map_cons, List.map_nil, List.cons_append, List.nil_append]))
    show St _ _ _ (storeName _ _) _ _
    walk_at "E.run"
    show St _ _ _ (storeName _ _) _ _
    walk_at "E.run"
    intro A' hA'
    walk_at "E.run"
    refine ⟨by rw [sizeLine_eq]; show 1 ≤ _; lia, fun s0 => ?_⟩
    walk_at "E.run"
    refine ⟨by rw [sizeLine_eq]; show 1 ≤ _; lia, fun w0 => ?_⟩
    walk_at "E.run"
    refine ⟨by rw [sizeLine_eq]; show 1 ≤ _; lia, fun m0 => ?_⟩
    walk_at "E.run"
    refine x_for' ?_
    walk_at "E.run"
    refine it_list (by ((repeat (first | exact List.Mem.head _ | apply List.Mem.tail | assumption)))) fun i0 => ?_
    have e0 : [V.str (Str.ofString "")] = strsV (rowF (fun k => hw (sumN b 0 k)) (2 ^ 0)) := by rw [strsV]; show _ = [V.str (S (hw 0))]; rw [hw_zero]; rfl
    rw [e0]
    refine loop_it (σ' := (s0, AO.list (natsV ((List.range (2 ^ 0)).map (sumN b 0)))) :: (w0, AO.list (strsV (rowF (fun k => hw (sumN b 0 k)) (2 ^ 0)))) :: (m0, AO.list (natsV ((List.range (2 ^ 0)).map (markN ls b 0)))) :: DueS F la ba (some (.ref s0)) (some (.ref w0)) none none none none none none (some (.ref m0)) cLe cNe cNu cMa cLt (σ)) (by ((repeat (first | exact Sb.refl | exact Sb.nil | (apply Sb.take; focus ((repeat (first | exact Pick.head | apply Pick.tail)); done)) | apply Sb.skip)))) (iter_list (l := natsV ((List.range c).map b)) hA'.1)
      (fun t σ' => ∃ sa wa ma u1 u2 u3 u4, σ' = (sa, AO.list (natsV ((List.range (2 ^ t)).map (sumN b t)))) :: (wa, AO.list (strsV (rowF (fun k => hw (sumN b t k)) (2 ^ t)))) :: (ma, AO.list (natsV ((List.range (2 ^ t)).map (markN ls b t)))) :: DueS F la ba (some (.ref sa)) (some (.ref wa)) u1 none none u2 u3 u4 (some (.ref ma)) cLe cNe cNu cMa cLt (σ)) ⟨s0, w0, m0, none, none, none, none, rfl⟩ (by rintro t _ ⟨sa, wa, ma, u1, u2, u3, u4, rfl⟩; ((repeat (first | exact List.Mem.head _ | apply List.Mem.tail | assumption)))) ?_ ?_
    · rintro t y σ' hy ⟨sa, wa, ma, u1, u2, u3, u4, rfl⟩
      have ht : t < c := by have := (List.getElem?_eq_some_iff.mp hy).1; rw [natsR_len] at this; exact this
      have h2t := h2 t (by lia)
      rw [natsV_range b ht] at hy
      cases hy
      walk_at "E.run"
      refine' e_lc (ks := ["total"]) (cn := []) ?nd ?hcn ?hclos ?hk ?hn ?_ ?ht ?hs
      (((case nd => decide); (case hcn => rfl); (case hclos => rfl); (case hk => rfl); (case hn => decide); (case ht => intro _ _; rfl); (case hs => intro _; rfl)))
      walk_at "E.run"
      refine it_list (by walk_at "M.mem") fun i1 => ?_
      intro D1 L1 cs1 hcs1
      cases cs_0 hcs1
      ((simp only [celled, List.map_cons, List.map_nil, List.cons_append, List.nil_append]))
      refine' cloop_map (l := natsV ((List.range (2 ^ t)).map (sumN b t))) (G := fun σ => (sa, AO.list (natsV ((List.range (2 ^ t)).map (sumN b t)))) ∈ σ) (τ := (i0, AO.lit ba (t + 1)) :: (sa, AO.list (natsV ((List.range (2 ^ t)).map (sumN b t)))) :: (wa, AO.list (strsV (rowF (fun k => hw (sumN b t k)) (2 ^ t)))) :: (ma, AO.list (natsV ((List.range (2 ^ t)).map (markN ls b t)))) :: DueS F la ba (some (.ref sa)) (some (.ref wa)) u1 none none u2 u3 (some (.int (b t : Nat))) (some (.ref ma)) cLe cNe cNu cMa cLt (σ)) (fun i => V.str (S (hw (sumN b t i ^^^ b t)))) ?sbc (iter_list (b := sa) hA'.1) ?hG (by rw [natsR_len, sizeLine_eq]; lia) rfl rfl ?_ ?_
      case sbc => ((repeat (first | exact Sb.refl | exact Sb.nil | (apply Sb.take; focus ((repeat (first | exact Pick.head | apply Pick.tail)); done)) | apply Sb.skip)))
      case hG => intro acc u; exact .tail _ (.tail _ (.tail _ (.head _)))
      · intro i y acc hy hacc
        have hi : i < 2 ^ t := by have := (List.getElem?_eq_some_iff.mp hy).1; rw [natsR_len] at this; exact this
        rw [natsV_range _ hi] at hy
        cases hy
        walk_at "E.run"
        refine bin_xor ?_
        walk_at "E.run"
        refine word_ hC (hA'.le (by decide)) _ (by rw [Int.toNat_natCast]; exact hxb t i) ?_
        rw [Int.toNat_natCast]
        exact ⟨rfl, by ((repeat (first | exact Sb.refl | exact Sb.nil | (apply Sb.take; focus ((repeat (first | exact Pick.head | apply Pick.tail)); done)) | apply Sb.skip)))⟩
      intro v1
      refine ⟨[v1], (D1, AO.list (strsV (rowF (fun i => hw (sumN b t i ^^^ b t)) (2 ^ t)))) :: (i0, AO.lit ba (t + 1)) :: (sa, AO.list (natsV ((List.range (2 ^ t)).map (sumN b t)))) :: (wa, AO.list (strsV (rowF (fun k => hw (sumN b t k)) (2 ^ t)))) :: (ma, AO.list (natsV ((List.range (2 ^ t)).map (markN ls b t)))) :: DueS F la ba (some (.ref sa)) (some (.ref wa)) u1 none none u2 u3 (some (.int (b t : Nat))) (some (.ref ma)) cLe cNe cNu cMa cLt (σ), ?_, ?_⟩
      · rw [natsR_len, rangeS (2 ^ t) fun i => hw (sumN b t i ^^^ b t)]
        ((repeat (first | exact Sb.refl | exact Sb.nil | (apply Sb.take; focus ((repeat (first | exact Pick.head | apply Pick.tail)); done)) | apply Sb.skip)))
      walk_at "E.run"
      refine' x_lc (ks := []) (cn := ["k"]) ?nd ?hcn ?hclos ?hk ?hn ?_ ?ht ?hs ?hsw
      (((case nd => decide); (case hcn => rfl); (case hclos => rfl); (case hk => rfl); (case hn => decide); (case ht => intro _ _; rfl); (case hs => intro _; rfl)))
      case hsw => rfl
      walk_at "E.run"
      refine c_len_list (by walk_at "M.mem") (by rw [natsR_len, sizeLine_eq]; lia) ?_
      rw [natsR_len]
      walk_at "E.run"
      refine c_range1 fun r1 => ?_
      refine it_range (by walk_at "M.mem") (by decide) (by decide) (by lia) (by lia) fun r2 => ?_
      rw [er0 (2 ^ t)]
      intro D2 L2 cs2 hcs2
      obtain ⟨cK, rfl⟩ := cs_1 hcs2
      ((simp only [celled, List.map_cons, List.map_nil, List.cons_append, List.nil_append]))
      refine' cloop_ff (fun k => lo ls (sumN b t k ^^^ b t)) (fun k => V.int (markN ls b t k : Nat)) (l := upto 0 (2 ^ t)) (σ' := (cK, AO.cell none) :: (L2, AO.fr [] []) :: (D1, AO.list (strsV (rowF (fun i => hw (sumN b t i ^^^ b t)) (2 ^ t)))) :: (i0, AO.lit ba (t + 1)) :: (sa, AO.list (natsV ((List.range (2 ^ t)).map (sumN b t)))) :: (wa, AO.list (strsV (rowF (fun k => hw (sumN b t k)) (2 ^ t)))) :: (ma, AO.list (natsV ((List.range (2 ^ t)).map (markN ls b t)))) :: DueS F la ba (some (.ref sa)) (some (.ref wa)) u1 none none u2 (some (.ref D1)) (some (.int (b t : Nat))) (some (.ref ma)) cLe cNe cNu cMa cLt (σ)) (range_sb rfl ?sb2) (iter_range hA'.1 (i := 0) (n := 2 ^ t))
        (fun i σ' => ∃ u, σ' = (cK, AO.cell u) :: (L2, AO.fr [] []) :: (D1, AO.list (strsV (rowF (fun i => hw (sumN b t i ^^^ b t)) (2 ^ t)))) :: (i0, AO.lit ba (t + 1)) :: (sa, AO.list (natsV ((List.range (2 ^ t)).map (sumN b t)))) :: (wa, AO.list (strsV (rowF (fun k => hw (sumN b t k)) (2 ^ t)))) :: (ma, AO.list (natsV ((List.range (2 ^ t)).map (markN ls b t)))) :: DueS F la ba (some (.ref sa)) (some (.ref wa)) u1 none none u2 (some (.ref D1)) (some (.int (b t : Nat))) (some (.ref ma)) cLe cNe cNu cMa cLt (σ)) ⟨none, rfl⟩ (fun _ _ _ _ => trivial) (by rw [upto_len, sizeLine_eq]; lia) ?_ ?_
      case sb2 => ((repeat (first | exact Sb.refl | exact Sb.nil | (apply Sb.take; focus ((repeat (first | exact Pick.head | apply Pick.tail)); done)) | apply Sb.skip)))
      · rintro i y acc σ' hy ⟨u, rfl⟩
        obtain ⟨hi, rfl⟩ := upto_get hy
        have e0 : (0 : Int) + (i : Nat) = (i : Nat) := by lia
        rw [e0]
        walk_at "E.run"
        refine' e_lc (ks := ["letter"]) (cn := []) ?nd ?hcn ?hclos ?hk ?hn ?_ ?ht ?hs
        (((case nd => decide); (case hcn => rfl); (case hclos => rfl); (case hk => rfl); (case hn => decide); (case ht => intro _ _; rfl); (case hs => intro _; rfl)))
        walk_at "E.run"
        refine it_list (by ((repeat (first | exact List.Mem.head _ | apply List.Mem.tail | assumption)))) fun i3 => ?_
        intro D3 L3 cs3 hcs3
        cases cs_0 hcs3
        ((simp only [celled, List.map_cons, List.map_nil, List.cons_append, List.nil_append]))
        refine' cloop_fmap (l := strsV (ls.map fun c => [c])) (G := fun σ => (la, AO.list (strsV (ls.map fun c => [c]))) ∈ σ) (τ := (r2, AO.rit (0 + ((i + 1 : Nat) : Int)) (((2 ^ t : Nat) : Int) - ((i + 1 : Nat) : Int))) :: (D2, AO.list acc) :: (cK, AO.cell (some (.int (i : Nat)))) :: (L2, AO.fr [] []) :: (D1, AO.list (strsV (rowF (fun i => hw (sumN b t i ^^^ b t)) (2 ^ t)))) :: (i0, AO.lit ba (t + 1)) :: (sa, AO.list (natsV ((List.range (2 ^ t)).map (sumN b t)))) :: (wa, AO.list (strsV (rowF (fun k => hw (sumN b t k)) (2 ^ t)))) :: (ma, AO.list (natsV ((List.range (2 ^ t)).map (markN ls b t)))) :: DueS F la ba (some (.ref sa)) (some (.ref wa)) u1 none none u2 (some (.ref D1)) (some (.int (b t : Nat))) (some (.ref ma)) cLe cNe cNu cMa cLt (σ))
          (fun i' => decide (ls.getD i' 0 ∈ hw (sumN b t i ^^^ b t))) (fun i' => V.str (S [ls.getD i' 0])) ?sb3 (iter_list (b := la) hA'.1) ?hG3 (by rw [strsV_len, List.length_map, sizeLine_eq]; lia) rfl rfl ?_ ?_ ?_
        case sb3 => ((repeat (first | exact Sb.refl | exact Sb.nil | (apply Sb.take; focus ((repeat (first | exact Pick.head | apply Pick.tail)); done)) | apply Sb.skip)))
        case hG3 => intro acc u'; exact .tail _ (.tail _ (by ((repeat (first | exact List.Mem.head _ | apply List.Mem.tail | assumption)))))
        · intro j y acc' X hy
          obtain ⟨cl, hcl, rfl⟩ := strsV_at hy
          rw [List.getElem?_map] at hcl
          obtain ⟨c, hc, rfl⟩ := Option.map_eq_some_iff.mp hcl
          walk_at "E.run"
          refine rowF_get rfl (by walk_at "M.mem") hi (by lia) ?_
          walk_at "E.run"
          refine cmp_in1 ?_
          walk_at "E.run"
          exact ⟨by rw [List.getD_eq_getElem?_getD, hc]; rfl, by ((repeat (first | exact Sb.refl | exact Sb.nil | (apply Sb.take; focus ((repeat (first | exact Pick.head | apply Pick.tail)); done)) | apply Sb.skip)))⟩
        · intro j y acc' X hy hp ha
          obtain ⟨cl, hcl, rfl⟩ := strsV_at hy
          rw [List.getElem?_map] at hcl
          obtain ⟨c, hc, rfl⟩ := Option.map_eq_some_iff.mp hcl
          walk_at "E.run"
          exact ⟨by rw [List.getD_eq_getElem?_getD, hc]; rfl, by ((repeat (first | exact Sb.refl | exact Sb.nil | (apply Sb.take; focus ((repeat (first | exact Pick.head | apply Pick.tail)); done)) | apply Sb.skip)))⟩
        intro u3
        refine ⟨[u3], (D3, AO.list (((List.range (strsV (ls.map fun c => [c])).length).filter fun i' => decide (ls.getD i' 0 ∈ hw (sumN b t i ^^^ b t))).map fun i' => V.str (S [ls.getD i' 0]))) :: (r2, AO.rit (0 + ((i + 1 : Nat) : Int)) (((2 ^ t : Nat) : Int) - ((i + 1 : Nat) : Int))) :: (D2, AO.list acc) :: (cK, AO.cell (some (.int (i : Nat)))) :: (L2, AO.fr [] []) :: (D1, AO.list (strsV (rowF (fun i => hw (sumN b t i ^^^ b t)) (2 ^ t)))) :: (i0, AO.lit ba (t + 1)) :: (sa, AO.list (natsV ((List.range (2 ^ t)).map (sumN b t)))) :: (wa, AO.list (strsV (rowF (fun k => hw (sumN b t k)) (2 ^ t)))) :: (ma, AO.list (natsV ((List.range (2 ^ t)).map (markN ls b t)))) :: DueS F la ba (some (.ref sa)) (some (.ref wa)) u1 none none u2 (some (.ref D1)) (some (.int (b t : Nat))) (some (.ref ma)) cLe cNe cNu cMa cLt (σ), by ((repeat (first | exact Sb.refl | exact Sb.nil | (apply Sb.take; focus ((repeat (first | exact Pick.head | apply Pick.tail)); done)) | apply Sb.skip))), ?_⟩
        walk_at "E.run"
        refine ⟨by rw [sizeLine_eq]; decide, fun l0 => ?_⟩
        refine cmp_lnnil (hA'.le (by decide)) (a := D3) (b := l0) (by walk_at "M.mem") (by walk_at "M.mem") ?_
        rw [strsV_len, List.length_map, List.isEmpty_map]
        walk_at "E.run"
        refine ⟨rfl, fun hp => ?_, fun hp => ?_⟩
        · walk_at "E.run"
          refine g_natsR rfl (by walk_at "M.mem") hi (by lia) ?_
          exact ⟨rfl, _, by ((repeat (first | exact Sb.refl | exact Sb.nil | (apply Sb.take; focus ((repeat (first | exact Pick.head | apply Pick.tail)); done)) | apply Sb.skip))), _, rfl⟩
        · exact ⟨_, by ((repeat (first | exact Sb.refl | exact Sb.nil | (apply Sb.take; focus ((repeat (first | exact Pick.head | apply Pick.tail)); done)) | apply Sb.skip))), _, rfl⟩
      rintro σ' ⟨u5, rfl⟩
      rw [upto_len, show ((List.range (2 ^ t)).filter fun k => lo ls (sumN b t k ^^^ b t)).map (fun k => V.int (markN ls b t k : Nat)) = natsV (takN ls b t) by rw [takN, natsV, List.map_map]; rfl]
      walk_at "E.run"
      refine ⟨[], (D2, AO.list (natsV (takN ls b t))) :: (D1, AO.list (strsV (rowF (fun i => hw (sumN b t i ^^^ b t)) (2 ^ t)))) :: (i0, AO.lit ba (t + 1)) :: (sa, AO.list (natsV ((List.range (2 ^ t)).map (sumN b t)))) :: (wa, AO.list (strsV (rowF (fun k => hw (sumN b t k)) (2 ^ t)))) :: (ma, AO.list (natsV ((List.range (2 ^ t)).map (markN ls b t)))) :: DueS F la ba (some (.ref sa)) (some (.ref wa)) (some (.ref D2)) none none u2 (some (.ref D1)) (some (.int (b t : Nat))) (some (.ref ma)) cLe cNe cNu cMa cLt (σ), by ((repeat (first | exact Sb.refl | exact Sb.nil | (apply Sb.take; focus ((repeat (first | exact Pick.head | apply Pick.tail)); done)) | apply Sb.skip))), ?_⟩
      walk_at "E.run"
      have hmx := mexN_is (takN ls b t)
      refine X.next (R := fun σ'' => Sb ((D2, AO.list (natsV (takN ls b t))) :: (D1, AO.list (strsV (rowF (fun i => hw (sumN b t i ^^^ b t)) (2 ^ t)))) :: (i0, AO.lit ba (t + 1)) :: (sa, AO.list (natsV ((List.range (2 ^ t)).map (sumN b t)))) :: (wa, AO.list (strsV (rowF (fun k => hw (sumN b t k)) (2 ^ t)))) :: (ma, AO.list (natsV ((List.range (2 ^ t)).map (markN ls b t)))) :: DueS F la ba (some (.ref sa)) (some (.ref wa)) (some (.ref D2)) none none (some (.int (mexN (takN ls b t) : Nat))) (some (.ref D1)) (some (.int (b t : Nat))) (some (.ref ma)) cLe cNe cNu cMa cLt (σ)) σ'') (x_while (fun m σ'' => ∃ i, m = mexN (takN ls b t) - i ∧ i ≤ mexN (takN ls b t) ∧ σ'' = (D2, AO.list (natsV (takN ls b t))) :: (D1, AO.list (strsV (rowF (fun i => hw (sumN b t i ^^^ b t)) (2 ^ t)))) :: (i0, AO.lit ba (t + 1)) :: (sa, AO.list (natsV ((List.range (2 ^ t)).map (sumN b t)))) :: (wa, AO.list (strsV (rowF (fun k => hw (sumN b t k)) (2 ^ t)))) :: (ma, AO.list (natsV ((List.range (2 ^ t)).map (markN ls b t)))) :: DueS F la ba (some (.ref sa)) (some (.ref wa)) (some (.ref D2)) none none (some (.int (i : Nat))) (some (.ref D1)) (some (.int (b t : Nat))) (some (.ref ma)) cLe cNe cNu cMa cLt (σ)) (mexN (takN ls b t)) ⟨0, rfl, Nat.zero_le _, rfl⟩ ?_) ?_
      · rintro m σ'' ⟨i, rfl, hi, rfl⟩
        walk_at "E.run"
        refine cmp_inI (ns := (takN ls b t).map fun (y : Nat) => (y : Int)) (by rw [natsV_cast]; walk_at "M.mem") ?_
        rw [any_mem]
        walk_at "E.run"
        by_cases him : i ∈ takN ls b t
        · rw [if_pos (by simpa using him)]
          walk_at "E.run"
          have : i ≠ mexN (takN ls b t) := fun e => hmx.1 (e ▸ him)
          exact ⟨mexN (takN ls b t) - (i + 1), by lia, i + 1, rfl, by lia, rfl⟩
        · rw [if_neg (by simpa using him)]
          have : i = mexN (takN ls b t) := by
            rcases Nat.lt_or_ge i (mexN (takN ls b t)) with q | q
            · exact absurd (hmx.2 i q) him
            · lia
          rw [← this]
          exact .refl
      · intro σ'' sb
        refine Xs.sb sb ?_
        refine xs_cons ?_
        walk_at "E.run"
        refine' e_lc (ks := ["total"]) (cn := []) ?nd ?hcn ?hclos ?hk ?hn ?_ ?ht ?hs
        (((case nd => decide); (case hcn => rfl); (case hclos => rfl); (case hk => rfl); (case hn => decide); (case ht => intro _ _; rfl); (case hs => intro _; rfl)))
        walk_at "E.run"
        refine it_list (by walk_at "M.mem") fun i4 => ?_
        intro D4 L4 cs4 hcs4
        cases cs_0 hcs4
        ((simp only [celled, List.map_cons, List.map_nil, List.cons_append, List.nil_append]))
        refine' cloop_map (l := natsV ((List.range (2 ^ t)).map (sumN b t))) (G := fun σ => (sa, AO.list (natsV ((List.range (2 ^ t)).map (sumN b t)))) ∈ σ) (τ := (D1, AO.list (strsV (rowF (fun i => hw (sumN b t i ^^^ b t)) (2 ^ t)))) :: (D2, AO.list (natsV (takN ls b t))) :: (i0, AO.lit ba (t + 1)) :: (sa, AO.list (natsV ((List.range (2 ^ t)).map (sumN b t)))) :: (wa, AO.list (strsV (rowF (fun k => hw (sumN b t k)) (2 ^ t)))) :: (ma, AO.list (natsV ((List.range (2 ^ t)).map (markN ls b t)))) :: DueS F la ba (some (.ref sa)) (some (.ref wa)) (some (.ref D2)) none none (some (.int (mexN (takN ls b t) : Nat))) (some (.ref D1)) (some (.int (b t : Nat))) (some (.ref ma)) cLe cNe cNu cMa cLt (σ)) (fun i => V.int (sumN b t i ^^^ b t : Nat)) ?sbc4 (iter_list (b := sa) hA'.1) ?hG4 (by rw [natsR_len, sizeLine_eq]; lia) rfl rfl ?_ ?_
        case sbc4 => ((repeat (first | exact Sb.refl | exact Sb.nil | (apply Sb.take; focus ((repeat (first | exact Pick.head | apply Pick.tail)); done)) | apply Sb.skip)))
        case hG4 => intro acc u; walk_at "M.mem"
        · intro i y acc hy hacc
          have hi : i < 2 ^ t := by have := (List.getElem?_eq_some_iff.mp hy).1; rw [natsR_len] at this; exact this
          rw [natsV_range _ hi] at hy
          cases hy
          walk_at "E.run"
          refine bin_xor ?_
          exact ⟨rfl, by ((repeat (first | exact Sb.refl | exact Sb.nil | (apply Sb.take; focus ((repeat (first | exact Pick.head | apply Pick.tail)); done)) | apply Sb.skip)))⟩
        intro v4
        refine ⟨[v4], (D4, AO.list (natsV ((List.range (2 ^ t)).map fun i => sumN b t i ^^^ b t))) :: (D1, AO.list (strsV (rowF (fun i => hw (sumN b t i ^^^ b t)) (2 ^ t)))) :: (D2, AO.list (natsV (takN ls b t))) :: (i0, AO.lit ba (t + 1)) :: (sa, AO.list (natsV ((List.range (2 ^ t)).map (sumN b t)))) :: (wa, AO.list (strsV (rowF (fun k => hw (sumN b t k)) (2 ^ t)))) :: (ma, AO.list (natsV ((List.range (2 ^ t)).map (markN ls b t)))) :: DueS F la ba (some (.ref sa)) (some (.ref wa)) (some (.ref D2)) none none (some (.int (mexN (takN ls b t) : Nat))) (some (.ref D1)) (some (.int (b t : Nat))) (some (.ref ma)) cLe cNe cNu cMa cLt (σ), ?_, ?_⟩
        · rw [natsR_len, rangeV (2 ^ t) fun i => sumN b t i ^^^ b t]
          ((repeat (first | exact Sb.refl | exact Sb.nil | (apply Sb.take; focus ((repeat (first | exact Pick.head | apply Pick.tail)); done)) | apply Sb.skip)))
        refine bin_ladd (a := sa) (b := D4) (by walk_at "M.mem") (by walk_at "M.mem") (by rw [natsR_len, natsR_len, sizeLine_eq]; lia) fun sb' => ?_
        rw [natsR_dbl]
        walk_at "E.run"
        refine bin_ladd (a := wa) (b := D1) (by walk_at "M.mem") (by walk_at "M.mem") (by rw [strsV_len, strsV_len, rowF_len, rowF_len, sizeLine_eq]; lia) fun wb' => ?_
        have ecw : strsV (rowF (fun k => hw (sumN b t k)) (2 ^ t)) ++ strsV (rowF (fun i => hw (sumN b t i ^^^ b t)) (2 ^ t)) = strsV (rowF (fun k => hw (sumN b (t + 1) k)) (2 ^ (t + 1))) := by
          rw [strsV_app, show 2 ^ (t + 1) = 2 ^ t + 2 ^ t by rw [Nat.pow_succ]; lia, rowF_add]
          congr 2
          · exact List.map_congr_left fun k hk => by rw [sumN, dbl, if_pos (List.mem_range.mp hk)]
          · exact List.map_congr_left fun k hk => by rw [sumN, dbl_hi]
        rw [ecw]
        walk_at "E.run"
        refine' e_lc (ks := ["mark"]) (cn := []) ?nd ?hcn ?hclos ?hk ?hn ?_ ?ht ?hs
        (((case nd => decide); (case hcn => rfl); (case hclos => rfl); (case hk => rfl); (case hn => decide); (case ht => intro _ _; rfl); (case hs => intro _; rfl)))
        walk_at "E.run"
        refine it_list (by walk_at "M.mem") fun i5 => ?_
        intro D5 L5 cs5 hcs5
        cases cs_0 hcs5
        ((simp only [celled, List.map_cons, List.map_nil, List.cons_append, List.nil_append]))
        refine' cloop_map (l := natsV ((List.range (2 ^ t)).map (markN ls b t))) (G := fun σ => (ma, AO.list (natsV ((List.range (2 ^ t)).map (markN ls b t)))) ∈ σ) (τ := (sb', AO.list (natsV ((List.range (2 ^ t + 2 ^ t)).map (dbl (2 ^ t) (sumN b t) (b t))))) :: (wb', AO.list (strsV (rowF (fun k => hw (sumN b (t + 1) k)) (2 ^ (t + 1))))) :: (ma, AO.list (natsV ((List.range (2 ^ t)).map (markN ls b t)))) :: (D1, AO.list (strsV (rowF (fun i => hw (sumN b t i ^^^ b t)) (2 ^ t)))) :: (D2, AO.list (natsV (takN ls b t))) :: (i0, AO.lit ba (t + 1)) :: DueS F la ba (some (.ref sb')) (some (.ref wb')) (some (.ref D2)) none none (some (.int (mexN (takN ls b t) : Nat))) (some (.ref D1)) (some (.int (b t : Nat))) (some (.ref ma)) cLe cNe cNu cMa cLt (σ)) (fun i => V.int (markN ls b t i ^^^ mexN (takN ls b t) : Nat)) ?sbc5 (iter_list (b := ma) hA'.1) ?hG5 (by rw [natsR_len, sizeLine_eq]; lia) rfl rfl ?_ ?_
        case sbc5 => ((repeat (first | exact Sb.refl | exact Sb.nil | (apply Sb.take; focus ((repeat (first | exact Pick.head | apply Pick.tail)); done)) | apply Sb.skip)))
        case hG5 => intro acc u; walk_at "M.mem"
        · intro i y acc hy hacc
          have hi : i < 2 ^ t := by have := (List.getElem?_eq_some_iff.mp hy).1; rw [natsR_len] at this; exact this
          rw [natsV_range _ hi] at hy
          cases hy
          walk_at "E.run"
          refine bin_xor ?_
          exact ⟨rfl, by ((repeat (first | exact Sb.refl | exact Sb.nil | (apply Sb.take; focus ((repeat (first | exact Pick.head | apply Pick.tail)); done)) | apply Sb.skip)))⟩
        intro v5
        refine ⟨[v5], (D5, AO.list (natsV ((List.range (2 ^ t)).map fun i => markN ls b t i ^^^ mexN (takN ls b t)))) :: (sb', AO.list (natsV ((List.range (2 ^ t + 2 ^ t)).map (dbl (2 ^ t) (sumN b t) (b t))))) :: (wb', AO.list (strsV (rowF (fun k => hw (sumN b (t + 1) k)) (2 ^ (t + 1))))) :: (ma, AO.list (natsV ((List.range (2 ^ t)).map (markN ls b t)))) :: (D1, AO.list (strsV (rowF (fun i => hw (sumN b t i ^^^ b t)) (2 ^ t)))) :: (D2, AO.list (natsV (takN ls b t))) :: (i0, AO.lit ba (t + 1)) :: DueS F la ba (some (.ref sb')) (some (.ref wb')) (some (.ref D2)) none none (some (.int (mexN (takN ls b t) : Nat))) (some (.ref D1)) (some (.int (b t : Nat))) (some (.ref ma)) cLe cNe cNu cMa cLt (σ), ?_, ?_⟩
        · rw [natsR_len, rangeV (2 ^ t) fun i => markN ls b t i ^^^ mexN (takN ls b t)]
          ((repeat (first | exact Sb.refl | exact Sb.nil | (apply Sb.take; focus ((repeat (first | exact Pick.head | apply Pick.tail)); done)) | apply Sb.skip)))
        refine bin_ladd (a := ma) (b := D5) (by walk_at "M.mem") (by walk_at "M.mem") (by rw [natsR_len, natsR_len, sizeLine_eq]; lia) fun mb' => ?_
        rw [natsR_dbl]
        walk_at "E.run"
        refine ⟨_, ?_, sb', wb', mb', some (.ref D2), some (.int (mexN (takN ls b t) : Nat)), some (.ref D1), some (.int (b t : Nat)), rfl⟩
        rw [show (2 : Nat) ^ (t + 1) = 2 ^ t + 2 ^ t by rw [Nat.pow_succ]; lia]
        ((repeat (first | exact Sb.refl | exact Sb.nil | (apply Sb.take; focus ((repeat (first | exact Pick.head | apply Pick.tail)); done)) | apply Sb.skip)))
    rintro σ' ⟨sa, wa, ma, u1, u2, u3, u4, rfl⟩
    rw [natsR_len]
    walk_at "E.run"
    have h2c := h2 c (Nat.le_refl c)
    refine' x_lc (ks := ["mark"]) (cn := []) ?nd ?hcn ?hclos ?hk ?hn ?_ ?ht ?hs ?hsw
    (((case nd => decide); (case hcn => rfl); (case hclos => rfl); (case hk => rfl); (case hn => decide); (case ht => intro _ _; rfl); (case hs => intro _; rfl)))
    case hsw => rfl
    walk_at "E.run"
    have hpos : 0 < 2 ^ c := Nat.pow_pos (by decide)
    refine c_max (ns := ((List.range (2 ^ c)).map (markN ls b c)).map fun (y : Nat) => (y : Int)) hA'.1 (by rw [natsV_cast]; walk_at "M.mem") (by simp [hpos]) fun mx hmem hle => ?_
    obtain ⟨m', hm', rfl⟩ := List.mem_map.mp hmem
    obtain ⟨j0, hj0, ej0⟩ := List.mem_map.mp hm'
    have hnp := npF_max (markN ls b c) m' (2 ^ c) (fun j hj => by have := hle _ (List.mem_map.mpr ⟨_, List.mem_map.mpr ⟨j, List.mem_range.mpr hj, rfl⟩, rfl⟩); lia) ⟨j0, List.mem_range.mp hj0, ej0⟩
    have hnpl := (npF_le (mark_code ls b c) (2 ^ c) (Nat.le_refl _)).1
    walk_at "E.run"
    refine c_range1 fun r7 => ?_
    refine it_range (by walk_at "M.mem") (by decide) (by decide) (by lia) (by lia) fun r8 => ?_
    rw [er1 m', ← hnp]
    intro D6 L6 cs6 hcs6
    cases cs_0 hcs6
    ((simp only [celled, List.map_cons, List.map_nil, List.cons_append, List.nil_append]))
    refine' cloop_rangeJ (n := npF (markN ls b c) (2 ^ c)) (σ' := (L6, AO.fr ["mark"] [none]) :: (sa, AO.list (natsV ((List.range (2 ^ c)).map (sumN b c)))) :: (wa, AO.list (strsV (rowF (fun k => hw (sumN b c k)) (2 ^ c)))) :: (ma, AO.list (natsV ((List.range (2 ^ c)).map (markN ls b c)))) :: DueS F la ba (some (.ref sa)) (some (.ref wa)) u1 none none u2 u3 u4 (some (.ref ma)) cLe cNe cNu cMa cLt (σ)) rfl hA'.1 ?sb6 (by rw [sizeLine_eq]; lia)
      (fun i acc σ' => ∃ ra u, acc = (List.range i).map (fun p => V.ref (ra p)) ∧ σ' = (L6, AO.fr ["mark"] [u]) :: (sa, AO.list (natsV ((List.range (2 ^ c)).map (sumN b c)))) :: (wa, AO.list (strsV (rowF (fun k => hw (sumN b c k)) (2 ^ c)))) :: (ma, AO.list (natsV ((List.range (2 ^ c)).map (markN ls b c)))) :: DueS F la ba (some (.ref sa)) (some (.ref wa)) u1 none none u2 u3 u4 (some (.ref ma)) cLe cNe cNu cMa cLt (RwL ra (fun _ => []) i ++ σ)) ⟨fun _ => 0, none, rfl, rfl⟩ ?_ ?_
    case sb6 => ((repeat (first | exact Sb.refl | exact Sb.nil | (apply Sb.take; focus ((repeat (first | exact Pick.head | apply Pick.tail)); done)) | apply Sb.skip)))
    · rintro i X acc σ' hi hacc ⟨ra, u, rfl, rfl⟩
      walk_at "E.run"
      refine ⟨by rw [sizeLine_eq]; decide, fun xa => ?_⟩
      refine ⟨_, ?_, fun p => if p = i then xa else ra p, some (.int (i : Nat)), (refs_new xa).symm, rfl⟩
      rw [RwL_new xa [] rfl, List.cons_append]
      ((repeat (first | exact Sb.refl | exact Sb.nil | (apply Sb.take; focus ((repeat (first | exact Pick.head | apply Pick.tail)); done)) | apply Sb.skip)))
    rintro acc σ' ⟨ra, u, rfl, rfl⟩
    walk_at "E.run"
    refine ⟨[u], (D6, AO.list ((List.range (npF (markN ls b c) (2 ^ c))).map fun p => V.ref (ra p))) :: (sa, AO.list (natsV ((List.range (2 ^ c)).map (sumN b c)))) :: (wa, AO.list (strsV (rowF (fun k => hw (sumN b c k)) (2 ^ c)))) :: (ma, AO.list (natsV ((List.range (2 ^ c)).map (markN ls b c)))) :: DueS F la ba (some (.ref sa)) (some (.ref wa)) u1 (some (.ref D6)) none u2 u3 u4 (some (.ref ma)) cLe cNe cNu cMa cLt (RwL ra (fun _ => []) (npF (markN ls b c) (2 ^ c)) ++ σ), by ((repeat (first | exact Sb.refl | exact Sb.nil | (apply Sb.take; focus ((repeat (first | exact Pick.head | apply Pick.tail)); done)) | apply Sb.skip))), ?_⟩
    walk_at "E.run"
    refine x_for' ?_
    walk_at "E.run"
    refine c_len_list (by walk_at "M.mem") (by rw [strsV_len, rowF_len, sizeLine_eq]; lia) ?_
    rw [strsV_len, rowF_len]
    walk_at "E.run"
    refine c_range1 fun r9 => ?_
    refine it_range (by walk_at "M.mem") (by decide) (by decide) (by lia) (by lia) fun ra0 => ?_
    rw [er0 (2 ^ c), show RwL ra (fun _ => []) (npF (markN ls b c) (2 ^ c)) = RwL ra (fun p => (itsF (sumN b c) (markN ls b c) 0 p).map pairV) (npF (markN ls b c) (2 ^ c)) from RwL_congr fun _ _ => ⟨rfl, rfl⟩]
    refine' loop_rangeX (n := 2 ^ c) (σ' := (D6, AO.list ((List.range (npF (markN ls b c) (2 ^ c))).map fun p => V.ref (ra p))) :: (sa, AO.list (natsV ((List.range (2 ^ c)).map (sumN b c)))) :: (wa, AO.list (strsV (rowF (fun k => hw (sumN b c k)) (2 ^ c)))) :: (ma, AO.list (natsV ((List.range (2 ^ c)).map (markN ls b c)))) :: DueS F la ba (some (.ref sa)) (some (.ref wa)) u1 (some (.ref D6)) none u2 u3 u4 (some (.ref ma)) cLe cNe cNu cMa cLt (RwL ra (fun p => (itsF (sumN b c) (markN ls b c) 0 p).map pairV) (npF (markN ls b c) (2 ^ c)) ++ σ)) ?sb7 rfl hA'.1 (fun k σ' => ∃ u7, σ' = (D6, AO.list ((List.range (npF (markN ls b c) (2 ^ c))).map fun p => V.ref (ra p))) :: (sa, AO.list (natsV ((List.range (2 ^ c)).map (sumN b c)))) :: (wa, AO.list (strsV (rowF (fun k => hw (sumN b c k)) (2 ^ c)))) :: (ma, AO.list (natsV ((List.range (2 ^ c)).map (markN ls b c)))) :: DueS F la ba (some (.ref sa)) (some (.ref wa)) u1 (some (.ref D6)) u7 u2 u3 u4 (some (.ref ma)) cLe cNe cNu cMa cLt (RwL ra (fun p => (itsF (sumN b c) (markN ls b c) k p).map pairV) (npF (markN ls b c) (2 ^ c)) ++ σ)) ⟨_, rfl⟩ ?_ ?_
    case sb7 => ((repeat (first | exact Sb.refl | exact Sb.nil | (apply Sb.take; focus ((repeat (first | exact Pick.head | apply Pick.tail)); done)) | apply Sb.skip)))
    · rintro k X σ' hk ⟨u7, rfl⟩
      have hlt := npF_lt (markN ls b c) (2 ^ c) k hk
      have hpm := RwL_mem (ra := ra) (it := fun p => (itsF (sumN b c) (markN ls b c) k p).map pairV) (σ := σ) hlt
      have hpm : (ra (markN ls b c k), AO.list ((itsF (sumN b c) (markN ls b c) k (markN ls b c k)).map pairV)) ∈ _ := hpm
      have hup : LU (ra (markN ls b c k)) (AO.list ((itsF (sumN b c) (markN ls b c) k (markN ls b c k)).map pairV)) (AO.list ((itsF (sumN b c) (markN ls b c) k (markN ls b c k)).map pairV ++ [.tup [.str (S (ws3 (sumN b c k))), .str (S (hw (sumN b c k)))]])) (RwL ra (fun p => (itsF (sumN b c) (markN ls b c) k p).map pairV) (npF (markN ls b c) (2 ^ c)) ++ σ) (RwL ra (fun p => (itsF (sumN b c) (markN ls b c) (k + 1) p).map pairV) (npF (markN ls b c) (2 ^ c)) ++ σ) := by
        have hu := RwL_upd (ra := ra) (it := fun p => (itsF (sumN b c) (markN ls b c) k p).map pairV) (it' := fun p => (itsF (sumN b c) (markN ls b c) (k + 1) p).map pairV) (σ := σ) hlt fun j _ hj => by show List.map pairV _ = List.map pairV _; rw [itsF_succ, if_neg hj]
        have e : (itsF (sumN b c) (markN ls b c) (k + 1) (markN ls b c k)).map pairV = (itsF (sumN b c) (markN ls b c) k (markN ls b c k)).map pairV ++ [.tup [.str (S (ws3 (sumN b c k))), .str (S (hw (sumN b c k)))]] := by rw [itsF_succ, if_pos rfl, List.map_append]; rfl
        rw [← e]; exact hu
      have hll : (itsF (sumN b c) (markN ls b c) k (markN ls b c k)).length ≤ k := by rw [itsF, List.length_map]; exact idxF_len _ _ _
      walk_at "E.run"
      refine g_natsR rfl (by walk_at "M.mem") hk (by lia) ?_
      walk_at "E.run"
      refine g_refs rfl (by walk_at "M.mem") hlt (by lia) ?_
      refine m_append (by ((repeat (first | exact List.Mem.head _ | apply List.Mem.tail | assumption)))) ?_
      walk_at "E.run"
      refine g_natsR rfl (by walk_at "M.mem") hk (by lia) ?_
      walk_at "E.run"
      refine ⟨_, _, .none, .int, fun sl => ?_⟩
      walk_at "E.run"
      refine g_str_slice (by decide) ?_
      rw [show Str.ofString " \t" = S [32, 9] from rfl, slice3]
      walk_at "E.run"
      refine rowF_get rfl (by walk_at "M.mem") hk (by lia) ?_
      walk_at "E.run"
      refine ⟨by rw [sizeLine_eq]; show 2 ≤ _; lia, ?_⟩
      walk_at "E.run"
      refine c_append (by ((repeat (first | exact LU.head | apply LU.tail | assumption)))) (by rw [List.length_map, sizeLine_eq]; lia) ?_
      walk_at "E.run"
      exact ⟨_, by ((repeat (first | exact Sb.refl | exact Sb.nil | (apply Sb.take; focus ((repeat (first | exact Pick.head | apply Pick.tail)); done)) | apply Sb.skip))), _, rfl⟩
    rintro σ' ⟨u7, rfl⟩
    walk_at "E.run"
    exact ⟨_, by ((repeat (first | exact Sb.refl | exact Sb.nil | (apply Sb.take; focus ((repeat (first | exact Pick.head | apply Pick.tail)); done)) | apply Sb.skip))), h D6 ra⟩
theorem occ_go (x : List Nat) (c : Nat) : ∀ (m i : Nat) (st : Array Nat × Nat), i + m = x.length + 1 → st.2 ≤ i → st.1.size ≤ i →
    (forIn (List.range' i m) st (PySem.StrLaws.occBody (S x) ⟨#[c]⟩ (S x).length ((S x).length + 1))).run.fst.size = st.1.size + (x.drop i).count c
  | 0, i, st, h, _, _ => by
    have : x.drop i = [] := List.drop_eq_nil_of_le (by lia)
    rw [this]; rfl
  | m + 1, i, st, h, h1, h2 => by
    rw [List.range'_succ, List.forIn_cons]
    unfold PySem.StrLaws.occBody
    have key := PySem.StrLaws.subAt_one (S x) c i
    rw [S_cps] at key
    by_cases hx : x[i]? = some c
    · have k := key.mpr hx
      have hi : i < x.length := (List.getElem?_eq_some_iff.mp hx).1
      rw [if_pos ⟨⟨⟨by rw [S_len]; lia, h1⟩, k.1⟩, k.2⟩]
      have := occ_go x c m (i + 1) (st.1.push i, i + 1) (by lia) (Nat.le_refl _) (by rw [Array.size_push]; lia)
      show (forIn (List.range' (i + 1) m) (st.1.push i, i + (⟨#[c]⟩ : Str).length) (PySem.StrLaws.occBody (S x) ⟨#[c]⟩ (S x).length ((S x).length + 1))).run.fst.size = _
      rw [show i + (⟨#[c]⟩ : Str).length = i + 1 from rfl, this, Array.size_push, drop_some hx, List.count_cons_self]; lia
    · rw [if_neg fun q => hx (key.mp ⟨q.1.2, q.2⟩)]
      have := occ_go x c m (i + 1) st (by lia) (by lia) (by lia)
      show (forIn (List.range' (i + 1) m) (st.1, st.2) (PySem.StrLaws.occBody (S x) ⟨#[c]⟩ (S x).length ((S x).length + 1))).run.fst.size = _
      rw [this]
      cases e : x[i]? with
      | none => rw [drop_none e, List.drop_eq_nil_of_le (by have := List.getElem?_eq_none_iff.mp e; lia)]
      | some d =>
        rw [drop_some e, List.count_cons]
        have : (d == c) = false := by rw [beq_eq_false_iff_ne]; intro q; exact hx (by rw [e, q])
        rw [this]; simp
theorem occ_count (x : List Nat) (c : Nat) : (Builtin.Str.occurrences (S x) (S [c]) 0 (S x).length ((S x).length + 1)).length = x.count c := by
  rw [PySem.StrLaws.occ_eq, Array.length_toList]
  have := occ_go x c (x.length + 1) 0 (#[], 0) (by lia) (Nat.le_refl _) (Nat.le_refl _)
  rw [S_len] at this ⊢
  rw [show S [c] = ⟨#[c]⟩ from rfl]
  simpa using this
theorem nls_count (x : List Nat) : ∀ k, nls x 0 k = ((x.take k).count 10 : Nat)
  | 0 => by simp [nls]
  | k + 1 => by
    rw [nls, nls_count x k, Nat.zero_add, List.take_add_one, List.count_append]
    cases e : x[k]? with
    | none => simp
    | some c =>
      by_cases h : c = 10
      · subst h; simp
      · simp [h]
theorem nls_all (x : List Nat) (k : Nat) (h : x.length ≤ k) : nls x 0 k = (x.count 10 : Nat) := by
  rw [nls_count, List.take_of_length_le h]
noncomputable def Ltr (w : List Nat) : Prop := ∀ c ∈ w, 65 ≤ c ∧ c < 81
theorem ltr_ws {c : Nat} (h : 65 ≤ c ∧ c < 81) : isWs c = false := by
  unfold isWs; rw [decide_eq_false_iff_not]; simp; lia
theorem qd_plain : ∀ (w r : List Nat), Ltr w → qd (w ++ 34 :: r) = (w, w.length + 1)
  | [], r, _ => by simp [qd]
  | c :: w, r, h => by
    have hc := h c (.head _)
    have ih := qd_plain w r fun d hd => h d (.tail _ hd)
    rw [List.cons_append, qd]
    · rw [if_neg (by lia), ih]; rfl
    · intro e _; lia
    · intro d r' e _; lia
theorem bd_bare (k : Nat) (hk : k = 0 ∨ k = 1) (e : Nat) (he : isWs e = true) : ∀ (w r : List Nat), Ltr w → bd ((w.map fun c => reps k [92] ++ [c]).flatten ++ e :: r) = (w, ((w.map fun c => reps k [92] ++ [c]).flatten).length + 1)
  | [], r, _ => by
    simp only [List.map_nil, List.flatten_nil, List.nil_append]
    rw [bd]
    · rw [if_pos he]; rfl
    · intro q _; subst q; revert he; decide
    · intro d r' q _; subst q; revert he; decide
  | c :: w, r, h => by
    have hc := h c (.head _)
    have ih := bd_bare k hk e he w r fun d hd => h d (.tail _ hd)
    rw [List.map_cons, List.flatten_cons, List.append_assoc]
    rcases hk with rfl | rfl
    · show bd (c :: ((w.map fun c => reps 0 [92] ++ [c]).flatten ++ e :: r)) = _
      rw [bd]
      · rw [ltr_ws hc, ih]; simp [reps]
      · intro q _; lia
      · intro d r' q _; lia
    · show bd (92 :: c :: ((w.map fun c => reps 1 [92] ++ [c]).flatten ++ e :: r)) = _
      rw [bd, ih]
      simp [reps]
theorem tk_piece {wh : List Nat} {m : Nat} {w : List Nat} (h4 : wh.length = 4) (hwh : ∀ c ∈ wh, isWs c = true) (hw : Ltr w) (r : List Nat) : tk (piece wh m w ++ r) = (w, (piece wh m w).length) := by
  have g0 : wh.getD 0 0 ∈ wh := by rw [List.getD_eq_getElem?_getD, List.getElem?_eq_getElem (by lia)]; exact List.getElem_mem _
  have g3 : wh.getD 3 0 ∈ wh := by rw [List.getD_eq_getElem?_getD, List.getElem?_eq_getElem (by lia)]; exact List.getElem_mem _
  have w0 := hwh _ g0
  have w3 := hwh _ g3
  have skip : ∀ (s : List Nat), tk (wh.getD 0 0 :: s) = ((tk s).1, (tk s).2 + 1) := fun s => by
    rw [tk]
    · rw [if_pos w0]
    · intro q _; rw [q] at w0; revert w0; decide
    · intro d r' q _; rw [q] at w0; revert w0; decide
  unfold piece
  by_cases hc : m % 3 = 0 ∨ w = []
  · rw [if_pos hc]
    show tk (wh.getD 0 0 :: 34 :: (w ++ [34]) ++ r) = _
    rw [List.cons_append, skip]
    have e : tk (34 :: (w ++ [34]) ++ r) = (w, w.length + 1 + 1) := by
      rw [List.cons_append, tk]
      · rw [if_neg (by decide), if_pos rfl, List.append_assoc]
        rw [show ([34] : List Nat) ++ r = 34 :: r from rfl, qd_plain w r hw]
      · intro q _; cases q
      · intro d r' q _; cases q
    rw [e]; simp
  · rw [if_neg hc]
    have hm0 : m % 3 ≠ 0 := fun q => hc (.inl q)
    have hm : m % 3 - 1 = 0 ∨ m % 3 - 1 = 1 := by lia
    obtain ⟨c, w', rfl⟩ : ∃ c w', w = c :: w' := by cases w with | nil => exact absurd (.inr rfl) hc | cons c w' => exact ⟨c, w', rfl⟩
    have hcc := hw c (.head _)
    have hB := bd_bare (m % 3 - 1) hm (wh.getD 3 0) w3 w' r fun d hd => hw d (.tail _ hd)
    generalize m % 3 - 1 = k at hm hB ⊢
    rw [List.map_cons, List.flatten_cons]
    show tk (wh.getD 0 0 :: ((reps k [92] ++ [c]) ++ (w'.map fun c => reps k [92] ++ [c]).flatten ++ [wh.getD 3 0] ++ r)) = _
    rw [skip]
    have e : tk ((reps k [92] ++ [c]) ++ (w'.map fun c => reps k [92] ++ [c]).flatten ++ [wh.getD 3 0] ++ r) = (c :: w', (reps k [92] ++ [c]).length + ((w'.map fun c => reps k [92] ++ [c]).flatten).length + 1) := by
      rcases hm with rfl | rfl
      · show tk (c :: ((w'.map fun c => reps 0 [92] ++ [c]).flatten ++ [wh.getD 3 0] ++ r)) = _
        rw [List.append_assoc, show ([wh.getD 3 0] : List Nat) ++ r = wh.getD 3 0 :: r from rfl, tk]
        · rw [if_neg (by rw [ltr_ws hcc]; decide), if_neg (show ¬ c = 34 by lia), hB]; simp [reps]; lia
        · intro q _; lia
        · intro d r' q _; lia
      · show tk (92 :: c :: ((w'.map fun c => reps 1 [92] ++ [c]).flatten ++ [wh.getD 3 0] ++ r)) = _
        rw [List.append_assoc, show ([wh.getD 3 0] : List Nat) ++ r = wh.getD 3 0 :: r from rfl, tk, hB]; simp [reps]; lia
    rw [e]
    simp [List.length_append]; lia
noncomputable def posAt (x : List Nat) (p : Nat) : Nat → Nat
  | 0 => p
  | r + 1 => posAt x p r + (tk (x.drop (posAt x p r))).2
theorem posAt_shift (x : List Nat) (p : Nat) : ∀ r, posAt x p (r + 1) = posAt x (p + (tk (x.drop p)).2) r
  | 0 => rfl
  | r + 1 => by rw [posAt, posAt_shift x p r]; rfl
theorem rot_ws {wh : List Nat} (hwh : ∀ c ∈ wh, isWs c = true) : ∀ c ∈ rot wh, isWs c = true := by
  cases wh with
  | nil => exact hwh
  | cons a r =>
    intro c hc
    rcases List.mem_append.mp hc with h | h
    · exact hwh c (.tail _ h)
    · rw [List.mem_singleton] at h; rw [h]; exact hwh a (.head _)
theorem body_toks : ∀ (ws : List (List Nat)) (pre post wh : List Nat) (m : Nat), wh.length = 4 → (∀ c ∈ wh, isWs c = true) → (∀ w ∈ ws, Ltr w) →
    (∀ r w, ws[r]? = some w → (tk ((pre ++ bodyT wh m ws ++ post).drop (posAt (pre ++ bodyT wh m ws ++ post) pre.length r))).1 = w) ∧ posAt (pre ++ bodyT wh m ws ++ post) pre.length ws.length = (pre ++ bodyT wh m ws).length
  | [], pre, post, wh, m, _, _, _ => ⟨fun r w h => by simp at h, by simp [posAt, bodyT]⟩
  | w :: ws, pre, post, wh, m, h4, hwh, hw => by
    have ih := body_toks ws (pre ++ piece wh m w) post (rot wh) (m / 3) (by rw [rot_len]; exact h4) (rot_ws hwh) fun v hv => hw v (.tail _ hv)
    have e : pre ++ bodyT wh m (w :: ws) ++ post = pre ++ piece wh m w ++ bodyT (rot wh) (m / 3) ws ++ post := by simp [bodyT]
    have e0 : (pre ++ piece wh m w ++ bodyT (rot wh) (m / 3) ws ++ post).drop pre.length = piece wh m w ++ (bodyT (rot wh) (m / 3) ws ++ post) := by simp
    have t0 := tk_piece (wh := wh) (m := m) (w := w) h4 hwh (hw w (.head _)) (bodyT (rot wh) (m / 3) ws ++ post)
    rw [e]
    have es : ∀ r, posAt (pre ++ piece wh m w ++ bodyT (rot wh) (m / 3) ws ++ post) pre.length (r + 1) = posAt (pre ++ piece wh m w ++ bodyT (rot wh) (m / 3) ws ++ post) (pre ++ piece wh m w).length r := fun r => by
      rw [posAt_shift, e0, t0, List.length_append]
    refine ⟨fun r v hv => ?_, ?_⟩
    · cases r with
      | zero =>
        simp only [List.getElem?_cons_zero, Option.some.injEq] at hv
        subst hv
        rw [posAt, e0, t0]
      | succ r =>
        rw [es]
        exact ih.1 r v (by simpa using hv)
    · rw [List.length_cons, es, ih.2]
      simp [bodyT]
theorem qd_esc : ∀ (l r : List Nat), qd ((l.map esc1).flatten ++ 34 :: r) = (l, ((l.map esc1).flatten).length + 1)
  | [], r => by simp [qd]
  | c :: l, r => by
    have ih := qd_esc l r
    rw [List.map_cons, List.flatten_cons, List.append_assoc]
    by_cases h : c ∈ [34, 92]
    · have e : esc1 c = [92, c] := by unfold esc1; rw [if_pos h]
      rw [e]
      show qd (92 :: c :: ((l.map esc1).flatten ++ 34 :: r)) = _
      rw [qd, ih]; simp
    · have e : esc1 c = [c] := by unfold esc1; rw [if_neg h]
      have h1 : c ≠ 34 := fun q => h (by rw [q]; simp)
      have h2 : c ≠ 92 := fun q => h (by rw [q]; simp)
      rw [e]
      show qd (c :: ((l.map esc1).flatten ++ 34 :: r)) = _
      rw [qd]
      · rw [if_neg h1, ih]; simp
      · intro q _; exact h2 q
      · intro d r' q _; exact h2 q
theorem tk_quoted (l r : List Nat) : tk ([34] ++ (l.map esc1).flatten ++ [34] ++ r) = (l, ([34] ++ (l.map esc1).flatten ++ [34]).length) := by
  show tk (34 :: ((l.map esc1).flatten ++ [34] ++ r)) = _
  rw [tk]
  · rw [if_neg (by decide), if_pos rfl, List.append_assoc, show ([34] : List Nat) ++ r = 34 :: r from rfl, qd_esc]
    simp
  · intro q _; cases q
  · intro d r' q _; cases q
noncomputable def escb (c : Nat) : List Nat := if c ∈ [92, 32, 10, 9, 13] then [92, c] else [c]
theorem bd_escb : ∀ (l : List Nat), bd ((l.map escb).flatten) = (l, ((l.map escb).flatten).length + 1)
  | [] => by simp [bd]
  | c :: l => by
    have ih := bd_escb l
    rw [List.map_cons, List.flatten_cons]
    by_cases h : c ∈ [92, 32, 10, 9, 13]
    · have e : escb c = [92, c] := by unfold escb; rw [if_pos h]
      rw [e]
      show bd (92 :: c :: ((l.map escb).flatten)) = _
      rw [bd, ih]; simp
    · have e : escb c = [c] := by unfold escb; rw [if_neg h]
      have h2 : c ≠ 92 := fun q => h (by rw [q]; simp)
      have h3 : isWs c = false := by
        unfold isWs; rw [decide_eq_false_iff_not]; intro q; apply h; simp at q; rcases q with rfl | rfl | rfl | rfl <;> decide
      rw [e]
      show bd (c :: ((l.map escb).flatten)) = _
      rw [bd]
      · rw [h3, ih]; simp
      · intro q _; exact h2 q
      · intro d r' q _; exact h2 q
theorem tk_bare3 (l : List Nat) (h : l.length = 3) : tk (((List.range 3).map (esc2 l)).flatten) = (l, (((List.range 3).map (esc2 l)).flatten).length + 1) := by
  match l, h with
  | [a, b, c], _ =>
    have e : ((List.range 3).map (esc2 [a, b, c])).flatten = 92 :: a :: (([b, c].map escb).flatten) := by
      simp [List.range_succ, esc2, escb]
    rw [e, tk, bd_escb]
    simp
theorem tk_nil : tk [] = ([], 1) := by rw [tk]
theorem textT_eq (ws : List (List Nat)) (m : Nat) : textT ws m = bodyT [10, 32, 13, 9] m ws ++ (([34] ++ ((lastT (mOf m ws)).map esc1).flatten ++ [34]) ++ ((List.range 3).map (esc2 (lastT (mOf m ws)))).flatten) := by
  unfold textT; simp only [List.append_assoc]
theorem posAt_end (x : List Nat) (p : Nat) (k : Nat) (h : x.length ≤ posAt x p k) : ∀ j, (tk (x.drop (posAt x p (k + j)))).1 = [] ∧ x.length ≤ posAt x p (k + j)
  | 0 => ⟨by rw [Nat.add_zero, List.drop_eq_nil_of_le h, tk_nil], h⟩
  | j + 1 => by
    have ih := posAt_end x p k h j
    have : x.length ≤ posAt x p (k + (j + 1)) := by
      show x.length ≤ posAt x p (k + j) + _
      lia
    exact ⟨by rw [List.drop_eq_nil_of_le this, tk_nil], this⟩
theorem text_toks (ws : List (List Nat)) (m : Nat) (hw : ∀ w ∈ ws, Ltr w) :
    (∀ r w, ws[r]? = some w → (tk ((textT ws m).drop (posAt (textT ws m) 0 r))).1 = w) ∧ (tk ((textT ws m).drop (posAt (textT ws m) 0 ws.length))).1 = lastT (mOf m ws) ∧
    (tk ((textT ws m).drop (posAt (textT ws m) 0 (ws.length + 1)))).1 = lastT (mOf m ws) ∧ (textT ws m).length ≤ posAt (textT ws m) 0 (ws.length + 2) := by
  have B := body_toks ws [] (([34] ++ ((lastT (mOf m ws)).map esc1).flatten ++ [34]) ++ ((List.range 3).map (esc2 (lastT (mOf m ws)))).flatten) [10, 32, 13, 9] m rfl (by decide) hw
  rw [List.nil_append, ← textT_eq, List.length_nil] at B
  have e6 : (textT ws m).drop (posAt (textT ws m) 0 ws.length) = ([34] ++ ((lastT (mOf m ws)).map esc1).flatten ++ [34]) ++ ((List.range 3).map (esc2 (lastT (mOf m ws)))).flatten := by
    rw [B.2, textT_eq, List.drop_left]
  have t6 := tk_quoted (lastT (mOf m ws)) ((List.range 3).map (esc2 (lastT (mOf m ws)))).flatten
  have e7 : (textT ws m).drop (posAt (textT ws m) 0 (ws.length + 1)) = ((List.range 3).map (esc2 (lastT (mOf m ws)))).flatten := by
    rw [posAt, e6, t6, ← List.drop_drop, e6, List.drop_left]
  have t7 := tk_bare3 (lastT (mOf m ws)) (lastT_len _)
  refine ⟨B.1, by rw [e6, t6], by rw [e7, t7], ?_⟩
  rw [posAt, e7, t7, posAt, e6, t6, B.2]
  rw [textT_eq]
  simp only [List.length_append]
  lia
theorem nls_step (x : List Nat) (k : Nat) : nls x 0 (posAt x 0 k) + nls x (posAt x 0 k) (tk (x.drop (posAt x 0 k))).2 = nls x 0 (posAt x 0 (k + 1)) := by
  rw [posAt, nls_add, Nat.zero_add]
theorem hw_ltr {n : Nat} (h : n < 2 ^ 60) : Ltr (hw n) := fun c hc => hw_mem 100 n (Nat.lt_of_lt_of_le h (by decide)) c hc
theorem prF_len (Sf : Nat → Nat) (h : ∀ k, (hw (Sf k)).length ≤ 100) (j : Nat) : (prF Sf j).1.length + (prF Sf j).2.length ≤ 102 := by
  have h1 := h j
  have h2 : (ws3 (Sf j)).length ≤ 2 := by unfold ws3; rw [List.length_take]; simp; lia
  show (ws3 (Sf j)).length + (hw (Sf j)).length ≤ 102
  lia
theorem its_mem {Sf M : Nat → Nat} {n p : Nat} {x : List Nat × List Nat} (h : x ∈ itsF Sf M n p) : ∃ j, x = prF Sf j := by
  obtain ⟨j, _, rfl⟩ := List.mem_map.mp h; exact ⟨j, rfl⟩
theorem its_len (Sf M : Nat → Nat) (n p : Nat) : (itsF Sf M n p).length ≤ n := by rw [itsF, List.length_map]; exact idxF_len _ _ _
theorem its_pl (Sf M : Nat → Nat) (n p : Nat) (h : ∀ k, (hw (Sf k)).length ≤ 100) : pLen (itsF Sf M n p) ≤ 102 * n ∧ ∀ m, pLen ((itsF Sf M n p).take m) ≤ 102 * n := by
  have hl := its_len Sf M n p
  refine ⟨Nat.le_trans (pLen_le 102 _ fun x hx => ?_) (Nat.mul_le_mul_left _ hl), fun m => Nat.le_trans (pLen_le 102 _ fun x hx => ?_) (Nat.mul_le_mul_left _ (by rw [List.length_take]; lia))⟩
  · obtain ⟨j, rfl⟩ := its_mem hx; exact prF_len Sf h j
  · obtain ⟨j, rfl⟩ := its_mem (List.mem_of_mem_take hx); exact prF_len Sf h j
theorem pairs_flat (l : List (List Nat × List Nat)) : (l.map pairV).all flatD = true := by
  rw [List.all_eq_true]; intro x hx
  obtain ⟨n, _, rfl⟩ := List.mem_map.mp hx
  rfl
noncomputable def toldV (z : Nat) (it : Nat → List (List Nat × List Nat)) (q : Nat → Addr) (p : Nat) : V :=
  .tup [.str (S (pCat (it p))), .int ((z + pLen (it p) : Nat) : Int), .ref (q p), .str (S (pCat ((it p).take (p % 3)))), .int ((z + pLen ((it p).take (p % 3)) : Nat) : Int)]
theorem told_new {z : Nat} {it : Nat → List (List Nat × List Nat)} {q : Nat → Addr} {n : Nat} (x : Addr) : (List.range (n + 1)).map (toldV z it fun p => if p = n then x else q p) = (List.range n).map (toldV z it q) ++ [toldV z it (fun _ => x) n] := by
  rw [List.range_succ, List.map_append]
  congr 1
  · exact List.map_congr_left fun p hp => by simp only [toldV]; rw [if_neg (by have := List.mem_range.mp hp; lia)]
  · simp [toldV]
theorem cat_map (ps : List (List Nat × List Nat)) : ((List.range ps.length).map fun i => V.str (S ((ps.getD i ([], [])).1 ++ (ps.getD i ([], [])).2))) = strsV (ps.map fun p => p.1 ++ p.2) := by
  rw [strsV, List.map_map]
  exact map_range_get ps _ _ fun i p hp => by simp [List.getD_eq_getElem?_getD, hp]
theorem pairs_atP {ps : List (List Nat × List Nat)} {i : Nat} {y : V} (h : (ps.map pairV)[i]? = some y) : ∃ p, ps[i]? = some p ∧ y = .tup [.str (S p.1), .str (S p.2)] := by
  rw [List.getElem?_map] at h
  obtain ⟨p, hp, rfl⟩ := Option.map_eq_some_iff.mp h
  exact ⟨p, hp, rfl⟩
theorem fmb (n b : Nat) : ((n : Nat) : Int).fmod ((b : Nat) : Int) = ((n % b : Nat) : Int) := by
  rw [Int.fmod_eq_emod_of_nonneg _ (Int.natCast_nonneg _)]; rfl
theorem pow16b {k : Nat} (h : k < 100) : Builtin.Int.intBits 16 * ((k : Nat) : Int) ≤ 2 ^ 27 := by
  rw [show Builtin.Int.intBits 16 = 5 by decide]; lia
theorem cast16 (k : Nat) : (16 : Int) ^ k = ((16 ^ k : Nat) : Int) := by simp
theorem fdN (x y : Nat) : ((x : Nat) : Int).fdiv ((y : Nat) : Int) = ((x / y : Nat) : Int) := by
  rw [Int.fdiv_eq_ediv_of_nonneg _ (Int.natCast_nonneg _)]; rfl
theorem p16ne (k : Nat) : ((16 ^ k : Nat) : Int) ≠ 0 := by have : 0 < 16 ^ k := Nat.pow_pos (by decide); lia
theorem p16log {k : Nat} (h : k < 100) : (((16 ^ k : Nat) : Int)).natAbs.log2 < 9000 := by
  rw [Int.natAbs_natCast, Nat.log2_lt (by have : 0 < 16 ^ k := Nat.pow_pos (by decide); lia), show (16 : Nat) = 2 ^ 4 from rfl, ← Nat.pow_mul]
  exact Nat.pow_lt_pow_right (by decide) (by lia)
noncomputable abbrev LawS (F cP cD sc dr : Addr) (z : Nat) (base letters text last lexer told due row laid left piles : Option V) (σ : Led) : Led :=
  (F, AO.fr ["script", "base", "letters", "size", "text", "last", "lexer", "told", "due", "row", "laid", "left"] [some (.ref sc), base, letters, some (.int (z : Nat)), text, last, lexer, told, due, row, laid, left]) :: (cP, AO.cell piles) :: (cD, AO.cell (some (.ref dr))) :: σ
theorem law_ {C : Cx} {A : Around} {σ : Led} {Q : V → Led → Prop} {sc : Addr} {ns : List Int} (hC : C.Is (Mine.hd.heap_1 C.w.params)) (hM : C.Main (Str.ofString "/claim/cut.py")) (hg1 : (67, 63) ∈ C.gt) (hg2 : (74, 70) ∈ C.gt) (hA : Fit 40 A)
    (hs : OldL C sc ns) (hn : ns.length ≤ 63) (h : ∀ ps, Q (.bool true) [(182, AO.table ps)]) : Call C A ((182, AO.table #[]) :: σ) (.ref 212) [.ref sc] Q := by
  refine' call_fn (n := 39) (ks := ["script", "base", "letters", "size", "text", "last", "lexer", "told", "due", "row", "laid", "left"]) (ps := ["script"]) (bxs := [.ref sc]) (cn := ["piles", "draws"]) rfl ?ho hA ?nd ?hcn rfl ?hbind ?h ?c1 ?c2
  case ho =>
    intro s H
    refine ⟨_, H.bg.kin _ _ (show C.K.lookup 212 = some _ from (by rw [hC.isK]; k_is)), rfl, ?_⟩
    refine codeRec_of (K := Mine.hd.heap_1 C.w.params) (hC.isK ▸ H.bg.kin) ?_
    k_is
  (((case nd => decide); (case hcn => rfl); (case c1 => rfl); (case c2 => rfl)))
  case hbind => ((intro s as hk r; refine ⟨as, ?_, r⟩; (repeat (obtain ⟨_, _, e, _, r⟩ := r; subst e)); (first | subst r | skip); exact BindsTo.of_eq rfl))
  case h =>
    intro A₁ F cs hcs
    obtain ⟨cP, cD, rfl⟩ := cs_2 hcs
    ((simp only [celled, List.map_cons, List.map_nil, List.cons_append, List.nil_append]))
    show St _ _ _ (storeName _ _) _ _
    walk_at "E.run"
    intro A' hA'
    walk_at "E.run"
    refine draws_ hC (hA'.le (by decide)) hs hn fun dr => ?_
    obtain ⟨dl, ed, hdl, hdb⟩ := drawn_nat 7 [20, 35, 261, 71, 136, 202, 10470] ns 100000 (by simp) ns.length
    rw [show ([20, 35, 261, 71, 136, 202, 10470] : List Int) = ([20, 35, 261, 71, 136, 202, 10470] : List Nat).map (fun (x : Nat) => (x : Int)) from rfl, ed, natsV_cast]
    have hdl : dl.length = 7 := hdl
    have hdb : ∀ x ∈ dl, x < 2 ^ 40 := fun x hx => by have := hdb x hx; lia
    clear ed
    obtain ⟨f0, t0, rfl, e0⟩ := len_c hdl
    obtain ⟨f1, t1, rfl, e1⟩ := len_c e0
    obtain ⟨f2, t2, rfl, e2⟩ := len_c e1
    obtain ⟨f3, t3, rfl, e3⟩ := len_c e2
    obtain ⟨f4, t4, rfl, e4⟩ := len_c e3
    obtain ⟨f5, t5, rfl, e5⟩ := len_c e4
    obtain ⟨f6, t6, rfl, e6⟩ := len_c e5
    cases List.length_eq_zero_iff.mp e6
    clear hdl e0 e1 e2 e3 e4 e5 e6
    have hm : f6 < 2 ^ 40 := hdb f6 (by simp)
    clear hdb
    walk_at "E.run"
    refine' x_lc (ks := ["k"]) (cn := []) ?nd ?hcn ?hclos ?hk ?hn ?_ ?ht ?hs ?hsw
    (((case nd => decide); (case hcn => rfl); (case hclos => rfl); (case hk => rfl); (case hn => decide); (case ht => intro _ _; rfl); (case hs => intro _; rfl)))
    case hsw => rfl
    walk_at "E.run"
    refine g_nats (l := [f0, f1, f2, f3, f4, f5, f6]) (i := 5) rfl (by walk_at "M.mem") (by simp) (by simp) ?_
    walk_at "E.run"
    have ec : (4 : Int) + ((([f0, f1, f2, f3, f4, f5, f6].getD 5 0 : Nat) : Int).fdiv 12288).fmod 2 = ((4 + f5 / 12288 % 2 : Nat) : Int) := by
      rw [Int.fdiv_eq_ediv_of_nonneg _ (by decide), Int.fmod_eq_emod_of_nonneg _ (by decide)]
      show (4 : Int) + ((f5 : Nat) : Int) / 12288 % 2 = _
      lia
    rw [ec]
    have hcb : 4 + f5 / 12288 % 2 ≤ 5 := by lia
    generalize 4 + f5 / 12288 % 2 = c at *
    refine c_range1 fun r1 => ?_
    refine it_range (by walk_at "M.mem") (by decide) (by decide) (by lia) (by lia) fun r2 => ?_
    rw [er0 c]
    intro D1 L1 cs1 hcs1
    cases cs_0 hcs1
    ((simp only [celled, List.map_cons, List.map_nil, List.cons_append, List.nil_append]))
    refine' cloop_rmap (n := c) (τ := (dr, AO.list (natsV [f0, f1, f2, f3, f4, f5, f6])) :: (F, AO.fr ["script", "base", "letters", "size", "text", "last", "lexer", "told", "due", "row", "laid", "left"] [some (.ref sc), none, none, none, none, none, none, none, none, none, none, none]) :: (cP, AO.cell none) :: (cD, AO.cell (some (.ref dr))) :: (182, AO.table #[]) :: σ) (fun i => V.int (([f0, f1, f2, f3, f4, f5, f6].getD i 0 % 4096 : Nat) : Int)) rfl hA'.1 ?sbc (by rw [sizeLine_eq]; lia) rfl rfl ?_ ?_
    case sbc => ((repeat (first | exact Sb.refl | exact Sb.nil | (apply Sb.take; focus ((repeat (first | exact Pick.head | apply Pick.tail)); done)) | apply Sb.skip)))
    · intro i acc Y hi hacc
      have e0 : (0 : Int) + (i : Nat) = (i : Nat) := by lia
      rw [e0]
      walk_at "E.run"
      refine g_nats (l := [f0, f1, f2, f3, f4, f5, f6]) (i := i) rfl (by walk_at "M.mem") (by simp; lia) (by simp) ?_
      walk_at "E.run"
      exact ⟨by rw [← fmb]; rfl, by ((repeat (first | exact Sb.refl | exact Sb.nil | (apply Sb.take; focus ((repeat (first | exact Pick.head | apply Pick.tail)); done)) | apply Sb.skip)))⟩
    intro u1
    rw [rangeV c fun i => [f0, f1, f2, f3, f4, f5, f6].getD i 0 % 4096]
    walk_at "E.run"
    refine ⟨[u1], (D1, AO.list (natsV ((List.range c).map fun i => [f0, f1, f2, f3, f4, f5, f6].getD i 0 % 4096))) :: (dr, AO.list (natsV [f0, f1, f2, f3, f4, f5, f6])) :: (F, AO.fr ["script", "base", "letters", "size", "text", "last", "lexer", "told", "due", "row", "laid", "left"] [some (.ref sc), some (.ref D1), none, none, none, none, none, none, none, none, none, none]) :: (cP, AO.cell none) :: (cD, AO.cell (some (.ref dr))) :: (182, AO.table #[]) :: σ, by ((repeat (first | exact Sb.refl | exact Sb.nil | (apply Sb.take; focus ((repeat (first | exact Pick.head | apply Pick.tail)); done)) | apply Sb.skip))), ?_⟩
    have hb : ∀ i, (fun i => [f0, f1, f2, f3, f4, f5, f6].getD i 0 % 4096) i < 2 ^ 40 := fun i => Nat.lt_trans (Nat.mod_lt _ (by decide)) (by decide)
    generalize (fun i => [f0, f1, f2, f3, f4, f5, f6].getD i 0 % 4096) = b at *
    walk_at "E.run"
    refine' x_lc (ks := ["k"]) (cn := []) ?nd ?hcn ?hclos ?hk ?hn ?_ ?ht ?hs ?hsw
    (((case nd => decide); (case hcn => rfl); (case hclos => rfl); (case hk => rfl); (case hn => decide); (case ht => intro _ _; rfl); (case hs => intro _; rfl)))
    case hsw => rfl
    walk_at "E.run"
    refine g_nats (l := [f0, f1, f2, f3, f4, f5, f6]) (i := 5) rfl (by walk_at "M.mem") (by simp) (by simp) ?_
    rw [show [f0, f1, f2, f3, f4, f5, f6].getD 5 0 = f5 from rfl]
    walk_at "E.run"
    rw [show (1 : Int) + ((f5 : Nat) : Int).fmod 3 = ((1 + f5 % 3 : Nat) : Int) by rw [fmod3]; lia]
    have hlb : 1 + f5 % 3 ≤ 3 := by lia
    generalize 1 + f5 % 3 = nl at *
    refine c_range1 fun r3 => ?_
    refine it_range (by walk_at "M.mem") (by decide) (by decide) (by lia) (by lia) fun r4 => ?_
    rw [er0 nl]
    intro D2 L2 cs2 hcs2
    cases cs_0 hcs2
    ((simp only [celled, List.map_cons, List.map_nil, List.cons_append, List.nil_append]))
    refine' cloop_rmap (n := nl) (τ := (D1, AO.list (natsV ((List.range c).map b))) :: (dr, AO.list (natsV [f0, f1, f2, f3, f4, f5, f6])) :: (F, AO.fr ["script", "base", "letters", "size", "text", "last", "lexer", "told", "due", "row", "laid", "left"] [some (.ref sc), some (.ref D1), none, none, none, none, none, none, none, none, none, none]) :: (cP, AO.cell none) :: (cD, AO.cell (some (.ref dr))) :: (182, AO.table #[]) :: σ) (fun i => V.str (S [65 + f5 / 3 / 16 ^ i % 16])) rfl hA'.1 ?sbc2 (by rw [sizeLine_eq]; lia) rfl rfl ?_ ?_
    case sbc2 => ((repeat (first | exact Sb.refl | exact Sb.nil | (apply Sb.take; focus ((repeat (first | exact Pick.head | apply Pick.tail)); done)) | apply Sb.skip)))
    · intro i acc Y hi hacc
      have e0 : (0 : Int) + (i : Nat) = (i : Nat) := by lia
      rw [e0]
      walk_at "E.run"
      refine g_nats (l := [f0, f1, f2, f3, f4, f5, f6]) (i := 5) rfl (by walk_at "M.mem") (by simp) (by simp) ?_
      rw [show [f0, f1, f2, f3, f4, f5, f6].getD 5 0 = f5 from rfl]
      walk_at "E.run"
      refine bin_pow (by lia) (pow16b (by lia)) ?_
      rw [Int.toNat_natCast, cast16, show (3 : Int) = ((3 : Nat) : Int) from rfl, fdN]
      refine bin_fdiv ?_ (p16ne _) (p16log (by lia))
      rw [fdN]
      walk_at "E.run"
      rw [show (16 : Int) = ((16 : Nat) : Int) from rfl, fmb]
      have hd : f5 / 3 / 16 ^ i % 16 < 16 := Nat.mod_lt _ (by decide)
      generalize f5 / 3 / 16 ^ i % 16 = dd at *
      refine c_chr (by lia) (by lia) ?_
      rw [show ((65 : Int) + ((dd : Nat) : Int)).toNat = 65 + dd by lia]
      exact ⟨rfl, by ((repeat (first | exact Sb.refl | exact Sb.nil | (apply Sb.take; focus ((repeat (first | exact Pick.head | apply Pick.tail)); done)) | apply Sb.skip)))⟩
    intro u2
    rw [rangeS nl fun i => [65 + f5 / 3 / 16 ^ i % 16], show (List.range nl).map (fun i => [65 + f5 / 3 / 16 ^ i % 16]) = ((List.range nl).map fun i => 65 + f5 / 3 / 16 ^ i % 16).map fun ch => [ch] by rw [List.map_map]; rfl]
    have hls : ((List.range nl).map fun i => 65 + f5 / 3 / 16 ^ i % 16).length ≤ 100 := by rw [List.length_map, List.length_range]; lia
    generalize ((List.range nl).map fun i => 65 + f5 / 3 / 16 ^ i % 16) = ls at *
    walk_at "E.run"
    refine ⟨[u2], (D2, AO.list (strsV (ls.map fun ch => [ch]))) :: (D1, AO.list (natsV ((List.range c).map b))) :: (dr, AO.list (natsV [f0, f1, f2, f3, f4, f5, f6])) :: (F, AO.fr ["script", "base", "letters", "size", "text", "last", "lexer", "told", "due", "row", "laid", "left"] [some (.ref sc), some (.ref D1), some (.ref D2), none, none, none, none, none, none, none, none, none]) :: (cP, AO.cell none) :: (cD, AO.cell (some (.ref dr))) :: (182, AO.table #[]) :: σ, by ((repeat (first | exact Sb.refl | exact Sb.nil | (apply Sb.take; focus ((repeat (first | exact Pick.head | apply Pick.tail)); done)) | apply Sb.skip))), ?_⟩
    walk_at "E.run"
    refine g_nats (l := [f0, f1, f2, f3, f4, f5, f6]) (i := 6) rfl (by walk_at "M.mem") (by simp) (by simp) ?_
    rw [show [f0, f1, f2, f3, f4, f5, f6].getD 6 0 = f6 from rfl]
    walk_at "E.run"
    rw [show (1 : Int) + ((f6 : Nat) : Int).fmod 4 = ((1 + f6 % 4 : Nat) : Int) by rw [show (4 : Int) = ((4 : Nat) : Int) from rfl, fmb]; lia]
    have hzb : 1 + f6 % 4 ≤ 1000 := by lia
    generalize 1 + f6 % 4 = z at *
    walk_at "E.run"
    refine' e_lc (ks := ["number"]) (cn := []) ?nd ?hcn ?hclos ?hk ?hn ?_ ?ht ?hs
    (((case nd => decide); (case hcn => rfl); (case hclos => rfl); (case hk => rfl); (case hn => decide); (case ht => intro _ _; rfl); (case hs => intro _; rfl)))
    walk_at "E.run"
    refine it_list (by walk_at "M.mem") fun i3 => ?_
    intro D3 L3 cs3 hcs3
    cases cs_0 hcs3
    ((simp only [celled, List.map_cons, List.map_nil, List.cons_append, List.nil_append]))
    refine' cloop_map (l := natsV ((List.range c).map b)) (G := fun σ => (D1, AO.list (natsV ((List.range c).map b))) ∈ σ) (τ := (D2, AO.list (strsV (ls.map fun ch => [ch]))) :: (D1, AO.list (natsV ((List.range c).map b))) :: (dr, AO.list (natsV [f0, f1, f2, f3, f4, f5, f6])) :: (182, AO.table #[]) :: LawS F cP cD sc dr z (some (.ref D1)) (some (.ref D2)) none none none none none none none none none (σ)) (fun i => V.str (S (hw (b i)))) ?sbc3 (iter_list (b := D1) hA'.1) ?hG3 (by rw [natsR_len, sizeLine_eq]; lia) rfl rfl ?_ ?_
    case sbc3 => ((repeat (first | exact Sb.refl | exact Sb.nil | (apply Sb.take; focus ((repeat (first | exact Pick.head | apply Pick.tail)); done)) | apply Sb.skip)))
    case hG3 => intro acc u; walk_at "M.mem"
    · intro i y acc hy hacc
      have hi : i < c := by have := (List.getElem?_eq_some_iff.mp hy).1; rw [natsR_len] at this; exact this
      rw [natsV_range b hi] at hy
      cases hy
      walk_at "E.run"
      refine word_ hC (hA'.le (by decide)) _ (by rw [Int.toNat_natCast]; exact Nat.lt_of_lt_of_le (hb i) (by decide)) ?_
      rw [Int.toNat_natCast]
      exact ⟨rfl, by ((repeat (first | exact Sb.refl | exact Sb.nil | (apply Sb.take; focus ((repeat (first | exact Pick.head | apply Pick.tail)); done)) | apply Sb.skip)))⟩
    intro u3
    refine ⟨[u3], (D3, AO.list (strsV (rowF (fun i => hw (b i)) c))) :: (D2, AO.list (strsV (ls.map fun ch => [ch]))) :: (D1, AO.list (natsV ((List.range c).map b))) :: (dr, AO.list (natsV [f0, f1, f2, f3, f4, f5, f6])) :: (182, AO.table #[]) :: LawS F cP cD sc dr z (some (.ref D1)) (some (.ref D2)) none none none none none none none none none (σ), ?_, ?_⟩
    · rw [natsR_len, rangeS c fun i => hw (b i)]
      ((repeat (first | exact Sb.refl | exact Sb.nil | (apply Sb.take; focus ((repeat (first | exact Pick.head | apply Pick.tail)); done)) | apply Sb.skip)))
    walk_at "E.run"
    refine g_nats (l := [f0, f1, f2, f3, f4, f5, f6]) (i := 6) rfl (by walk_at "M.mem") (by simp) (by simp) ?_
    rw [show [f0, f1, f2, f3, f4, f5, f6].getD 6 0 = f6 from rfl]
    walk_at "E.run"
    have hl6 : ∀ w ∈ rowF (fun i => hw (b i)) c, w.length ≤ 100 := fun w hw' => by
      obtain ⟨n, _, rfl⟩ := List.mem_map.mp hw'
      exact hw_len 100 _ (Nat.lt_of_lt_of_le (hb n) (by decide))
    have hL6 : ∀ w ∈ rowF (fun i => hw (b i)) c, Ltr w := fun w hw' => by
      obtain ⟨n, _, rfl⟩ := List.mem_map.mp hw'
      exact hw_ltr (Nat.lt_of_lt_of_le (hb n) (by decide))
    refine text_ hC (hA'.le (by decide)) f6 (Nat.lt_trans hm (by decide)) (by rw [rowF_len]; lia) hl6 ?_
    have TT := text_toks (rowF (fun i => hw (b i)) c) f6 hL6
    have hxl : (textT (rowF (fun i => hw (b i)) c) f6).length ≤ 1000000 := by
      rw [textT_eq]
      have h1 := bodyT_len (rowF (fun i => hw (b i)) c) [10, 32, 13, 9] f6 hl6
      have h2 := esc1_len (lastT (mOf f6 (rowF (fun i => hw (b i)) c)))
      have h3 := esc2_len (lastT (mOf f6 (rowF (fun i => hw (b i)) c))) 3
      rw [lastT_len] at h2
      simp only [List.length_append, List.length_cons, List.length_nil, rowF_len] at h1 h2 h3 ⊢
      lia
    have hll := lastT_len (mOf f6 (rowF (fun i => hw (b i)) c))
    generalize textT (rowF (fun i => hw (b i)) c) f6 = x at TT hxl ⊢
    generalize lastT (mOf f6 (rowF (fun i => hw (b i)) c)) = l at TT hll ⊢
    refine asg_tup hA'.1 ?_ (by simp) rfl rfl
    walk_at "E.run"
    refine Call.sb (σ' := (182, AO.table #[]) :: (D2, AO.list (strsV (ls.map fun ch => [ch]))) :: (D1, AO.list (natsV ((List.range c).map b))) :: (dr, AO.list (natsV [f0, f1, f2, f3, f4, f5, f6])) :: LawS F cP cD sc dr z (some (.ref D1)) (some (.ref D2)) (some (.str (S (x)))) (some (.str (S (l)))) none none none none none none none (σ)) (by ((repeat (first | exact Sb.refl | exact Sb.nil | (apply Sb.take; focus ((repeat (first | exact Pick.head | apply Pick.tail)); done)) | apply Sb.skip)))) (lexer_ hC (hA'.le (by decide)) x fun LX ps hRL => ?_)
    walk_at "E.run"
    rw [rowF_len] at TT
    obtain ⟨TT0, T1, T2, T3⟩ := TT
    have T4 := posAt_end x 0 (c + 2) T3
    have step : ∀ k, (1 : Int) + nls x 0 (posAt x 0 k) + nls x (posAt x 0 k) (tk (x.drop (posAt x 0 k))).2 = 1 + nls x 0 (posAt x 0 (k + 1)) := fun k => by rw [Int.add_assoc, nls_step]
    have h2c : 2 ^ c ≤ 64 := Nat.le_trans (Nat.pow_le_pow_right (by decide) (show c ≤ 6 by lia)) (by decide)
    have hcode := mark_code ls b c
    have hnp64 := (npF_le hcode (2 ^ c) (Nat.le_refl _)).1
    have hnpos : 0 < npF (markN ls b c) (2 ^ c) := Nat.lt_of_le_of_lt (Nat.zero_le _) (npF_lt (markN ls b c) (2 ^ c) 0 (Nat.pow_pos (by decide)))
    have hwl : ∀ k, (hw (sumN b c k)).length ≤ 100 := fun k => hw_len 100 _ (Nat.lt_of_lt_of_le (sumN_lt b 40 hb c k) (by decide))
    have hil := fun p => its_len (sumN b c) (markN ls b c) (2 ^ c) p
    have hip := fun p => its_pl (sumN b c) (markN ls b c) (2 ^ c) p hwl
    refine c_len_list (by walk_at "M.mem") (by rw [natsR_len, sizeLine_eq]; lia) ?_
    rw [natsR_len]
    walk_at "E.run"
    refine Call.sb (σ' := Lx 150 LX 1 [] x 0 ((182, AO.table ps) :: (D2, AO.list (strsV (ls.map fun ch => [ch]))) :: (D1, AO.list (natsV ((List.range c).map b))) :: (dr, AO.list (natsV [f0, f1, f2, f3, f4, f5, f6])) :: LawS F cP cD sc dr z (some (.ref D1)) (some (.ref D2)) (some (.str (S (x)))) (some (.str (S (l)))) (some (.ref LX.lx)) none none none none none none (σ))) (by ((repeat (first | exact Sb.refl | exact Sb.nil | (apply Sb.take; focus ((repeat (first | exact Pick.head | apply Pick.tail)); done)) | apply Sb.skip)))) ?_
    refine line_ (LN := fun r => 1 + nls x 0 (posAt x 0 r)) hC (hA'.le (by decide)) hRL hxl c (by lia) b hb (posAt x 0) (fun r hr => ⟨TT0 r _ (rowF_at _ hr), rfl⟩) (fun r _ => step r) fun wa => ?_
    walk_at "E.run"
    refine Call.sb (σ' := (wa, AO.list (strsV (rowF (fun k => hw (sumN b c k)) (2 ^ c)))) :: (D2, AO.list (strsV (ls.map fun ch => [ch]))) :: (D1, AO.list (natsV ((List.range c).map b))) :: (dr, AO.list (natsV [f0, f1, f2, f3, f4, f5, f6])) :: Lx 150 LX (1 + nls x 0 (posAt x 0 c)) [] x (posAt x 0 c) ((182, AO.table ps) :: LawS F cP cD sc dr z (some (.ref D1)) (some (.ref D2)) (some (.str (S (x)))) (some (.str (S (l)))) (some (.ref LX.lx)) none none none none none none (σ))) (by ((repeat (first | exact Sb.refl | exact Sb.nil | (apply Sb.take; focus ((repeat (first | exact Pick.head | apply Pick.tail)); done)) | apply Sb.skip)))) ?_
    refine Call.drop (piles_ hC hM (hA'.le (by decide)) (2 ^ c) h2c (sumN b c) (markN ls b c) (fun k => sumN_lt b 40 hb c k) ls hls hcode z hzb (by walk_at "M.mem") (by walk_at "M.mem") fun pl pa da => ⟨_, Sb.take .head (sb_rot (PL 101 z pa da (itsF (sumN b c) (markN ls b c) (2 ^ c)) (npF (markN ls b c) (2 ^ c))) _ σ : Sb (((wa, AO.list (strsV (rowF (fun k => hw (sumN b c k)) (2 ^ c)))) :: (D2, AO.list (strsV (ls.map fun ch => [ch]))) :: (D1, AO.list (natsV ((List.range c).map b))) :: (dr, AO.list (natsV [f0, f1, f2, f3, f4, f5, f6])) :: Lx 150 LX (1 + nls x 0 (posAt x 0 c)) [] x (posAt x 0 c) ((182, AO.table ps) :: LawS F cP cD sc dr z (some (.ref D1)) (some (.ref D2)) (some (.str (S (x)))) (some (.str (S (l)))) (some (.ref LX.lx)) none none none none none none ([]))) ++ (PL 101 z pa da (itsF (sumN b c) (markN ls b c) (2 ^ c)) (npF (markN ls b c) (2 ^ c)) ++ σ)) _), ?_⟩)
    simp only [List.cons_append, List.nil_append]
    walk_at "E.run"
    refine' x_lc (ks := ["k"]) (cn := []) ?nd ?hcn ?hclos ?hk ?hn ?_ ?ht ?hs ?hsw
    (((case nd => decide); (case hcn => rfl); (case hclos => rfl); (case hk => rfl); (case hn => decide); (case ht => intro _ _; rfl); (case hs => intro _; rfl)))
    case hsw => rfl
    walk_at "E.run"
    refine c_len_list (by walk_at "M.mem") (by rw [List.length_map, List.length_range, sizeLine_eq]; lia) ?_
    rw [List.length_map, List.length_range]
    walk_at "E.run"
    refine c_range1 fun r5 => ?_
    refine it_range (by walk_at "M.mem") (by decide) (by decide) (by lia) (by lia) fun r6 => ?_
    rw [er0 (npF (markN ls b c) (2 ^ c))]
    intro D4 L4 cs4 hcs4
    cases cs_0 hcs4
    ((simp only [celled, List.map_cons, List.map_nil, List.cons_append, List.nil_append]))
    have eP0 : PL 101 z pa da (fun p => if p < 0 then (itsF (sumN b c) (markN ls b c) (2 ^ c) p).take (p % 3) else itsF (sumN b c) (markN ls b c) (2 ^ c) p) (npF (markN ls b c) (2 ^ c)) = PL 101 z pa da (itsF (sumN b c) (markN ls b c) (2 ^ c)) (npF (markN ls b c) (2 ^ c)) := PL_congr fun i hi => ⟨rfl, rfl, if_neg (Nat.not_lt_zero _)⟩
    refine' cloop_rangeJ (n := npF (markN ls b c) (2 ^ c)) (σ' := (L4, AO.fr ["k"] [none]) :: (pl, AO.list ((List.range (npF (markN ls b c) (2 ^ c))).map fun p => V.ref (pa p))) :: (D2, AO.list (strsV (ls.map fun ch => [ch]))) :: (D1, AO.list (natsV ((List.range c).map b))) :: (dr, AO.list (natsV [f0, f1, f2, f3, f4, f5, f6])) :: Lx 150 LX (1 + nls x 0 (posAt x 0 c)) [] x (posAt x 0 c) ((182, AO.table ps) :: LawS F cP cD sc dr z (some (.ref D1)) (some (.ref D2)) (some (.str (S (x)))) (some (.str (S (l)))) (some (.ref LX.lx)) none none none none none (some (.ref pl)) (PL 101 z pa da (itsF (sumN b c) (markN ls b c) (2 ^ c)) (npF (markN ls b c) (2 ^ c)) ++ σ))) rfl hA'.1 ?sb4 (by rw [sizeLine_eq]; lia)
      (fun k acc σ' => ∃ q u, acc = (List.range k).map (toldV z (itsF (sumN b c) (markN ls b c) (2 ^ c)) q) ∧ σ' = (L4, AO.fr ["k"] [u]) :: (pl, AO.list ((List.range (npF (markN ls b c) (2 ^ c))).map fun p => V.ref (pa p))) :: (D2, AO.list (strsV (ls.map fun ch => [ch]))) :: (D1, AO.list (natsV ((List.range c).map b))) :: (dr, AO.list (natsV [f0, f1, f2, f3, f4, f5, f6])) :: Lx 150 LX (1 + nls x 0 (posAt x 0 c)) [] x (posAt x 0 c) ((182, AO.table ps) :: LawS F cP cD sc dr z (some (.ref D1)) (some (.ref D2)) (some (.str (S (x)))) (some (.str (S (l)))) (some (.ref LX.lx)) none none none none none (some (.ref pl)) (RwL q (fun p => ((itsF (sumN b c) (markN ls b c) (2 ^ c) p).drop (p % 3)).map pairV) (k) ++ (PL 101 z pa da (fun p => if p < k then (itsF (sumN b c) (markN ls b c) (2 ^ c) p).take (p % 3) else itsF (sumN b c) (markN ls b c) (2 ^ c) p) (npF (markN ls b c) (2 ^ c)) ++ σ)))) ⟨fun _ => 0, none, rfl, by rw [eP0]; rfl⟩ ?_ ?_
    case sb4 => ((repeat (first | exact Sb.refl | exact Sb.nil | (apply Sb.take; focus ((repeat (first | exact Pick.head | apply Pick.tail)); done)) | apply Sb.skip)))
    · rintro k X acc σ' hk hacc ⟨q, u, rfl, rfl⟩
      have hp1 : (pa k, AO.seq (.ref 101) (some (da k)) ((itsF (sumN b c) (markN ls b c) (2 ^ c) k).map pairV)) ∈ RwL q (fun p => ((itsF (sumN b c) (markN ls b c) (2 ^ c) p).drop (p % 3)).map pairV) (k) ++ (PL 101 z pa da (fun p => if p < k then (itsF (sumN b c) (markN ls b c) (2 ^ c) p).take (p % 3) else itsF (sumN b c) (markN ls b c) (2 ^ c) p) (npF (markN ls b c) (2 ^ c)) ++ σ) := by
        have hx := (PL_mem (D := 101) (z := z) (pa := pa) (da := da) (it := (fun p => if p < k then (itsF (sumN b c) (markN ls b c) (2 ^ c) p).take (p % 3) else itsF (sumN b c) (markN ls b c) (2 ^ c) p)) (σ := σ) hk).1
        simp only [Nat.lt_irrefl, ↓reduceIte] at hx
        exact List.mem_append_right _ hx
      have hp2 : (da k, AO.attrs ["_initial_size"] [some (.int (z : Nat))]) ∈ RwL q (fun p => ((itsF (sumN b c) (markN ls b c) (2 ^ c) p).drop (p % 3)).map pairV) (k) ++ (PL 101 z pa da (fun p => if p < k then (itsF (sumN b c) (markN ls b c) (2 ^ c) p).take (p % 3) else itsF (sumN b c) (markN ls b c) (2 ^ c) p) (npF (markN ls b c) (2 ^ c)) ++ σ) := List.mem_append_right _ (PL_mem (D := 101) (z := z) (pa := pa) (da := da) (it := (fun p => if p < k then (itsF (sumN b c) (markN ls b c) (2 ^ c) p).take (p % 3) else itsF (sumN b c) (markN ls b c) (2 ^ c) p)) (σ := σ) hk).2
      have hp3 : (pa k, AO.seq (.ref 101) (some (da k)) (((itsF (sumN b c) (markN ls b c) (2 ^ c) k).take (k % 3)).map pairV)) ∈ RwL q (fun p => ((itsF (sumN b c) (markN ls b c) (2 ^ c) p).drop (p % 3)).map pairV) (k) ++ (PL 101 z pa da (fun p => if p < (k + 1) then (itsF (sumN b c) (markN ls b c) (2 ^ c) p).take (p % 3) else itsF (sumN b c) (markN ls b c) (2 ^ c) p) (npF (markN ls b c) (2 ^ c)) ++ σ) := by
        have hx := (PL_mem (D := 101) (z := z) (pa := pa) (da := da) (it := (fun p => if p < (k + 1) then (itsF (sumN b c) (markN ls b c) (2 ^ c) p).take (p % 3) else itsF (sumN b c) (markN ls b c) (2 ^ c) p)) (σ := σ) hk).1
        simp only [Nat.lt_succ_self, ↓reduceIte] at hx
        exact List.mem_append_right _ hx
      have hp4 : (da k, AO.attrs ["_initial_size"] [some (.int (z : Nat))]) ∈ RwL q (fun p => ((itsF (sumN b c) (markN ls b c) (2 ^ c) p).drop (p % 3)).map pairV) (k) ++ (PL 101 z pa da (fun p => if p < (k + 1) then (itsF (sumN b c) (markN ls b c) (2 ^ c) p).take (p % 3) else itsF (sumN b c) (markN ls b c) (2 ^ c) p) (npF (markN ls b c) (2 ^ c)) ++ σ) := List.mem_append_right _ (PL_mem (D := 101) (z := z) (pa := pa) (da := da) (it := (fun p => if p < (k + 1) then (itsF (sumN b c) (markN ls b c) (2 ^ c) p).take (p % 3) else itsF (sumN b c) (markN ls b c) (2 ^ c) p)) (σ := σ) hk).2
      have hup : LU (pa k) (AO.seq (.ref 101) (some (da k)) ((itsF (sumN b c) (markN ls b c) (2 ^ c) k).map pairV)) (AO.seq (.ref 101) (some (da k)) (((itsF (sumN b c) (markN ls b c) (2 ^ c) k).take (k % 3)).map pairV)) (RwL q (fun p => ((itsF (sumN b c) (markN ls b c) (2 ^ c) p).drop (p % 3)).map pairV) (k) ++ (PL 101 z pa da (fun p => if p < k then (itsF (sumN b c) (markN ls b c) (2 ^ c) p).take (p % 3) else itsF (sumN b c) (markN ls b c) (2 ^ c) p) (npF (markN ls b c) (2 ^ c)) ++ σ)) (RwL q (fun p => ((itsF (sumN b c) (markN ls b c) (2 ^ c) p).drop (p % 3)).map pairV) (k) ++ (PL 101 z pa da (fun p => if p < (k + 1) then (itsF (sumN b c) (markN ls b c) (2 ^ c) p).take (p % 3) else itsF (sumN b c) (markN ls b c) (2 ^ c) p) (npF (markN ls b c) (2 ^ c)) ++ σ)) := by
        have hx := PL_upd (D := 101) (z := z) (pa := pa) (da := da) (it := (fun p => if p < k then (itsF (sumN b c) (markN ls b c) (2 ^ c) p).take (p % 3) else itsF (sumN b c) (markN ls b c) (2 ^ c) p)) (it' := (fun p => if p < (k + 1) then (itsF (sumN b c) (markN ls b c) (2 ^ c) p).take (p % 3) else itsF (sumN b c) (markN ls b c) (2 ^ c) p)) (σ := σ) hk fun j _ hj => by
          show (if j < k + 1 then _ else _) = if j < k then _ else _
          by_cases hjk : j < k
          · rw [if_pos hjk, if_pos (by lia)]
          · rw [if_neg hjk, if_neg (by lia)]
        simp only [Nat.lt_irrefl, Nat.lt_succ_self, ↓reduceIte] at hx
        exact hx.behind _
      have hil' := hil k
      have hip' := hip k
      walk_at "E.run"
      refine g_refs rfl (by walk_at "M.mem") hk (by lia) ?_
      walk_at "E.run"
      refine accstrC_ hC hg2 (hA'.le (by decide)) (ps := itsF (sumN b c) (markN ls b c) (2 ^ c) k) (by lia) (by lia) (by ((repeat (first | exact List.Mem.head _ | apply List.Mem.tail | assumption)))) (by ((repeat (first | exact List.Mem.head _ | apply List.Mem.tail | assumption)))) ?_
      walk_at "E.run"
      refine g_refs rfl (by walk_at "M.mem") hk (by lia) ?_
      walk_at "E.run"
      refine acclenC_ hC hg1 (hA'.le (by decide)) (ps := itsF (sumN b c) (markN ls b c) (2 ^ c) k) (z := z) (by lia) (by lia) (by ((repeat (first | exact List.Mem.head _ | apply List.Mem.tail | assumption)))) (by ((repeat (first | exact List.Mem.head _ | apply List.Mem.tail | assumption)))) ?_
      walk_at "E.run"
      refine g_refs rfl (by walk_at "M.mem") hk (by lia) ?_
      (refine m_any (D := 101) (ga := "list.__getattribute__") (ty := "function") (f := .ref 53) (fV := .ref 53) (by assumption) (isI_seq (by ((repeat (first | exact List.Mem.head _ | apply List.Mem.tail | assumption))))) (by ((repeat (first | exact List.Mem.head _ | apply List.Mem.tail | assumption)))) (by decide) (by kernel_rfl) (by decide +kernel) (by kernel_rfl) (by kernel_rfl) (by kernel_rfl) (by decide) (fun _ => rfl) ?_)
      walk_at "E.run"
      rw [fmod3]
      refine accpopf_ (x := pa k) (d := da k) (items := (itsF (sumN b c) (markN ls b c) (2 ^ c) k).map pairV) (σ' := (r6, X) :: (D4, AO.list ((List.range k).map (toldV z (itsF (sumN b c) (markN ls b c) (2 ^ c)) q))) :: (L4, AO.fr ["k"] [some (.int (k : Nat))]) :: (pl, AO.list ((List.range (npF (markN ls b c) (2 ^ c))).map fun p => V.ref (pa p))) :: (D2, AO.list (strsV (ls.map fun ch => [ch]))) :: (D1, AO.list (natsV ((List.range c).map b))) :: (dr, AO.list (natsV [f0, f1, f2, f3, f4, f5, f6])) :: Lx 150 LX (1 + nls x 0 (posAt x 0 c)) [] x (posAt x 0 c) ((182, AO.table ps) :: LawS F cP cD sc dr z (some (.ref D1)) (some (.ref D2)) (some (.str (S (x)))) (some (.str (S (l)))) (some (.ref LX.lx)) none none none none none (some (.ref pl)) (RwL q (fun p => ((itsF (sumN b c) (markN ls b c) (2 ^ c) p).drop (p % 3)).map pairV) (k) ++ (PL 101 z pa da (fun p => if p < (k + 1) then (itsF (sumN b c) (markN ls b c) (2 ^ c) p).take (p % 3) else itsF (sumN b c) (markN ls b c) (2 ^ c) p) (npF (markN ls b c) (2 ^ c)) ++ σ)))) hC (hA'.le (by decide)) (k % 3) (by lia) (by rw [List.length_map]; lia) (by rw [take_clip, ← List.map_take]; ((repeat (first | exact LU.head | apply LU.tail | assumption)))) fun rr => ?_
      rw [cut_from, ← List.map_drop]
      walk_at "E.run"
      refine g_refs rfl (by walk_at "M.mem") hk (by lia) ?_
      walk_at "E.run"
      refine accstrC_ hC hg2 (hA'.le (by decide)) (ps := (itsF (sumN b c) (markN ls b c) (2 ^ c) k).take (k % 3)) (by have := hip'.2 (k % 3); lia) (by rw [List.length_take]; lia) (by ((repeat (first | exact List.Mem.head _ | apply List.Mem.tail | assumption)))) (by ((repeat (first | exact List.Mem.head _ | apply List.Mem.tail | assumption)))) ?_
      walk_at "E.run"
      refine g_refs rfl (by walk_at "M.mem") hk (by lia) ?_
      walk_at "E.run"
      refine acclenC_ hC hg1 (hA'.le (by decide)) (ps := (itsF (sumN b c) (markN ls b c) (2 ^ c) k).take (k % 3)) (z := z) (by have := hip'.2 (k % 3); lia) (by lia) (by ((repeat (first | exact List.Mem.head _ | apply List.Mem.tail | assumption)))) (by ((repeat (first | exact List.Mem.head _ | apply List.Mem.tail | assumption)))) ?_
      walk_at "E.run"
      refine ⟨by rw [sizeLine_eq]; show 5 ≤ _; lia, ?_⟩
      refine ⟨_, ?_, fun p => if p = k then rr else q p, some (.int (k : Nat)), by rw [told_new]; rfl, rfl⟩
      rw [RwL_new rr _ rfl, List.cons_append]
      ((repeat (first | exact Sb.refl | exact Sb.nil | (apply Sb.take; focus ((repeat (first | exact Pick.head | apply Pick.tail)); done)) | apply Sb.skip)))
    rintro acc σ' ⟨q, u, rfl, rfl⟩
    walk_at "E.run"
    refine ⟨[u], (D4, AO.list ((List.range (npF (markN ls b c) (2 ^ c))).map (toldV z (itsF (sumN b c) (markN ls b c) (2 ^ c)) q))) :: (pl, AO.list ((List.range (npF (markN ls b c) (2 ^ c))).map fun p => V.ref (pa p))) :: (D2, AO.list (strsV (ls.map fun ch => [ch]))) :: (D1, AO.list (natsV ((List.range c).map b))) :: (dr, AO.list (natsV [f0, f1, f2, f3, f4, f5, f6])) :: Lx 150 LX (1 + nls x 0 (posAt x 0 c)) [] x (posAt x 0 c) ((182, AO.table ps) :: LawS F cP cD sc dr z (some (.ref D1)) (some (.ref D2)) (some (.str (S (x)))) (some (.str (S (l)))) (some (.ref LX.lx)) (some (.ref D4)) none none none none (some (.ref pl)) (RwL q (fun p => ((itsF (sumN b c) (markN ls b c) (2 ^ c) p).drop (p % 3)).map pairV) (npF (markN ls b c) (2 ^ c)) ++ (PL 101 z pa da (fun p => if p < npF (markN ls b c) (2 ^ c) then (itsF (sumN b c) (markN ls b c) (2 ^ c) p).take (p % 3) else itsF (sumN b c) (markN ls b c) (2 ^ c) p) (npF (markN ls b c) (2 ^ c)) ++ σ))), by ((repeat (first | exact Sb.refl | exact Sb.nil | (apply Sb.take; focus ((repeat (first | exact Pick.head | apply Pick.tail)); done)) | apply Sb.skip))), ?_⟩
    walk_at "E.run"
    refine ⟨by rw [sizeLine_eq]; decide, fun du => ?_⟩
    walk_at "E.run"
    refine x_for' ?_
    walk_at "E.run"
    refine Call.sb (σ' := (du, AO.list []) :: (D4, AO.list ((List.range (npF (markN ls b c) (2 ^ c))).map (toldV z (itsF (sumN b c) (markN ls b c) (2 ^ c)) q))) :: (pl, AO.list ((List.range (npF (markN ls b c) (2 ^ c))).map fun p => V.ref (pa p))) :: (D2, AO.list (strsV (ls.map fun ch => [ch]))) :: (D1, AO.list (natsV ((List.range c).map b))) :: (dr, AO.list (natsV [f0, f1, f2, f3, f4, f5, f6])) :: Lx 150 LX (1 + nls x 0 (posAt x 0 c)) [] x (posAt x 0 c) ((182, AO.table ps) :: LawS F cP cD sc dr z (some (.ref D1)) (some (.ref D2)) (some (.str (S (x)))) (some (.str (S (l)))) (some (.ref LX.lx)) (some (.ref D4)) (some (.ref du)) none none none (some (.ref pl)) (RwL q (fun p => ((itsF (sumN b c) (markN ls b c) (2 ^ c) p).drop (p % 3)).map pairV) (npF (markN ls b c) (2 ^ c)) ++ (PL 101 z pa da (fun p => if p < npF (markN ls b c) (2 ^ c) then (itsF (sumN b c) (markN ls b c) (2 ^ c) p).take (p % 3) else itsF (sumN b c) (markN ls b c) (2 ^ c) p) (npF (markN ls b c) (2 ^ c)) ++ σ)))) (by ((repeat (first | exact Sb.refl | exact Sb.nil | (apply Sb.take; focus ((repeat (first | exact Pick.head | apply Pick.tail)); done)) | apply Sb.skip)))) ?_
    refine Call.drop (due_ hC (hA'.le (by decide)) c (by lia) b hb ls hls (by walk_at "M.mem") (by walk_at "M.mem") fun rl ra => ⟨_, Sb.take .head (sb_rot (RwL ra (fun p => (itsF (sumN b c) (markN ls b c) (2 ^ c) p).map pairV) (npF (markN ls b c) (2 ^ c))) _ (RwL q (fun p => ((itsF (sumN b c) (markN ls b c) (2 ^ c) p).drop (p % 3)).map pairV) (npF (markN ls b c) (2 ^ c)) ++ (PL 101 z pa da (fun p => if p < npF (markN ls b c) (2 ^ c) then (itsF (sumN b c) (markN ls b c) (2 ^ c) p).take (p % 3) else itsF (sumN b c) (markN ls b c) (2 ^ c) p) (npF (markN ls b c) (2 ^ c)) ++ σ)) : Sb (((du, AO.list []) :: (D4, AO.list ((List.range (npF (markN ls b c) (2 ^ c))).map (toldV z (itsF (sumN b c) (markN ls b c) (2 ^ c)) q))) :: (pl, AO.list ((List.range (npF (markN ls b c) (2 ^ c))).map fun p => V.ref (pa p))) :: (D2, AO.list (strsV (ls.map fun ch => [ch]))) :: (D1, AO.list (natsV ((List.range c).map b))) :: (dr, AO.list (natsV [f0, f1, f2, f3, f4, f5, f6])) :: Lx 150 LX (1 + nls x 0 (posAt x 0 c)) [] x (posAt x 0 c) ((182, AO.table ps) :: LawS F cP cD sc dr z (some (.ref D1)) (some (.ref D2)) (some (.str (S (x)))) (some (.str (S (l)))) (some (.ref LX.lx)) (some (.ref D4)) (some (.ref du)) none none none (some (.ref pl)) ([]))) ++ (RwL ra (fun p => (itsF (sumN b c) (markN ls b c) (2 ^ c) p).map pairV) (npF (markN ls b c) (2 ^ c)) ++ (RwL q (fun p => ((itsF (sumN b c) (markN ls b c) (2 ^ c) p).drop (p % 3)).map pairV) (npF (markN ls b c) (2 ^ c)) ++ (PL 101 z pa da (fun p => if p < npF (markN ls b c) (2 ^ c) then (itsF (sumN b c) (markN ls b c) (2 ^ c) p).take (p % 3) else itsF (sumN b c) (markN ls b c) (2 ^ c) p) (npF (markN ls b c) (2 ^ c)) ++ σ)))) _), ?_⟩)
    simp only [List.cons_append, List.nil_append]
    refine it_list (by walk_at "M.mem") fun i8 => ?_
    refine loop_it (σ' := (rl, AO.list ((List.range (npF (markN ls b c) (2 ^ c))).map fun p => V.ref (ra p))) :: (du, AO.list []) :: (D4, AO.list ((List.range (npF (markN ls b c) (2 ^ c))).map (toldV z (itsF (sumN b c) (markN ls b c) (2 ^ c)) q))) :: (pl, AO.list ((List.range (npF (markN ls b c) (2 ^ c))).map fun p => V.ref (pa p))) :: (D2, AO.list (strsV (ls.map fun ch => [ch]))) :: (D1, AO.list (natsV ((List.range c).map b))) :: (dr, AO.list (natsV [f0, f1, f2, f3, f4, f5, f6])) :: Lx 150 LX (1 + nls x 0 (posAt x 0 c)) [] x (posAt x 0 c) ((182, AO.table ps) :: LawS F cP cD sc dr z (some (.ref D1)) (some (.ref D2)) (some (.str (S (x)))) (some (.str (S (l)))) (some (.ref LX.lx)) (some (.ref D4)) (some (.ref du)) none none none (some (.ref pl)) (RwL ra (fun p => (itsF (sumN b c) (markN ls b c) (2 ^ c) p).map pairV) (npF (markN ls b c) (2 ^ c)) ++ (RwL q (fun p => ((itsF (sumN b c) (markN ls b c) (2 ^ c) p).drop (p % 3)).map pairV) (npF (markN ls b c) (2 ^ c)) ++ (PL 101 z pa da (fun p => if p < npF (markN ls b c) (2 ^ c) then (itsF (sumN b c) (markN ls b c) (2 ^ c) p).take (p % 3) else itsF (sumN b c) (markN ls b c) (2 ^ c) p) (npF (markN ls b c) (2 ^ c)) ++ σ))))) (by ((repeat (first | exact Sb.refl | exact Sb.nil | (apply Sb.take; focus ((repeat (first | exact Pick.head | apply Pick.tail)); done)) | apply Sb.skip)))) (iter_list (l := (List.range (npF (markN ls b c) (2 ^ c))).map fun p => V.ref (ra p)) hA'.1)
      (fun k σ' => ∃ e u1 u2 u3, σ' = (rl, AO.list ((List.range (npF (markN ls b c) (2 ^ c))).map fun p => V.ref (ra p))) :: (du, AO.list ((List.range k).map (toldV z (itsF (sumN b c) (markN ls b c) (2 ^ c)) e))) :: (D4, AO.list ((List.range (npF (markN ls b c) (2 ^ c))).map (toldV z (itsF (sumN b c) (markN ls b c) (2 ^ c)) q))) :: (pl, AO.list ((List.range (npF (markN ls b c) (2 ^ c))).map fun p => V.ref (pa p))) :: (D2, AO.list (strsV (ls.map fun ch => [ch]))) :: (D1, AO.list (natsV ((List.range c).map b))) :: (dr, AO.list (natsV [f0, f1, f2, f3, f4, f5, f6])) :: Lx 150 LX (1 + nls x 0 (posAt x 0 c)) [] x (posAt x 0 c) ((182, AO.table ps) :: LawS F cP cD sc dr z (some (.ref D1)) (some (.ref D2)) (some (.str (S (x)))) (some (.str (S (l)))) (some (.ref LX.lx)) (some (.ref D4)) (some (.ref du)) u1 u2 u3 (some (.ref pl)) (RwL e (fun p => ((itsF (sumN b c) (markN ls b c) (2 ^ c) p).drop (p % 3)).map pairV) (k) ++ (RwL ra (fun p => (itsF (sumN b c) (markN ls b c) (2 ^ c) p).map pairV) (npF (markN ls b c) (2 ^ c)) ++ (RwL q (fun p => ((itsF (sumN b c) (markN ls b c) (2 ^ c) p).drop (p % 3)).map pairV) (npF (markN ls b c) (2 ^ c)) ++ (PL 101 z pa da (fun p => if p < npF (markN ls b c) (2 ^ c) then (itsF (sumN b c) (markN ls b c) (2 ^ c) p).take (p % 3) else itsF (sumN b c) (markN ls b c) (2 ^ c) p) (npF (markN ls b c) (2 ^ c)) ++ σ)))))) ⟨fun _ => 0, none, none, none, rfl⟩ (by rintro k _ ⟨e, u1, u2, u3, rfl⟩; walk_at "M.mem") ?_ ?_
    · rintro k y σ' hy ⟨e, u1, u2, u3, rfl⟩
      have hk : k < npF (markN ls b c) (2 ^ c) := by have := (List.getElem?_eq_some_iff.mp hy).1; rw [List.length_map, List.length_range] at this; exact this
      rw [refs_get hk] at hy
      cases hy
      have hil' := hil k
      have hip' := hip k
      have hrm : (ra k, AO.list ((itsF (sumN b c) (markN ls b c) (2 ^ c) k).map pairV)) ∈ RwL e (fun p => ((itsF (sumN b c) (markN ls b c) (2 ^ c) p).drop (p % 3)).map pairV) (k) ++ (RwL ra (fun p => (itsF (sumN b c) (markN ls b c) (2 ^ c) p).map pairV) (npF (markN ls b c) (2 ^ c)) ++ (RwL q (fun p => ((itsF (sumN b c) (markN ls b c) (2 ^ c) p).drop (p % 3)).map pairV) (npF (markN ls b c) (2 ^ c)) ++ (PL 101 z pa da (fun p => if p < npF (markN ls b c) (2 ^ c) then (itsF (sumN b c) (markN ls b c) (2 ^ c) p).take (p % 3) else itsF (sumN b c) (markN ls b c) (2 ^ c) p) (npF (markN ls b c) (2 ^ c)) ++ σ))) := List.mem_append_right _ (RwL_mem (ra := ra) (it := fun p => (itsF (sumN b c) (markN ls b c) (2 ^ c) p).map pairV) hk)
      walk_at "E.run"
      refine m_join ?_
      walk_at "E.run"
      refine' e_lcT (ks := ["fws", "part"]) (cn := []) ?nd ?hcn ?hclos ?hk ?hn ?_ ?hs
      (((case nd => decide); (case hcn => rfl); (case hclos => rfl); (case hk => rfl); (case hn => decide); (case hs => intro _; rfl)))
      walk_at "E.run"
      refine it_list (by ((repeat (first | exact List.Mem.head _ | apply List.Mem.tail | assumption)))) fun i9 => ?_
      intro D7 L7 cs7 hcs7
      cases cs_0 hcs7
      ((simp only [celled, List.map_cons, List.map_nil, List.cons_append, List.nil_append]))
      refine' cloopT_map (fun i => V.str (S (((itsF (sumN b c) (markN ls b c) (2 ^ c) k).getD i ([], [])).1 ++ ((itsF (sumN b c) (markN ls b c) (2 ^ c) k).getD i ([], [])).2))) (l := (itsF (sumN b c) (markN ls b c) (2 ^ c) k).map pairV) (G := fun σ => (ra k, AO.list ((itsF (sumN b c) (markN ls b c) (2 ^ c) k).map pairV)) ∈ σ) (σ' := (L7, AO.fr ["fws", "part"] [none, none]) :: (i8, AO.lit rl (k + 1)) :: (rl, AO.list ((List.range (npF (markN ls b c) (2 ^ c))).map fun p => V.ref (ra p))) :: (du, AO.list ((List.range k).map (toldV z (itsF (sumN b c) (markN ls b c) (2 ^ c)) e))) :: (D4, AO.list ((List.range (npF (markN ls b c) (2 ^ c))).map (toldV z (itsF (sumN b c) (markN ls b c) (2 ^ c)) q))) :: (pl, AO.list ((List.range (npF (markN ls b c) (2 ^ c))).map fun p => V.ref (pa p))) :: (D2, AO.list (strsV (ls.map fun ch => [ch]))) :: (D1, AO.list (natsV ((List.range c).map b))) :: (dr, AO.list (natsV [f0, f1, f2, f3, f4, f5, f6])) :: Lx 150 LX (1 + nls x 0 (posAt x 0 c)) [] x (posAt x 0 c) ((182, AO.table ps) :: LawS F cP cD sc dr z (some (.ref D1)) (some (.ref D2)) (some (.str (S (x)))) (some (.str (S (l)))) (some (.ref LX.lx)) (some (.ref D4)) (some (.ref du)) (some (.ref (ra k))) u2 u3 (some (.ref pl)) (RwL e (fun p => ((itsF (sumN b c) (markN ls b c) (2 ^ c) p).drop (p % 3)).map pairV) (k) ++ (RwL ra (fun p => (itsF (sumN b c) (markN ls b c) (2 ^ c) p).map pairV) (npF (markN ls b c) (2 ^ c)) ++ (RwL q (fun p => ((itsF (sumN b c) (markN ls b c) (2 ^ c) p).drop (p % 3)).map pairV) (npF (markN ls b c) (2 ^ c)) ++ (PL 101 z pa da (fun p => if p < npF (markN ls b c) (2 ^ c) then (itsF (sumN b c) (markN ls b c) (2 ^ c) p).take (p % 3) else itsF (sumN b c) (markN ls b c) (2 ^ c) p) (npF (markN ls b c) (2 ^ c)) ++ σ)))))) ?sb7 (iter_list hA'.1) (fun y hy => by obtain ⟨pr, _, rfl⟩ := List.mem_map.mp hy; exact ⟨_, rfl⟩)
        (fun i σ' => ∃ v1 v2, σ' = (L7, AO.fr ["fws", "part"] [v1, v2]) :: (i8, AO.lit rl (k + 1)) :: (rl, AO.list ((List.range (npF (markN ls b c) (2 ^ c))).map fun p => V.ref (ra p))) :: (du, AO.list ((List.range k).map (toldV z (itsF (sumN b c) (markN ls b c) (2 ^ c)) e))) :: (D4, AO.list ((List.range (npF (markN ls b c) (2 ^ c))).map (toldV z (itsF (sumN b c) (markN ls b c) (2 ^ c)) q))) :: (pl, AO.list ((List.range (npF (markN ls b c) (2 ^ c))).map fun p => V.ref (pa p))) :: (D2, AO.list (strsV (ls.map fun ch => [ch]))) :: (D1, AO.list (natsV ((List.range c).map b))) :: (dr, AO.list (natsV [f0, f1, f2, f3, f4, f5, f6])) :: Lx 150 LX (1 + nls x 0 (posAt x 0 c)) [] x (posAt x 0 c) ((182, AO.table ps) :: LawS F cP cD sc dr z (some (.ref D1)) (some (.ref D2)) (some (.str (S (x)))) (some (.str (S (l)))) (some (.ref LX.lx)) (some (.ref D4)) (some (.ref du)) (some (.ref (ra k))) u2 u3 (some (.ref pl)) (RwL e (fun p => ((itsF (sumN b c) (markN ls b c) (2 ^ c) p).drop (p % 3)).map pairV) (k) ++ (RwL ra (fun p => (itsF (sumN b c) (markN ls b c) (2 ^ c) p).map pairV) (npF (markN ls b c) (2 ^ c)) ++ (RwL q (fun p => ((itsF (sumN b c) (markN ls b c) (2 ^ c) p).drop (p % 3)).map pairV) (npF (markN ls b c) (2 ^ c)) ++ (PL 101 z pa da (fun p => if p < npF (markN ls b c) (2 ^ c) then (itsF (sumN b c) (markN ls b c) (2 ^ c) p).take (p % 3) else itsF (sumN b c) (markN ls b c) (2 ^ c) p) (npF (markN ls b c) (2 ^ c)) ++ σ)))))) ⟨none, none, rfl⟩ (by rintro i acc _ ⟨v1, v2, rfl⟩; ((repeat (first | exact List.Mem.head _ | apply List.Mem.tail | assumption)))) (by rw [List.length_map, sizeLine_eq]; lia) ?_ ?_
      case sb7 => ((repeat (first | exact Sb.refl | exact Sb.nil | (apply Sb.take; focus ((repeat (first | exact Pick.head | apply Pick.tail)); done)) | apply Sb.skip)))
      · rintro i y acc σ' hy ⟨v1, v2, rfl⟩
        obtain ⟨pr, hpr, rfl⟩ := pairs_atP hy
        obtain ⟨jj, ejj⟩ := its_mem (List.mem_of_getElem? hpr)
        have hprl := prF_len (sumN b c) hwl jj
        rw [← ejj] at hprl
        refine asg_tup hA'.1 ?_ (by simp) rfl rfl
        walk_at "E.run"
        refine bin_catS (by rw [sizeLine_eq]; lia) ?_
        exact ⟨by rw [List.getD_eq_getElem?_getD, hpr]; rfl, _, by ((repeat (first | exact Sb.refl | exact Sb.nil | (apply Sb.take; focus ((repeat (first | exact Pick.head | apply Pick.tail)); done)) | apply Sb.skip))), _, _, rfl⟩
      rintro σ' ⟨v1, v2, rfl⟩
      rw [List.length_map, cat_map]
      refine ⟨[v1, v2], (D7, AO.list (strsV ((itsF (sumN b c) (markN ls b c) (2 ^ c) k).map fun p => p.1 ++ p.2))) :: (i8, AO.lit rl (k + 1)) :: (rl, AO.list ((List.range (npF (markN ls b c) (2 ^ c))).map fun p => V.ref (ra p))) :: (du, AO.list ((List.range k).map (toldV z (itsF (sumN b c) (markN ls b c) (2 ^ c)) e))) :: (D4, AO.list ((List.range (npF (markN ls b c) (2 ^ c))).map (toldV z (itsF (sumN b c) (markN ls b c) (2 ^ c)) q))) :: (pl, AO.list ((List.range (npF (markN ls b c) (2 ^ c))).map fun p => V.ref (pa p))) :: (D2, AO.list (strsV (ls.map fun ch => [ch]))) :: (D1, AO.list (natsV ((List.range c).map b))) :: (dr, AO.list (natsV [f0, f1, f2, f3, f4, f5, f6])) :: Lx 150 LX (1 + nls x 0 (posAt x 0 c)) [] x (posAt x 0 c) ((182, AO.table ps) :: LawS F cP cD sc dr z (some (.ref D1)) (some (.ref D2)) (some (.str (S (x)))) (some (.str (S (l)))) (some (.ref LX.lx)) (some (.ref D4)) (some (.ref du)) (some (.ref (ra k))) u2 u3 (some (.ref pl)) (RwL e (fun p => ((itsF (sumN b c) (markN ls b c) (2 ^ c) p).drop (p % 3)).map pairV) (k) ++ (RwL ra (fun p => (itsF (sumN b c) (markN ls b c) (2 ^ c) p).map pairV) (npF (markN ls b c) (2 ^ c)) ++ (RwL q (fun p => ((itsF (sumN b c) (markN ls b c) (2 ^ c) p).drop (p % 3)).map pairV) (npF (markN ls b c) (2 ^ c)) ++ (PL 101 z pa da (fun p => if p < npF (markN ls b c) (2 ^ c) then (itsF (sumN b c) (markN ls b c) (2 ^ c) p).take (p % 3) else itsF (sumN b c) (markN ls b c) (2 ^ c) p) (npF (markN ls b c) (2 ^ c)) ++ σ))))), by ((repeat (first | exact Sb.refl | exact Sb.nil | (apply Sb.take; focus ((repeat (first | exact Pick.head | apply Pick.tail)); done)) | apply Sb.skip))), ?_⟩
      walk_at "E.run"
      refine c_joinS (by walk_at "M.mem") (by rw [show ((itsF (sumN b c) (markN ls b c) (2 ^ c) k).map fun p => p.1 ++ p.2).flatten = pCat (itsF (sumN b c) (markN ls b c) (2 ^ c) k) from rfl, pCat_len]; lia) ?_
      rw [show ((itsF (sumN b c) (markN ls b c) (2 ^ c) k).map fun p => p.1 ++ p.2).flatten = pCat (itsF (sumN b c) (markN ls b c) (2 ^ c) k) from rfl]
      walk_at "E.run"
      refine m_join ?_
      walk_at "E.run"
      refine' e_lcT (ks := ["fws", "part"]) (cn := []) ?nd ?hcn ?hclos ?hk ?hn ?_ ?hs
      (((case nd => decide); (case hcn => rfl); (case hclos => rfl); (case hk => rfl); (case hn => decide); (case hs => intro _; rfl)))
      walk_at "E.run"
      refine c_len_list (by walk_at "M.mem") (by rw [List.length_map, List.length_range, sizeLine_eq]; lia) ?_
      rw [List.length_map, List.length_range]
      walk_at "E.run"
      refine ⟨_, _, .none, .int, fun sl => ?_⟩
      refine ⟨has_list (by ((repeat (first | exact List.Mem.head _ | apply List.Mem.tail | assumption)))), ?_⟩
      refine g_list_slice (by ((repeat (first | exact List.Mem.head _ | apply List.Mem.tail | assumption)))) (by rw [List.length_map, sizeLine_eq]; lia) fun d8 => ?_
      rw [fmod3, cut_to, ← List.map_take]
      have htl : ((itsF (sumN b c) (markN ls b c) (2 ^ c) k).take (k % 3)).length ≤ 64 := by rw [List.length_take]; lia
      refine it_list (by walk_at "M.mem") fun ia => ?_
      intro D8 L8 cs8 hcs8
      cases cs_0 hcs8
      ((simp only [celled, List.map_cons, List.map_nil, List.cons_append, List.nil_append]))
      refine' cloopT_map (fun i => V.str (S ((((itsF (sumN b c) (markN ls b c) (2 ^ c) k).take (k % 3)).getD i ([], [])).1 ++ (((itsF (sumN b c) (markN ls b c) (2 ^ c) k).take (k % 3)).getD i ([], [])).2))) (l := ((itsF (sumN b c) (markN ls b c) (2 ^ c) k).take (k % 3)).map pairV) (G := fun σ => (d8, AO.list (((itsF (sumN b c) (markN ls b c) (2 ^ c) k).take (k % 3)).map pairV)) ∈ σ) (σ' := (L8, AO.fr ["fws", "part"] [none, none]) :: (d8, AO.list (((itsF (sumN b c) (markN ls b c) (2 ^ c) k).take (k % 3)).map pairV)) :: (i8, AO.lit rl (k + 1)) :: (rl, AO.list ((List.range (npF (markN ls b c) (2 ^ c))).map fun p => V.ref (ra p))) :: (du, AO.list ((List.range k).map (toldV z (itsF (sumN b c) (markN ls b c) (2 ^ c)) e))) :: (D4, AO.list ((List.range (npF (markN ls b c) (2 ^ c))).map (toldV z (itsF (sumN b c) (markN ls b c) (2 ^ c)) q))) :: (pl, AO.list ((List.range (npF (markN ls b c) (2 ^ c))).map fun p => V.ref (pa p))) :: (D2, AO.list (strsV (ls.map fun ch => [ch]))) :: (D1, AO.list (natsV ((List.range c).map b))) :: (dr, AO.list (natsV [f0, f1, f2, f3, f4, f5, f6])) :: Lx 150 LX (1 + nls x 0 (posAt x 0 c)) [] x (posAt x 0 c) ((182, AO.table ps) :: LawS F cP cD sc dr z (some (.ref D1)) (some (.ref D2)) (some (.str (S (x)))) (some (.str (S (l)))) (some (.ref LX.lx)) (some (.ref D4)) (some (.ref du)) (some (.ref (ra k))) (some (.str (S (pCat (itsF (sumN b c) (markN ls b c) (2 ^ c) k))))) u3 (some (.ref pl)) (RwL e (fun p => ((itsF (sumN b c) (markN ls b c) (2 ^ c) p).drop (p % 3)).map pairV) (k) ++ (RwL ra (fun p => (itsF (sumN b c) (markN ls b c) (2 ^ c) p).map pairV) (npF (markN ls b c) (2 ^ c)) ++ (RwL q (fun p => ((itsF (sumN b c) (markN ls b c) (2 ^ c) p).drop (p % 3)).map pairV) (npF (markN ls b c) (2 ^ c)) ++ (PL 101 z pa da (fun p => if p < npF (markN ls b c) (2 ^ c) then (itsF (sumN b c) (markN ls b c) (2 ^ c) p).take (p % 3) else itsF (sumN b c) (markN ls b c) (2 ^ c) p) (npF (markN ls b c) (2 ^ c)) ++ σ)))))) ?sb8 (iter_list hA'.1) (fun y hy => by obtain ⟨pr, _, rfl⟩ := List.mem_map.mp hy; exact ⟨_, rfl⟩)
        (fun i σ' => ∃ v1 v2, σ' = (L8, AO.fr ["fws", "part"] [v1, v2]) :: (d8, AO.list (((itsF (sumN b c) (markN ls b c) (2 ^ c) k).take (k % 3)).map pairV)) :: (i8, AO.lit rl (k + 1)) :: (rl, AO.list ((List.range (npF (markN ls b c) (2 ^ c))).map fun p => V.ref (ra p))) :: (du, AO.list ((List.range k).map (toldV z (itsF (sumN b c) (markN ls b c) (2 ^ c)) e))) :: (D4, AO.list ((List.range (npF (markN ls b c) (2 ^ c))).map (toldV z (itsF (sumN b c) (markN ls b c) (2 ^ c)) q))) :: (pl, AO.list ((List.range (npF (markN ls b c) (2 ^ c))).map fun p => V.ref (pa p))) :: (D2, AO.list (strsV (ls.map fun ch => [ch]))) :: (D1, AO.list (natsV ((List.range c).map b))) :: (dr, AO.list (natsV [f0, f1, f2, f3, f4, f5, f6])) :: Lx 150 LX (1 + nls x 0 (posAt x 0 c)) [] x (posAt x 0 c) ((182, AO.table ps) :: LawS F cP cD sc dr z (some (.ref D1)) (some (.ref D2)) (some (.str (S (x)))) (some (.str (S (l)))) (some (.ref LX.lx)) (some (.ref D4)) (some (.ref du)) (some (.ref (ra k))) (some (.str (S (pCat (itsF (sumN b c) (markN ls b c) (2 ^ c) k))))) u3 (some (.ref pl)) (RwL e (fun p => ((itsF (sumN b c) (markN ls b c) (2 ^ c) p).drop (p % 3)).map pairV) (k) ++ (RwL ra (fun p => (itsF (sumN b c) (markN ls b c) (2 ^ c) p).map pairV) (npF (markN ls b c) (2 ^ c)) ++ (RwL q (fun p => ((itsF (sumN b c) (markN ls b c) (2 ^ c) p).drop (p % 3)).map pairV) (npF (markN ls b c) (2 ^ c)) ++ (PL 101 z pa da (fun p => if p < npF (markN ls b c) (2 ^ c) then (itsF (sumN b c) (markN ls b c) (2 ^ c) p).take (p % 3) else itsF (sumN b c) (markN ls b c) (2 ^ c) p) (npF (markN ls b c) (2 ^ c)) ++ σ)))))) ⟨none, none, rfl⟩ (by rintro i acc _ ⟨v1, v2, rfl⟩; ((repeat (first | exact List.Mem.head _ | apply List.Mem.tail | assumption)))) (by rw [List.length_map, sizeLine_eq]; lia) ?_ ?_
      case sb8 => ((repeat (first | exact Sb.refl | exact Sb.nil | (apply Sb.take; focus ((repeat (first | exact Pick.head | apply Pick.tail)); done)) | apply Sb.skip)))
      · rintro i y acc σ' hy ⟨v1, v2, rfl⟩
        obtain ⟨pr, hpr, rfl⟩ := pairs_atP hy
        obtain ⟨jj, ejj⟩ := its_mem (List.mem_of_mem_take (List.mem_of_getElem? hpr))
        have hprl := prF_len (sumN b c) hwl jj
        rw [← ejj] at hprl
        refine asg_tup hA'.1 ?_ (by simp) rfl rfl
        walk_at "E.run"
        refine bin_catS (by rw [sizeLine_eq]; lia) ?_
        exact ⟨by rw [List.getD_eq_getElem?_getD, hpr]; rfl, _, by ((repeat (first | exact Sb.refl | exact Sb.nil | (apply Sb.take; focus ((repeat (first | exact Pick.head | apply Pick.tail)); done)) | apply Sb.skip))), _, _, rfl⟩
      rintro σ' ⟨v1, v2, rfl⟩
      rw [List.length_map, cat_map]
      have hipt := hip'.2 (k % 3)
      refine ⟨[v1, v2], (D8, AO.list (strsV (((itsF (sumN b c) (markN ls b c) (2 ^ c) k).take (k % 3)).map fun p => p.1 ++ p.2))) :: (i8, AO.lit rl (k + 1)) :: (rl, AO.list ((List.range (npF (markN ls b c) (2 ^ c))).map fun p => V.ref (ra p))) :: (du, AO.list ((List.range k).map (toldV z (itsF (sumN b c) (markN ls b c) (2 ^ c)) e))) :: (D4, AO.list ((List.range (npF (markN ls b c) (2 ^ c))).map (toldV z (itsF (sumN b c) (markN ls b c) (2 ^ c)) q))) :: (pl, AO.list ((List.range (npF (markN ls b c) (2 ^ c))).map fun p => V.ref (pa p))) :: (D2, AO.list (strsV (ls.map fun ch => [ch]))) :: (D1, AO.list (natsV ((List.range c).map b))) :: (dr, AO.list (natsV [f0, f1, f2, f3, f4, f5, f6])) :: Lx 150 LX (1 + nls x 0 (posAt x 0 c)) [] x (posAt x 0 c) ((182, AO.table ps) :: LawS F cP cD sc dr z (some (.ref D1)) (some (.ref D2)) (some (.str (S (x)))) (some (.str (S (l)))) (some (.ref LX.lx)) (some (.ref D4)) (some (.ref du)) (some (.ref (ra k))) (some (.str (S (pCat (itsF (sumN b c) (markN ls b c) (2 ^ c) k))))) u3 (some (.ref pl)) (RwL e (fun p => ((itsF (sumN b c) (markN ls b c) (2 ^ c) p).drop (p % 3)).map pairV) (k) ++ (RwL ra (fun p => (itsF (sumN b c) (markN ls b c) (2 ^ c) p).map pairV) (npF (markN ls b c) (2 ^ c)) ++ (RwL q (fun p => ((itsF (sumN b c) (markN ls b c) (2 ^ c) p).drop (p % 3)).map pairV) (npF (markN ls b c) (2 ^ c)) ++ (PL 101 z pa da (fun p => if p < npF (markN ls b c) (2 ^ c) then (itsF (sumN b c) (markN ls b c) (2 ^ c) p).take (p % 3) else itsF (sumN b c) (markN ls b c) (2 ^ c) p) (npF (markN ls b c) (2 ^ c)) ++ σ))))), by ((repeat (first | exact Sb.refl | exact Sb.nil | (apply Sb.take; focus ((repeat (first | exact Pick.head | apply Pick.tail)); done)) | apply Sb.skip))), ?_⟩
      walk_at "E.run"
      refine c_joinS (by walk_at "M.mem") (by rw [show (((itsF (sumN b c) (markN ls b c) (2 ^ c) k).take (k % 3)).map fun p => p.1 ++ p.2).flatten = pCat ((itsF (sumN b c) (markN ls b c) (2 ^ c) k).take (k % 3)) from rfl, pCat_len]; lia) ?_
      rw [show (((itsF (sumN b c) (markN ls b c) (2 ^ c) k).take (k % 3)).map fun p => p.1 ++ p.2).flatten = pCat ((itsF (sumN b c) (markN ls b c) (2 ^ c) k).take (k % 3)) from rfl]
      walk_at "E.run"
      refine m_append (by walk_at "M.mem") ?_
      walk_at "E.run"
      refine c_len_str (by rw [S_len, pCat_len, sizeLine_eq]; lia) ?_
      rw [S_len, pCat_len]
      walk_at "E.run"
      rw [← Int.natCast_add]
      refine c_len_list (by walk_at "M.mem") (by rw [List.length_map, List.length_range, sizeLine_eq]; lia) ?_
      rw [List.length_map, List.length_range]
      walk_at "E.run"
      refine ⟨_, _, .int, .none, fun sl => ?_⟩
      refine ⟨has_list (by ((repeat (first | exact List.Mem.head _ | apply List.Mem.tail | assumption)))), ?_⟩
      refine g_list_slice (by ((repeat (first | exact List.Mem.head _ | apply List.Mem.tail | assumption)))) (by rw [List.length_map, sizeLine_eq]; lia) fun d9 => ?_
      rw [fmod3, cut_from, ← List.map_drop]
      walk_at "E.run"
      refine c_len_str (by rw [S_len, pCat_len, sizeLine_eq]; lia) ?_
      rw [S_len, pCat_len]
      walk_at "E.run"
      rw [← Int.natCast_add]
      refine ⟨by rw [sizeLine_eq]; show 5 ≤ _; lia, ?_⟩
      walk_at "E.run"
      refine c_append (by walk_at "M.lu") (by rw [List.length_map, List.length_range, sizeLine_eq]; lia) ?_
      walk_at "E.run"
      refine ⟨_, ?_, fun p => if p = k then d9 else e p, some (.ref (ra k)), some (.str (S (pCat (itsF (sumN b c) (markN ls b c) (2 ^ c) k)))), some (.str (S (pCat ((itsF (sumN b c) (markN ls b c) (2 ^ c) k).take (k % 3))))), rfl⟩
      rw [told_new, RwL_new d9 _ rfl, List.cons_append]
      ((repeat (first | exact Sb.refl | exact Sb.nil | (apply Sb.take; focus ((repeat (first | exact Pick.head | apply Pick.tail)); done)) | apply Sb.skip)))
    rintro σ' ⟨e, u1, u2, u3, rfl⟩
    rw [List.length_map, List.length_range]
    walk_at "E.run"
    have hem : ∀ p, p < npF (markN ls b c) (2 ^ c) → (e p, AO.list (((itsF (sumN b c) (markN ls b c) (2 ^ c) p).drop (p % 3)).map pairV)) ∈ RwL e (fun p => ((itsF (sumN b c) (markN ls b c) (2 ^ c) p).drop (p % 3)).map pairV) (npF (markN ls b c) (2 ^ c)) ++ (RwL ra (fun p => (itsF (sumN b c) (markN ls b c) (2 ^ c) p).map pairV) (npF (markN ls b c) (2 ^ c)) ++ (RwL q (fun p => ((itsF (sumN b c) (markN ls b c) (2 ^ c) p).drop (p % 3)).map pairV) (npF (markN ls b c) (2 ^ c)) ++ (PL 101 z pa da (fun p => if p < npF (markN ls b c) (2 ^ c) then (itsF (sumN b c) (markN ls b c) (2 ^ c) p).take (p % 3) else itsF (sumN b c) (markN ls b c) (2 ^ c) p) (npF (markN ls b c) (2 ^ c)) ++ σ))) := fun p hp => RwL_mem (ra := e) (it := fun p => ((itsF (sumN b c) (markN ls b c) (2 ^ c) p).drop (p % 3)).map pairV) hp
    have hqm : ∀ p, p < npF (markN ls b c) (2 ^ c) → (q p, AO.list (((itsF (sumN b c) (markN ls b c) (2 ^ c) p).drop (p % 3)).map pairV)) ∈ RwL e (fun p => ((itsF (sumN b c) (markN ls b c) (2 ^ c) p).drop (p % 3)).map pairV) (npF (markN ls b c) (2 ^ c)) ++ (RwL ra (fun p => (itsF (sumN b c) (markN ls b c) (2 ^ c) p).map pairV) (npF (markN ls b c) (2 ^ c)) ++ (RwL q (fun p => ((itsF (sumN b c) (markN ls b c) (2 ^ c) p).drop (p % 3)).map pairV) (npF (markN ls b c) (2 ^ c)) ++ (PL 101 z pa da (fun p => if p < npF (markN ls b c) (2 ^ c) then (itsF (sumN b c) (markN ls b c) (2 ^ c) p).take (p % 3) else itsF (sumN b c) (markN ls b c) (2 ^ c) p) (npF (markN ls b c) (2 ^ c)) ++ σ))) := fun p hp => List.mem_append_right _ (List.mem_append_right _ (RwL_mem (ra := q) (it := fun p => ((itsF (sumN b c) (markN ls b c) (2 ^ c) p).drop (p % 3)).map pairV) hp))
    refine cmp_lneD 3 (hA'.le (by decide)) (by decide) (a := D4) (b := du) (by walk_at "M.mem") (by walk_at "M.mem") (.map fun p hp => ?eqp) ?_
    case eqp =>
      have hp := List.mem_range.mp hp
      have h1 := hem p hp
      have h2 := hqm p hp
      exact .tup (.cons (.leaf rfl) (.cons (.leaf rfl) (.cons (.list (by ((repeat (first | exact List.Mem.head _ | apply List.Mem.tail | assumption)))) (by ((repeat (first | exact List.Mem.head _ | apply List.Mem.tail | assumption)))) (.flat (pairs_flat _))) (.cons (.leaf rfl) (.cons (.leaf rfl) .nil)))))
    walk_at "E.run"
    rw [if_neg (by decide)]
    walk_at "E.run"
    have hz1 : (pa 0, AO.seq (.ref 101) (some (da 0)) []) ∈ RwL e (fun p => ((itsF (sumN b c) (markN ls b c) (2 ^ c) p).drop (p % 3)).map pairV) (npF (markN ls b c) (2 ^ c)) ++ (RwL ra (fun p => (itsF (sumN b c) (markN ls b c) (2 ^ c) p).map pairV) (npF (markN ls b c) (2 ^ c)) ++ (RwL q (fun p => ((itsF (sumN b c) (markN ls b c) (2 ^ c) p).drop (p % 3)).map pairV) (npF (markN ls b c) (2 ^ c)) ++ (PL 101 z pa da (fun p => if p < npF (markN ls b c) (2 ^ c) then (itsF (sumN b c) (markN ls b c) (2 ^ c) p).take (p % 3) else itsF (sumN b c) (markN ls b c) (2 ^ c) p) (npF (markN ls b c) (2 ^ c)) ++ σ))) := by
      have hx := (PL_mem (D := 101) (z := z) (pa := pa) (da := da) (it := (fun p => if p < npF (markN ls b c) (2 ^ c) then (itsF (sumN b c) (markN ls b c) (2 ^ c) p).take (p % 3) else itsF (sumN b c) (markN ls b c) (2 ^ c) p)) (σ := σ) hnpos).1
      simp only [hnpos, ↓reduceIte, Nat.zero_mod, List.take_zero, List.map_nil] at hx
      exact List.mem_append_right _ (List.mem_append_right _ (List.mem_append_right _ hx))
    have hz2 : (da 0, AO.attrs ["_initial_size"] [some (.int (z : Nat))]) ∈ RwL e (fun p => ((itsF (sumN b c) (markN ls b c) (2 ^ c) p).drop (p % 3)).map pairV) (npF (markN ls b c) (2 ^ c)) ++ (RwL ra (fun p => (itsF (sumN b c) (markN ls b c) (2 ^ c) p).map pairV) (npF (markN ls b c) (2 ^ c)) ++ (RwL q (fun p => ((itsF (sumN b c) (markN ls b c) (2 ^ c) p).drop (p % 3)).map pairV) (npF (markN ls b c) (2 ^ c)) ++ (PL 101 z pa da (fun p => if p < npF (markN ls b c) (2 ^ c) then (itsF (sumN b c) (markN ls b c) (2 ^ c) p).take (p % 3) else itsF (sumN b c) (markN ls b c) (2 ^ c) p) (npF (markN ls b c) (2 ^ c)) ++ σ))) := List.mem_append_right _ (List.mem_append_right _ (List.mem_append_right _ (PL_mem (D := 101) (z := z) (pa := pa) (da := da) (it := (fun p => if p < npF (markN ls b c) (2 ^ c) then (itsF (sumN b c) (markN ls b c) (2 ^ c) p).take (p % 3) else itsF (sumN b c) (markN ls b c) (2 ^ c) p)) (σ := σ) hnpos).2))
    have hzu : LU (pa 0) (AO.seq (.ref 101) (some (da 0)) []) (AO.seq (.ref 101) (some (da 0)) [.tup [.str (S l), .str (S l)]]) (RwL e (fun p => ((itsF (sumN b c) (markN ls b c) (2 ^ c) p).drop (p % 3)).map pairV) (npF (markN ls b c) (2 ^ c)) ++ (RwL ra (fun p => (itsF (sumN b c) (markN ls b c) (2 ^ c) p).map pairV) (npF (markN ls b c) (2 ^ c)) ++ (RwL q (fun p => ((itsF (sumN b c) (markN ls b c) (2 ^ c) p).drop (p % 3)).map pairV) (npF (markN ls b c) (2 ^ c)) ++ (PL 101 z pa da (fun p => if p < npF (markN ls b c) (2 ^ c) then (itsF (sumN b c) (markN ls b c) (2 ^ c) p).take (p % 3) else itsF (sumN b c) (markN ls b c) (2 ^ c) p) (npF (markN ls b c) (2 ^ c)) ++ σ)))) (RwL e (fun p => ((itsF (sumN b c) (markN ls b c) (2 ^ c) p).drop (p % 3)).map pairV) (npF (markN ls b c) (2 ^ c)) ++ (RwL ra (fun p => (itsF (sumN b c) (markN ls b c) (2 ^ c) p).map pairV) (npF (markN ls b c) (2 ^ c)) ++ (RwL q (fun p => ((itsF (sumN b c) (markN ls b c) (2 ^ c) p).drop (p % 3)).map pairV) (npF (markN ls b c) (2 ^ c)) ++ (PL 101 z pa da (fun p => if p = 0 then [(l, l)] else (fun p => if p < npF (markN ls b c) (2 ^ c) then (itsF (sumN b c) (markN ls b c) (2 ^ c) p).take (p % 3) else itsF (sumN b c) (markN ls b c) (2 ^ c) p) p) (npF (markN ls b c) (2 ^ c)) ++ σ)))) := by
      have hx := PL_upd (D := 101) (z := z) (pa := pa) (da := da) (it := (fun p => if p < npF (markN ls b c) (2 ^ c) then (itsF (sumN b c) (markN ls b c) (2 ^ c) p).take (p % 3) else itsF (sumN b c) (markN ls b c) (2 ^ c) p)) (it' := (fun p => if p = 0 then [(l, l)] else (fun p => if p < npF (markN ls b c) (2 ^ c) then (itsF (sumN b c) (markN ls b c) (2 ^ c) p).take (p % 3) else itsF (sumN b c) (markN ls b c) (2 ^ c) p) p)) (σ := σ) hnpos fun j _ hj => if_neg hj
      simp only [hnpos, ↓reduceIte, Nat.zero_mod, List.take_zero, List.map_nil] at hx
      exact ((hx.behind _).behind _).behind _
    have hz3 : (pa 0, AO.seq (.ref 101) (some (da 0)) [.tup [.str (S l), .str (S l)]]) ∈ RwL e (fun p => ((itsF (sumN b c) (markN ls b c) (2 ^ c) p).drop (p % 3)).map pairV) (npF (markN ls b c) (2 ^ c)) ++ (RwL ra (fun p => (itsF (sumN b c) (markN ls b c) (2 ^ c) p).map pairV) (npF (markN ls b c) (2 ^ c)) ++ (RwL q (fun p => ((itsF (sumN b c) (markN ls b c) (2 ^ c) p).drop (p % 3)).map pairV) (npF (markN ls b c) (2 ^ c)) ++ (PL 101 z pa da (fun p => if p = 0 then [(l, l)] else (fun p => if p < npF (markN ls b c) (2 ^ c) then (itsF (sumN b c) (markN ls b c) (2 ^ c) p).take (p % 3) else itsF (sumN b c) (markN ls b c) (2 ^ c) p) p) (npF (markN ls b c) (2 ^ c)) ++ σ))) := by
      have hx := (PL_mem (D := 101) (z := z) (pa := pa) (da := da) (it := (fun p => if p = 0 then [(l, l)] else (fun p => if p < npF (markN ls b c) (2 ^ c) then (itsF (sumN b c) (markN ls b c) (2 ^ c) p).take (p % 3) else itsF (sumN b c) (markN ls b c) (2 ^ c) p) p)) (σ := σ) hnpos).1
      simp only [↓reduceIte] at hx
      exact List.mem_append_right _ (List.mem_append_right _ (List.mem_append_right _ hx))
    have hz4 : (da 0, AO.attrs ["_initial_size"] [some (.int (z : Nat))]) ∈ RwL e (fun p => ((itsF (sumN b c) (markN ls b c) (2 ^ c) p).drop (p % 3)).map pairV) (npF (markN ls b c) (2 ^ c)) ++ (RwL ra (fun p => (itsF (sumN b c) (markN ls b c) (2 ^ c) p).map pairV) (npF (markN ls b c) (2 ^ c)) ++ (RwL q (fun p => ((itsF (sumN b c) (markN ls b c) (2 ^ c) p).drop (p % 3)).map pairV) (npF (markN ls b c) (2 ^ c)) ++ (PL 101 z pa da (fun p => if p = 0 then [(l, l)] else (fun p => if p < npF (markN ls b c) (2 ^ c) then (itsF (sumN b c) (markN ls b c) (2 ^ c) p).take (p % 3) else itsF (sumN b c) (markN ls b c) (2 ^ c) p) p) (npF (markN ls b c) (2 ^ c)) ++ σ))) := List.mem_append_right _ (List.mem_append_right _ (List.mem_append_right _ (PL_mem (D := 101) (z := z) (pa := pa) (da := da) (it := (fun p => if p = 0 then [(l, l)] else (fun p => if p < npF (markN ls b c) (2 ^ c) then (itsF (sumN b c) (markN ls b c) (2 ^ c) p).take (p % 3) else itsF (sumN b c) (markN ls b c) (2 ^ c) p) p)) (σ := σ) hnpos).2))
    have hzw : LU (pa 0) (AO.seq (.ref 101) (some (da 0)) [.tup [.str (S l), .str (S l)]]) (AO.seq (.ref 101) (some (da 0)) []) (RwL e (fun p => ((itsF (sumN b c) (markN ls b c) (2 ^ c) p).drop (p % 3)).map pairV) (npF (markN ls b c) (2 ^ c)) ++ (RwL ra (fun p => (itsF (sumN b c) (markN ls b c) (2 ^ c) p).map pairV) (npF (markN ls b c) (2 ^ c)) ++ (RwL q (fun p => ((itsF (sumN b c) (markN ls b c) (2 ^ c) p).drop (p % 3)).map pairV) (npF (markN ls b c) (2 ^ c)) ++ (PL 101 z pa da (fun p => if p = 0 then [(l, l)] else (fun p => if p < npF (markN ls b c) (2 ^ c) then (itsF (sumN b c) (markN ls b c) (2 ^ c) p).take (p % 3) else itsF (sumN b c) (markN ls b c) (2 ^ c) p) p) (npF (markN ls b c) (2 ^ c)) ++ σ)))) (RwL e (fun p => ((itsF (sumN b c) (markN ls b c) (2 ^ c) p).drop (p % 3)).map pairV) (npF (markN ls b c) (2 ^ c)) ++ (RwL ra (fun p => (itsF (sumN b c) (markN ls b c) (2 ^ c) p).map pairV) (npF (markN ls b c) (2 ^ c)) ++ (RwL q (fun p => ((itsF (sumN b c) (markN ls b c) (2 ^ c) p).drop (p % 3)).map pairV) (npF (markN ls b c) (2 ^ c)) ++ (PL 101 z pa da (fun p => if p < npF (markN ls b c) (2 ^ c) then (itsF (sumN b c) (markN ls b c) (2 ^ c) p).take (p % 3) else itsF (sumN b c) (markN ls b c) (2 ^ c) p) (npF (markN ls b c) (2 ^ c)) ++ σ)))) := by
      have hx := PL_upd (D := 101) (z := z) (pa := pa) (da := da) (it := (fun p => if p = 0 then [(l, l)] else (fun p => if p < npF (markN ls b c) (2 ^ c) then (itsF (sumN b c) (markN ls b c) (2 ^ c) p).take (p % 3) else itsF (sumN b c) (markN ls b c) (2 ^ c) p) p)) (it' := (fun p => if p < npF (markN ls b c) (2 ^ c) then (itsF (sumN b c) (markN ls b c) (2 ^ c) p).take (p % 3) else itsF (sumN b c) (markN ls b c) (2 ^ c) p)) (σ := σ) hnpos fun j _ hj => (if_neg hj).symm
      simp only [hnpos, ↓reduceIte, Nat.zero_mod, List.take_zero, List.map_nil] at hx
      exact ((hx.behind _).behind _).behind _
    refine g_refs (i := 0) rfl (by walk_at "M.mem") hnpos (by lia) ?_
    (refine m_any (D := 101) (ga := "list.__getattribute__") (ty := "function") (f := .ref 45) (fV := .ref 45) (by assumption) (isI_seq (by ((repeat (first | exact List.Mem.head _ | apply List.Mem.tail | assumption))))) (by ((repeat (first | exact List.Mem.head _ | apply List.Mem.tail | assumption)))) (by decide) (by kernel_rfl) (by decide +kernel) (by kernel_rfl) (by kernel_rfl) (by kernel_rfl) (by decide) (fun _ => rfl) ?_)
    walk_at "E.run"
    (refine m_fn (by assumption) (isI_inst (by walk_at "M.mem")) (by walk_at "M.mem") (by decide) (by kernel_rfl) (f := 140) (by kernel_rfl) (by kernel_rfl) ?_)
    walk_at "E.run"
    refine Call.sb (σ' := Lx 150 LX (1 + nls x 0 (posAt x 0 c)) [] x (posAt x 0 c) ((pl, AO.list ((List.range (npF (markN ls b c) (2 ^ c))).map fun p => V.ref (pa p))) :: (D2, AO.list (strsV (ls.map fun ch => [ch]))) :: (D1, AO.list (natsV ((List.range c).map b))) :: (dr, AO.list (natsV [f0, f1, f2, f3, f4, f5, f6])) :: (182, AO.table ps) :: LawS F cP cD sc dr z (some (.ref D1)) (some (.ref D2)) (some (.str (S (x)))) (some (.str (S (l)))) (some (.ref LX.lx)) (some (.ref D4)) (some (.ref du)) u1 u2 u3 (some (.ref pl)) (RwL e (fun p => ((itsF (sumN b c) (markN ls b c) (2 ^ c) p).drop (p % 3)).map pairV) (npF (markN ls b c) (2 ^ c)) ++ (RwL ra (fun p => (itsF (sumN b c) (markN ls b c) (2 ^ c) p).map pairV) (npF (markN ls b c) (2 ^ c)) ++ (RwL q (fun p => ((itsF (sumN b c) (markN ls b c) (2 ^ c) p).drop (p % 3)).map pairV) (npF (markN ls b c) (2 ^ c)) ++ (PL 101 z pa da (fun p => if p < npF (markN ls b c) (2 ^ c) then (itsF (sumN b c) (markN ls b c) (2 ^ c) p).take (p % 3) else itsF (sumN b c) (markN ls b c) (2 ^ c) p) (npF (markN ls b c) (2 ^ c)) ++ σ)))))) (by ((repeat (first | exact Sb.refl | exact Sb.nil | (apply Sb.take; focus ((repeat (first | exact Pick.head | apply Pick.tail)); done)) | apply Sb.skip)))) (get_ hC (hA'.le (by decide)) hRL hxl ?_)
    rw [step c, show (tk (x.drop (posAt x 0 c))).1 = _ from T1, show posAt x 0 c + (tk (x.drop (posAt x 0 c))).2 = posAt x 0 (c + 1) from rfl]
    walk_at "E.run"
    (refine m_fn (by assumption) (isI_inst (by walk_at "M.mem")) (by walk_at "M.mem") (by decide) (by kernel_rfl) (f := 140) (by kernel_rfl) (by kernel_rfl) ?_)
    walk_at "E.run"
    refine Call.sb (σ' := Lx 150 LX (1 + nls x 0 (posAt x 0 (c + 1))) [] x (posAt x 0 (c + 1)) ((pl, AO.list ((List.range (npF (markN ls b c) (2 ^ c))).map fun p => V.ref (pa p))) :: (D2, AO.list (strsV (ls.map fun ch => [ch]))) :: (D1, AO.list (natsV ((List.range c).map b))) :: (dr, AO.list (natsV [f0, f1, f2, f3, f4, f5, f6])) :: (182, AO.table ps) :: LawS F cP cD sc dr z (some (.ref D1)) (some (.ref D2)) (some (.str (S (x)))) (some (.str (S (l)))) (some (.ref LX.lx)) (some (.ref D4)) (some (.ref du)) u1 u2 u3 (some (.ref pl)) (RwL e (fun p => ((itsF (sumN b c) (markN ls b c) (2 ^ c) p).drop (p % 3)).map pairV) (npF (markN ls b c) (2 ^ c)) ++ (RwL ra (fun p => (itsF (sumN b c) (markN ls b c) (2 ^ c) p).map pairV) (npF (markN ls b c) (2 ^ c)) ++ (RwL q (fun p => ((itsF (sumN b c) (markN ls b c) (2 ^ c) p).drop (p % 3)).map pairV) (npF (markN ls b c) (2 ^ c)) ++ (PL 101 z pa da (fun p => if p < npF (markN ls b c) (2 ^ c) then (itsF (sumN b c) (markN ls b c) (2 ^ c) p).take (p % 3) else itsF (sumN b c) (markN ls b c) (2 ^ c) p) (npF (markN ls b c) (2 ^ c)) ++ σ)))))) (by ((repeat (first | exact Sb.refl | exact Sb.nil | (apply Sb.take; focus ((repeat (first | exact Pick.head | apply Pick.tail)); done)) | apply Sb.skip)))) (get_ hC (hA'.le (by decide)) hRL hxl ?_)
    rw [step (c + 1), show (tk (x.drop (posAt x 0 (c + 1)))).1 = _ from T2, show posAt x 0 (c + 1) + (tk (x.drop (posAt x 0 (c + 1)))).2 = posAt x 0 (c + 2) from rfl]
    walk_at "E.run"
    refine appush_ (x := pa 0) (d := da 0) (items := []) (u := l) (v := l) (σ' := Lx 150 LX (1 + nls x 0 (posAt x 0 (c + 2))) [] x (posAt x 0 (c + 2)) ((pl, AO.list ((List.range (npF (markN ls b c) (2 ^ c))).map fun p => V.ref (pa p))) :: (D2, AO.list (strsV (ls.map fun ch => [ch]))) :: (D1, AO.list (natsV ((List.range c).map b))) :: (dr, AO.list (natsV [f0, f1, f2, f3, f4, f5, f6])) :: (182, AO.table ps) :: LawS F cP cD sc dr z (some (.ref D1)) (some (.ref D2)) (some (.str (S (x)))) (some (.str (S (l)))) (some (.ref LX.lx)) (some (.ref D4)) (some (.ref du)) u1 u2 u3 (some (.ref pl)) (RwL e (fun p => ((itsF (sumN b c) (markN ls b c) (2 ^ c) p).drop (p % 3)).map pairV) (npF (markN ls b c) (2 ^ c)) ++ (RwL ra (fun p => (itsF (sumN b c) (markN ls b c) (2 ^ c) p).map pairV) (npF (markN ls b c) (2 ^ c)) ++ (RwL q (fun p => ((itsF (sumN b c) (markN ls b c) (2 ^ c) p).drop (p % 3)).map pairV) (npF (markN ls b c) (2 ^ c)) ++ (PL 101 z pa da (fun p => if p = 0 then [(l, l)] else (fun p => if p < npF (markN ls b c) (2 ^ c) then (itsF (sumN b c) (markN ls b c) (2 ^ c) p).take (p % 3) else itsF (sumN b c) (markN ls b c) (2 ^ c) p) p) (npF (markN ls b c) (2 ^ c)) ++ σ)))))) hC (hA'.le (by decide)) (by simp) (by ((repeat (first | exact List.Mem.head _ | apply List.Mem.tail | assumption)))) (by decide) (by ((repeat (first | exact LU.head | apply LU.tail | assumption)))) ?_
    walk_at "E.run"
    refine e_and2 ?_
    walk_at "E.run"
    refine g_refs (i := 0) rfl (by walk_at "M.mem") hnpos (by lia) ?_
    (refine m_any (D := 101) (ga := "list.__getattribute__") (ty := "function") (f := .ref 53) (fV := .ref 53) (by assumption) (isI_seq (by ((repeat (first | exact List.Mem.head _ | apply List.Mem.tail | assumption))))) (by ((repeat (first | exact List.Mem.head _ | apply List.Mem.tail | assumption)))) (by decide) (by kernel_rfl) (by decide +kernel) (by kernel_rfl) (by kernel_rfl) (by kernel_rfl) (by decide) (fun _ => rfl) ?_)
    walk_at "E.run"
    refine accpopf0_ (x := pa 0) (d := da 0) (items := [.tup [.str (S l), .str (S l)]]) (σ' := Lx 150 LX (1 + nls x 0 (posAt x 0 (c + 2))) [] x (posAt x 0 (c + 2)) ((pl, AO.list ((List.range (npF (markN ls b c) (2 ^ c))).map fun p => V.ref (pa p))) :: (D2, AO.list (strsV (ls.map fun ch => [ch]))) :: (D1, AO.list (natsV ((List.range c).map b))) :: (dr, AO.list (natsV [f0, f1, f2, f3, f4, f5, f6])) :: (182, AO.table ps) :: LawS F cP cD sc dr z (some (.ref D1)) (some (.ref D2)) (some (.str (S (x)))) (some (.str (S (l)))) (some (.ref LX.lx)) (some (.ref D4)) (some (.ref du)) u1 u2 u3 (some (.ref pl)) (RwL e (fun p => ((itsF (sumN b c) (markN ls b c) (2 ^ c) p).drop (p % 3)).map pairV) (npF (markN ls b c) (2 ^ c)) ++ (RwL ra (fun p => (itsF (sumN b c) (markN ls b c) (2 ^ c) p).map pairV) (npF (markN ls b c) (2 ^ c)) ++ (RwL q (fun p => ((itsF (sumN b c) (markN ls b c) (2 ^ c) p).drop (p % 3)).map pairV) (npF (markN ls b c) (2 ^ c)) ++ (PL 101 z pa da (fun p => if p < npF (markN ls b c) (2 ^ c) then (itsF (sumN b c) (markN ls b c) (2 ^ c) p).take (p % 3) else itsF (sumN b c) (markN ls b c) (2 ^ c) p) (npF (markN ls b c) (2 ^ c)) ++ σ)))))) hC (hA'.le (by decide)) (by simp) (by ((repeat (first | exact LU.head | apply LU.tail | assumption)))) fun pf => ?_
    walk_at "E.run"
    (refine m_fn (by assumption) (isI_inst (by walk_at "M.mem")) (by walk_at "M.mem") (by decide) (by kernel_rfl) (f := 140) (by kernel_rfl) (by kernel_rfl) ?_)
    walk_at "E.run"
    refine Call.sb (σ' := Lx 150 LX (1 + nls x 0 (posAt x 0 (c + 2))) [] x (posAt x 0 (c + 2)) ((pf, AO.list [.tup [.str (S l), .str (S l)]]) :: (pl, AO.list ((List.range (npF (markN ls b c) (2 ^ c))).map fun p => V.ref (pa p))) :: (D2, AO.list (strsV (ls.map fun ch => [ch]))) :: (D1, AO.list (natsV ((List.range c).map b))) :: (dr, AO.list (natsV [f0, f1, f2, f3, f4, f5, f6])) :: (182, AO.table ps) :: LawS F cP cD sc dr z (some (.ref D1)) (some (.ref D2)) (some (.str (S (x)))) (some (.str (S (l)))) (some (.ref LX.lx)) (some (.ref D4)) (some (.ref du)) u1 u2 u3 (some (.ref pl)) (RwL e (fun p => ((itsF (sumN b c) (markN ls b c) (2 ^ c) p).drop (p % 3)).map pairV) (npF (markN ls b c) (2 ^ c)) ++ (RwL ra (fun p => (itsF (sumN b c) (markN ls b c) (2 ^ c) p).map pairV) (npF (markN ls b c) (2 ^ c)) ++ (RwL q (fun p => ((itsF (sumN b c) (markN ls b c) (2 ^ c) p).drop (p % 3)).map pairV) (npF (markN ls b c) (2 ^ c)) ++ (PL 101 z pa da (fun p => if p < npF (markN ls b c) (2 ^ c) then (itsF (sumN b c) (markN ls b c) (2 ^ c) p).take (p % 3) else itsF (sumN b c) (markN ls b c) (2 ^ c) p) (npF (markN ls b c) (2 ^ c)) ++ σ)))))) (by ((repeat (first | exact Sb.refl | exact Sb.nil | (apply Sb.take; focus ((repeat (first | exact Pick.head | apply Pick.tail)); done)) | apply Sb.skip)))) (get_ hC (hA'.le (by decide)) hRL hxl ?_)
    rw [step (c + 2), show (tk (x.drop (posAt x 0 (c + 2)))).1 = _ from (T4 0).1, show posAt x 0 (c + 2) + (tk (x.drop (posAt x 0 (c + 2)))).2 = posAt x 0 (c + 3) from rfl]
    walk_at "E.run"
    refine ⟨by rw [sizeLine_eq]; show 2 ≤ _; lia, fun l1 => ?_⟩
    walk_at "E.run"
    refine ⟨by rw [sizeLine_eq]; show 2 ≤ _; lia, ?_⟩
    walk_at "E.run"
    refine ⟨by rw [sizeLine_eq]; show 1 ≤ _; lia, fun l2 => ?_⟩
    walk_at "E.run"
    refine ⟨by rw [sizeLine_eq]; show 2 ≤ _; lia, fun l3 => ?_⟩
    refine cmp_leqD 2 (hA'.le (by decide)) (by decide) (a := l1) (b := l3) (by walk_at "M.mem") (by walk_at "M.mem") (.cons (.list (by walk_at "M.mem") (by walk_at "M.mem") (.flat rfl)) (.cons (.leaf rfl) .nil)) ?_
    walk_at "E.run"
    rw [if_pos rfl]
    walk_at "E.run"
    (((refine' a_own (by assumption) ?hix314 ?dx314 ?vx314 ?gx314 ?hhx314 ?hax314 ?nbx314 ?_); (case hix314 => exact isI_inst (by walk_at "M.mem")); (case dx314 => walk_at "M.mem"); (case vx314 => walk_at "M.at"); (case gx314 => kernel_rfl); (case hhx314 => kernel_rfl); (case hax314 => kernel_rfl); (case nbx314 => rfl)))
    walk_at "E.run"
    refine m_count ?_
    walk_at "E.run"
    refine c_count ?_
    walk_at "E.run"
    have eoc : (Builtin.Str.occurrences (S x) (S [10]) 0 (S x).length ((S x).length + 1)).length = x.count 10 := occ_count x 10
    rw [nls_all x (posAt x 0 (c + 3)) (T4 1).2]
    rw [show Str.ofString "\n" = S [10] from rfl, eoc, beq_self_eq_true]
    exact ⟨[(182, AO.table ps)], by ((repeat (first | exact Sb.refl | exact Sb.nil | (apply Sb.take; focus ((repeat (first | exact Pick.head | apply Pick.tail)); done)) | apply Sb.skip))), h ps⟩
end Mine
end
open PySem PySem.W PySem.Calls PyProof.Rows PySem.Spec
set_option Elab.async false
set_option maxRecDepth 100000 in
set_option maxHeartbeats 8000000 in
theorem PySem.Challenge.cw_xl0005_01_holds : PySem.Challenge.rw_xl0005_01.Holds := by
  refine Mine.hd ?_
  k_fill
  intro w s₀ s₁ mg mb G Y fa o pm cd doc dV kV ho hd hcd hD hmg hg args vals as hpre hlay hrd hwl hlo
  have KX := km_in_of Y
  have KT := km_tabs_of Y
  clear Y ho hd hcd hD
  refine Ground.open G ?_
  intro T B D TE TW
  have efa : mg (Str.ofString "law") = some (.ref 212) := mg_of KX T.g (by k_is)
  have e7 := hmg.symm.trans efa
  simp only [Option.some.injEq, Value.ref.injEq] at e7
  subst e7
  clear hmg efa
  wrow_args hpre hlay hrd hwl hlo
  rename_i ns h1 h2 h3 h4 h5 a1 a2 sc vs a3 hL ra w1 r0 hI h6 hlen h7
  have h182 := KT 182 (by decide)
  have hd0 : CodeHd s₁.heap 186 182 := codeHd_of_K KX (by kernel_rfl)
  have tabs : TabsAt [(67, 63), (74, 70)] s₁.heap := List.forall_mem_cons.mpr ⟨⟨codeHd_of_K KX (by kernel_rfl), KT 63 (by decide)⟩, List.forall_mem_cons.mpr ⟨⟨codeHd_of_K KX (by kernel_rfl), KT 70 (by decide)⟩, fun _ h => nomatch h⟩⟩
  have H := Mine.hr_start (prog := PySem.Challenge.rw_xl0005_01.row.prog) (w := w) KX T hg (P0 := 182) (by kernel_rfl) h182 tabs (by decide)
  have hC := Mine.is_start (prog := PySem.Challenge.rw_xl0005_01.row.prog) (w := w) (gt := [(67, 63), (74, 70)]) (P0 := 182) KX T h182
  have L := Mine.law_ (A := callerA) (σ := []) (Q := fun v σ' => v = .bool true ∧ ∃ ps, σ' = [(182, Mine.AO.table ps)]) hC ⟨by kernel_rfl, by kernel_rfl⟩ (.head _) (.tail _ (.head _)) ⟨rfl, by decide, by decide⟩ (Mine.oldL_start hL hI h182) (by omega) (fun ps => ⟨rfl, ps, rfl⟩)
  refine wpAny_mono (L s₁ (.ref 212) [.ref sc] H rfl (Mine.VRs.cons rfl Mine.VRs.nil)) (fun v s' p => ?_) (fun _ _ e => e.elim)
  obtain ⟨b, σ', H', r, _, rfl, ps, rfl⟩ := p
  cases Mine.vr_bool.mp r
  obtain ⟨O, os, gens⟩ := Mine.old_end hd0 h182 H'
  exact ⟨.inl ⟨_, ofPy (PyData.bool true), [], rfl, fun cls => by rfl, readsW_of_reads (.bool true), by kernel_rfl, fun _ => ⟨List.nodup_nil, fun a h => nomatch h⟩⟩, O, os, gens⟩
