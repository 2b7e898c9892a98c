import PyProof.Rows.All
import Wide.All
import OpenK.AllK
import Wide.FinOn
import PySem.Challenge.RW_xl0005_04
set_option compiler.extract_closed false
set_option genSizeOf false
set_option genInjectivity false
section
open PySem PySem.W PySem.Calls PyProof.Rows PySem.Spec
set_option Elab.async false
set_option maxRecDepth 100000
namespace Mine
inductive V where
  | none
  | bool (b : Bool)
  | int (i : Int)
  | str (s : Str)
  | bytes (b : Array UInt8)
  | type (n : String)
  | bi (n : String)
  | ref (a : Addr)
  | tup (l : List V)
noncomputable def tupObj (vs : List Value) : Obj := { cls := .type "tuple", data := .seq vs.toArray }
mutual
noncomputable def VR (h : Heap) : V → Value → Prop
  | .none, v => v = .none
  | .bool b, v => v = .bool b
  | .int i, v => ∃ t, v = .int i t
  | .str s, v => ∃ t, v = .str s t
  | .bytes b, v => ∃ t, v = .bytes b t
  | .type n, v => v = .type n
  | .bi n, v => v = .builtin n
  | .ref a, v => v = .ref a
  | .tup l, v => ∃ a vs, v = .ref a ∧ h.get? a = some (tupObj vs) ∧ VRs h l vs
noncomputable def VRs (h : Heap) : List V → List Value → Prop
  | [], vs => vs = []
  | x :: l, vs => ∃ v r, vs = v :: r ∧ VR h x v ∧ VRs h l r
end
noncomputable def isTup (o : Obj) : Prop := o.cls = .type "tuple" ∧ ∃ xs n, o.data = .seq xs n
noncomputable def TK (h h' : Heap) : Prop := ∀ a o, h.get? a = some o → isTup o → h'.get? a = some o
theorem TK.refl (h : Heap) : TK h h := fun _ _ e _ => e
theorem TK.trans {h h' h'' : Heap} (a : TK h h') (b : TK h' h'') : TK h h'' := fun x o e c => b x o (a x o e c) c
theorem TK.push {h : Heap} (o : Obj) : TK h (h.push o) := fun _ _ e _ => Heap.get?_push_of_some _ e
mutual
theorem VR.mono {h h' : Heap} (k : TK h h') : ∀ {x : V} {v : Value}, VR h x v → VR h' x v
  | .none, _, H => by simpa only [VR] using H
  | .bool _, _, H => by simpa only [VR] using H
  | .int _, _, H => by simpa only [VR] using H
  | .str _, _, H => by simpa only [VR] using H
  | .bytes _, _, H => by simpa only [VR] using H
  | .type _, _, H => by simpa only [VR] using H
  | .bi _, _, H => by simpa only [VR] using H
  | .ref _, _, H => by simpa only [VR] using H
  | .tup l, v, H => by
    simp only [VR] at H ⊢
    obtain ⟨a, vs, e, g, r⟩ := H
    exact ⟨a, vs, e, k _ _ g ⟨rfl, _, _, rfl⟩, VRs.mono k r⟩
theorem VRs.mono {h h' : Heap} (k : TK h h') : ∀ {l : List V} {vs : List Value}, VRs h l vs → VRs h' l vs
  | [], _, H => by simpa only [VRs] using H
  | x :: l, vs, H => by
    simp only [VRs] at H ⊢
    obtain ⟨v, r, e, a, b⟩ := H
    exact ⟨v, r, e, VR.mono k a, VRs.mono k b⟩
end
noncomputable def Pl (o : Obj) : Prop := ¬ isTup o
theorem Pl.data {o : Obj} (h : ∀ xs n, o.data ≠ .seq xs n) (_ : ∀ vs, o.data ≠ .fields vs) : Pl o := fun ⟨_, xs, n, e⟩ => h xs n e
theorem Pl.seq {o : Obj} {xs n} (h : o.cls ≠ .type "tuple") (_ : o.data = .seq xs n) : Pl o := fun e => h e.1
theorem Pl.rec {o : Obj} {vs} (d : o.data = .fields vs) : Pl o := fun ⟨_, xs, n, e⟩ => (by rw [d] at e; cases e)
theorem Pl.fields {o : Obj} {vs} (d : o.data = .fields vs) (_ : o.cls ≠ .none) : Pl o := Pl.rec d
theorem Pl.dict {o : Obj} {es ep} (d : o.data = .dict es ep) : Pl o := .data (by rw [d]; intro _ _ e; cases e) (by rw [d]; intro _ e; cases e)
theorem Pl.cell {o : Obj} {u} (d : o.data = .cell u) : Pl o := .data (by rw [d]; intro _ _ e; cases e) (by rw [d]; intro _ e; cases e)
theorem Pl.func {o : Obj} {u} (d : o.data = .func u) : Pl o := .data (by rw [d]; intro _ _ e; cases e) (by rw [d]; intro _ e; cases e)
theorem VRs.length {h : Heap} : ∀ {l : List V} {vs : List Value}, VRs h l vs → vs.length = l.length
  | [], _, H => by simp only [VRs] at H; subst H; rfl
  | x :: l, vs, H => by
    simp only [VRs] at H
    obtain ⟨v, r, e, a, b⟩ := H
    subst e; simp [VRs.length b]
theorem VRs.cons {h : Heap} {x : V} {l : List V} {v : Value} {vs : List Value} (a : VR h x v) (b : VRs h l vs) : VRs h (x :: l) (v :: vs) := by
  simp only [VRs]; exact ⟨v, vs, rfl, a, b⟩
theorem VRs.nil {h : Heap} : VRs h [] [] := by simp only [VRs]
theorem VRs.append {h : Heap} : ∀ {l l' : List V} {vs vs' : List Value}, VRs h l vs → VRs h l' vs' → VRs h (l ++ l') (vs ++ vs')
  | [], _, _, _, H, H' => by simp only [VRs] at H; subst H; exact H'
  | x :: l, l', vs, vs', H, H' => by
    simp only [VRs] at H
    obtain ⟨v, r, e, a, b⟩ := H
    subst e
    exact VRs.cons a (VRs.append b H')
theorem VRs.get {h : Heap} : ∀ {l : List V} {vs : List Value} {i : Nat} {x : V}, VRs h l vs → l[i]? = some x → ∃ v, vs[i]? = some v ∧ VR h x v
  | x :: l, vs, 0, y, H, e => by
    simp only [VRs] at H
    obtain ⟨v, r, e', a, b⟩ := H
    subst e'
    simp only [List.getElem?_cons_zero, Option.some.injEq] at e
    subst e
    exact ⟨v, rfl, a⟩
  | x :: l, vs, i + 1, y, H, e => by
    simp only [VRs] at H
    obtain ⟨v, r, e', a, b⟩ := H
    subst e'
    simp only [List.getElem?_cons_succ] at e ⊢
    exact VRs.get b e
  | [], _, _, _, _, e => by simp at e
theorem VRs.take {h : Heap} : ∀ {l : List V} {vs : List Value} (n : Nat), VRs h l vs → VRs h (l.take n) (vs.take n)
  | [], vs, n, H => by simp only [VRs] at H; subst H; simp [VRs.nil]
  | x :: l, vs, 0, H => by simp [VRs.nil]
  | x :: l, vs, n + 1, H => by
    simp only [VRs] at H
    obtain ⟨v, r, e', a, b⟩ := H
    subst e'
    exact VRs.cons a (VRs.take n b)
theorem VRs.drop {h : Heap} : ∀ {l : List V} {vs : List Value} (n : Nat), VRs h l vs → VRs h (l.drop n) (vs.drop n)
  | [], vs, n, H => by simp only [VRs] at H; subst H; simp [VRs.nil]
  | x :: l, vs, 0, H => H
  | x :: l, vs, n + 1, H => by
    simp only [VRs] at H
    obtain ⟨v, r, e', a, b⟩ := H
    subst e'
    exact VRs.drop n b
theorem VRs.set {h : Heap} : ∀ {l : List V} {vs : List Value} {i : Nat} {x : V} {v : Value}, VRs h l vs → VR h x v → VRs h (l.set i x) (vs.set i v)
  | [], vs, i, x, v, H, _ => by simp only [VRs] at H; subst H; simp [VRs.nil]
  | y :: l, vs, 0, x, v, H, hx => by
    simp only [VRs] at H
    obtain ⟨w, r, e', a, b⟩ := H
    subst e'
    exact VRs.cons hx b
  | y :: l, vs, i + 1, x, v, H, hx => by
    simp only [VRs] at H
    obtain ⟨w, r, e', a, b⟩ := H
    subst e'
    exact VRs.cons a (VRs.set b hx)
structure AO where
  P : Heap → Obj → Prop
  mono : ∀ {h h' : Heap} {o : Obj}, TK h h' → P h o → P h' o
noncomputable abbrev Led := List (Addr × AO)
structure Cx where
  prog : Program
  w : World
  K : Frag
  h₀ : Heap
  os : OsState
  mg : Str → Option Value
  mb : Str → Option Value
  gt : List (Addr × Addr)
  kp : List (Addr × Obj)
  gs : Array GenState
structure Cx.Low (C : Cx) : Prop where
  K : ∀ a o, C.K.lookup a = some o → C.h₀.get? a ≠ none
  g : C.h₀.get? mainGlobals ≠ none
  b : C.h₀.get? builtinsNs ≠ none
  s : C.h₀.get? cStatics ≠ none
  t : ∀ p ∈ C.gt, C.h₀.get? p.1 ≠ none ∧ C.h₀.get? p.2 ≠ none
  gt : ∀ p ∈ C.gt, ∃ ps, C.h₀.TableAt p.1 p.2 ps
  ts : ∀ p ∈ C.gt, p.2 ≠ cStatics
theorem oldK_ext {h₀ h h' : Heap} (K : OldK h₀ h) {a : Addr} (ha : h₀.get? a = none) (hx : Heap.ExtBut a h h') : OldK h₀ h' := by
  have ne : ∀ b o, h₀.get? b = some o → b ≠ a := fun b o e q => by rw [q, ha] at e; cases e
  refine ⟨fun b o e => ?_, fun b o e => let ⟨o', ho'⟩ := K.there b o e; ⟨o', hx b o' (ne b o e) ho'⟩⟩
  rcases K.old b o e with x | ⟨t, hc, vs, more, hv, x⟩ | ⟨rfl, hc, ⟨o', es, n, ho', r⟩, z⟩
  · exact .inl (hx b _ (ne b o e) x)
  · exact .inr (.inl ⟨t, hc, vs, more, hv, hx b _ (ne b o e) x⟩)
  · exact .inr (.inr ⟨rfl, hc, ⟨o', es, n, hx _ _ (ne _ o e) ho', r⟩, fun key => by rw [OldK.staticOf_congr ((hx _ _ (ne _ o e) ho').trans ho'.symm) key]; exact z key⟩)
structure Bg (C : Cx) (h : Heap) : Prop where
  low : C.Low
  old : OldK C.h₀ h
  kin : C.K.In h
  gl : h.Ns mainGlobals C.mg
  bl : h.Ns builtinsNs C.mb
  nl : h.NoLimit
  gt : ∀ p ∈ C.gt, ∃ ps, h.IsCode p.1 p.2 ps ∧ h.TableAt p.1 p.2 ps
  kept : ∀ q ∈ C.kp, h.get? q.1 = some q.2
  kpf : ∀ q ∈ C.kp, C.h₀.get? q.1 = none
noncomputable def Cx.Free (C : Cx) (a : Addr) : Prop := C.h₀.get? a = none ∧ ∀ q ∈ C.kp, q.1 ≠ a
theorem Bg.grow {C : Cx} {h h' : Heap} (B : Bg C h) (k : ∀ b o, h.get? b = some o → h'.get? b = some o) : Bg C h' where
  low := B.low
  old := B.old.step_keeps k
  kin := B.kin.keeps k
  gl := B.gl.keeps k
  bl := B.bl.keeps k
  nl := B.nl.keeps k
  gt := fun p hp => let ⟨ps, a, b⟩ := B.gt p hp; ⟨ps, a.keeps k, b.keeps k⟩
  kept := fun q hq => k _ _ (B.kept q hq)
  kpf := B.kpf
theorem Bg.ext {C : Cx} {h h' : Heap} {a : Addr} (B : Bg C h) (hf : C.Free a) (hs : Heap.ExtBut a h h') : Bg C h' :=
  have ha := hf.1
  have ne : ∀ {b}, C.h₀.get? b ≠ none → b ≠ a := fun {b} e q => e (q ▸ ha)
  { low := B.low
    old := oldK_ext B.old ha hs
    kin := fun b o e => hs _ _ (ne (B.low.K b o e)) (B.kin b o e)
    gl := B.gl.extBut hs (ne B.low.g)
    bl := B.bl.extBut hs (ne B.low.b)
    nl := let ⟨mc, x, y⟩ := B.nl; ⟨mc, x.extBut hs (ne B.low.s), y⟩
    gt := fun p hp => let ⟨ps, x, y⟩ := B.gt p hp
      ⟨ps, x.extBut hs (ne (B.low.t p hp).1) (ne (B.low.t p hp).2), y.extBut hs (ne (B.low.t p hp).1) (ne (B.low.t p hp).2)⟩
    kept := fun q hq => hs _ _ (hf.2 q hq) (B.kept q hq)
    kpf := B.kpf }
theorem Bg.new {C : Cx} {h : Heap} (B : Bg C h) {a : Addr} (ha : h.objs.size ≤ a) : C.Free a := by
  refine ⟨?_, fun q hq e => absurd (Heap.lt_size (B.kept q hq)) (by rw [e]; exact Nat.not_lt.mpr ha)⟩
  cases e : C.h₀.get? a with
  | none => rfl
  | some o =>
    obtain ⟨o', e'⟩ := B.old.there a o e
    exact absurd (Heap.lt_size e') (Nat.not_lt.mpr ha)
structure HR (C : Cx) (σ : Led) (s : Shared) : Prop where
  bg : Bg C s.heap
  own : ∀ p ∈ σ, ∃ o, s.heap.get? p.1 = some o ∧ Pl o ∧ p.2.P s.heap o
  fresh : ∀ p ∈ σ, C.Free p.1
  nd : (σ.map Prod.fst).Nodup
  gens : AllBare s.gens ∧ ∀ (i : Nat) (x : GenState), C.gs[i]? = some x → s.gens[i]? = some x
  os : s.os = C.os
theorem HR.sub {C : Cx} {σ σ' : Led} {s : Shared} (H : HR C σ s) (k : List.Sublist σ' σ) : HR C σ' s :=
  ⟨H.bg, fun p hp => H.own p (k.subset hp), fun p hp => H.fresh p (k.subset hp), (k.map _).nodup H.nd, H.gens, H.os⟩
theorem HR.perm {C : Cx} {σ σ' : Led} {s : Shared} (H : HR C σ s) (k : List.Perm σ' σ) : HR C σ' s :=
  ⟨H.bg, fun p hp => H.own p (k.subset hp), fun p hp => H.fresh p (k.subset hp), ((k.map Prod.fst).nodup_iff).mpr H.nd, H.gens, H.os⟩
inductive Pick (p : Addr × AO) : Led → Led → Prop
  | head {σ} : Pick p (p :: σ) σ
  | tail {q σ σ'} : Pick p σ σ' → Pick p (q :: σ) (q :: σ')
inductive Sb : Led → Led → Prop
  | refl {σ} : Sb σ σ
  | nil {σ} : Sb [] σ
  | take {p σ σ' τ} : Pick p σ σ' → Sb τ σ' → Sb (p :: τ) σ
  | skip {p σ τ} : Sb τ σ → Sb τ (p :: σ)
theorem Pick.perm {p : Addr × AO} {σ σ' : Led} (h : Pick p σ σ') : List.Perm (p :: σ') σ := by
  induction h with
  | head => exact .refl _
  | tail _ ih => exact (List.Perm.swap ..).trans (ih.cons _)
theorem Sb.both {σ σ' : Led} (h : Sb σ' σ) : (∀ p ∈ σ', p ∈ σ) ∧ ((σ.map Prod.fst).Nodup → (σ'.map Prod.fst).Nodup) := by
  induction h with
  | refl => exact ⟨fun _ h => h, fun h => h⟩
  | nil => exact ⟨fun _ h => (nomatch h), fun _ => List.nodup_nil⟩
  | take hp _ ih =>
    have pm := hp.perm
    refine ⟨fun q hq => ?_, fun nd => ?_⟩
    · rcases List.mem_cons.mp hq with rfl | hq
      · exact pm.subset (by simp)
      · exact pm.subset (List.mem_cons_of_mem _ (ih.1 q hq))
    · have nd' := ((pm.map Prod.fst).nodup_iff).mpr nd
      rw [List.map_cons] at nd'
      obtain ⟨n1, n2⟩ := List.nodup_cons.mp nd'
      rw [List.map_cons]
      refine List.nodup_cons.mpr ⟨fun hm => n1 ?_, ih.2 n2⟩
      obtain ⟨q, hq, e⟩ := List.mem_map.mp hm
      rw [← e]
      exact List.mem_map_of_mem (ih.1 q hq)
  | skip _ ih =>
    refine ⟨fun q hq => List.mem_cons_of_mem _ (ih.1 q hq), fun nd => ?_⟩
    rw [List.map_cons] at nd
    exact ih.2 (List.nodup_cons.mp nd).2
theorem HR.sb {C : Cx} {s : Shared} {σ σ' : Led} (k : Sb σ' σ) (H : HR C σ s) : HR C σ' s :=
  ⟨H.bg, fun p hp => H.own p (k.both.1 p hp), fun p hp => H.fresh p (k.both.1 p hp), k.both.2 H.nd, H.gens, H.os⟩
theorem HR.toks {C : Cx} {σ : Led} {h : Heap} {g : Array GenState} {d d' : Drawn} {t t' : Nat} {os : OsState} (H : HR C σ ⟨h, g, d, t, os⟩) : HR C σ ⟨h, g, d', t', os⟩ :=
  ⟨H.bg, H.own, H.fresh, H.nd, H.gens, H.os⟩
theorem HR.grow {C : Cx} {σ : Led} {s s' : Shared} (H : HR C σ s) (k : ∀ b o, s.heap.get? b = some o → s'.heap.get? b = some o)
    (hg : s'.gens = s.gens) (ho : s'.os = s.os) : HR C σ s' :=
  ⟨H.bg.grow k, fun p hp => let ⟨o, a, b, c⟩ := H.own p hp; ⟨o, k _ _ a, b, p.2.mono (fun _ _ e _ => k _ _ e) c⟩, H.fresh, H.nd, hg ▸ H.gens, ho ▸ H.os⟩
theorem HR.add {C : Cx} {σ : Led} {s s' : Shared} {a : Addr} {o : Obj} {X : AO} (H : HR C σ s) (k : ∀ b o, s.heap.get? b = some o → s'.heap.get? b = some o)
    (ha : s.heap.objs.size ≤ a) (hn : s'.heap.get? a = some o) (hc : Pl o) (hx : X.P s'.heap o) (hg : s'.gens = s.gens) (ho : s'.os = s.os) : HR C ((a, X) :: σ) s' := by
  have H' := H.grow k hg ho
  refine ⟨H'.bg, ?_, ?_, ?_, H'.gens, H'.os⟩
  · intro p hp
    rcases List.mem_cons.mp hp with rfl | hp
    · exact ⟨o, hn, hc, hx⟩
    · exact H'.own p hp
  · intro p hp
    rcases List.mem_cons.mp hp with rfl | hp
    · exact H.bg.new ha
    · exact H.fresh p hp
  · rw [List.map_cons]
    refine List.nodup_cons.mpr ⟨fun hm => ?_, H.nd⟩
    obtain ⟨p, hp, e⟩ := List.mem_map.mp hm
    obtain ⟨o', g, _⟩ := H.own p hp
    have := Heap.lt_size g
    rw [e] at this
    exact absurd ha (Nat.not_le.mpr this)
inductive LU (a : Addr) (X X' : AO) : Led → Led → Prop
  | head {σ} : LU a X X' ((a, X) :: σ) ((a, X') :: σ)
  | tail {p σ σ'} : LU a X X' σ σ' → LU a X X' (p :: σ) (p :: σ')
theorem LU.split {a : Addr} {X X' : AO} {σ σ' : Led} (h : LU a X X' σ σ') : ∃ pre post, σ = pre ++ (a, X) :: post ∧ σ' = pre ++ (a, X') :: post := by
  induction h with
  | head => exact ⟨[], _, rfl, rfl⟩
  | @tail p _ _ _ ih => obtain ⟨pre, post, e, e'⟩ := ih; exact ⟨p :: pre, post, congrArg _ e, congrArg _ e'⟩
theorem LU.mem {a : Addr} {X X' : AO} {σ σ' : Led} (U : LU a X X' σ σ') : (a, X) ∈ σ := by
  obtain ⟨pre, post, e, _⟩ := U.split
  rw [e]; simp
theorem HR.upd {C : Cx} {σ σ' : Led} {s s' : Shared} {a : Addr} {o' : Obj} {X X' : AO} (H : HR C σ s) (U : LU a X X' σ σ') (hs : Heap.SameBut a s.heap s'.heap)
    (hn : s'.heap.get? a = some o') (hc : Pl o') (hx : X'.P s'.heap o') (hg : s'.gens = s.gens) (ho : s'.os = s.os) : HR C σ' s' ∧ TK s.heap s'.heap := by
  obtain ⟨pre, post, rfl, rfl⟩ := U.split
  obtain ⟨o, g, nt, _⟩ := H.own (a, X) (by simp)
  have tk : TK s.heap s'.heap := fun b ob e c => by
    by_cases hb : b = a
    · subst hb; rw [g] at e; cases e; exact absurd c nt
    · exact (hs.2 b hb).trans e
  have nd := H.nd
  have ha : ∀ p ∈ pre ++ post, p.1 ≠ a := by
    intro p hp e
    simp only [List.map_append, List.map_cons] at nd
    have nd' := (List.perm_middle.nodup_iff).mp nd
    exact (List.nodup_cons.mp nd').1 (by rw [← List.map_append]; exact e ▸ List.mem_map_of_mem hp)
  refine ⟨⟨H.bg.ext (H.fresh (a, X) (by simp)) hs.extBut, fun p hp => ?_, fun p hp => ?_, ?_, hg ▸ H.gens, ho ▸ H.os⟩, tk⟩
  · rcases List.mem_append.mp hp with q | q
    · obtain ⟨op, x, y, z⟩ := H.own p (List.mem_append_left _ q)
      exact ⟨op, (hs.2 _ (ha p (List.mem_append_left _ q))).trans x, y, p.2.mono tk z⟩
    · rcases List.mem_cons.mp q with rfl | q
      · exact ⟨o', hn, hc, hx⟩
      · obtain ⟨op, x, y, z⟩ := H.own p (List.mem_append_right _ (.tail _ q))
        exact ⟨op, (hs.2 _ (ha p (List.mem_append_right _ q))).trans x, y, p.2.mono tk z⟩
  · rcases List.mem_append.mp hp with q | q
    · exact H.fresh p (List.mem_append_left _ q)
    · rcases List.mem_cons.mp q with rfl | q
      · exact H.fresh (a, X) (by simp)
      · exact H.fresh p (List.mem_append_right _ (.tail _ q))
  · simpa only [List.map_append, List.map_cons] using nd
theorem HR.tkUpd {C : Cx} {σ σ' : Led} {s : Shared} {h' : Heap} {a : Addr} {X X' : AO} (H : HR C σ s) (U : LU a X X' σ σ') (hs : Heap.SameBut a s.heap h') : TK s.heap h' := by
  obtain ⟨o, g, nt, _⟩ := H.own (a, X) U.mem
  intro b ob e c
  by_cases hb : b = a
  · subst hb; rw [g] at e; cases e; exact absurd c nt
  · exact (hs.2 b hb).trans e
theorem HR.del {C : Cx} {σ : Led} {s s' : Shared} {a : Addr} {X : AO} (H : HR C ((a, X) :: σ) s) (hs : Heap.ExtBut a s.heap s'.heap) (hg : s'.gens = s.gens) (ho : s'.os = s.os) : HR C σ s' ∧ TK s.heap s'.heap := by
  obtain ⟨o, g, nt, _⟩ := H.own (a, X) (by simp)
  have tk : TK s.heap s'.heap := fun b ob e c => by
    by_cases hb : b = a
    · subst hb; rw [g] at e; cases e; exact absurd c nt
    · exact hs b _ hb e
  have nd := H.nd
  rw [List.map_cons] at nd
  have hn := (List.nodup_cons.mp nd).1
  refine ⟨⟨H.bg.ext (H.fresh (a, X) (by simp)) hs, fun p hp => ?_, fun p hp => H.fresh p (.tail _ hp), (List.nodup_cons.mp nd).2, hg ▸ H.gens, ho ▸ H.os⟩, tk⟩
  obtain ⟨op, x, y, z⟩ := H.own p (.tail _ hp)
  have ne : p.1 ≠ a := fun e => hn (by have q := List.mem_map_of_mem (f := Prod.fst) hp; rw [e] at q; exact q)
  exact ⟨op, hs _ _ ne x, y, p.2.mono tk z⟩
noncomputable def Post (C : Cx) {α β : Type} (R : Heap → β → α → Prop) (h : Heap) (Q : β → Led → Prop) (a : α) (s' : Shared) : Prop :=
  ∃ b σ', HR C σ' s' ∧ R s'.heap b a ∧ TK h s'.heap ∧ Q b σ'
noncomputable abbrev No : Value → Shared → Prop := fun _ _ => False
noncomputable def WP (C : Cx) {α β : Type} (R : Heap → β → α → Prop) (A : Around) (s : Shared) (t : Sem α) (Q : β → Led → Prop) : Prop :=
  wpAny (model C.prog C.w) A t (Post C R s.heap Q) No s
noncomputable def Tr (C : Cx) {α β : Type} (R : Heap → β → α → Prop) (A : Around) (σ : Led) (t : Sem α) (Q : β → Led → Prop) : Prop := ∀ s, HR C σ s → WP C R A s t Q
section
variable {C : Cx} {α β γ δ : Type} {R : Heap → β → α → Prop} {R' : Heap → δ → γ → Prop} {A : Around} {s : Shared} {σ : Led} {Q Q' : β → Led → Prop}
theorem Post.up {h h' : Heap} {a : α} {s' : Shared} (k : TK h h') (p : Post C R h' Q a s') : Post C R h Q a s' := by
  obtain ⟨b, σ', x, y, z, q⟩ := p; exact ⟨b, σ', x, y, k.trans z, q⟩
theorem WP.mono (H : WP C R A s t Q) (k : ∀ b σ, Q b σ → Q' b σ) : WP C R A s t Q' :=
  wpAny_mono H (fun _ _ ⟨b, σ', x, y, z, q⟩ => ⟨b, σ', x, y, z, k _ _ q⟩) fun _ _ e => e
theorem WP.run {t : Sem α} {P : α → Shared → Prop} {E : Value → Shared → Prop} (H : WP C R A s t Q) (k : ∀ a s₁ b σ₁, HR C σ₁ s₁ → R s₁.heap b a → TK s.heap s₁.heap → Q b σ₁ → P a s₁) :
    wpAny (model C.prog C.w) A t P E s :=
  wpAny_mono H (fun a s₁ ⟨b, σ₁, x, y, z, q⟩ => k a s₁ b σ₁ x y z q) fun _ _ e => e.elim
theorem WP.up {t : Sem α} {h : Heap} {E : Value → Shared → Prop} (H : WP C R A s t Q) (k : TK h s.heap) : wpAny (model C.prog C.w) A t (Post C R h Q) E s :=
  wpAny_mono H (fun _ _ p => p.up k) fun _ _ e => e.elim
end
noncomputable def Cx.hold (C : Cx) (kp : List (Addr × Obj)) (gs : Array GenState) : Cx := { C with kp := kp, gs := gs }
noncomputable def Drop {β : Type} (Q : β → Led → Prop) : β → Led → Prop := fun b σ => ∃ σ', Sb σ' σ ∧ Q b σ'
theorem WP.drop {C : Cx} {α β : Type} {R : Heap → β → α → Prop} {A : Around} {s : Shared} {t : Sem α} {Q : β → Led → Prop} (H : WP C R A s t (Drop Q)) : WP C R A s t Q :=
  wpAny_mono H (fun _ _ ⟨b, σ', x, y, z, σ'', k, q⟩ => ⟨b, σ'', HR.sb k x, y, z, q⟩) fun _ _ e => e
noncomputable def Fit (n : Nat) (A : Around) : Prop := A.handled = none ∧ A.depth + n ≤ 900 ∧ A.units + 12 * n ≤ 9600
theorem Fit.le {n m : Nat} {A : Around} (h : Fit n A) (k : m ≤ n := by decide) : Fit m A := ⟨h.1, by have := h.2.1; lia, by have := h.2.2; lia⟩
theorem Fit.in1 {n : Nat} {A : Around} (h : Fit (n + 1) A) : Fit n A.in1 := ⟨h.1, by have := h.2.1; show A.depth + n ≤ 900; lia, by have := h.2.2; show A.units + 1 + 12 * n ≤ 9600; lia⟩
theorem Fit.deeper {n : Nat} {A : Around} {env : Env} (h : Fit (n + 1) A) : Fit n (A.deeper env) := ⟨h.1, by have := h.2.1; show A.depth + 1 + n ≤ 900; lia, by have := h.2.2; show A.units + 3 + 12 * n ≤ 9600; lia⟩
theorem Fit.room {n : Nat} {A : Around} (h : Fit n A) : A.depth < recursionLimit := by have := h.2.1; show A.depth < 1000; lia
theorem Fit.units {n : Nat} {A : Around} (h : Fit n A) : A.units < cLine := by have := h.2.2; show A.units < 9900; lia
end Mine
end
section
open PySem PySem.W PySem.Calls PyProof.Rows PySem.Spec
set_option Elab.async false
set_option maxRecDepth 100000
set_option linter.unusedVariables false
namespace Mine
section
variable {h : Heap} {v : Value}
theorem vr_none : VR h .none v ↔ v = .none := Iff.rfl
theorem vr_bool {b} : VR h (.bool b) v ↔ v = .bool b := Iff.rfl
theorem vr_int {i} : VR h (.int i) v ↔ ∃ t, v = .int i t := Iff.rfl
theorem vr_str {x} : VR h (.str x) v ↔ ∃ t, v = .str x t := Iff.rfl
theorem vr_bytes {x} : VR h (.bytes x) v ↔ ∃ t, v = .bytes x t := Iff.rfl
theorem vr_type {x} : VR h (.type x) v ↔ v = .type x := Iff.rfl
theorem vr_bi {x} : VR h (.bi x) v ↔ v = .builtin x := Iff.rfl
theorem vr_ref {x} : VR h (.ref x) v ↔ v = .ref x := Iff.rfl
theorem vr_tup {l} : VR h (.tup l) v ↔ ∃ a vs, v = .ref a ∧ h.get? a = some (tupObj vs) ∧ VRs h l vs := Iff.rfl
end
noncomputable def RB (_ : Heap) (b a : Bool) : Prop := a = b
noncomputable def RU (_ : Heap) (_ _ : Unit) : Prop := True
inductive AF where
  | next | brk | cont
  | ret (x : V)
noncomputable def FR (h : Heap) : AF → Flow → Prop
  | .next, f => f = .next
  | .brk, f => f = .brk
  | .cont, f => f = .cont
  | .ret x, f => ∃ v, f = .ret v ∧ VR h x v
noncomputable def RO (h : Heap) : Option V → Option Value → Prop
  | none, o => o = none
  | some x, o => ∃ v, o = some v ∧ VR h x v
structure FrIs (ks : List Str) (vs : List (Option V)) (h : Heap) (o : Obj) : Prop where
  nd : ks.Nodup
  ns : ∃ es ep, o.data = .dict es ep ∧ StrKeys es ∧ ∀ p ∈ ks.zip vs, ∀ x, p.2 = some x → ∃ w, nsFind es p.1 = some w ∧ VR h x w
theorem FrIs.mono {ks vs} {h h' : Heap} {o : Obj} (k : TK h h') (H : FrIs ks vs h o) : FrIs ks vs h' o :=
  ⟨H.nd, let ⟨es, ep, a, b, c⟩ := H.ns; ⟨es, ep, a, b, fun p hp x e => let ⟨w, q, r⟩ := c p hp x e; ⟨w, q, r.mono k⟩⟩⟩
noncomputable def AO.fr (ks : List Str) (vs : List (Option V)) : AO := ⟨fun h o => FrIs ks vs h o, FrIs.mono⟩
noncomputable def AO.cell (v : Option V) : AO := ⟨fun h o => ∃ u, o.data = .cell u ∧ RO h v u, fun {h h'} _ k ⟨u, e, r⟩ => ⟨u, e, by
  cases v with
  | none => exact r
  | some x => exact let ⟨w, e, q⟩ := r; ⟨w, e, q.mono k⟩⟩⟩
noncomputable def AO.seq (T : Value) (dc : Option Addr) (l : List V) : AO := ⟨fun h o => (o.cls = T ∧ o.dict = dc) ∧ ∃ (vs : List Value) (n : Nat), o.data = .seq vs.toArray n ∧ VRs h l vs, fun k ⟨c, vs, n, d, r⟩ => ⟨c, vs, n, d, r.mono k⟩⟩
noncomputable def AO.list (l : List V) : AO := AO.seq (.type "list") none l
inductive At (x : Str) (v : V) : List Str → List (Option V) → Prop
  | head {ks vs} : At x v (x :: ks) (some v :: vs)
  | tail {y ks u vs} : At x v ks vs → At x v (y :: ks) (u :: vs)
inductive Put (x : Str) (v : V) : List Str → List (Option V) → List (Option V) → Prop
  | head {ks u vs} : Put x v (x :: ks) (u :: vs) (some v :: vs)
  | tail {y ks u vs vs'} : Put x v ks vs vs' → Put x v (y :: ks) (u :: vs) (u :: vs')
theorem At.mem {x : Str} {v : V} {ks : List Str} {vs : List (Option V)} (h : At x v ks vs) : (x, some v) ∈ ks.zip vs := by
  induction h with
  | head => exact .head _
  | tail _ ih => exact .tail _ ih
theorem Put.key {x : Str} {v : V} {ks : List Str} {vs vs' : List (Option V)} (h : Put x v ks vs vs') : x ∈ ks := by
  induction h with
  | head => exact .head _
  | tail _ ih => exact .tail _ ih
theorem Put.mem {x : Str} {v : V} {ks : List Str} {vs vs' : List (Option V)} (h : Put x v ks vs vs') (nd : ks.Nodup) : ∀ p ∈ ks.zip vs', p = (x, some v) ∨ (p.1 ≠ x ∧ p ∈ ks.zip vs) := by
  induction h with
  | head =>
    intro p hp
    rcases List.mem_cons.mp hp with rfl | hp
    · exact .inl rfl
    · refine .inr ⟨fun e => (List.nodup_cons.mp nd).1 (e ▸ (List.of_mem_zip hp).1), ?_⟩
      exact List.mem_cons_of_mem _ hp
  | @tail y _ u _ _ h ih =>
    intro p hp
    rcases List.mem_cons.mp hp with rfl | hp
    · exact .inr ⟨fun e => (List.nodup_cons.mp nd).1 (by have e' : y = x := e; rw [e']; exact h.key), List.mem_cons_self ..⟩
    · rcases ih (List.nodup_cons.mp nd).2 p hp with e | ⟨a, b⟩
      · exact .inl e
      · exact .inr ⟨a, List.mem_cons_of_mem _ b⟩
theorem FrIs.nsOf {ks vs} {h : Heap} {a : Addr} {o : Obj} (H : FrIs ks vs h o) (ho : h.get? a = some o) : ∃ m, h.Ns a m ∧ ∀ x v, At x v ks vs → ∃ w, m x = some w ∧ VR h v w := by
  obtain ⟨es, ep, d, k, f⟩ := H.ns
  exact ⟨fun n => nsFind es n, ⟨o, es, ep, ho, d, k, fun _ => rfl⟩, fun x v hx => f _ hx.mem v rfl⟩
section
variable {C : Cx} {A : Around} {σ : Led} {env : Env} {x : Str} {pos : Pos} {v : V} {Q : V → Led → Prop}
theorem n_loc' {ks vs} {s : Shared} {P : Value → Shared → Prop} {E : Value → Shared → Prop} (H : HR C σ s) (hm : (env.locals, AO.fr ks vs) ∈ σ) (hv : At x v ks vs) (h : ∀ w, VR s.heap v w → P w s)
    (hk : env.scope.kind = .function) (hl : env.kindOf x = some .local) : wpAny (model C.prog C.w) A (loadName env x) P E s := by
  obtain ⟨o, g, _, F⟩ := H.own _ hm
  obtain ⟨m, N, f⟩ := FrIs.nsOf F g
  obtain ⟨w, e, r⟩ := f x v hv
  exact wpAny_loadName_local hk hl N e (h w r)
theorem n_loc {ks vs} (hm : (env.locals, AO.fr ks vs) ∈ σ) (hv : At x v ks vs) (h : Q v σ)
    (hk : env.scope.kind = .function := by rfl) (hl : env.kindOf x = some .local := by rfl) (hd : (x == ("__debug__" : Str)) = false := by decide) : Tr C VR A σ (eval (.Name x pos) env) Q :=
  fun s H => wpAny_Name (n_loc' H hm hv (fun w r => ⟨v, σ, H, r, TK.refl _, h⟩) hk hl) hd
theorem cellOf {c : Addr} {s : Shared} {u : Option V} (H : HR C σ s) (hm : (c, AO.cell u) ∈ σ) : ∃ w, s.heap.IsCell c w ∧ RO s.heap u w := by
  obtain ⟨o, g, _, w, d, r⟩ := H.own _ hm
  exact ⟨w, ⟨o, g, d⟩, r⟩
theorem n_cell {c : Addr} (hc : env.cells.lookup x = some c) (hm : (c, AO.cell (some v)) ∈ σ) (h : Q v σ)
    (hk : env.scope.kind = .function := by rfl) (hl : env.kindOf x = some .cell := by rfl) (hd : (x == ("__debug__" : Str)) = false := by decide) : Tr C VR A σ (eval (.Name x pos) env) Q := by
  intro s H
  obtain ⟨w, ic, u, e, r⟩ := cellOf H hm
  subst e
  exact wpAny_Name (wpAny_loadName_cell hk hl hc ic ⟨v, σ, H, r, TK.refl _, h⟩) hd
theorem n_free {c : Addr} (hc : env.cells.lookup x = some c) (hm : (c, AO.cell (some v)) ∈ σ) (h : Q v σ)
    (hk : env.scope.kind = .function := by rfl) (hl : env.kindOf x = some .free := by rfl) (hd : (x == ("__debug__" : Str)) = false := by decide) (hn : (x == ("__classdict__" : Str)) = false := by decide) : Tr C VR A σ (eval (.Name x pos) env) Q := by
  intro s H
  obtain ⟨w, ic, u, e, r⟩ := cellOf H hm
  subst e
  exact wpAny_Name (wpAny_loadName_free hk hl hc ic ⟨v, σ, H, r, TK.refl _, h⟩ hn) hd
noncomputable def flat : Value → Option V
  | .none => some .none
  | .bool b => some (.bool b)
  | .int i _ => some (.int i)
  | .str s _ => some (.str s)
  | .bytes b _ => some (.bytes b)
  | .type n => some (.type n)
  | .builtin n => some (.bi n)
  | .ref a => some (.ref a)
  | _ => Option.none
theorem flat_vr {u : Value} {v : V} {h : Heap} (e : flat u = some v) : VR h v u := by
  cases u <;> first | (cases e; first | exact rfl | exact ⟨_, rfl⟩) | cases e
theorem n_glob {u : Value} (e : C.mg x = some u) (hf : flat u = some v) (h : Q v σ) (hg : env.globals = mainGlobals := by rfl)
    (hk : env.scope.kind = .function := by rfl) (hx : env.kindOf x = some .globalImplicit := by rfl) (hd : (x == ("__debug__" : Str)) = false := by decide) : Tr C VR A σ (eval (.Name x pos) env) Q :=
  fun s H => Name_function_global hk hx (loadGlobal_global (hg ▸ H.bg.gl) e ⟨v, σ, H, flat_vr hf, TK.refl _, h⟩) hd
theorem n_built {u : Value} (e : C.mg x = none) (e' : C.mb x = some u) (hf : flat u = some v) (h : Q v σ) (hg : env.globals = mainGlobals := by rfl) (hb : env.builtins = builtinsNs := by rfl)
    (hk : env.scope.kind = .function := by rfl) (hx : env.kindOf x = some .globalImplicit := by rfl) (hd : (x == ("__debug__" : Str)) = false := by decide) : Tr C VR A σ (eval (.Name x pos) env) Q :=
  fun s H => Name_function_global hk hx (loadGlobal_builtin (hg ▸ H.bg.gl) e (hb ▸ H.bg.bl) e' ⟨v, σ, H, flat_vr hf, TK.refl _, h⟩) hd
end
section
variable {C : Cx} {A : Around} {σ σ' : Led} {env : Env} {x : Str} {v : V}
noncomputable def St (C : Cx) (A : Around) (σ : Led) (t : Value → Sem Unit) (v : V) (Q : Unit → Led → Prop) : Prop := ∀ s a, HR C σ s → VR s.heap v a → WP C RU A s (t a) Q
theorem st_loc {ks vs vs'} {Q : Unit → Led → Prop} (U : LU env.locals (AO.fr ks vs) (AO.fr ks vs') σ σ') (hv : Put x v ks vs vs') (h : Q () σ')
    (hk : env.scope.kind = .function := by rfl) (hl : env.kindOf x = some .local := by rfl) : St C A σ (storeName env x) v Q := by
  intro s a H ra
  obtain ⟨o, g, nt, F⟩ := H.own _ U.mem
  obtain ⟨es, ep, d, k, f⟩ := F.ns
  have N : s.heap.Ns env.locals (fun n => nsFind es n) := ⟨o, es, ep, g, d, k, fun _ => rfl⟩
  refine wpAny_storeName_local hl N (fun h' hn hs => ?_) (by rw [hk]; rfl)
  obtain ⟨o', es', ep', g', d', k', f'⟩ := hn
  have nt' : Pl o' := Pl.dict d'
  have tk : TK s.heap h' := HR.tkUpd H U hs
  have fi : FrIs ks vs' h' o' := ⟨F.nd, es', ep', d', k', fun p hp y e => by
    rcases hv.mem F.nd p hp with rfl | ⟨n, hp'⟩
    · cases e
      exact ⟨a, by rw [f']; simp, ra.mono tk⟩
    · obtain ⟨w, e1, e2⟩ := f p hp' y e
      exact ⟨w, by rw [f']; show (if p.1 = x then _ else _) = _; rw [if_neg n]; exact e1, e2.mono tk⟩⟩
  exact ⟨(), σ', (H.upd (s' := { s with heap := h', toks := s.toks + 1 }) U hs g' nt' fi rfl rfl).1, trivial, tk, h⟩
theorem st_cell {c : Addr} {u : Option V} {Q : Unit → Led → Prop} (hc : env.cells.lookup x = some c) (U : LU c (AO.cell u) (AO.cell (some v)) σ σ') (h : Q () σ')
    (hk : env.scope.kind = .function := by rfl) (hl : env.kindOf x = some .cell := by rfl) : St C A σ (storeName env x) v Q := by
  intro s a H ra
  obtain ⟨w, ic, _⟩ := cellOf H U.mem
  refine wpAny_storeName_cell hk hl hc ic (fun h' hc' hs => ?_)
  obtain ⟨o', g', d'⟩ := hc'
  have tk : TK s.heap h' := HR.tkUpd H U hs
  exact ⟨(), σ', (H.upd (s' := { s with heap := h' }) U hs g' (Pl.cell d') ⟨_, d', a, rfl, ra.mono tk⟩ rfl rfl).1, trivial, tk, h⟩
end
section
variable {C : Cx} {A : Around} {σ : Led} {env : Env} {Q : V → Led → Prop} {k : Nat} {pos : Pos}
noncomputable def constV : Const → Option V
  | .none => some .none
  | .bool b => some (.bool b)
  | .int i => some (.int i)
  | .str s => some (.str s)
  | .bytes b => some (.bytes b.toArray)
  | _ => Option.none
theorem e_const {c : Const} {v : V} (hc : constV c = some v) (h : Q v σ) : Tr C VR A σ (eval (.Constant c k pos) env) Q := by
  intro s H
  cases c with
  | none => cases hc; exact wpAny_pure ⟨.none, σ, H, vr_none.mpr rfl, TK.refl _, h⟩
  | bool b => cases hc; exact wpAny_pure ⟨.bool b, σ, H, vr_bool.mpr rfl, TK.refl _, h⟩
  | int i => cases hc; exact wpAny_bind (wpAny_fresh (wpAny_pure ⟨.int i, σ, H.toks, vr_int.mpr ⟨_, rfl⟩, TK.refl _, h⟩))
  | str i => cases hc; exact wpAny_bind (wpAny_fresh (wpAny_pure ⟨.str i, σ, H.toks, vr_str.mpr ⟨_, rfl⟩, TK.refl _, h⟩))
  | bytes i => cases hc; exact wpAny_bind (wpAny_fresh (wpAny_pure ⟨.bytes i.toArray, σ, H.toks, vr_bytes.mpr ⟨_, rfl⟩, TK.refl _, h⟩))
  | _ => cases hc
noncomputable def Op1 {α β : Type} (C : Cx) (R : Heap → β → α → Prop) (A : Around) (σ : Led) (t : Value → Sem α) (x : V) (Q : β → Led → Prop) : Prop :=
  ∀ s a, HR C σ s → VR s.heap x a → WP C R A s (t a) Q
noncomputable def Op2 {α β : Type} (C : Cx) (R : Heap → β → α → Prop) (A : Around) (σ : Led) (t : Value → Value → Sem α) (x y : V) (Q : β → Led → Prop) : Prop :=
  ∀ s a b, HR C σ s → VR s.heap x a → VR s.heap y b → WP C R A s (t a b) Q
noncomputable def Op3 {α β : Type} (C : Cx) (R : Heap → β → α → Prop) (A : Around) (σ : Led) (t : Value → Value → Value → Sem α) (x y z : V) (Q : β → Led → Prop) : Prop :=
  ∀ s a b c, HR C σ s → VR s.heap x a → VR s.heap y b → VR s.heap z c → WP C R A s (t a b c) Q
noncomputable def OpL {α β : Type} (C : Cx) (R : Heap → β → α → Prop) (A : Around) (σ : Led) (t : List Value → Sem α) (x : List V) (Q : β → Led → Prop) : Prop :=
  ∀ s a, HR C σ s → VRs s.heap x a → WP C R A s (t a) Q
noncomputable def Bin (C : Cx) (A : Around) (σ : Led) (op : Operator) (x y : V) (Q : V → Led → Prop) : Prop := Op2 C VR A σ (binaryOp op) x y Q
noncomputable def Cmp (C : Cx) (A : Around) (σ : Led) (op : CmpOp) (x y : V) (Q : V → Led → Prop) : Prop := Op2 C VR A σ (compareOp op) x y Q
noncomputable def Inp (C : Cx) (A : Around) (σ : Led) (op : Operator) (x y : V) (Q : V → Led → Prop) : Prop := Op2 C VR A σ (inplaceOp op) x y Q
noncomputable def Tru (C : Cx) (A : Around) (σ : Led) (x : V) (Q : Bool → Led → Prop) : Prop := Op1 C RB A σ truthy x Q
noncomputable def Una (C : Cx) (A : Around) (σ : Led) (op : UnaryOp) (x : V) (Q : V → Led → Prop) : Prop := Op1 C VR A σ (unaryOp op) x Q
variable {l r : Expr} {op : Operator} {cop : CmpOp} {uop : UnaryOp}
theorem e_bin (h : Tr C VR A σ (eval l env) (fun x σ₁ => Tr C VR A σ₁ (eval r env) (fun y σ₂ => Bin C A σ₂ op x y Q))) : Tr C VR A σ (eval (.BinOp l op r pos) env) Q :=
  fun s H => wpAny_BinOp ((h s H).run fun a s₁ x σ₁ H₁ r₁ k₁ q₁ => (q₁ s₁ H₁).run fun b s₂ y σ₂ H₂ r₂ k₂ q₂ => (q₂ s₂ a b H₂ (r₁.mono k₂) r₂).up (k₁.trans k₂))
theorem e_cmp (h : Tr C VR A σ (eval l env) (fun x σ₁ => Tr C VR A σ₁ (eval r env) (fun y σ₂ => Cmp C A σ₂ cop x y Q))) (hm : behindInMarks cop r = false := by rfl) :
    Tr C VR A σ (eval (.Compare l [cop] [r] pos) env) Q :=
  fun s H => wpAny_Compare1 ((h s H).run fun a s₁ x σ₁ H₁ r₁ k₁ q₁ => (q₁ s₁ H₁).run fun b s₂ y σ₂ H₂ r₂ k₂ q₂ => (q₂ s₂ a b H₂ (r₁.mono k₂) r₂).up (k₁.trans k₂)) hm
theorem e_una (h : Tr C VR A σ (eval l env) (fun x σ₁ => Una C A σ₁ uop x Q)) : Tr C VR A σ (eval (.UnaryOp uop l pos) env) Q :=
  fun s H => wpAny_UnaryOp ((h s H).run fun a s₁ x σ₁ H₁ r₁ k₁ q₁ => (q₁ s₁ a H₁ r₁).up k₁)
theorem e_if {t b o : Expr} (h : Tr C RB A σ (isTrue t env (eval t env)) (fun c σ₁ => if c = true then Tr C VR A σ₁ (eval b env) Q else Tr C VR A σ₁ (eval o env) Q)) : Tr C VR A σ (eval (.IfExp t b o pos) env) Q :=
  fun s H => wpAny_IfExp ((h s H).run fun a s₁ c σ₁ H₁ r₁ k₁ q₁ => by
    cases r₁
    cases a with
    | true => simp only [if_true] at q₁ ⊢; exact (q₁ s₁ H₁).up k₁
    | false => simp only [Bool.false_eq_true, if_false] at q₁ ⊢; exact (q₁ s₁ H₁).up k₁)
variable {Qb : Bool → Led → Prop} {e : Expr} {es : List Expr}
theorem t_cmp {whole} (h : Tr C VR A σ (eval l env) (fun x σ₁ => Tr C VR A σ₁ (eval r env) (fun y σ₂ => Cmp C A σ₂ cop x y (fun z σ₃ => Tru C A σ₃ z Qb)))) (hm : behindInMarks cop r = false := by rfl) :
    Tr C RB A σ (isTrue (.Compare l [cop] [r] pos) env whole) Qb :=
  fun s H => wpAny_isTrue_Compare1 ((h s H).run fun a s₁ x σ₁ H₁ r₁ k₁ q₁ => (q₁ s₁ H₁).run fun b s₂ y σ₂ H₂ r₂ k₂ q₂ => (q₂ s₂ a b H₂ (r₁.mono k₂) r₂).run fun c s₃ z σ₃ H₃ r₃ k₃ q₃ => (q₃ s₃ c H₃ r₃).up (k₁.trans (k₂.trans k₃))) hm
theorem t_value (h : Tr C VR A σ (eval e env) (fun x σ₁ => Tru C A σ₁ x Qb))
    (he : isTrue e env (eval e env) = (do let v ← eval e env; standAt e.pos; holding [v] (truthy v)) := by rfl) : Tr C RB A σ (isTrue e env (eval e env)) Qb :=
  fun s H => wpAny_isTrue_value ((h s H).run fun a s₁ x σ₁ H₁ r₁ k₁ q₁ => (q₁ s₁ a H₁ r₁).up k₁) he
theorem t_or {vs : List Expr} {whole} (h : Tr C RB A σ (allTrue .Or vs env) Qb) : Tr C RB A σ (isTrue (.BoolOp .Or vs pos) env whole) Qb := fun s H => wpAny_isTrue_BoolOp (h s H)
theorem any_nil (h : Qb false σ) : Tr C RB A σ (allTrue .Or [] env) Qb := fun s H => wpAny_pure ⟨false, σ, H, rfl, TK.refl _, h⟩
theorem any_cons {x : Expr} {rest : List Expr} (h : Tr C RB A σ (isTrue x env (eval x env)) (fun b σ₁ => if b = true then Qb true σ₁ else Tr C RB A σ₁ (allTrue .Or rest env) Qb)) : Tr C RB A σ (allTrue .Or (x :: rest) env) Qb :=
  fun s H => wpAny_allTrue_Or_cons ((h s H).run fun a s₁ b σ₁ H₁ r₁ k₁ q₁ => by
    cases r₁
    cases a with
    | true => simp only [if_true] at q₁ ⊢; exact ⟨true, σ₁, H₁, rfl, k₁, q₁⟩
    | false => simp only [Bool.false_eq_true, if_false] at q₁ ⊢; exact (q₁ s₁ H₁).up k₁)
theorem e_and2 {x y : Expr} (h : Tr C VR A σ (eval x env) (fun v σ₁ => Tru C A σ₁ v (fun b σ₂ => if b = true then Tr C VR A σ₂ (eval y env) Q else Q v σ₂))) : Tr C VR A σ (eval (.BoolOp .And [x, y] pos) env) Q :=
  fun s H => wpAny_And2 ((h s H).run fun a s₁ v σ₁ H₁ r₁ k₁ q₁ => (q₁ s₁ a H₁ r₁).run fun c s₂ b σ₂ H₂ r₂ k₂ q₂ => by
    cases r₂
    cases c with
    | true => simp only [if_true] at q₂ ⊢; exact (q₂ s₂ H₂).up (k₁.trans k₂)
    | false => simp only [Bool.false_eq_true, if_false] at q₂ ⊢; exact ⟨v, σ₂, H₂, r₁.mono k₂, k₁.trans k₂, q₂⟩)
theorem es_nil {Ql : List V → Led → Prop} (h : Ql [] σ) : Tr C VRs A σ (spliced (backTo pos (starEach [] env))) Ql := fun s H => wpAny_pure ⟨[], σ, H, VRs.nil, TK.refl _, h⟩
theorem es_cons {Ql : List V → Led → Prop} (h : Tr C VR A σ (eval e env) (fun x σ₁ => Tr C VRs A σ₁ (spliced (backTo pos (starEach es env))) (fun xs σ₂ => Ql (x :: xs) σ₂)))
    (hs : starEach (e :: es) env = (false, eval e env) :: starEach es env := by rfl) : Tr C VRs A σ (spliced (backTo pos (starEach (e :: es) env))) Ql := by
  intro s H
  rw [hs]
  show wpAny _ _ (spliced ((false, eval e env) :: backTo pos (starEach es env))) _ _ s
  unfold spliced
  refine wpAny_bind ((h s H).run fun a s₁ x σ₁ H₁ r₁ k₁ q₁ => ?_)
  refine wpAny_bind (wpAny_pure (wpAny_bind (wpAny_holding ((q₁ s₁ H₁).run fun b s₂ y σ₂ H₂ r₂ k₂ q₂ => ?_))))
  exact wpAny_pure ⟨x :: y, σ₂, H₂, VRs.cons (r₁.mono k₂) r₂, k₁.trans k₂, q₂⟩
theorem newTuple_ {l : List V} (hz : l.length ≤ sizeLine) (h : Q (.tup l) σ) : OpL C VR A σ newTuple l Q := by
  intro s a H r
  have hz' : a.length ≤ sizeLine := by rw [r.length]; exact hz
  refine wpAny_newObj_type ?_ (by show a.toArray.size ≤ sizeLine; rw [List.size_toArray]; exact hz')
  have H' : HR C σ { s with heap := s.heap.push (tupObj a) } := H.grow (fun b o e => Heap.get?_push_of_some _ e) rfl rfl
  have tk : TK s.heap (s.heap.push (tupObj a)) := TK.push _
  exact ⟨.tup l, σ, H', ⟨_, a, rfl, Heap.get?_push_size _ rfl, r.mono tk⟩, tk, h⟩
theorem e_tuple {n : Nat} (h : Tr C VRs A σ (spliced (backTo pos (starEach es env))) (fun l σ₁ => l.length ≤ sizeLine ∧ Q (.tup l) σ₁)) : Tr C VR A σ (eval (.Tuple es n pos) env) Q := by
  intro s H
  show wpAny _ _ (standAt pos >>= fun _ => spliced (backTo pos (starEach es env)) >>= newTuple) _ _ s
  exact wpAny_bind (wpAny_standAt (wpAny_bind ((h s H).run fun a s₁ x σ₁ H₁ r₁ k₁ q₁ => (newTuple_ q₁.1 q₁.2 s₁ a H₁ r₁).up k₁)))
theorem newList_ {l : List V} (hz : l.length ≤ sizeLine) (h : ∀ a, Q (.ref a) ((a, AO.list l) :: σ)) : OpL C VR A σ newList l Q := by
  intro s a H r
  have hz' : a.length ≤ sizeLine := by rw [r.length]; exact hz
  refine wpAny_newObj_type ?_ (by show a.toArray.size ≤ sizeLine; rw [List.size_toArray]; exact hz')
  have tk : TK s.heap (s.heap.push { cls := .type "list", data := .seq a.toArray }) := TK.push _
  refine ⟨.ref s.heap.objs.size, _, H.add (X := AO.list l) (fun b o e => Heap.get?_push_of_some _ e) (Nat.le_refl _) (Heap.get?_push_size _ rfl)
    (Pl.seq (show Value.type "list" ≠ Value.type "tuple" by decide) rfl) ⟨⟨rfl, rfl⟩, a, 0, rfl, r.mono tk⟩ rfl rfl, vr_ref.mpr rfl, tk, h _⟩
theorem e_list (h : Tr C VRs A σ (spliced (backTo pos (starEach es env))) (fun l σ₁ => l.length ≤ sizeLine ∧ ∀ a, Q (.ref a) ((a, AO.list l) :: σ₁))) : Tr C VR A σ (eval (.List es pos) env) Q := by
  intro s H
  show wpAny _ _ (standAt pos >>= fun _ => spliced (backTo pos (starEach es env)) >>= newList) _ _ s
  exact wpAny_bind (wpAny_standAt (wpAny_bind ((h s H).run fun a s₁ x σ₁ H₁ r₁ k₁ q₁ => (newList_ q₁.1 q₁.2 s₁ a H₁ r₁).up k₁)))
end
end Mine
end
section
open PySem PySem.W PySem.Calls PyProof.Rows PySem.Spec
set_option Elab.async false
set_option maxRecDepth 100000
set_option linter.unusedVariables false
namespace Mine
noncomputable def FQ (Qn : Led → Prop) (Qr : V → Led → Prop) (Qb Qc : Led → Prop) : AF → Led → Prop
  | .next, σ => Qn σ
  | .ret x, σ => Qr x σ
  | .brk, σ => Qb σ
  | .cont, σ => Qc σ
noncomputable def X (C : Cx) (A : Around) (env : Env) (σ : Led) (st : Stmt) (Qn : Led → Prop) (Qr : V → Led → Prop) (Qb Qc : Led → Prop) : Prop := Tr C FR A σ (exec st env) (FQ Qn Qr Qb Qc)
noncomputable def Xs (C : Cx) (A : Around) (env : Env) (σ : Led) (st : List Stmt) (Qn : Led → Prop) (Qr : V → Led → Prop) (Qb Qc : Led → Prop) : Prop := Tr C FR A σ (execs st env) (FQ Qn Qr Qb Qc)
noncomputable def Asg (C : Cx) (A : Around) (env : Env) (σ : Led) (t : Expr) (v : V) (Q : Led → Prop) : Prop := St C A σ (assign t env) v (fun _ σ' => Q σ')
section
variable {C : Cx} {A : Around} {σ : Led} {env : Env} {Qn : Led → Prop} {Qr : V → Led → Prop} {Qb Qc : Led → Prop} {pos : Pos} {e : Expr} {st : Stmt} {rest : List Stmt}
theorem post_next {h : Heap} {s : Shared} {σ : Led} (H : HR C σ s) (k : TK h s.heap) (q : Qn σ) : Post C FR h (FQ Qn Qr Qb Qc) .next s := ⟨.next, σ, H, rfl, k, q⟩
theorem post_ret {h : Heap} {s : Shared} {σ : Led} {x : V} {v : Value} (H : HR C σ s) (r : VR s.heap x v) (k : TK h s.heap) (q : Qr x σ) : Post C FR h (FQ Qn Qr Qb Qc) (.ret v) s := ⟨.ret x, σ, H, ⟨v, rfl, r⟩, k, q⟩
theorem xs_nil (h : Qn σ) : Xs C A env σ [] Qn Qr Qb Qc := fun s H => wpAny_execs_nil (post_next H (TK.refl _) h)
theorem xs_cons (h : X C A env σ st (fun σ₁ => Xs C A env σ₁ rest Qn Qr Qb Qc) Qr Qb Qc) : Xs C A env σ (st :: rest) Qn Qr Qb Qc :=
  fun s H => wpAny_execs_cons ((h s H).run fun f s₁ b σ₁ H₁ r₁ k₁ q₁ => by
    cases b with
    | next => cases r₁; exact (q₁ s₁ H₁).up k₁
    | brk => cases r₁; exact ⟨.brk, σ₁, H₁, rfl, k₁, q₁⟩
    | cont => cases r₁; exact ⟨.cont, σ₁, H₁, rfl, k₁, q₁⟩
    | ret x => obtain ⟨v, rfl, r⟩ := r₁; exact ⟨.ret x, σ₁, H₁, ⟨v, rfl, r⟩, k₁, q₁⟩)
theorem x_expr (h : Tr C VR A σ (eval e env) (fun _ σ₁ => Qn σ₁)) (hi : interactive env = false := by rfl) (hs : swapsWith e none pos.line env = pure false := by rfl) : X C A env σ (.Expr e pos) Qn Qr Qb Qc :=
  fun s H => wpAny_Expr_any ((h s H).run fun a s₁ x σ₁ H₁ r₁ k₁ q₁ => post_next H₁ k₁ q₁) hi hs
theorem x_name {x : Str} {p' : Pos} (h : Tr C VR A σ (eval e env) (fun v σ₁ => St C A σ₁ (storeName env x) v (fun _ σ₂ => Qn σ₂))) (hs : swapsWith e (some (.Name x p')) pos.line env = pure false := by rfl) :
    X C A env σ (.Assign [.Name x p'] e pos) Qn Qr Qb Qc :=
  fun s H => wpAny_Assign_Name ((h s H).run fun a s₁ v σ₁ H₁ r₁ k₁ q₁ => (q₁ s₁ a H₁ r₁).run fun _ s₂ _ σ₂ H₂ _ k₂ q₂ => post_next H₂ (k₁.trans k₂) q₂) hs
theorem x_aug {x : Str} {p' : Pos} {op : Operator} (h : Tr C VR A σ (loadName env x) (fun o σ₁ => Tr C VR A σ₁ (eval e env) (fun v σ₂ => Inp C A σ₂ op o v (fun r σ₃ => St C A σ₃ (storeName env x) r (fun _ σ₄ => Qn σ₄))))) :
    X C A env σ (.AugAssign (.Name x p') op e pos) Qn Qr Qb Qc :=
  fun s H => wpAny_AugAssign_Name ((h s H).run fun a s₁ o σ₁ H₁ r₁ k₁ q₁ => (q₁ s₁ H₁).run fun b s₂ v σ₂ H₂ r₂ k₂ q₂ => (q₂ s₂ a b H₂ (r₁.mono k₂) r₂).run fun c s₃ z σ₃ H₃ r₃ k₃ q₃ =>
    (q₃ s₃ c H₃ r₃).run fun _ s₄ _ σ₄ H₄ _ k₄ q₄ => post_next H₄ (k₁.trans (k₂.trans (k₃.trans k₄))) q₄)
theorem l_loc {x : Str} {v : V} {Q : V → Led → Prop} {ks vs} (hm : (env.locals, AO.fr ks vs) ∈ σ) (hv : At x v ks vs) (h : Q v σ)
    (hk : env.scope.kind = .function := by rfl) (hl : env.kindOf x = some .local := by rfl) : Tr C VR A σ (loadName env x) Q :=
  fun s H => n_loc' H hm hv (fun w r => ⟨v, σ, H, r, TK.refl _, h⟩) hk hl
theorem x_if {t : Expr} {b o : List Stmt} (h : Tr C RB A σ (isTrue t env (eval t env)) (fun c σ₁ => if c = true then Xs C A env σ₁ b Qn Qr Qb Qc else Xs C A env σ₁ o Qn Qr Qb Qc)) : X C A env σ (.If t b o pos) Qn Qr Qb Qc :=
  fun s H => wpAny_If ((h s H).run fun a s₁ c σ₁ H₁ r₁ k₁ q₁ => by
    cases r₁
    cases a with
    | true => simp only [if_true] at q₁ ⊢; exact (q₁ s₁ H₁).up k₁
    | false => simp only [Bool.false_eq_true, if_false] at q₁ ⊢; exact (q₁ s₁ H₁).up k₁)
theorem x_ret (h : Tr C VR A σ (eval e env) Qr) : X C A env σ (.Return (some e) pos) Qn Qr Qb Qc :=
  fun s H => wpAny_Return_some ((h s H).run fun a s₁ v σ₁ H₁ r₁ k₁ q₁ => post_ret H₁ r₁ k₁ q₁)
theorem x_cont (h : Qc σ) : X C A env σ (.Continue pos) Qn Qr Qb Qc := fun s H => wpAny_Continue ⟨.cont, σ, H, rfl, TK.refl _, h⟩
theorem x_attr {o : Expr} {attr : Str} {p' : Pos} (h : Tr C VR A σ (eval e env) (fun v σ₁ => Tr C VR A σ₁ (eval o env) (fun ov σ₂ => Op2 C RU A σ₂ (fun a b => setAttr a attr b) ov v (fun _ σ₃ => Qn σ₃))))
    (hs : swapsWith e (some (o.Attribute attr p')) pos.line env = pure false := by rfl) : X C A env σ (.Assign [.Attribute o attr p'] e pos) Qn Qr Qb Qc :=
  fun s H => plainObj_wpAny_Assign_Attribute ((h s H).run fun a s₁ v σ₁ H₁ r₁ k₁ q₁ => (q₁ s₁ H₁).run fun b s₂ ov σ₂ H₂ r₂ k₂ q₂ => (q₂ s₂ b a H₂ r₂ (r₁.mono k₂)).run fun _ s₃ _ σ₃ H₃ _ k₃ q₃ => post_next H₃ (k₁.trans (k₂.trans k₃)) q₃) hs
theorem x_sub {o i : Expr} {p' : Pos} (h : Tr C VR A σ (eval e env) (fun v σ₁ => Tr C VR A σ₁ (eval o env) (fun ov σ₂ => Tr C VR A σ₂ (eval i env) (fun iv σ₃ => Op3 C RU A σ₃ setItem ov iv v (fun _ σ₄ => Qn σ₄)))))
    (hs : swapsWith e (some (o.Subscript i p')) pos.line env = pure false := by rfl) : X C A env σ (.Assign [.Subscript o i p'] e pos) Qn Qr Qb Qc :=
  fun s H => wpAny_Assign_Subscript ((h s H).run fun a s₁ v σ₁ H₁ r₁ k₁ q₁ => (q₁ s₁ H₁).run fun b s₂ ov σ₂ H₂ r₂ k₂ q₂ => (q₂ s₂ H₂).run fun c s₃ iv σ₃ H₃ r₃ k₃ q₃ =>
    (q₃ s₃ b c a H₃ (r₂.mono k₃) r₃ (r₁.mono (k₂.trans k₃))).run fun _ s₄ _ σ₄ H₄ _ k₄ q₄ => post_next H₄ (k₁.trans (k₂.trans (k₃.trans k₄))) q₄) hs
theorem x_augsub {o i : Expr} {p' : Pos} {op : Operator} (h : Tr C VR A σ (eval o env) (fun ov σ₁ => Tr C VR A σ₁ (eval i env) (fun iv σ₂ => Op2 C VR A σ₂ getItem ov iv (fun old σ₃ => Tr C VR A σ₃ (eval e env) (fun v σ₄ =>
      Inp C A σ₄ op old v (fun nw σ₅ => Op3 C RU A σ₅ setItem ov iv nw (fun _ σ₆ => Qn σ₆)))))))
    (hs : ∀ (ov iv new : Value), augStore i ov iv new = (do holding [new, ov, iv] (setItem ov iv new); release [new, ov, iv] []; pure Flow.next) := by intro _ _ _; rfl) :
    X C A env σ (.AugAssign (.Subscript o i p') op e pos) Qn Qr Qb Qc :=
  fun s H => wpAny_AugAssign_SubscriptAny ((h s H).run fun b s₁ ov σ₁ H₁ r₁ k₁ q₁ => (q₁ s₁ H₁).run fun c s₂ iv σ₂ H₂ r₂ k₂ q₂ => (q₂ s₂ b c H₂ (r₁.mono k₂) r₂).run fun d s₃ old σ₃ H₃ r₃ k₃ q₃ =>
    (q₃ s₃ H₃).run fun f s₄ v σ₄ H₄ r₄ k₄ q₄ => (q₄ s₄ d f H₄ (r₃.mono k₄) r₄).run fun g s₅ nw σ₅ H₅ r₅ k₅ q₅ =>
      (q₅ s₅ b c g H₅ (r₁.mono (k₂.trans (k₃.trans (k₄.trans k₅)))) (r₂.mono (k₃.trans (k₄.trans k₅))) r₅).run fun _ s₆ _ σ₆ H₆ _ k₆ q₆ => post_next H₆ (k₁.trans (k₂.trans (k₃.trans (k₄.trans (k₅.trans k₆))))) q₆) hs
theorem x_augattr {o : Expr} {attr : Str} {p' : Pos} {op : Operator} (h : Tr C VR A σ (eval o env) (fun ov σ₁ => Op1 C VR A σ₁ (fun a => getAttr a attr true) ov (fun old σ₂ => Tr C VR A σ₂ (eval e env) (fun v σ₃ =>
      Inp C A σ₃ op old v (fun nw σ₄ => Op2 C RU A σ₄ (fun a b => setAttr a attr b) ov nw (fun _ σ₅ => Qn σ₅)))))) :
    X C A env σ (.AugAssign (.Attribute o attr p') op e pos) Qn Qr Qb Qc :=
  fun s H => wpAny_AugAssign_AttributeAny ((h s H).run fun b s₁ ov σ₁ H₁ r₁ k₁ q₁ => (q₁ s₁ b H₁ r₁).run fun c s₂ old σ₂ H₂ r₂ k₂ q₂ => (q₂ s₂ H₂).run fun d s₃ v σ₃ H₃ r₃ k₃ q₃ =>
    (q₃ s₃ c d H₃ (r₂.mono k₃) r₃).run fun f s₄ nw σ₄ H₄ r₄ k₄ q₄ => (q₄ s₄ b f H₄ (r₁.mono (k₂.trans (k₃.trans k₄))) r₄).run fun _ s₅ _ σ₅ H₅ _ k₅ q₅ => post_next H₅ (k₁.trans (k₂.trans (k₃.trans (k₄.trans k₅)))) q₅)
theorem x_while {t : Expr} {body : List Stmt} (J : Nat → Led → Prop) (n : Nat) (h0 : J n σ)
    (turn : ∀ n σ, J n σ → Tr C RB A σ (isTrue t env (eval t env)) (fun c σ₁ => if c = true then Xs C A env σ₁ body (fun σ₂ => ∃ m, m < n ∧ J m σ₂) Qr Qn (fun σ₂ => ∃ m, m < n ∧ J m σ₂) else Qn σ₁)) :
    X C A env σ (.While t body [] pos) Qn Qr Qb Qc := by
  intro s H
  refine wpAny_While (codeAny_whileLoop (fun n s' => ∃ σ, HR C σ s' ∧ TK s.heap s'.heap ∧ J n σ) (fun n s' ⟨σ, H, k, j⟩ => ?_) n ⟨σ, H, TK.refl _, h0⟩)
  refine (turn n σ j s' H).run fun c s₁ b σ₁ H₁ r₁ k₁ q₁ => ?_
  cases r₁
  cases c with
  | false => simp only [Bool.false_eq_true, if_false] at q₁ ⊢; exact wpAny_execs_nil (post_next H₁ (k.trans k₁) q₁)
  | true =>
    simp only [if_true] at q₁ ⊢
    refine (q₁ s₁ H₁).run fun f s₂ b σ₂ H₂ r₂ k₂ q₂ => ?_
    cases b with
    | next => cases r₂; obtain ⟨m, hm, j⟩ := q₂; exact ⟨m, hm, σ₂, H₂, k.trans (k₁.trans k₂), j⟩
    | cont => cases r₂; obtain ⟨m, hm, j⟩ := q₂; exact ⟨m, hm, σ₂, H₂, k.trans (k₁.trans k₂), j⟩
    | brk => cases r₂; exact post_next H₂ (k.trans (k₁.trans k₂)) q₂
    | ret x => obtain ⟨v, rfl, r⟩ := r₂; exact post_ret H₂ r (k.trans (k₁.trans k₂)) q₂
noncomputable def Nx (C : Cx) (A : Around) (σ : Led) (it : V) (Q : Option V → Led → Prop) : Prop := Op1 C RO A σ pyNext it Q
noncomputable def It (C : Cx) (A : Around) (σ : Led) (x : V) (Q : V → Led → Prop) : Prop := Op1 C VR A σ pyIter x Q
theorem x_for {target iter : Expr} {body : List Stmt}
    (h : Tr C VR A σ (eval iter env) (fun x σ₁ => It C A σ₁ x (fun it σ₂ => ∃ (J : Nat → Led → Prop) (n : Nat), J n σ₂ ∧ ∀ n σ, J n σ → Nx C A σ it (fun o σ₃ => match o with
      | none => Qn σ₃
      | some y => Asg C A env σ₃ target y (fun σ₄ => Xs C A env σ₄ body (fun σ₅ => ∃ m, m < n ∧ J m σ₅) Qr Qn (fun σ₅ => ∃ m, m < n ∧ J m σ₅))))))
    (ht : ∀ it v, letOwnedTupleGo target it v = pure () := by intro _ _; rfl) (hs : ∀ x, foldedSetIterable iter env x = pure x := by intro _; rfl) :
    X C A env σ (.For target iter body [] pos) Qn Qr Qb Qc := by
  intro s H
  refine wpAny_For ((h s H).run fun a s₁ x σ₁ H₁ r₁ k₁ q₁ => (q₁ s₁ a H₁ r₁).run fun itv s₂ it σ₂ H₂ r₂ k₂ q₂ => ?_) hs
  obtain ⟨J, n, j0, turn⟩ := q₂
  refine codeAny_forLoop (fun n s' => ∃ σ, HR C σ s' ∧ TK s₂.heap s'.heap ∧ J n σ) (fun n s' ⟨σ, H, k, j⟩ => ?_) n ⟨σ₂, H₂, TK.refl _, j0⟩ (ht itv)
  refine (turn n σ j s' itv H (r₂.mono k)).run fun o s₃ b σ₃ H₃ r₃ k₃ q₃ => ?_
  have kk := k₁.trans (k₂.trans (k.trans k₃))
  cases b with
  | none => cases r₃; exact wpAny_execs_nil (post_next H₃ kk q₃)
  | some y =>
    obtain ⟨v, rfl, rv⟩ := r₃
    refine (q₃ s₃ v H₃ rv).run fun _ s₄ _ σ₄ H₄ _ k₄ q₄ => (q₄ s₄ H₄).run fun f s₅ b σ₅ H₅ r₅ k₅ q₅ => ?_
    have kj := k.trans (k₃.trans (k₄.trans k₅))
    have ke := kk.trans (k₄.trans k₅)
    cases b with
    | next => cases r₅; obtain ⟨m, hm, j⟩ := q₅; exact ⟨m, hm, σ₅, H₅, kj, j⟩
    | cont => cases r₅; obtain ⟨m, hm, j⟩ := q₅; exact ⟨m, hm, σ₅, H₅, kj, j⟩
    | brk => cases r₅; exact post_next H₅ ke q₅
    | ret x => obtain ⟨v, rfl, r⟩ := r₅; exact post_ret H₅ r ke q₅
theorem asg_name {x : Str} {p : Pos} {v : V} {Q : Led → Prop} (h : St C A σ (storeName env x) v (fun _ σ' => Q σ')) : Asg C A env σ (.Name x p) v Q :=
  fun s a H r => wpAny_assign_Name (h s a H r)
end
end Mine
end
section
open PySem PySem.W PySem.Calls PyProof.Rows PySem.Spec
set_option Elab.async false
set_option maxRecDepth 100000
set_option linter.unusedVariables false
namespace Mine
section
variable {C : Cx} {A : Around} {σ σ' : Led} {env : Env} {pos : Pos} {Q : V → Led → Prop} {i j : Int} {x y : Str}
theorem done_int {s : Shared} {t : Tok} {h : Heap} {d : Drawn} {tk : Nat} (H : HR C σ s) (q : Q (.int i) σ) : Post C VR s.heap Q (.int i t) ⟨s.heap, s.gens, d, tk, s.os⟩ :=
  ⟨.int i, σ, H.toks, vr_int.mpr ⟨t, rfl⟩, TK.refl _, q⟩
theorem done_str {s : Shared} {t : Tok} {d : Drawn} {tk : Nat} (H : HR C σ s) (q : Q (.str x) σ) : Post C VR s.heap Q (.str x t) ⟨s.heap, s.gens, d, tk, s.os⟩ :=
  ⟨.str x, σ, H.toks, vr_str.mpr ⟨t, rfl⟩, TK.refl _, q⟩
theorem done_bool {b : Bool} {s : Shared} (H : HR C σ s) (q : Q (.bool b) σ) : Post C VR s.heap Q (.bool b) s := ⟨.bool b, σ, H, vr_bool.mpr rfl, TK.refl _, q⟩
theorem bin_add (h : Q (.int (i + j)) σ) : Bin C A σ .Add (.int i) (.int j) Q := by
  rintro s a b H ⟨t, rfl⟩ ⟨u, rfl⟩; exact PyProof.Rows.add_int (done_int (h := s.heap) (d := s.drawn) H h)
theorem bin_sub (h : Q (.int (i - j)) σ) : Bin C A σ .Sub (.int i) (.int j) Q := by
  rintro s a b H ⟨t, rfl⟩ ⟨u, rfl⟩; exact PyProof.Rows.sub_int (done_int (h := s.heap) (d := s.drawn) H h)
theorem bin_mul (h : Q (.int (i * j)) σ) (hm : IntMulOk i j) : Bin C A σ .Mult (.int i) (.int j) Q := by
  rintro s a b H ⟨t, rfl⟩ ⟨u, rfl⟩; exact PySem.P.mul_int (done_int (h := s.heap) (d := s.drawn) H h) hm
theorem bin_fdiv (h : Q (.int (i.fdiv j)) σ) (hb : j ≠ 0) (hs : j.natAbs.log2 < 9000) : Bin C A σ .FloorDiv (.int i) (.int j) Q := by
  rintro s a b H ⟨t, rfl⟩ ⟨u, rfl⟩; exact PyProof.Rows.floordiv_int hb (done_int (h := s.heap) (d := s.drawn) H h) (.inl (PyProof.noPylong_of_log2 hs))
theorem bin_mod (h : Q (.int (i.fmod j)) σ) (hb : j ≠ 0) : Bin C A σ .Mod (.int i) (.int j) Q := by
  rintro s a b H ⟨t, rfl⟩ ⟨u, rfl⟩; exact PyProof.Rows.mod_int' hb (done_int (h := s.heap) (d := s.drawn) H h)
theorem inp_add (h : Q (.int (i + j)) σ) : Inp C A σ .Add (.int i) (.int j) Q := by
  rintro s a b H ⟨t, rfl⟩ ⟨u, rfl⟩; exact PyProof.Rows.iadd_int (done_int (h := s.heap) (d := s.drawn) H h)
theorem una_neg (h : Q (.int (-i)) σ) : Una C A σ .USub (.int i) Q := by
  rintro s a H ⟨t, rfl⟩; exact PySem.P.neg_int (done_int (h := s.heap) (d := s.drawn) H h)
theorem cmp_eq (h : Q (.bool (i == j)) σ) : Cmp C A σ .Eq (.int i) (.int j) Q := by
  rintro s a b H ⟨t, rfl⟩ ⟨u, rfl⟩; exact PyProof.Rows.eq_int (done_bool H h)
theorem cmp_ne (h : Q (.bool (i != j)) σ) : Cmp C A σ .NotEq (.int i) (.int j) Q := by
  rintro s a b H ⟨t, rfl⟩ ⟨u, rfl⟩; exact PyProof.Rows.ne_int (done_bool H h)
theorem cmp_gt (h : Q (.bool (decide (j < i))) σ) : Cmp C A σ .Gt (.int i) (.int j) Q := by
  rintro s a b H ⟨t, rfl⟩ ⟨u, rfl⟩; exact PyProof.Rows.gt_int (done_bool H h)
theorem tru_int {Qb : Bool → Led → Prop} (h : Qb (i != 0) σ) : Tru C A σ (.int i) Qb := by
  rintro s a H ⟨t, rfl⟩; exact PySem.P.truthy_int ⟨_, σ, H, rfl, TK.refl _, h⟩
theorem tru_bool {Qb : Bool → Led → Prop} {b : Bool} (h : Qb b σ) : Tru C A σ (.bool b) Qb := by
  rintro s a H rfl; exact wpAny_truthy_bool ⟨_, σ, H, rfl, TK.refl _, h⟩
theorem str_post {s : Shared} {t u : Tok} (H : HR C σ s) (hz : (x ++ y).length ≤ sizeLine) (h : Q (.str (x ++ y)) σ) :
    (if x.length == 0 then Made.val (.str y u) else if y.length == 0 then Made.val (.str x t) else Made.str (x ++ y)).post (Post C VR s.heap Q) s := by
  by_cases hx : x.length = 0
  · have ex : x = Str.empty := by
      apply Str.ext'; apply Array.eq_empty_of_size_eq_zero; exact hx
    rw [if_pos (by simp [hx])]
    subst ex
    rw [Str.empty_append] at h
    exact ⟨_, σ, H, vr_str.mpr ⟨u, rfl⟩, TK.refl _, h⟩
  · rw [if_neg (by simpa using hx)]
    by_cases hy : y.length = 0
    · have ey : y = Str.empty := by
        apply Str.ext'; apply Array.eq_empty_of_size_eq_zero; exact hy
      rw [if_pos (by simp [hy])]
      subst ey
      have e : x ++ Str.empty = x := by
        apply Str.ext'; rw [Str.cps_append]; simp [Str.empty]
      rw [e] at h
      exact ⟨_, σ, H, vr_str.mpr ⟨t, rfl⟩, TK.refl _, h⟩
    · rw [if_neg (by simpa using hy)]
      exact ⟨hz, ⟨_, σ, H.toks, vr_str.mpr ⟨_, rfl⟩, TK.refl _, h⟩⟩
theorem bin_cat (hz : (x ++ y).length ≤ sizeLine) (h : Q (.str (x ++ y)) σ) : Bin C A σ .Add (.str x) (.str y) Q := by
  rintro s a b H ⟨t, rfl⟩ ⟨u, rfl⟩; exact PySem.P.add_str (str_post H hz h)
theorem inp_cat (hz : (x ++ y).length ≤ sizeLine) (h : Q (.str (x ++ y)) σ) : Inp C A σ .Add (.str x) (.str y) Q := by
  rintro s a b H ⟨t, rfl⟩ ⟨u, rfl⟩; exact PySem.P.iadd_str (str_post H hz h)
theorem cmp_seq (h : Q (.bool (x.cps.toList == y.cps.toList)) σ) : Cmp C A σ .Eq (.str x) (.str y) Q := by
  rintro s a b H ⟨t, rfl⟩ ⟨u, rfl⟩; exact PySem.P.eq_str (done_bool H h)
theorem cmp_sin (h : Q (.bool !(Builtin.Str.occurrences x y 0 x.length 1).isEmpty) σ) : Cmp C A σ .In (.str y) (.str x) Q := by
  rintro s a b H ⟨t, rfl⟩ ⟨u, rfl⟩; exact PySem.P.in_str (done_bool H h)
noncomputable def Call (C : Cx) (A : Around) (σ : Led) (f : V) (xs : List V) (Q : V → Led → Prop) : Prop :=
  ∀ s fv vs, HR C σ s → VR s.heap f fv → VRs s.heap xs vs → WP C VR A s (call fv vs) Q
noncomputable def CallC (C : Cx) (A : Around) (σ : Led) (f : V) (xs : List V) (Q : V → Led → Prop) : Prop :=
  ∀ s fv vs, HR C σ s → VR s.heap f fv → VRs s.heap xs vs → codeAny (model C.prog C.w) A (.call fv ⟨vs, []⟩) (wants (Post C VR s.heap Q) No) s
theorem CallC.call {f : V} {xs : List V} (h : CallC C A σ f xs Q) : Call C A σ f xs Q := fun s fv vs H r rr => wpAny_call (h s fv vs H r rr)
noncomputable def Kp (C : Cx) (σ : Led) (f : V) : Prop := ∀ s v, HR C σ s → VR s.heap f v → ∃ k, Looks (model C.prog C.w) s.heap (keeperOf v) k
theorem evalArgs_ {as : List Expr} {fv : Value} {s : Shared} {P : Args → Shared → Prop} {E : Value → Shared → Prop} (hs : (starEach as env).all (fun x => !x.1) = true)
    (h : wpAny (model C.prog C.w) A (spliced (backTo pos (starEach as env))) (fun vs s' => P ⟨vs, []⟩ s') E s) : wpAny (model C.prog C.w) A (evalArgs fv true (backTo pos (starEach as env)) []) P E s := by
  cases hb : starEach as env with
  | nil =>
    rw [hb] at h
    show wpAny _ A (evalArgs fv true [] []) P E s
    unfold evalArgs
    show wpAny _ A (spliced [] >>= _) P E s
    refine wpAny_bind (wpAny_mono h (fun vs s' h' => ?_) fun _ _ x => x)
    refine wpAny_bind (wpAny_pure (wpAny_holding ?_))
    exact wpAny_bind (wpAny_pure (wpAny_bind (wpAny_pure (wpAny_pure h'))))
  | cons p r =>
    rw [hb] at h hs
    obtain ⟨b, t⟩ := p
    cases b with
    | true => simp at hs
    | false => exact evalArgs_plain h
theorem callWith_ {as : List Expr} {fv : Value} {first : List Value} {s : Shared} {P : Value → Shared → Prop} {E : Value → Shared → Prop} (hs : (starEach as env).all (fun x => !x.1) = true)
    (h : wpAny (model C.prog C.w) A (spliced (backTo pos (starEach as env))) (fun vs s' => (∃ k, Looks (model C.prog C.w) s'.heap (keeperOf fv) k) ∧ wpAny (model C.prog C.w) A (call fv (first ++ vs)) P E s') E s) :
    wpAny (model C.prog C.w) A (callWith pos fv first (backTo pos (starEach as env)) []) P E s := by
  unfold callWith
  refine wpAny_bind (wpAny_holding (evalArgs_ hs (wpAny_mono h (fun vs s' h' => wpAny_bind (wpAny_standAt ?_)) fun _ _ x => x)))
  obtain ⟨⟨k, L⟩, hc⟩ := h'
  have hplain : ((backTo pos (starEach as env)).any (·.1) || ([] : List (Option Str × Sem Value)).any (·.1.isNone)) = false := by
    rw [List.any_nil, Bool.or_false, List.any_eq_false]
    intro p hp
    simp only [backTo, List.mem_map] at hp
    obtain ⟨q, hq, rfl⟩ := hp
    have := List.all_eq_true.mp hs q hq
    simpa using this
  simp only [hplain]
  refine wpAny_bind (L.here ?_)
  have tail : ∀ {t : Sem Value}, wpAny (model C.prog C.w) A t P E s' → wpAny (model C.prog C.w) A (t >>= fun r => holding [r] point >>= fun _ => pure r) P E s' :=
    fun ht => wpAny_bind (wpAny_mono ht (fun r s₂ hr => wpAny_bind (wpAny_holding (wpAny_point (wpAny_pure hr)))) fun _ _ x => x)
  have marked (mk : Value) : wpAny (model C.prog C.w) A (callMarked mk fv (first ++ vs) []) P E s' := by unfold callMarked; exact Calls.wpAny_keep hc
  have oper : ∀ l : List Value, wpAny (model C.prog C.w) A (operate l (call fv (first ++ vs) [])) P E s' := fun l => wpAny_operateT hc
  cases k <;> dsimp only <;> first | exact tail hc | (split <;> first | exact tail hc | exact tail (marked _)) | exact tail (oper _)
theorem e_call {f : Expr} {as : List Expr} (h : Tr C VR A σ (eval f env) (fun fv σ₁ => Tr C VRs A σ₁ (spliced (backTo pos (starEach as env))) (fun xs σ₂ => Kp C σ₂ fv ∧ Call C A σ₂ fv xs Q)))
    (he : eval (.Call f as [] pos) env = (do callWith pos (← eval f env) [] (backTo pos (starEach as env)) []) := by rfl) (hs : (starEach as env).all (fun x => !x.1) = true := by rfl) : Tr C VR A σ (eval (.Call f as [] pos) env) Q := by
  intro s H
  unfold WP
  rw [he]
  refine wpAny_bind ((h s H).run fun fv s₁ f' σ₁ H₁ r₁ k₁ q₁ => callWith_ hs ((q₁ s₁ H₁).run fun vs s₂ xs σ₂ H₂ r₂ k₂ q₂ => ⟨q₂.1 s₂ fv H₂ (r₁.mono k₂), ?_⟩))
  exact (q₂.2 s₂ fv vs H₂ (r₁.mono k₂) r₂).up (k₁.trans k₂)
noncomputable def RP (h : Heap) (p : V × List V) (q : Value × List Value) : Prop := VR h p.1 q.1 ∧ VRs h p.2 q.2
noncomputable def Mth (C : Cx) (A : Around) (σ : Led) (o : V) (name : Str) (Q : V → List V → Led → Prop) : Prop :=
  ∀ s a pl, HR C σ s → VR s.heap o a → WP C RP A s (getMethod a name pl) (fun p σ' => Q p.1 p.2 σ')
theorem e_meth {o : Expr} {name : Str} {ap : Pos} {as : List Expr}
    (h : Tr C VR A σ (eval o env) (fun ov σ₁ => Mth C A σ₁ ov name (fun f first σ₂ => Tr C VRs A σ₂ (spliced (backTo pos (starEach as env))) (fun xs σ₃ => Kp C σ₃ f ∧ Call C A σ₃ f (first ++ xs) Q))))
    (hb : attributeBase o name env (eval o env) = eval o env := by rfl) (hl : (ap.endLine == pos.line) = true := by rfl) (hs : (starEach as env).all (fun x => !x.1) = true := by rfl)
    (hf : methodCallForm (as.length + ([] : List Keyword).length) (backTo pos (starEach as env)) (backToKw pos (keywordEach [] env)) = true := by rfl) :
    Tr C VR A σ (eval (.Call (.Attribute o name ap) as [] pos) env) Q := by
  intro s H
  have e : eval (.Call (.Attribute o name ap) as [] pos) env = (do
      let ov ← attributeBase o name env (eval o env)
      standAt ap.atName
      methodCall o name ap pos env ov (as.length + ([] : List Keyword).length) (backTo pos (starEach as env)) (backToKw pos (keywordEach [] env))) := rfl
  unfold WP
  rw [e, hb]
  refine wpAny_bind ((h s H).run fun ov s₁ x σ₁ H₁ r₁ k₁ q₁ => wpAny_bind (wpAny_standAt ?_))
  unfold methodCall
  rw [hf]
  refine wpAny_bind (wpAny_holding ?_)
  show wpAny _ A (getMethod ov name _) _ _ s₁
  refine (q₁ s₁ ov _ H₁ r₁).run fun p s₂ q σ₂ H₂ r₂ k₂ q₂ => ?_
  obtain ⟨fv, first⟩ := p
  have ep : methodCallPos true o env ap pos = pure pos := by unfold methodCallPos; rw [hl]; rfl
  show wpAny _ A (methodCallPos true o env ap pos >>= _) _ _ s₂
  rw [ep]
  refine wpAny_bind (wpAny_pure ?_)
  refine callWith_ hs ((q₂ s₂ H₂).run fun vs s₃ xs σ₃ H₃ r₃ k₃ q₃ => ⟨q₃.1 s₃ fv H₃ (r₂.1.mono k₃), ?_⟩)
  exact (q₃.2 s₃ fv _ H₃ (r₂.1.mono k₃) ((r₂.2.mono k₃).append r₃)).up (k₁.trans (k₂.trans k₃))
end
noncomputable def FrOk (h : Heap) (ks : List Str) (vs : List (Option V)) (binds : List (Str × Value)) : Prop := ∀ p ∈ ks.zip vs, ∀ x, p.2 = some x → ∃ w, binds.reverse.lookup p.1 = some w ∧ VR h x w
theorem FrOk.nil {h : Heap} {ks : List Str} {b} : FrOk h ks [] b := fun p hp => by simp at hp
theorem FrOk.none {h : Heap} {k : Str} {ks : List Str} {vs} {b} (H : FrOk h ks vs b) : FrOk h (k :: ks) (Option.none :: vs) b := fun p hp x e => by
  rcases List.mem_cons.mp hp with rfl | hp
  · cases e
  · exact H p hp x e
theorem FrOk.some {h : Heap} {k : Str} {ks : List Str} {x : V} {w : Value} {vs} {b} (H : FrOk h ks vs b) (e : b.reverse.lookup k = some w) (r : VR h x w) : FrOk h (k :: ks) (Option.some x :: vs) b := fun p hp y e' => by
  rcases List.mem_cons.mp hp with rfl | hp
  · cases e'; exact ⟨w, e, r⟩
  · exact H p hp y e'
section
variable {C : Cx} {A : Around} {σ : Led} {Q : V → Led → Prop}
variable {name qual : Str} {params : Arguments} {body : List Stmt} {scope : Scope} {cl : List (Str × Addr)} {dV kV doc pm cdv ct oc : Value} {an od : Option Addr} {osl : Array (Option Value)} {f : Addr} {xs : List V} {n : Nat}
theorem call_defC {ks : List Str} {vs : List (Option V)} (ho : C.K.lookup f = some ⟨oc, od, .func (fnX name qual params body scope cl dV kV doc pm an cdv ct), osl⟩) (hcd : codeIn C.K cdv qual = true) (hfit : Fit (n + 1) A)
    (nd : ks.Nodup) (hcell : ∀ x ∈ scope.names, x.2 ≠ .cell)
    (hbind : ∀ s as, C.K.In s.heap → VRs s.heap xs as → ∃ binds, BindsTo s (fnX name qual params body scope cl dV kV doc pm an cdv ct) ⟨as, []⟩ binds ∧ (∀ y ∈ binds, scope.names.lookup y.1 = some .local) ∧ FrOk s.heap ks vs binds)
    (h : ∀ L A', Fit n A' → Xs C A' (envX qual scope L f cdv cl) ((L, AO.fr ks vs) :: σ) body (fun σ' => Drop Q .none σ') (fun v σ' => Drop Q v σ') (fun _ => False) (fun _ => False))
    (hco : scope.isCoroutine = false := by rfl) (hgen : scope.isGenerator = false := by rfl) (hk : scope.kind = .function := by rfl) : CallC C A σ (.ref f) xs Q := by
  rintro s fv as H rfl ra
  obtain ⟨binds, hb, hl, hf⟩ := hbind s as H.bg.kin ra
  refine (codeAny_call_def (fd := fnX name qual params body scope cl dV kV doc pm an cdv ct) (body := body) (binds := binds) hfit.room (H.bg.kin _ _ ho) rfl H.bg.nl (codeRec_of H.bg.kin hcd) rfl hb hcell hl (fun h₀ hns hk₁ => ?_) hco hgen hk)
  obtain ⟨o, es, ep, g, d, kk, fe⟩ := hns
  have lt : s.heap.objs.size < h₀.objs.size := Heap.lt_size g
  have tk : TK s.heap h₀ := fun _ _ e _ => hk₁ _ _ e
  have H' : HR C ((s.heap.objs.size, AO.fr ks vs) :: σ) { s with heap := h₀, toks := s.toks + binds.length } :=
    H.add (o := o) hk₁ (Nat.le_refl _) g (Pl.dict d)
      ⟨nd, es, ep, d, kk, fun p hp x e => by obtain ⟨w, e1, e2⟩ := hf p hp x e; exact ⟨w, by rw [fe]; exact e1, e2.mono tk⟩⟩ rfl rfl
  refine ((h s.heap.objs.size (A.deeper (envX qual scope s.heap.objs.size f cdv cl)) hfit.deeper) _ H').run fun fl s₁ b σ₁ H₁ r₁ k₁ q₁ => ?_
  cases b with
  | next => cases r₁; obtain ⟨σ₂, k₂, q⟩ := q₁; exact ⟨.none, σ₂, HR.sb k₂ H₁, vr_none.mpr rfl, tk.trans k₁, q⟩
  | brk => exact q₁.elim
  | cont => exact q₁.elim
  | ret x => obtain ⟨v, rfl, r⟩ := r₁; obtain ⟨σ₂, k₂, q⟩ := q₁; exact ⟨x, σ₂, HR.sb k₂ H₁, r, tk.trans k₁, q⟩
theorem call_def {ks : List Str} {vs : List (Option V)} (ho : C.K.lookup f = some ⟨oc, od, .func (fnX name qual params body scope cl dV kV doc pm an cdv ct), osl⟩) (hcd : codeIn C.K cdv qual = true) (hfit : Fit (n + 1) A)
    (nd : ks.Nodup) (hcell : ∀ x ∈ scope.names, x.2 ≠ .cell)
    (hbind : ∀ s as, C.K.In s.heap → VRs s.heap xs as → ∃ binds, BindsTo s (fnX name qual params body scope cl dV kV doc pm an cdv ct) ⟨as, []⟩ binds ∧ (∀ y ∈ binds, scope.names.lookup y.1 = some .local) ∧ FrOk s.heap ks vs binds)
    (h : ∀ L A', Fit n A' → Xs C A' (envX qual scope L f cdv cl) ((L, AO.fr ks vs) :: σ) body (fun σ' => Drop Q .none σ') (fun v σ' => Drop Q v σ') (fun _ => False) (fun _ => False))
    (hco : scope.isCoroutine = false := by rfl) (hgen : scope.isGenerator = false := by rfl) (hk : scope.kind = .function := by rfl) : Call C A σ (.ref f) xs Q :=
  (call_defC ho hcd hfit nd hcell hbind h hco hgen hk).call
end
end Mine
end
section
open PySem PySem.W PySem.Calls PyProof.Rows PySem.Spec
set_option Elab.async false
set_option maxRecDepth 100000
set_option linter.unusedVariables false
namespace Mine
structure Cx.Is (C : Cx) (K : Frag) : Prop where
  isK : C.K = K
  glob : ∀ x v, nsIn K mainGlobals x = some (some v) → C.mg x = some v
  globN : ∀ x, nsIn K mainGlobals x = some none → C.mg x = none
  blt : ∀ x : Str, x ≠ "__name__" → C.mb x = bootBuiltins x
  bm : ∃ bm o, C.mg "__builtins__" = some (.ref bm) ∧ bm ≠ builtinsNs ∧ bm ≠ mainGlobals ∧ C.h₀.get? bm = some o ∧ o.cls = .type "module" ∧ o.dict = some builtinsNs ∧ o.data = .plain
section
variable {C : Cx} {K : Frag} {A : Around} {σ : Led} {env : Env} {x : Str} {pos : Pos} {v : V} {Q : V → Led → Prop}
theorem n_globK {u : Value} (hC : C.Is K) (e : nsIn K mainGlobals x = some (some u)) (hf : flat u = some v) (h : Q v σ) (hg : env.globals = mainGlobals := by rfl)
    (hk : env.scope.kind = .function := by rfl) (hx : env.kindOf x = some .globalImplicit := by rfl) (hd : (x == ("__debug__" : Str)) = false := by decide) : Tr C VR A σ (eval (.Name x pos) env) Q :=
  n_glob (hC.glob _ _ e) hf h hg hk hx hd
theorem n_builtK {u : Value} (hC : C.Is K) (e : nsIn K mainGlobals x = some none) (e' : bootBuiltins x = some u) (hn : x ≠ "__name__") (hf : flat u = some v) (h : Q v σ) (hg : env.globals = mainGlobals := by rfl) (hb : env.builtins = builtinsNs := by rfl)
    (hk : env.scope.kind = .function := by rfl) (hx : env.kindOf x = some .globalImplicit := by rfl) (hd : (x == ("__debug__" : Str)) = false := by decide) : Tr C VR A σ (eval (.Name x pos) env) Q :=
  n_built (hC.globN _ e) ((hC.blt x hn).trans e') hf h hg hb hk hx hd
theorem kp_bi {n : String} : Kp C σ (.bi n) := fun s v H r => by cases vr_bi.mp r; exact ⟨.machine, Looks.of_pure rfl⟩
theorem kp_type {n : String} : Kp C σ (.type n) := fun s v H r => by cases vr_type.mp r; exact ⟨.machine, Looks.of_pure rfl⟩
theorem kp_K {a : Addr} (hC : C.Is K) (e : keepIn K (.ref a) = true) : Kp C σ (.ref a) := fun s v H r => by
  cases vr_ref.mp r
  obtain ⟨k, _, L⟩ := looks_keep (M := model C.prog C.w) e (hC.isK ▸ H.bg.kin)
  exact ⟨k, L⟩
end
section
variable {C : Cx} {K : Frag} {A : Around} {σ : Led} {Q : V → Led → Prop}
variable {name qual : Str} {params : Arguments} {body : List Stmt} {scope : Scope} {cl : List (Str × Addr)} {dV kV doc pm cdv ct oc : Value} {an od : Option Addr} {osl : Array (Option Value)} {f : Addr} {xs : List V} {n : Nat}
theorem call_defK {ks : List Str} {vs : List (Option V)} (hC : C.Is K) (ho : K.lookup f = some ⟨oc, od, .func (fnX name qual params body scope cl dV kV doc pm an cdv ct), osl⟩) (hcd : codeIn K cdv qual = true) (hfit : Fit (n + 1) A)
    (nd : ks.Nodup) (hcell : ∀ x ∈ scope.names, x.2 ≠ .cell)
    (hbind : ∀ s as, K.In s.heap → VRs s.heap xs as → ∃ binds, BindsTo s (fnX name qual params body scope cl dV kV doc pm an cdv ct) ⟨as, []⟩ binds ∧ (∀ y ∈ binds, scope.names.lookup y.1 = some .local) ∧ FrOk s.heap ks vs binds)
    (h : ∀ L A', Fit n A' → Xs C A' (envX qual scope L f cdv cl) ((L, AO.fr ks vs) :: σ) body (fun σ' => Drop Q .none σ') (fun v σ' => Drop Q v σ') (fun _ => False) (fun _ => False))
    (hco : scope.isCoroutine = false := by rfl) (hgen : scope.isGenerator = false := by rfl) (hk : scope.kind = .function := by rfl) : Call C A σ (.ref f) xs Q := by
  cases hC.isK
  exact call_def ho hcd hfit nd hcell hbind h hco hgen hk
theorem call_defKC {ks : List Str} {vs : List (Option V)} (hC : C.Is K) (ho : K.lookup f = some ⟨oc, od, .func (fnX name qual params body scope cl dV kV doc pm an cdv ct), osl⟩) (hcd : codeIn K cdv qual = true) (hfit : Fit (n + 1) A)
    (nd : ks.Nodup) (hcell : ∀ x ∈ scope.names, x.2 ≠ .cell)
    (hbind : ∀ s as, K.In s.heap → VRs s.heap xs as → ∃ binds, BindsTo s (fnX name qual params body scope cl dV kV doc pm an cdv ct) ⟨as, []⟩ binds ∧ (∀ y ∈ binds, scope.names.lookup y.1 = some .local) ∧ FrOk s.heap ks vs binds)
    (h : ∀ L A', Fit n A' → Xs C A' (envX qual scope L f cdv cl) ((L, AO.fr ks vs) :: σ) body (fun σ' => Drop Q .none σ') (fun v σ' => Drop Q v σ') (fun _ => False) (fun _ => False))
    (hco : scope.isCoroutine = false := by rfl) (hgen : scope.isGenerator = false := by rfl) (hk : scope.kind = .function := by rfl) : CallC C A σ (.ref f) xs Q := by
  cases hC.isK
  exact call_defC ho hcd hfit nd hcell hbind h hco hgen hk
end
section
variable {C : Cx} {A : Around} {σ : Led} {Q : V → Led → Prop} {i : Int}
theorem c_chr (h0 : 0 ≤ i) (h1 : i ≤ 1114111) (h : Q (.str ⟨#[i.toNat]⟩) σ) : Call C A σ (.bi "chr") [.int i] Q := by
  rintro s fv vs H rfl r
  simp only [VRs] at r
  obtain ⟨_, _, rfl, ⟨t, rfl⟩, rfl⟩ := r
  exact chr_of_range h0 h1 (done_str (d := s.drawn) H h)
end
end Mine
end
section
open PySem PySem.W PySem.Calls PyProof.Rows PySem.Spec
set_option Elab.async false
set_option maxRecDepth 100000
set_option linter.unusedVariables false
namespace Mine
theorem Tr.sb {C : Cx} {α β : Type} {R : Heap → β → α → Prop} {A : Around} {σ σ' : Led} {t : Sem α} {Q : β → Led → Prop} (k : Sb σ' σ) (h : Tr C R A σ' t Q) : Tr C R A σ t Q := fun s H => h s (HR.sb k H)
theorem Tr.mono {C : Cx} {α β : Type} {R : Heap → β → α → Prop} {A : Around} {σ : Led} {t : Sem α} {Q Q' : β → Led → Prop} (h : Tr C R A σ t Q) (k : ∀ b σ, Q b σ → Q' b σ) : Tr C R A σ t Q' := fun s H => (h s H).mono k
theorem Tr.drop {C : Cx} {α β : Type} {R : Heap → β → α → Prop} {A : Around} {σ : Led} {t : Sem α} {Q : β → Led → Prop} (h : Tr C R A σ t (Drop Q)) : Tr C R A σ t Q := fun s H => (h s H).drop
theorem Xs.sb {C : Cx} {A : Around} {env : Env} {σ σ' : Led} {st : List Stmt} {Qn Qr Qb Qc} (k : Sb σ' σ) (h : Xs C A env σ' st Qn Qr Qb Qc) : Xs C A env σ st Qn Qr Qb Qc := Tr.sb k h
theorem drop_fq {Qn Qr Qb Qc} {b : AF} {σ : Led} (h : FQ (fun σ => ∃ σ', Sb σ' σ ∧ Qn σ') (fun x σ => Drop Qr x σ) (fun σ => ∃ σ', Sb σ' σ ∧ Qb σ') (fun σ => ∃ σ', Sb σ' σ ∧ Qc σ') b σ) : Drop (FQ Qn Qr Qb Qc) b σ := by
  cases b <;> exact h
theorem Xs.drops {C : Cx} {A : Around} {env : Env} {σ : Led} {st : List Stmt} {Qn Qr Qb Qc}
    (h : Xs C A env σ st (fun σ => ∃ σ', Sb σ' σ ∧ Qn σ') (fun x σ => Drop Qr x σ) (fun σ => ∃ σ', Sb σ' σ ∧ Qb σ') (fun σ => ∃ σ', Sb σ' σ ∧ Qc σ')) : Xs C A env σ st Qn Qr Qb Qc :=
  Tr.drop (Tr.mono h fun _ _ => drop_fq)
structure Iter (C : Cx) (A : Around) (a : Addr) (X : Nat → AO) (l : List V) (G : Led → Prop) : Prop where
  item : ∀ i y σ (Q : Option V → Led → Prop), l[i]? = some y → G σ → Q (some y) ((a, X (i + 1)) :: σ) → Nx C A ((a, X i) :: σ) (.ref a) Q
  stop : ∀ σ (Q : Option V → Led → Prop), G σ → Q none σ → Nx C A ((a, X l.length) :: σ) (.ref a) Q
  self : ∀ σ (Q : V → Led → Prop), Q (.ref a) ((a, X 0) :: σ) → It C A ((a, X 0) :: σ) (.ref a) Q
section
variable {C : Cx} {A : Around} {σ : Led} {env : Env} {pos : Pos} {Qn : Led → Prop} {Qr : V → Led → Prop} {Qb Qc : Led → Prop}
noncomputable def Loop (C : Cx) (A : Around) (env : Env) (it : V) (target : Expr) (body : List Stmt) (σ : Led) (Qn : Led → Prop) (Qr : V → Led → Prop) : Prop :=
  ∃ (J : Nat → Led → Prop) (n : Nat), J n σ ∧ ∀ n σ, J n σ → Nx C A σ it (fun o σ₃ => match o with
      | none => Qn σ₃
      | some y => Asg C A env σ₃ target y (fun σ₄ => Xs C A env σ₄ body (fun σ₅ => ∃ m, m < n ∧ J m σ₅) Qr Qn (fun σ₅ => ∃ m, m < n ∧ J m σ₅)))
theorem x_for' {target iter : Expr} {body : List Stmt} (h : Tr C VR A σ (eval iter env) (fun x σ₁ => It C A σ₁ x (fun it σ₂ => Loop C A env it target body σ₂ Qn Qr)))
    (ht : ∀ it v, letOwnedTupleGo target it v = pure () := by intro _ _; rfl) (hs : ∀ x, foldedSetIterable iter env x = pure x := by intro _; rfl) :
    X C A env σ (.For target iter body [] pos) Qn Qr Qb Qc := x_for h ht hs
theorem nx_sb {σ σ' : Led} {it : V} {Q : Option V → Led → Prop} (k : Sb σ' σ) (h : Nx C A σ' it Q) : Nx C A σ it Q := fun s a H r => h s a (HR.sb k H) r
theorem loop_seq {target : Expr} {body : List Stmt} {a : Addr} {Xo : Nat → AO} {l : List V} {G : Led → Prop} (I : Iter C A a Xo l G) (J : Nat → Led → Prop) (h0 : J 0 σ) (hG : ∀ i σ, J i σ → G σ)
    (turn : ∀ i y σ, l[i]? = some y → J i σ → Asg C A env ((a, Xo (i + 1)) :: σ) target y (fun σ₁ => Xs C A env σ₁ body (fun σ₂ => ∃ σ', Sb ((a, Xo (i + 1)) :: σ') σ₂ ∧ J (i + 1) σ') Qr (fun σ₂ => ∃ σ', Sb σ' σ₂ ∧ Qn σ') (fun σ₂ => ∃ σ', Sb ((a, Xo (i + 1)) :: σ') σ₂ ∧ J (i + 1) σ')))
    (fin : ∀ σ, J l.length σ → Qn σ) : Loop C A env (.ref a) target body ((a, Xo 0) :: σ) Qn Qr := by
  refine ⟨fun n σ => ∃ i σ', n = l.length + 1 - i ∧ i ≤ l.length ∧ σ = (a, Xo i) :: σ' ∧ J i σ', l.length + 1, ⟨0, σ, rfl, Nat.zero_le _, rfl, h0⟩, ?_⟩
  rintro n σ ⟨i, σ', rfl, hi, rfl, j⟩
  rcases Nat.lt_or_ge i l.length with hl | hl
  · have e : l[i]? = some l[i] := List.getElem?_eq_getElem hl
    refine I.item i l[i] σ' _ e (hG i σ' j) ?_
    have := turn i l[i] σ' e j
    refine fun s v H r => (this s v H r).mono fun _ σ₁ q => ?_
    refine Xs.drops (Tr.mono q fun b σ₂ q => ?_)
    have go : ∀ {σ₂ : Led}, (∃ σ', Sb ((a, Xo (i + 1)) :: σ') σ₂ ∧ J (i + 1) σ') → ∃ σ', Sb σ' σ₂ ∧ ∃ m, m < l.length + 1 - i ∧ ∃ i σ'', m = l.length + 1 - i ∧ i ≤ l.length ∧ σ' = (a, Xo i) :: σ'' ∧ J i σ'' := by
      rintro σ₂ ⟨σ', k, j⟩
      exact ⟨_, k, l.length + 1 - (i + 1), by lia, i + 1, σ', rfl, hl, rfl, j⟩
    cases b with
    | next => exact go q
    | cont => exact go q
    | brk => exact q
    | ret x => exact ⟨σ₂, .refl, q⟩
  · have e : i = l.length := Nat.le_antisymm hi hl
    subst e
    exact I.stop σ' _ (hG _ σ' j) (fin σ' j)
end
noncomputable def chars (x : Str) : List V := x.cps.toList.map fun c => .str ⟨#[c]⟩
noncomputable def StrIt (x : Str) (i : Nat) (o : Obj) : Prop := ∃ ty t, (if x.cps.all (· < 128) = true then ty = "str_ascii_iterator" else ty = "str_iterator") ∧ o.cls = .type ty ∧ o.data = .fields #[.str x t, .int i 0]
noncomputable def AO.strit (x : Str) (i : Nat) : AO := ⟨fun _ o => StrIt x i o, fun _ h => h⟩
section
variable {C : Cx} {A : Around} {σ : Led} {a : Addr} {x : Str}
theorem it_str {Q : V → Led → Prop} (h : ∀ a, Q (.ref a) ((a, AO.strit x 0) :: σ)) : It C A σ (.str x) Q := by
  rintro s v H ⟨t, rfl⟩
  have add : ∀ ty, (if x.cps.all (· < 128) = true then ty = "str_ascii_iterator" else ty = "str_iterator") →
      Post C VR s.heap Q (.ref s.heap.objs.size) { s with heap := s.heap.push { cls := .type ty, data := .fields #[.str x t, .int 0 0] } } := fun ty hty =>
    ⟨.ref s.heap.objs.size, _, H.add (X := AO.strit x 0) (fun b o e => Heap.get?_push_of_some _ e) (Nat.le_refl _) (Heap.get?_push_size _ rfl) (Pl.fields rfl (by intro e; cases e)) ⟨ty, t, hty, rfl, rfl⟩ rfl rfl, vr_ref.mpr rfl, TK.push _, h _⟩
  cases ha : x.cps.all (· < 128) with
  | true => exact wpAny_pyIter_ascii ha (add _ (by rw [ha]; rfl))
  | false => exact wpAny_pyIter_wide ha (add _ (by rw [ha]; rfl))
theorem iter_str (hA : A.handled = none) : Iter C A a (AO.strit x) (chars x) (fun _ => True) where
  item := by
    rintro i y σ Q e _ h s v H rfl
    obtain ⟨o, g, nt, ty, t, hty, hc, hd⟩ := H.own _ (List.Mem.head _)
    unfold chars at e
    rw [List.getElem?_map] at e
    cases hx : x.cps[i]? with
    | none => simp [Array.getElem?_toList, hx] at e
    | some c =>
      rw [Array.getElem?_toList, hx] at e
      cases e
      have done : ∀ h', h'.IsStrIter a ty x t (i + 1) → Heap.SameBut a s.heap h' → Post C RO s.heap Q (some (.str ⟨#[c]⟩ s.toks)) { s with heap := h', toks := s.toks + 1 } := by
        rintro h' ⟨o', g', c', d'⟩ hs
        have U : LU a (AO.strit x i) (AO.strit x (i + 1)) ((a, AO.strit x i) :: σ) ((a, AO.strit x (i + 1)) :: σ) := .head
        exact ⟨some (.str ⟨#[c]⟩), _, (H.upd (s' := { s with heap := h', toks := s.toks + 1 }) U hs g' (Pl.fields d' (by rw [c']; intro e; cases e)) ⟨ty, t, hty, c', d'⟩ rfl rfl).1, ⟨_, rfl, vr_str.mpr ⟨_, rfl⟩⟩, HR.tkUpd H U hs, h⟩
      cases ha : x.cps.all (· < 128) with
      | true => rw [ha] at hty; simp only [if_true] at hty; subst hty; exact wpAny_pyNext_ascii_item ⟨o, g, hc, hd⟩ hx done
      | false => rw [ha] at hty; simp only [Bool.false_eq_true, if_false] at hty; subst hty; exact wpAny_pyNext_wide_item ⟨o, g, hc, hd⟩ hx done
  stop := by
    rintro σ Q _ h s v H rfl
    obtain ⟨o, g, nt, ty, t, hty, hc, hd⟩ := H.own _ (List.Mem.head _)
    have hx : x.cps[(chars x).length]? = none := by simp [chars]
    have done : ∀ h', Heap.ExtBut a s.heap h' → Post C RO s.heap Q none { s with heap := h' } := fun h' hs => ⟨none, σ, (H.del (s' := { s with heap := h' }) hs rfl rfl).1, rfl, (H.del (s' := { s with heap := h' }) hs rfl rfl).2, h⟩
    cases ha : x.cps.all (· < 128) with
    | true => rw [ha] at hty; simp only [if_true] at hty; subst hty; exact wpAny_pyNext_ascii_end hA ⟨o, g, hc, hd⟩ hx done
    | false => rw [ha] at hty; simp only [Bool.false_eq_true, if_false] at hty; subst hty; exact wpAny_pyNext_wide_end hA ⟨o, g, hc, hd⟩ hx done
  self := by
    rintro σ Q h s v H rfl
    obtain ⟨o, g, nt, ty, t, hty, hc, hd⟩ := H.own _ (List.Mem.head _)
    have done : Post C VR s.heap Q (.ref a) s := ⟨_, _, H, vr_ref.mpr rfl, TK.refl _, h⟩
    cases ha : x.cps.all (· < 128) with
    | true => rw [ha] at hty; simp only [if_true] at hty; subst hty; exact wpAny_pyIter_striter_ascii ⟨o, g, hc, hd⟩ done
    | false => rw [ha] at hty; simp only [Bool.false_eq_true, if_false] at hty; subst hty; exact wpAny_pyIter_striter_wide ⟨o, g, hc, hd⟩ done
end
noncomputable def AO.lit (l : Addr) (i : Nat) : AO := ⟨fun _ o => o.cls = .type "list_iterator" ∧ o.data = .fields #[.ref l, .int i 0], fun _ h => h⟩
section
variable {C : Cx} {A : Around} {σ : Led} {a b : Addr} {l : List V}
theorem listOf {s : Shared} (H : HR C σ s) (hm : (b, AO.list l) ∈ σ) : ∃ vs, s.heap.IsList b vs.toArray ∧ VRs s.heap l vs := by
  obtain ⟨o, g, _, ⟨c, _⟩, vs, n, d, r⟩ := H.own _ hm
  exact ⟨vs, ⟨o, g, c, n, d⟩, r⟩
theorem it_list {Q : V → Led → Prop} (hm : (b, AO.list l) ∈ σ) (h : ∀ a, Q (.ref a) ((a, AO.lit b 0) :: σ)) : It C A σ (.ref b) Q := by
  rintro s v H rfl
  obtain ⟨vs, L, r⟩ := listOf H hm
  exact wpAny_pyIter_list L ⟨_, _, H.add (X := AO.lit b 0) (fun b o e => Heap.get?_push_of_some _ e) (Nat.le_refl _) (Heap.get?_push_size _ rfl) (Pl.fields rfl (by intro e; cases e)) ⟨rfl, rfl⟩ rfl rfl, vr_ref.mpr rfl, TK.push _, h _⟩
theorem iter_list (hA : A.handled = none) : Iter C A a (AO.lit b) l (fun σ => (b, AO.list l) ∈ σ) where
  item := by
    rintro i y σ Q e hm h s v H rfl
    obtain ⟨o, g, nt, hc, hd⟩ := H.own _ (List.Mem.head _)
    obtain ⟨vs, L, r⟩ := listOf H (List.Mem.tail _ hm)
    obtain ⟨w, hw, rw'⟩ := r.get e
    refine wpAny_pyNext_list_item (x := w) ⟨o, g, hc, hd⟩ L (by simpa using hw) ?_
    rintro h' ⟨o', g', c', d'⟩ hs
    have U : LU a (AO.lit b i) (AO.lit b (i + 1)) ((a, AO.lit b i) :: σ) ((a, AO.lit b (i + 1)) :: σ) := .head
    have tk := HR.tkUpd H U hs
    exact ⟨some y, _, (H.upd (s' := { s with heap := h' }) U hs g' (Pl.fields d' (by rw [c']; intro e; cases e)) ⟨c', d'⟩ rfl rfl).1, ⟨_, rfl, rw'.mono tk⟩, tk, h⟩
  stop := by
    rintro σ Q hm h s v H rfl
    obtain ⟨o, g, nt, hc, hd⟩ := H.own _ (List.Mem.head _)
    obtain ⟨vs, L, r⟩ := listOf H (List.Mem.tail _ hm)
    refine wpAny_pyNext_list_end hA ⟨o, g, hc, hd⟩ L (by simp [← r.length]) fun h' hs => ?_
    exact ⟨none, σ, (H.del (s' := { s with heap := h' }) hs rfl rfl).1, rfl, (H.del (s' := { s with heap := h' }) hs rfl rfl).2, h⟩
  self := by
    rintro σ Q h s v H rfl
    obtain ⟨o, g, nt, hc, hd⟩ := H.own _ (List.Mem.head _)
    exact wpAny_pyIter_listiter ⟨o, g, hc, hd⟩ ⟨_, _, H, vr_ref.mpr rfl, TK.refl _, h⟩
end
noncomputable def AO.range (i j : Int) : AO := ⟨fun _ o => ∃ t u v, o = { cls := .type "range", data := .fields #[.int i t, .int j u, .int 1 v] }, fun _ h => h⟩
noncomputable def AO.rit (x : Int) (left : Int) : AO := ⟨fun _ o => o = { cls := .type "range_iterator", data := .fields #[rawInt x, rawInt left, rawInt 1] }, fun _ h => h⟩
noncomputable def upto (i : Int) (n : Nat) : List V := (List.range n).map fun (k : Nat) => V.int (i + (k : Int))
section
variable {C : Cx} {A : Around} {σ : Led} {a b : Addr} {i j : Int}
theorem c_range1 {Q : V → Led → Prop} (h : ∀ a, Q (.ref a) ((a, AO.range 0 j) :: σ)) : Call C A σ (.type "range") [.int j] Q := by
  rintro s fv vs H rfl r
  simp only [VRs] at r
  obtain ⟨_, _, rfl, ⟨t, rfl⟩, rfl⟩ := r
  exact call_range_1 ⟨_, _, H.add (X := AO.range 0 j) (fun b o e => Heap.get?_push_of_some _ e) (Nat.le_refl _) (Heap.get?_push_size _ rfl) (Pl.fields rfl (by intro e; cases e)) ⟨_, _, _, rfl⟩ rfl rfl, vr_ref.mpr rfl, TK.push _, h _⟩
theorem c_range2 {Q : V → Led → Prop} (h : ∀ a, Q (.ref a) ((a, AO.range i j) :: σ)) : Call C A σ (.type "range") [.int i, .int j] Q := by
  rintro s fv vs H rfl r
  simp only [VRs] at r
  obtain ⟨_, _, rfl, ⟨t, rfl⟩, _, _, rfl, ⟨u, rfl⟩, rfl⟩ := r
  exact call_range_2 ⟨_, _, H.add (X := AO.range i j) (fun b o e => Heap.get?_push_of_some _ e) (Nat.le_refl _) (Heap.get?_push_size _ rfl) (Pl.fields rfl (by intro e; cases e)) ⟨_, _, _, rfl⟩ rfl rfl, vr_ref.mpr rfl, TK.push _, h _⟩
theorem it_range {Q : V → Led → Prop} (hm : (b, AO.range i j) ∈ σ) (hi : -(2 ^ 62) ≤ i) (hi' : i < 2 ^ 62) (hj : -(2 ^ 62) ≤ j) (hj' : j < 2 ^ 62)
    (h : ∀ a, Q (.ref a) ((a, AO.rit i ((j - i).toNat : Nat)) :: σ)) : It C A σ (.ref b) Q := by
  rintro s v H rfl
  obtain ⟨o, g, nt, t, u, w, rfl⟩ := H.own _ hm
  have e : Builtin.Range.rangeSize i j 1 = ((j - i).toNat : Nat) := by rw [rangeSize_one]; split <;> lia
  refine wpAny_pyIter_range (r := b) (a := i) (b := j) (c := 1) g (small_one hi hi' hj hj') ?_
  rw [e]
  exact ⟨_, _, H.add (X := AO.rit i ((j - i).toNat : Nat)) (fun b o e => Heap.get?_push_of_some _ e) (Nat.le_refl _) (Heap.get?_push_size _ rfl) (Pl.fields rfl (by intro e; cases e)) rfl rfl rfl, vr_ref.mpr rfl, TK.push _, h _⟩
theorem iter_range (hA : A.handled = none) {n : Nat} : Iter C A a (fun k => AO.rit (i + k) ((n : Int) - k)) (upto i n) (fun _ => True) where
  item := by
    rintro k y σ Q e _ h s v H rfl
    obtain ⟨o, g, nt, ho⟩ := H.own _ (List.Mem.head _)
    dsimp only at ho
    subst ho
    have hk : k < n := by
      have := (List.getElem?_eq_some_iff.mp e).1
      simpa [upto] using this
    have ey : y = .int (i + k) := by
      simp [upto, List.getElem?_range, hk] at e
      exact e.symm
    subst ey
    refine wpAny_pyNext_range_item (x := i + k) (left := (n : Int) - k) (step := 1) g (by lia) fun h' hit hs => ?_
    have e2 : i + (k : Int) + 1 = i + ((k + 1 : Nat) : Int) := by lia
    have e3 : (n : Int) - k - 1 = (n : Int) - ((k + 1 : Nat) : Int) := by lia
    rw [e2, e3] at hit
    have U : LU a (AO.rit (i + k) ((n : Int) - k)) (AO.rit (i + ((k + 1 : Nat) : Int)) ((n : Int) - ((k + 1 : Nat) : Int))) ((a, AO.rit (i + k) ((n : Int) - k)) :: σ) ((a, AO.rit (i + ((k + 1 : Nat) : Int)) ((n : Int) - ((k + 1 : Nat) : Int))) :: σ) := .head
    exact ⟨some (.int (i + k)), _, (H.upd (s' := { s with heap := h', toks := s.toks + 1 }) U hs hit (Pl.fields rfl (by intro e; cases e)) rfl rfl rfl).1, ⟨_, rfl, vr_int.mpr ⟨_, rfl⟩⟩, HR.tkUpd H U hs, h⟩
  stop := by
    rintro σ Q _ h s v H rfl
    obtain ⟨o, g, nt, ho⟩ := H.own _ (List.Mem.head _)
    dsimp only at ho
    subst ho
    have en : (upto i n).length = n := by simp [upto]
    refine wpAny_pyNext_range_end hA (x := i + ((upto i n).length : Nat)) (left := (n : Int) - ((upto i n).length : Nat)) (step := 1) g (by rw [en]; lia) fun h' hs => ?_
    exact ⟨none, σ, (H.del (s' := { s with heap := h' }) hs rfl rfl).1, rfl, (H.del (s' := { s with heap := h' }) hs rfl rfl).2, h⟩
  self := by
    rintro σ Q h s v H rfl
    obtain ⟨o, g, nt, ho⟩ := H.own _ (List.Mem.head _)
    dsimp only at ho
    subst ho
    exact wpAny_pyIter_rangeiter (x := i + ((0 : Nat) : Int)) (left := (n : Int) - ((0 : Nat) : Int)) (step := 1) g ⟨_, _, H, vr_ref.mpr rfl, TK.refl _, h⟩
end
noncomputable def AO.bit (b : Array UInt8) (i : Nat) : AO := ⟨fun _ o => ∃ t, o.cls = .type "bytes_iterator" ∧ o.data = .fields #[.bytes b t, .int i 0], fun _ h => h⟩
noncomputable def octets (b : Array UInt8) : List V := b.toList.map fun c => .int (c.toNat : Int)
section
variable {C : Cx} {A : Around} {σ : Led} {a : Addr} {b : Array UInt8}
theorem it_bytes {Q : V → Led → Prop} (h : ∀ a, Q (.ref a) ((a, AO.bit b 0) :: σ)) : It C A σ (.bytes b) Q := by
  rintro s v H ⟨t, rfl⟩
  exact KBw.pyIter_bytes ⟨_, _, H.add (X := AO.bit b 0) (fun b o e => Heap.get?_push_of_some _ e) (Nat.le_refl _) (Heap.get?_push_size _ rfl) (Pl.fields rfl (by intro e; cases e)) ⟨t, rfl, rfl⟩ rfl rfl, vr_ref.mpr rfl, TK.push _, h _⟩
theorem iter_bytes (hA : A.handled = none) : Iter C A a (AO.bit b) (octets b) (fun _ => True) where
  item := by
    rintro i y σ Q e _ h s v H rfl
    obtain ⟨o, g, nt, t, hc, hd⟩ := H.own _ (List.Mem.head _)
    unfold octets at e
    rw [List.getElem?_map] at e
    cases hx : b[i]? with
    | none => simp [Array.getElem?_toList, hx] at e
    | some c =>
      rw [Array.getElem?_toList, hx] at e
      cases e
      refine KBw.next_item (t := t) ⟨o, g, hc, hd⟩ hx ?_
      rintro h' ⟨o', g', c', d'⟩ hs
      have U : LU a (AO.bit b i) (AO.bit b (i + 1)) ((a, AO.bit b i) :: σ) ((a, AO.bit b (i + 1)) :: σ) := .head
      exact ⟨some (.int (c.toNat : Int)), _, (H.upd (s' := { s with heap := h', toks := s.toks + 1 }) U hs g' (Pl.fields d' (by rw [c']; intro e; cases e)) ⟨t, c', d'⟩ rfl rfl).1, ⟨_, rfl, vr_int.mpr ⟨_, rfl⟩⟩, HR.tkUpd H U hs, h⟩
  stop := by
    rintro σ Q _ h s v H rfl
    obtain ⟨o, g, nt, t, hc, hd⟩ := H.own _ (List.Mem.head _)
    have hx : b[(octets b).length]? = none := by simp [octets]
    exact KBw.next_end hA (t := t) ⟨o, g, hc, hd⟩ hx fun h' hs => ⟨none, σ, (H.del (s' := { s with heap := h' }) hs rfl rfl).1, rfl, (H.del (s' := { s with heap := h' }) hs rfl rfl).2, h⟩
  self := by
    rintro σ Q h s v H rfl
    obtain ⟨o, g, nt, t, hc, hd⟩ := H.own _ (List.Mem.head _)
    exact KBw.pyIter_self (t := t) (i := 0) ⟨o, g, hc, hd⟩ ⟨_, _, H, vr_ref.mpr rfl, TK.refl _, h⟩
end
end Mine
end
section
open PySem PySem.W PySem.Calls PyProof.Rows PySem.Spec
set_option Elab.async false
set_option maxRecDepth 100000
set_option linter.unusedVariables false
namespace Mine
noncomputable def cellNames (scope : Scope) : List Str := (scope.names.filter (·.2 == .cell)).map (·.1)
noncomputable def celled (cs : List (Str × Addr)) : Led := cs.map fun p => (p.2, AO.cell none)
noncomputable def RE (_ : Heap) (e e' : Env) : Prop := e' = e
noncomputable def Binds (C : Cx) (A : Around) (env : Env) : Led → List (Str × V) → (Led → Prop) → Prop
  | σ, [], Q => Q σ
  | σ, (x, v) :: r, Q => St C A σ (storeName env x) v (fun _ σ' => Binds C A env σ' r Q)
section
variable {C : Cx} {A : Around} {σ : Led}
theorem layCells : ∀ (names : List (Str × NameKind)) (acc : List (Str × Addr)) (σ : Led) (s : Shared), HR C σ s → ∃ cs, cellsFrom s.heap.objs.size names acc = cs ++ acc ∧ cs.map Prod.fst = ((names.filter (·.2 == .cell)).map (·.1)).reverse ∧
      HR C (celled cs ++ σ) { s with heap := pushCells s.heap names } ∧ TK s.heap (pushCells s.heap names)
  | [], acc, σ, s, H => ⟨[], rfl, rfl, H, TK.refl _⟩
  | (x, k) :: r, acc, σ, s, H => by
    unfold cellsFrom pushCells
    by_cases hk : (k == NameKind.cell) = true
    · rw [if_pos hk, if_pos hk]
      have H' : HR C ((s.heap.objs.size, AO.cell none) :: σ) { s with heap := s.heap.push { cls := .type "cell", data := .cell none } } :=
        H.add (fun b o e => Heap.get?_push_of_some _ e) (Nat.le_refl _) (Heap.get?_push_size _ rfl) (Pl.cell rfl) ⟨none, rfl, rfl⟩ rfl rfl
      obtain ⟨cs, e1, e2, H'', tk⟩ := layCells r ((x, s.heap.objs.size) :: acc) _ _ H'
      refine ⟨cs ++ [(x, s.heap.objs.size)], ?_, ?_, ?_, (TK.push _).trans tk⟩
      · have : (s.heap.push { cls := Value.type "cell", data := Data.cell none }).objs.size = s.heap.objs.size + 1 := Heap.size_push ..
        rw [← this]
        rw [List.append_assoc]
        exact e1
      · rw [List.map_append, e2]
        simp [List.filter_cons, hk]
      · have e3 : celled (cs ++ [(x, s.heap.objs.size)]) ++ σ = celled cs ++ (s.heap.objs.size, AO.cell none) :: σ := by simp [celled]
        rw [e3]
        exact H''
    · rw [if_neg hk, if_neg hk]
      obtain ⟨cs, e1, e2, H'', tk⟩ := layCells r acc _ _ H
      exact ⟨cs, e1, by rw [e2]; simp [List.filter_cons, hk], H'', tk⟩
theorem binds_ {env : Env} (f : Str × Value → PUnit → Sem (ForInStep PUnit)) (hf : ∀ n v u, f (n, v) u = (do storeName env n v; pure (.yield ⟨⟩))) {P : PUnit → Shared → Prop} {E : Value → Shared → Prop} {h₀ : Heap} :
    ∀ (ps : List Str) (bxs : List V) (bvs : List Value) (σ : Led) (s : Shared) (Q : Led → Prop), HR C σ s → TK h₀ s.heap → VRs s.heap bxs bvs → ps.length = bxs.length → Binds C A env σ (ps.zip bxs) Q →
      (∀ σ' s', HR C σ' s' → TK h₀ s'.heap → Q σ' → P ⟨⟩ s') → wpAny (model C.prog C.w) A (forIn (ps.zip bvs) ⟨⟩ f) P E s
  | [], [], _, σ, s, Q, H, tk, r, _, b, k => by rw [List.zip_nil_left, List.forIn_nil]; exact wpAny_pure (k σ s H tk b)
  | p :: ps, x :: bxs, bvs, σ, s, Q, H, tk, r, hl, b, k => by
    simp only [VRs] at r
    obtain ⟨v, rest, rfl, rv, rr⟩ := r
    rw [List.zip_cons_cons, List.forIn_cons, hf]
    have b' : St C A σ (storeName env p) x (fun _ σ' => Binds C A env σ' (ps.zip bxs) Q) := b
    refine wpAny_bind (wpAny_bind ((b' s v H rv).run fun _ s₁ _ σ₁ H₁ _ k₁ q₁ => wpAny_pure ?_))
    exact binds_ f hf ps bxs rest σ₁ s₁ Q H₁ (tk.trans k₁) (rr.mono k₁) (by simpa using hl) q₁ k
  | [], _ :: _, _, _, _, _, _, _, _, hl, _, _ => by simp at hl
  | _ :: _, [], _, _, _, _, _, _, _, hl, _, _ => by simp at hl
theorem binds_mono {env : Env} : ∀ (bs : List (Str × V)) (σ : Led) {Q Q' : Led → Prop}, Binds C A env σ bs Q → (∀ σ, Q σ → Q' σ) → Binds C A env σ bs Q'
  | [], _, _, _, h, k => k _ h
  | (_, _) :: r, _, _, _, h, k => fun s a H ra => (h s a H ra).mono fun _ σ' q => binds_mono r σ' q k
theorem newFunctionEnv_ {scope : Scope} {globals : Addr} {closure : List (Str × Addr)} {qual : Str} {func : Option Addr} {code : Value} {around : Option Env} {builtins : Addr} {ks : List Str} {cn ps : List Str} {bxs : List V} {bvs : List Value}
    {Q : Env → Led → Prop} {s : Shared} (nd : ks.Nodup) (hcn : (cellNames scope).reverse = cn) (hl : ps.length = bxs.length) (H : HR C σ s) (r : VRs s.heap bxs bvs)
    (h : ∀ L cs, cs.map Prod.fst = cn → Binds C A (newEnv scope L globals (cs ++ closure) qual func code around builtins) ((L, AO.fr ks (ks.map fun _ => none)) :: (celled cs ++ σ)) (ps.zip bxs) (fun σ' => Q (newEnv scope L globals (cs ++ closure) qual func code around builtins) σ')) :
    WP C RE A s (newFunctionEnv scope globals closure (ps.zip bvs) qual func code around builtins) Q := by
  unfold WP newFunctionEnv
  refine wpAny_bind (wpAny_alloc ?_)
  generalize ho : ({ cls := .type (if around.isSome = true then "dict" else "frame"), data := .dict #[] } : Obj) = oL
  have hd : oL.data = .dict #[] 0 := by rw [← ho]
  have hfr : oL.isFreed = false := by rw [← ho]; rfl
  have H₁ : HR C ((s.heap.objs.size, AO.fr ks (ks.map fun _ => none)) :: σ) { s with heap := s.heap.push oL } :=
    H.add (fun b o e => Heap.get?_push_of_some _ e) (Nat.le_refl _) (Heap.get?_push_size _ hfr) (Pl.dict hd)
      ⟨nd, #[], 0, hd, fun e he => by simp at he, fun p hp x e => by
        have := List.of_mem_zip hp
        obtain ⟨_, _, e'⟩ := List.mem_map.mp this.2
        rw [← e'] at e; cases e⟩ rfl rfl
  obtain ⟨cs, e1, e2, H₂, tk₂⟩ := layCells scope.names closure _ _ H₁
  refine wpAny_bind (wpAny_layCells _ (fun name kind cells => rfl) _ _ _ _ ?_)
  rw [e1]
  have es : (s.heap.push oL).objs.size = s.heap.objs.size + 1 := Heap.size_push ..
  have hL := h s.heap.objs.size cs (by rw [e2]; exact hcn)
  have H₃ : HR C ((s.heap.objs.size, AO.fr ks (ks.map fun _ => none)) :: (celled cs ++ σ)) { s with heap := pushCells (s.heap.push oL) scope.names } := H₂.perm List.perm_middle.symm
  have tk : TK s.heap (pushCells (s.heap.push oL) scope.names) := (TK.push _).trans tk₂
  cases around with
  | none => exact wpAny_bind (binds_ _ (fun _ _ _ => rfl) ps bxs bvs _ _ _ H₃ tk (r.mono tk) hl hL fun σ' s' H' tk' q => wpAny_pure ⟨_, σ', H', rfl, tk', q⟩)
  | some o => exact wpAny_bind (binds_ _ (fun _ _ _ => rfl) ps bxs bvs _ _ _ H₃ tk (r.mono tk) hl hL fun σ' s' H' tk' q => wpAny_pure ⟨_, σ', H', rfl, tk', q⟩)
end
section
variable {C : Cx} {K : Frag} {A : Around} {σ : Led} {Q : V → Led → Prop}
variable {name qual : Str} {params : Arguments} {body : List Stmt} {scope : Scope} {cl : List (Str × Addr)} {dV kV doc pm cdv ct oc : Value} {an od : Option Addr} {osl : Array (Option Value)} {f : Addr} {xs : List V} {n : Nat}
theorem call_fnC {fd : FuncData} {cn ks ps : List Str} {bxs : List V} (hfd : fd = fnX name qual params body scope cl dV kV doc pm an cdv ct)
    (ho : ∀ s, HR C σ s → ∃ o, s.heap.get? f = some o ∧ o.data = .func fd ∧ s.heap.CodeRec cdv qual) (hfit : Fit (n + 1) A) (nd : ks.Nodup) (hcn : (cellNames scope).reverse = cn) (hl : ps.length = bxs.length)
    (hbind : ∀ s as, C.K.In s.heap → VRs s.heap xs as → ∃ bvs, BindsTo s fd ⟨as, []⟩ (ps.zip bvs) ∧ VRs s.heap bxs bvs)
    (h : ∀ A₁ L cs, cs.map Prod.fst = cn → Binds C A₁ (envX qual scope L f cdv (cs ++ cl)) ((L, AO.fr ks (ks.map fun _ => none)) :: (celled cs ++ σ)) (ps.zip bxs)
      (fun σ' => ∀ A', Fit n A' → Xs C A' (envX qual scope L f cdv (cs ++ cl)) σ' body (fun σ' => Drop Q .none σ') (fun v σ' => Drop Q v σ') (fun _ => False) (fun _ => False)))
    (hco : scope.isCoroutine = false := by rfl) (hgen : scope.isGenerator = false := by rfl) : CallC C A σ (.ref f) xs Q := by
  rintro s fv as H rfl ra
  subst hfd
  obtain ⟨o, g, hd, hcr⟩ := ho s H
  obtain ⟨bvs, hb, rb⟩ := hbind s as H.bg.kin ra
  refine codeAny_call_function hfit.room g hd hco hgen rfl hcr (hb _ _ _ _ ?_)
  refine (newFunctionEnv_ (C := C) (A := A.in1) (ks := ks) (Q := fun env σ' => ∃ L cs, env = envX qual scope L f cdv (cs ++ cl) ∧ ∀ A', Fit n A' → Xs C A' env σ' body (fun σ' => Drop Q .none σ') (fun v σ' => Drop Q v σ') (fun _ => False) (fun _ => False)) nd hcn hl H rb ?_).run ?_
  · intro L cs hcs
    exact binds_mono _ _ (h A.in1 L cs hcs) fun σ' q => ⟨L, cs, rfl, q⟩
  · rintro env s₁ env' σ₁ H₁ rfl k₁ ⟨L, cs, rfl, q⟩
    refine ⟨H₁.bg.nl, codeAny_func ?_⟩
    refine ((q (A.deeper _) hfit.deeper) s₁ H₁).run fun fl s₂ b σ₂ H₂ r₂ k₂ q₂ => ?_
    cases b with
    | next => cases r₂; obtain ⟨σ₃, k₃, q⟩ := q₂; exact ⟨.none, σ₃, HR.sb k₃ H₂, vr_none.mpr rfl, k₁.trans k₂, q⟩
    | brk => exact q₂.elim
    | cont => exact q₂.elim
    | ret x => obtain ⟨v, rfl, r⟩ := r₂; obtain ⟨σ₃, k₃, q⟩ := q₂; exact ⟨x, σ₃, HR.sb k₃ H₂, r, k₁.trans k₂, q⟩
theorem call_fn {fd : FuncData} {cn ks ps : List Str} {bxs : List V} (hfd : fd = fnX name qual params body scope cl dV kV doc pm an cdv ct)
    (ho : ∀ s, HR C σ s → ∃ o, s.heap.get? f = some o ∧ o.data = .func fd ∧ s.heap.CodeRec cdv qual) (hfit : Fit (n + 1) A) (nd : ks.Nodup) (hcn : (cellNames scope).reverse = cn) (hl : ps.length = bxs.length)
    (hbind : ∀ s as, C.K.In s.heap → VRs s.heap xs as → ∃ bvs, BindsTo s fd ⟨as, []⟩ (ps.zip bvs) ∧ VRs s.heap bxs bvs)
    (h : ∀ A₁ L cs, cs.map Prod.fst = cn → Binds C A₁ (envX qual scope L f cdv (cs ++ cl)) ((L, AO.fr ks (ks.map fun _ => none)) :: (celled cs ++ σ)) (ps.zip bxs)
      (fun σ' => ∀ A', Fit n A' → Xs C A' (envX qual scope L f cdv (cs ++ cl)) σ' body (fun σ' => Drop Q .none σ') (fun v σ' => Drop Q v σ') (fun _ => False) (fun _ => False)))
    (hco : scope.isCoroutine = false := by rfl) (hgen : scope.isGenerator = false := by rfl) : Call C A σ (.ref f) xs Q := (call_fnC hfd ho hfit nd hcn hl hbind h hco hgen).call
end
end Mine
end
section
open PySem PySem.W PySem.Calls PyProof.Rows PySem.Spec
set_option Elab.async false
set_option maxRecDepth 100000
set_option linter.unusedVariables false
namespace Mine
theorem mapSeq_dict (o : Obj) (f) : (o.mapSeq f).dict = o.dict := by obtain ⟨c, d, dt, sl⟩ := o; cases dt <;> rfl
section
variable {C : Cx} {A : Around} {σ σ' : Led} {b : Addr} {T : Value} {dc : Option Addr} {l l' : List V}
theorem seqOf {s : Shared} (H : HR C σ s) (hm : (b, AO.seq T dc l) ∈ σ) : ∃ o vs n, s.heap.get? b = some o ∧ o.cls = T ∧ o.dict = dc ∧ o.data = .seq vs.toArray n ∧ VRs s.heap l vs := by
  obtain ⟨o, g, _, ⟨c, d'⟩, vs, n, d, r⟩ := H.own _ hm
  exact ⟨o, vs, n, g, c, d', d, r⟩
structure ListTy (C : Cx) (T : Value) : Prop where
  ne : T ≠ .type "tuple"
  nn : T ≠ .none
  inst : ∀ (h : Heap) (a : Addr) (o : Obj), C.K.In h → h.get? a = some o → o.cls = T → Looks (model C.prog C.w) h (isInstance (.ref a) (.type "list")) true
theorem listTy : ListTy C (.type "list") := ⟨by decide, by decide, fun h a o X g c => by
  have T : Looks (model C.prog C.w) h (typeOf (.ref a)) (.type "list") := c ▸ (Looks.ld g).andThen .now
  exact T.andThen (Looks.of_pure (by rw [isSubtype_type]; kernel_rfl))⟩
theorem listTy_cls {K : Frag} {D : Addr} (hC : C.Is K) (hm : mroIn K D (.type "list") = some true) : ListTy C (.ref D) := ⟨(by intro e; cases e), (by intro e; cases e), fun h a o X g c => by
  have T : Looks (model C.prog C.w) h (typeOf (.ref a)) (.ref D) := c ▸ (Looks.ld g).andThen .now
  exact T.andThen (looks_mroIn (hC.isK ▸ X) hm)⟩
theorem call_self {prog : Program} {w : World} {A : Around} {E : Value → Shared → Prop} {s : Shared} {id owner n : String} {b : Builtin} {self : Value} {rest : List Value} {Q : Value → Shared → Prop}
    (hk : builtinKind id = some .method ∨ builtinKind id = some .slot) (hs : splitId id = some (owner, n)) (hp : plainId id = true) (hb : entryFor table id = some b) (ha : argsOk id ⟨self :: rest, []⟩)
    (L : Looks (model prog w) s.heap (isInstance self (.type owner)) true) (h : wpAny (model prog w) A.in1 (b ⟨self :: rest, []⟩) (fun fin s' => ∃ v, fin = .done (.ret v) ∧ Q v s') E s) : wpAny (model prog w) A (call (.builtin id) (self :: rest)) Q E s := by
  refine wpAny_call (codeAny_call_builtin hp hb ?_)
  rcases hk with hk | hk <;>
  · simp only [checkBuiltinCall, hk, hs]
    refine wpAny_bind (L.here ?_)
    simp only [Bool.not_true, Bool.false_eq_true, if_false]
    cases hsig : Manifest.signature? id with
    | none => exact wpAny_pure (wpAny_mono h (fun fin s' h' => by obtain ⟨v, rfl, hv⟩ := h'; exact hv) fun _ _ x => x)
    | some sig =>
      simp only [argsOk, hsig] at ha
      have h2 : Bind.checkArgs id sig ⟨self :: rest, []⟩ = pure () := ha
      show wpAny _ _ (Bind.checkArgs id sig ⟨self :: rest, []⟩) _ _ s
      rw [h2]; exact wpAny_pure (wpAny_mono h (fun fin s' h' => by obtain ⟨v, rfl, hv⟩ := h'; exact hv) fun _ _ x => x)
theorem upd_seq {s : Shared} {f : Array Value → Array Value} {Q : Unit → Shared → Prop} {E : Value → Shared → Prop} {A : Around} (hT : ListTy C T) (H : HR C σ s) (U : LU b (AO.seq T dc l) (AO.seq T dc l') σ σ') (hz : l.length ≤ sizeLine) (hz' : l'.length ≤ sizeLine + 1)
    (hf : ∀ h vs, TK s.heap h → VRs h l vs → ∃ vs', f vs.toArray = vs'.toArray ∧ VRs h l' vs') (h : ∀ s', HR C σ' s' → TK s.heap s'.heap → Q () s') : wpAny (model C.prog C.w) A (updateSeq b f) Q E s := by
  obtain ⟨o, vs, n, g, c, d, dt, r⟩ := seqOf H U.mem
  obtain ⟨vs', e, r'⟩ := hf s.heap vs (TK.refl _) r
  have e2 : vs'.length = l'.length := r'.length
  refine wpAny_updateSeq g dt ?_ (by rw [List.size_toArray, r.length]; exact hz) (by rw [e, List.size_toArray, e2]; exact hz')
  obtain ⟨n', d'⟩ := Obj.data_mapSeq dt f
  rw [e] at d'
  have hs : Heap.SameBut b s.heap (s.heap.update b (Obj.mapSeq f)) := Heap.SameBut.update ..
  have tk := HR.tkUpd H U hs
  have gg : (s.heap.update b (Obj.mapSeq f)).get? b = some (o.mapSeq f) := Heap.get?_update_self _ g (Obj.isFreed_of_seq d')
  have cc : (o.mapSeq f).cls = T := (Obj.cls_mapSeq ..).trans c
  exact h _ (H.upd (s' := { s with heap := s.heap.update b (Obj.mapSeq f) }) U hs gg (Pl.seq (by rw [cc]; exact hT.ne) d') ⟨⟨cc, (mapSeq_dict ..).trans d⟩, vs', n', d', r'.mono tk⟩ rfl rfl).1 tk
end
section
variable {C : Cx} {A : Around} {σ σ' : Led} {D : Addr} {T : Value} {dc : Option Addr} {l : List V} {v : V} {Q : V → Led → Prop}
theorem c_append' (hT : ListTy C T) (U : LU D (AO.seq T dc l) (AO.seq T dc (l ++ [v])) σ σ') (hz : l.length ≤ sizeLine) (h : Q .none σ') : Call C A σ (.bi "list.append") [.ref D, v] Q := by
  rintro s fv vs H rfl r
  simp only [VRs] at r
  obtain ⟨_, _, rfl, rfl, x, _, rfl, rx, rfl⟩ := r
  obtain ⟨o, ws, n, g, c, d, dt, rl⟩ := seqOf H U.mem
  refine call_self (owner := "list") (n := "append") (.inl (by decide +kernel)) (by decide +kernel) (by decide +kernel) PySem.F.entry_list_append (PySem.F.args_list_append_2 _ _) (hT.inst _ _ _ H.bg.kin g c) ?_
  show wpAny _ _ (updateSeq D (·.push x) >>= fun _ => ret .none) _ _ s
  refine wpAny_bind (upd_seq hT H U hz (by simp; lia) (fun h vs tk r => ⟨vs ++ [x], by simp, r.append (VRs.cons (rx.mono tk) VRs.nil)⟩) fun s' H' tk => ?_)
  exact wpAny_pure ⟨.none, rfl, .none, σ', H', rfl, tk, h⟩
theorem c_append (U : LU D (AO.list l) (AO.list (l ++ [v])) σ σ') (hz : l.length ≤ sizeLine) (h : Q .none σ') : Call C A σ (.bi "list.append") [.ref D, v] Q := c_append' listTy U hz h
theorem c_pop0 (hT : ListTy C T) {y : V} (U : LU D (AO.seq T dc (y :: l)) (AO.seq T dc l) σ σ') (hz : (y :: l).length ≤ sizeLine) (h : Q y σ') : Call C A σ (.bi "list.pop") [.ref D, .int 0] Q := by
  rintro s fv vs H rfl r
  simp only [VRs] at r
  obtain ⟨_, _, rfl, rfl, _, _, rfl, ⟨u, rfl⟩, rfl⟩ := r
  obtain ⟨o, ws, n, g, c, d, dt, rl⟩ := seqOf H U.mem
  have e := rl.length
  obtain ⟨w, hw, rw'⟩ := rl.get (i := 0) (x := y) (by simp)
  have hsz : ws.toArray.size = l.length + 1 := by rw [List.size_toArray, e]; simp
  refine call_self (owner := "list") (n := "pop") (.inl (by decide +kernel)) (by decide +kernel) (by decide +kernel) PySem.F.entry_list_pop (PySem.F.args_list_pop_2 _ _) (hT.inst _ _ _ H.bg.kin g c) ?_
  have hne : ¬ ws.toArray.isEmpty = true := by
    intro he; have : ws.toArray.size = 0 := by simpa using he
    lia
  have hy : ws.toArray[0]? = some w := by simpa using hw
  have hk : seqIndex? 0 ws.toArray.size = some 0 := by
    unfold seqIndex?
    simp [hsz]
  have hf : ¬ (!Builtin.List.listFitsIndex 0) = true := by decide
  have fin : ∀ s' : Shared, s'.heap.get? D = some o → s' = s → wpAny (model C.prog C.w) A.in1 (updateSeq D (fun xs => xs.eraseIdxIfInBounds 0)) (fun _ s' => Post C VR s.heap Q w s') No s' := by
    rintro s' _ rfl
    refine upd_seq hT H U hz (by simp at hz ⊢; lia) (fun h vs tk r => ⟨vs.drop 1, ?_, ?_⟩) fun s' H' tk => ⟨y, σ', H', rw'.mono tk, tk, h⟩
    · have e2 := r.length
      simp at e2
      apply Array.toList_inj.mp
      cases vs with
      | nil => simp at e2
      | cons v r => simp [Array.eraseIdxIfInBounds]
    · simpa using r.drop 1
  obtain ⟨oc, od, odt, osl⟩ := o
  dsimp only at dt c d
  subst dt
  obtain ⟨hp, gg, dd, tk, os⟩ := s
  wp_walk using wpAny_loadPart' g
  simp only [hk, hy, Option.bind_some, Option.map_some]
  show wpAny _ _ (updateSeq D (fun xs => xs.eraseIdxIfInBounds 0) >>= fun _ => ret w) _ _ _
  refine wpAny_bind (wpAny_mono (fin _ g rfl) (fun _ s' p => wpAny_pure ⟨w, rfl, p⟩) fun _ _ x => x)
end
noncomputable def Tests (C : Cx) (A : Around) (cenv : Env) (σ : Led) (ifs : List Expr) (Q : Bool → Led → Prop) : Prop :=
  match ifs with
  | [] => Q true σ
  | [c] => Tr C RB A σ (isTrue c cenv (eval c cenv)) Q
  | _ => False
noncomputable def LoopC (C : Cx) (A : Around) (cenv : Env) (elt target : Expr) (ifs : List Expr) (D : Addr) (Qn : Led → Prop) (it : V) (σ : Led) : Prop :=
  ∃ (J : Nat → Led → Prop) (n : Nat), J n σ ∧ ∀ n σ, J n σ → Nx C A σ it (fun o σ₃ => match o with
    | none => Qn σ₃
    | some y => Asg C A cenv σ₃ target y (fun σ₄ => Tests C A cenv σ₄ ifs (fun b σ₅ => if b = true then Tr C VR A σ₅ (eval elt cenv) (fun v σ₆ => Call C A σ₆ (.bi "list.append") [.ref D, v] (fun _ σ₇ => ∃ m, m < n ∧ J m σ₇)) else ∃ m, m < n ∧ J m σ₅)))
noncomputable def CLoop (C : Cx) (A : Around) (cenv : Env) (elt target : Expr) (ifs : List Expr) (D : Addr) (Qn : Led → Prop) (it : V) (σ : Led) : Prop :=
  LoopC C A cenv elt target ifs D Qn it σ ∧ It C A σ it (LoopC C A cenv elt target ifs D Qn)
noncomputable def CompEnd (C : Cx) (A : Around) (ks : List Str) (L D : Addr) (Q : V → Led → Prop) (use : Option (Value → Sem Unit)) (σ : Led) : Prop := match use with
  | none => ∃ vs σ', Sb ((L, AO.fr ks vs) :: σ') σ ∧ Q (.ref D) σ'
  | some u => St C A σ u (.ref D) (fun _ σ'' => ∃ vs σ', Sb ((L, AO.fr ks vs) :: σ') σ'' ∧ Q .none σ')
noncomputable def cenvOf (scope : Scope) (L : Addr) (cs cl : List (Str × Addr)) (env : Env) : Env :=
  { scope := relabel scope env, locals := L, globals := env.globals, cells := cs ++ cl, qual := env.qual, func := none, code := env.code, frame := env.frame, builtins := env.builtins }
section
variable {C : Cx} {A : Around} {σ : Led} {env cenv : Env} {elt target iter : Expr} {ifs : List Expr} {scope : Scope} {pos : Pos} {D : Addr} {Qn : Led → Prop} {it : V}
theorem tests_ {s : Shared} {Q : Bool → Led → Prop} {P : Bool → Shared → Prop} {E : Value → Shared → Prop} (H : HR C σ s) (h : Tests C A cenv σ ifs Q)
    (k : ∀ b s' σ', HR C σ' s' → TK s.heap s'.heap → Q b σ' → P b s') :
    wpAny (model C.prog C.w) A (forIn ifs true fun c r => if r = true then do let ok ← isTrue c cenv (eval c cenv); pure (ForInStep.yield ok) else pure (ForInStep.yield r)) P E s := by
  match ifs, h with
  | [], h => exact wpAny_tests_nil (k _ _ _ H (TK.refl _) h)
  | [c], h =>
    refine wpAny_tests_one ((h s H).run fun b s₁ b' σ₁ H₁ r₁ k₁ q₁ => ?_)
    cases r₁
    exact k _ _ _ H₁ k₁ q₁
theorem loopC_ {s : Shared} {itv : Value} {R : Result → Shared → Prop} (H : HR C σ s) (r : VR s.heap it itv) (h : LoopC C A cenv elt target ifs D Qn it σ)
    (k : ∀ s' σ', HR C σ' s' → TK s.heap s'.heap → Qn σ' → R (.ok .next) s') (ht : ∀ it v, letOwnedTupleGo target it v = pure ()) :
    codeAny (model C.prog C.w) A (.compLoop (.ListComp elt [⟨target, iter, ifs, 0⟩] scope pos) 0 itv (.ref D) cenv) R s := by
  obtain ⟨J, n, j0, turn⟩ := h
  refine codeAny_compLoop_tests (fun n s' => ∃ σ', HR C σ' s' ∧ TK s.heap s'.heap ∧ J n σ') (fun n s' ⟨σ', H', kk, j⟩ => ?_) n ⟨σ, H, TK.refl _, j0⟩ (ht itv)
  refine (turn n σ' j s' itv H' (r.mono kk)).run fun o s₁ b σ₁ H₁ r₁ k₁ q₁ => ?_
  cases b with
  | none => cases r₁; exact k _ _ H₁ (kk.trans k₁) q₁
  | some y =>
    obtain ⟨v, rfl, rv⟩ := r₁
    refine (q₁ s₁ v H₁ rv).run fun _ s₂ _ σ₂ H₂ _ k₂ q₂ => tests_ H₂ q₂ fun b s₃ σ₃ H₃ k₃ q₃ => ?_
    have k3 := kk.trans (k₁.trans (k₂.trans k₃))
    cases b with
    | false => obtain ⟨m, hm, j⟩ := q₃; exact ⟨m, hm, σ₃, H₃, k3, j⟩
    | true =>
      simp only [if_true] at q₃ ⊢
      refine (q₃ s₃ H₃).run fun x s₄ xv σ₄ H₄ r₄ k₄ q₄ => (q₄ s₄ _ [.ref D, x] H₄ rfl (VRs.cons rfl (VRs.cons r₄ VRs.nil))).run fun _ s₅ _ σ₅ H₅ _ k₅ q₅ => ?_
      obtain ⟨m, hm, j⟩ := q₅
      exact ⟨m, hm, σ₅, H₅, k3.trans (k₄.trans k₅), j⟩
theorem comp_ {cl : List (Str × Addr)} {ks : List Str} {cn : List Str} {use : Option (Value → Sem Unit)} {Q : V → Led → Prop} {pos' : Pos} (nd : ks.Nodup) (hcn : (cellNames scope).reverse = cn) (hclos : closureFor scope env = pure cl)
    (hkind : scope.kind = .function) (hnames : ∀ x ∈ scope.names, x.2 = .local → scope.names.lookup x.1 = some .local)
    (h : Tr C VR A σ (eval iter env) (fun x σ₁ => It C A σ₁ x (fun it σ₂ => ∀ D L cs, cs.map Prod.fst = cn → CLoop C A (cenvOf scope L cs cl env) elt target ifs D
      (CompEnd C A ks L D Q use) it ((D, AO.list []) :: (L, AO.fr ks (ks.map fun _ => none)) :: (celled cs ++ σ₂)))))
    (ht : ∀ it v, letOwnedTupleGo target it v = pure ()) (hs : ∀ x, foldedSetIterable iter env x = pure x) :
    Tr C VR A σ (comprehension (.ListComp elt [⟨target, iter, ifs, 0⟩] scope pos) scope env pos' (newList []) false (eval iter env) use) Q := by
  intro s H
  refine wpAny_comprehension_free (g := ⟨target, iter, ifs, 0⟩) (gs := []) rfl hs hclos hkind hnames ?_
  refine (h s H).run fun xv s₁ x σ₁ H₁ r₁ k₁ q₁ => (q₁ s₁ xv H₁ r₁).run fun itv s₂ it σ₂ H₂ r₂ k₂ q₂ => ?_
  have hn : OpL C VR A σ₂ newList [] (fun v σ' => ∃ D, v = .ref D ∧ σ' = (D, AO.list []) :: σ₂) := newList_ (Nat.zero_le _) fun a => ⟨a, rfl, rfl⟩
  refine (hn s₂ [] H₂ VRs.nil).run fun Dv s₃ Dx σ₃ H₃ r₃ k₃ q₃ => ?_
  obtain ⟨D, rfl, rfl⟩ := q₃
  obtain rfl := vr_ref.mp r₃
  have he : WP C RE A s₃ (newFunctionEnv scope env.globals cl (([] : List Str).zip ([] : List Value)) env.qual none .none (some env)) (fun cenv σ₄ => ∃ L cs, cs.map Prod.fst = cn ∧ { cenv with scope := relabel scope env } = cenvOf scope L cs cl env ∧ cenv.locals = L ∧
      σ₄ = (L, AO.fr ks (ks.map fun _ => none)) :: (celled cs ++ (D, AO.list []) :: σ₂)) :=
    newFunctionEnv_ (bxs := []) (bvs := []) nd hcn rfl H₃ VRs.nil fun L cs hcs => ⟨L, cs, hcs, rfl, rfl, rfl⟩
  refine he.run fun cenv s₄ cenv' σ₄ H₄ r₄ k₄ q₄ => ?_
  cases r₄
  obtain ⟨L, cs, hcs, hce, hL, rfl⟩ := q₄
  rw [hce, hL]
  have H₅ : HR C ((D, AO.list []) :: (L, AO.fr ks (ks.map fun _ => none)) :: (celled cs ++ σ₂)) s₄ := by
    refine H₄.perm ((List.Perm.swap ..).trans (List.Perm.cons _ List.perm_middle.symm))
  have kk := k₁.trans (k₂.trans (k₃.trans k₄))
  have goal : ∀ s' σ', HR C σ' s' → TK s₄.heap s'.heap → CompEnd C A ks L D Q use σ' → compPost (model C.prog C.w) A No use (Post C VR s.heap Q) (.ref D) L (.ok .next) s' := by
    intro s' σ' H' k' q
    cases use with
    | none =>
      obtain ⟨vs, σ'', sb, q⟩ := q
      have H'' := HR.sb sb H'
      obtain ⟨o, g, _, F⟩ := H''.own _ (List.Mem.head _)
      obtain ⟨m, N, _⟩ := FrIs.nsOf F g
      refine ⟨m, N, fun h' hs' => ?_⟩
      have D' := HR.del (s' := { s' with heap := h' }) H'' hs'.extBut rfl rfl
      exact ⟨.ref D, σ'', D'.1, vr_ref.mpr rfl, kk.trans (k'.trans D'.2), q⟩
    | some u =>
      refine (q s' _ H' rfl).run fun _ s'' _ σ'' H'' _ k'' q'' => ?_
      obtain ⟨vs, σ₃, sb, q⟩ := q''
      have H₃' := HR.sb sb H''
      obtain ⟨o, g, _, F⟩ := H₃'.own _ (List.Mem.head _)
      obtain ⟨m, N, _⟩ := FrIs.nsOf F g
      refine ⟨m, N, fun h' hs' => ?_⟩
      have D' := HR.del (s' := { s'' with heap := h' }) H₃' hs'.extBut rfl rfl
      exact ⟨.none, σ₃, D'.1, vr_none.mpr rfl, kk.trans (k'.trans (k''.trans D'.2)), q⟩
  have q := q₂ D L cs hcs
  have ritv := r₂.mono (k₃.trans k₄)
  refine codeAny_compStart_list (loopC_ H₅ ritv q.1 goal ht) ?_
  refine (q.2 s₄ itv H₅ ritv).run fun it' s₅ itx σ₅ H₆ r₅ k₅ q₅ => loopC_ H₆ r₅ q₅ (fun s' σ' H' k' q => goal s' σ' H' (k₅.trans k') q) ht
end
section
variable {C : Cx} {A : Around} {σ : Led} {env cenv : Env} {elt target iter : Expr} {ifs : List Expr} {scope : Scope} {pos : Pos} {D : Addr} {Qn : Led → Prop}
theorem cloop_seq {a : Addr} {Xo : Nat → AO} {l : List V} {G : Led → Prop} (I : Iter C A a Xo l G) (J : Nat → List V → Led → Prop) (h0 : J 0 [] σ) (hG : ∀ i acc σ, J i acc σ → G ((D, AO.list acc) :: σ)) (hz : l.length ≤ sizeLine)
    (turn : ∀ i y acc σ, l[i]? = some y → acc.length ≤ i → J i acc σ → Asg C A cenv ((a, Xo (i + 1)) :: (D, AO.list acc) :: σ) target y (fun σ₁ => Tests C A cenv σ₁ ifs (fun b σ₂ => if b = true then
        Tr C VR A σ₂ (eval elt cenv) (fun v σ₃ => ∃ σ', Sb ((D, AO.list acc) :: (a, Xo (i + 1)) :: σ') σ₃ ∧ J (i + 1) (acc ++ [v]) σ')
        else ∃ σ', Sb ((D, AO.list acc) :: (a, Xo (i + 1)) :: σ') σ₂ ∧ J (i + 1) acc σ')))
    (fin : ∀ acc σ, J l.length acc σ → Qn ((D, AO.list acc) :: σ)) : LoopC C A cenv elt target ifs D Qn (.ref a) ((D, AO.list []) :: (a, Xo 0) :: σ) := by
  refine ⟨fun n σ => ∃ i acc σ', n = l.length + 1 - i ∧ i ≤ l.length ∧ acc.length ≤ i ∧ Sb ((D, AO.list acc) :: (a, Xo i) :: σ') σ ∧ J i acc σ', l.length + 1, ⟨0, [], σ, rfl, Nat.zero_le _, Nat.le_refl _, .refl, h0⟩, ?_⟩
  rintro n σ ⟨i, acc, σ', rfl, hi, ha, sb, j⟩
  refine (fun (h : Nx C A ((a, Xo i) :: (D, AO.list acc) :: σ') (.ref a) _) => (fun s v H r => h s v ((HR.sb sb H).perm (List.Perm.swap ..)) r : Nx C A σ (.ref a) _)) ?_
  rcases Nat.lt_or_ge i l.length with hl | hl
  · have e : l[i]? = some l[i] := List.getElem?_eq_getElem hl
    refine I.item i l[i] _ _ e (hG i acc σ' j) ?_
    refine fun s v H r => (turn i l[i] acc σ' e ha j s v H r).mono fun _ σ₁ q => ?_
    have back : ∀ {acc' : List V} {σ₂ : Led}, acc'.length ≤ i + 1 → (∃ σ', Sb ((D, AO.list acc') :: (a, Xo (i + 1)) :: σ') σ₂ ∧ J (i + 1) acc' σ') →
        ∃ m, m < l.length + 1 - i ∧ ∃ i acc σ', m = l.length + 1 - i ∧ i ≤ l.length ∧ acc.length ≤ i ∧ Sb ((D, AO.list acc) :: (a, Xo i) :: σ') σ₂ ∧ J i acc σ' := by
      rintro acc' σ₂ hh ⟨σ', k, j⟩
      exact ⟨l.length + 1 - (i + 1), by lia, i + 1, acc', σ', rfl, hl, hh, k, j⟩
    have stepb : ∀ b σ₂, (if b = true then Tr C VR A σ₂ (eval elt cenv) (fun v σ₃ => ∃ σ', Sb ((D, AO.list acc) :: (a, Xo (i + 1)) :: σ') σ₃ ∧ J (i + 1) (acc ++ [v]) σ')
        else ∃ σ', Sb ((D, AO.list acc) :: (a, Xo (i + 1)) :: σ') σ₂ ∧ J (i + 1) acc σ') → (if b = true then Tr C VR A σ₂ (eval elt cenv) (fun v σ₆ => Call C A σ₆ (.bi "list.append") [.ref D, v] (fun _ σ₇ => ∃ m, m < l.length + 1 - i ∧ ∃ i acc σ', m = l.length + 1 - i ∧ i ≤ l.length ∧ acc.length ≤ i ∧ Sb ((D, AO.list acc) :: (a, Xo i) :: σ') σ₇ ∧ J i acc σ'))
        else ∃ m, m < l.length + 1 - i ∧ ∃ i acc σ', m = l.length + 1 - i ∧ i ≤ l.length ∧ acc.length ≤ i ∧ Sb ((D, AO.list acc) :: (a, Xo i) :: σ') σ₂ ∧ J i acc σ') := by
      intro b σ₂ q
      cases b with
      | false => exact back (by lia) q
      | true =>
        simp only [if_true] at q ⊢
        refine Tr.mono q fun v σ₃ ⟨σ', k, j⟩ => ?_
        intro s fv vs H r rr
        refine c_append (Q := fun _ σ₇ => ∃ m, m < l.length + 1 - i ∧ ∃ i acc σ', m = l.length + 1 - i ∧ i ≤ l.length ∧ acc.length ≤ i ∧ Sb ((D, AO.list acc) :: (a, Xo i) :: σ') σ₇ ∧ J i acc σ') .head (by lia) ?_ s fv vs (HR.sb k H) r rr
        exact back (by simp; lia) ⟨σ', .refl, j⟩
    match ifs, q with
    | [], q => exact stepb true σ₁ q
    | [c], q => exact Tr.mono q fun b σ₂ q => stepb b σ₂ q
  · have e : i = l.length := Nat.le_antisymm hi hl
    subst e
    exact I.stop _ _ (hG _ _ _ j) (fin acc σ' j)
end
end Mine
end
section
open PySem PySem.W PySem.Calls PyProof.Rows PySem.Spec
set_option Elab.async false
set_option maxRecDepth 100000
set_option linter.unusedVariables false
namespace Mine
section
variable {C : Cx} {A : Around} {σ : Led} {env : Env} {pos : Pos} {Q : V → Led → Prop}
noncomputable def Has (C : Cx) (σ : Led) (o : V) : Prop := ∃ T id, typeLookup (.type T) "__getitem__" = pure (some (.builtin id)) ∧ ∀ s ov, HR C σ s → VR s.heap o ov → s.TypeIs ov T
theorem has_str {x : Str} : Has C σ (.str x) := ⟨"str", _, PySem.F.slot_str_getitem.lookup, fun s ov H r => by obtain ⟨t, rfl⟩ := r; exact typeIs_str _ _ _⟩
theorem has_bytes {x} : Has C σ (.bytes x) := ⟨"bytes", _, FB.slot_bytes_getitem.lookup, fun s ov H r => by obtain ⟨t, rfl⟩ := r; exact typeIs_bytes _ _ _⟩
theorem has_list {a : Addr} {l : List V} (hm : (a, AO.list l) ∈ σ) : Has C σ (.ref a) := ⟨"list", _, list_getitem_lookup, fun s ov H r => by cases r; obtain ⟨vs, L, _⟩ := listOf H hm; exact L.typeIs⟩
theorem tupOf {s : Shared} {l : List V} {v : Value} (r : VR s.heap (.tup l) v) : ∃ a vs, v = .ref a ∧ IsTup s.heap a vs.toArray ∧ VRs s.heap l vs := by
  obtain ⟨a, vs, rfl, g, r⟩ := r
  exact ⟨a, vs, rfl, ⟨_, g, rfl, 0, rfl⟩, r⟩
theorem sub_op (slice : Expr) (o i : Value) : ∃ ops, subscripted slice false o i = operate ops (getItem o i) := by
  cases slice with
  | Slice a b s p => cases s <;> exact ⟨_, rfl⟩
  | _ => exact ⟨_, rfl⟩
theorem e_sub {value slice : Expr} (h : Tr C VR A σ (eval value env) (fun o σ₁ => Tr C VR A σ₁ (eval slice env) (fun i σ₂ => Has C σ₂ o ∧ Op2 C VR A σ₂ getItem o i Q))) : Tr C VR A σ (eval (.Subscript value slice pos) env) Q := by
  intro s H
  unfold WP
  rw [eval_Subscript]
  refine wpAny_bind ((h s H).run fun ov s₁ o σ₁ H₁ r₁ k₁ q₁ => wpAny_bind (wpAny_holding ((q₁ s₁ H₁).run fun iv s₂ i σ₂ H₂ r₂ k₂ q₂ => wpAny_bind (wpAny_standAt ?_))))
  obtain ⟨⟨T, id, hl, hT⟩, q⟩ := q₂
  have T1 := hT s₂ ov H₂ (r₁.mono k₂)
  have main := q s₂ ov iv H₂ (r₁.mono k₂) r₂
  have fin : wpAny (model C.prog C.w) A (subscripted slice false ov iv) (fun r s₃ => wpAny (model C.prog C.w) A (letTemporaryGo value ov r >>= fun _ => pure r) (Post C VR s.heap Q) No s₃) No s₂ := by
    have g : ∀ ops, wpAny (model C.prog C.w) A (operate ops (getItem ov iv)) (fun r s₃ => wpAny (model C.prog C.w) A (letTemporaryGo value ov r >>= fun _ => pure r) (Post C VR s.heap Q) No s₃) No s₂ := fun ops =>
      wpAny_operating (main.run fun r s₃ b σ₃ H₃ r₃ k₃ q₃ => wpAny_bind (wpAny_letTemporaryGo (wpAny_pure ⟨b, σ₃, H₃, r₃, k₁.trans (k₂.trans k₃), q₃⟩)))
    obtain ⟨ops, e⟩ := sub_op slice ov iv
    rw [e]
    exact g _
  refine wpAny_bind ?_
  rw [getitemInPython_of_ne T1.not_modules]
  refine wpAny_bind (wpAny_specialOf T1 hl ?_)
  first
    | exact wpAny_pure (wpAny_bind fin)
    | exact wpAny_bind (wpAny_pure (wpAny_bind fin))
    | exact wpAny_bind fin
theorem g_str {x : Str} {i : Int} (h0 : -(x.length : Int) ≤ i) (h1 : i < x.length) (hz : x.length ≤ sizeLine) (h : Q (.str (Txt.item x i)) σ) : Op2 C VR A σ getItem (.str x) (.int i) Q := by
  rintro s a b H ⟨t, rfl⟩ ⟨u, rfl⟩
  refine SB.getItem ?_ (charAt_isSome h0 h1) (done_str (d := s.drawn) H h)
  rw [sizeLine_eq] at hz
  unfold fitsSsize
  simp only [Bool.not_eq_true', Bool.or_eq_false_iff, decide_eq_false_iff_not]
  constructor <;> lia
theorem g_list {a : Addr} {l : List V} {i : Int} {v : V} (hm : (a, AO.list l) ∈ σ) (h0 : 0 ≤ i) (h63 : i < 2 ^ 63) (hv : l[i.toNat]? = some v) (h : Q v σ) : Op2 C VR A σ getItem (.ref a) (.int i) Q := by
  rintro s _ b H rfl ⟨u, rfl⟩
  obtain ⟨vs, L, r⟩ := listOf H hm
  obtain ⟨w, hw, rw'⟩ := r.get hv
  exact wpAny_getItem_list L h0 h63 (by simpa using hw) ⟨v, σ, H, rw', TK.refl _, h⟩
theorem g_list_neg {a : Addr} {l : List V} {i : Int} {v : V} (hm : (a, AO.list l) ∈ σ) (h0 : i < 0) (h1 : -(l.length : Int) ≤ i) (h63 : -(2 ^ 63) ≤ i) (hv : l[(i + l.length).toNat]? = some v) (h : Q v σ) : Op2 C VR A σ getItem (.ref a) (.int i) Q := by
  rintro s _ b H rfl ⟨u, rfl⟩
  obtain ⟨vs, L, r⟩ := listOf H hm
  obtain ⟨w, hw, rw'⟩ := r.get hv
  exact wpAny_getItem_list_neg L h0 (by rw [List.size_toArray, r.length]; exact h1) h63 (by rw [List.size_toArray, r.length]; simpa using hw) ⟨v, σ, H, rw', TK.refl _, h⟩
inductive Part : V → Option Int → Prop
  | none : Part .none none
  | int {i} : Part (.int i) (some i)
noncomputable def SliceIs (lo hi : Option Int) (o : Obj) : Prop := ∃ l u : Option (Int × Tok), o.cls = .type "slice" ∧ o.data = .fields #[partValue l, partValue u, .none] ∧ l.map (·.1) = lo ∧ u.map (·.1) = hi
noncomputable def AO.slice (lo hi : Option Int) : AO := ⟨fun _ o => SliceIs lo hi o, fun _ h => h⟩
theorem Part.val {x : V} {lo : Option Int} {h : Heap} {v : Value} (p : Part x lo) (r : VR h x v) : ∃ l : Option (Int × Tok), v = partValue l ∧ l.map (·.1) = lo := by
  cases p with
  | none => cases r; exact ⟨Option.none, rfl, rfl⟩
  | int => obtain ⟨t, rfl⟩ := r; exact ⟨some (_, t), rfl, rfl⟩
noncomputable def TrP (C : Cx) (A : Around) (σ : Led) (e : Option Expr) (env : Env) (Q : V → Led → Prop) : Prop := Tr C VR A σ (evalPart e env) Q
theorem p_none (h : Q .none σ) : TrP C A σ none env Q := fun s H => wpAny_pure ⟨.none, σ, H, rfl, TK.refl _, h⟩
theorem p_some {e : Expr} (h : Tr C VR A σ (eval e env) Q) : TrP C A σ (some e) env Q := h
theorem e_slice {lo hi : Option Expr} {p : Pos} (h : TrP C A σ lo env (fun x σ₁ => TrP C A σ₁ hi env (fun y σ₂ => ∃ i j, Part x i ∧ Part y j ∧ ∀ a, Q (.ref a) ((a, AO.slice i j) :: σ₂)))) : Tr C VR A σ (eval (.Slice lo hi none p) env) Q := by
  intro s H
  refine wpAny_Slice ((h s H).run fun xv s₁ x σ₁ H₁ r₁ k₁ q₁ => (q₁ s₁ H₁).run fun yv s₂ y σ₂ H₂ r₂ k₂ q₂ => wpAny_pure ?_)
  obtain ⟨i, j, p1, p2, q⟩ := q₂
  obtain ⟨l, rfl, e1⟩ := p1.val (r₁.mono k₂)
  obtain ⟨u, rfl, e2⟩ := p2.val r₂
  exact ⟨.ref s₂.heap.objs.size, _, H₂.add (X := AO.slice i j) (fun b o e => Heap.get?_push_of_some _ e) (Nat.le_refl _) (Heap.get?_push_size _ rfl) (Pl.fields rfl (by intro e; cases e)) ⟨l, u, rfl, rfl, e1, e2⟩ rfl rfl, vr_ref.mpr rfl, k₁.trans (k₂.trans (TK.push _)), q _⟩
theorem sliceOf {s : Shared} {a : Addr} {lo hi : Option Int} (H : HR C ((a, AO.slice lo hi) :: σ) s) : ∃ l u : Option (Int × Tok), s.heap.IsSlice a l u none ∧ s.heap.IsSliceOf a (partValue l) (partValue u) .none ∧ l.map (·.1) = lo ∧ u.map (·.1) = hi := by
  obtain ⟨o, g, _, l, u, c, d, e1, e2⟩ := H.own _ (List.Mem.head _)
  exact ⟨l, u, ⟨o, g, c, d⟩, ⟨o, g, c, d⟩, e1, e2⟩
theorem partIs (l : Option (Int × Tok)) : IsPart (partValue l) (l.map (·.1)) := by
  cases l with
  | none => exact .none
  | some p => exact .int p.1 p.2
theorem g_str_slice {x : Str} {a : Addr} {lo hi : Option Int} (hz : x.length ≤ sizeLine) (h : Q (.str (Txt.slice x lo hi)) σ) : Op2 C VR A ((a, AO.slice lo hi) :: σ) getItem (.str x) (.ref a) Q := by
  rintro s _ _ H ⟨t, rfl⟩ rfl
  obtain ⟨l, u, S, _, e1, e2⟩ := sliceOf H
  subst e1; subst e2
  have H' := H.sub (List.sublist_cons_self ..)
  exact wpAny_getItem_str_slice S rfl (post_val_or_str ⟨Nat.le_trans (Txt.slice_le x _ _) hz, fun t' k => done_str (d := s.drawn) H' h⟩)
noncomputable def cut (l : List V) (lo hi : Option Int) : List V := (l.drop (lo.elim 0 (clipAt l.length))).take (hi.elim l.length (clipAt l.length) - lo.elim 0 (clipAt l.length))
theorem g_list_slice {b : Addr} {l : List V} {a : Addr} {lo hi : Option Int} (hm : (b, AO.list l) ∈ σ) (hz : l.length ≤ sizeLine) (h : ∀ d, Q (.ref d) ((d, AO.list (cut l lo hi)) :: σ)) : Op2 C VR A ((a, AO.slice lo hi) :: σ) getItem (.ref b) (.ref a) Q := by
  rintro s _ _ H rfl rfl
  obtain ⟨p, u, _, S, e1, e2⟩ := sliceOf H
  obtain ⟨vs, L, r⟩ := listOf H (List.Mem.tail _ hm)
  have H' := H.sub (List.sublist_cons_self ..)
  have tk : TK s.heap (s.heap.push { cls := .type "list", data := .seq (slicePick vs.toArray lo hi none) }) := TK.push _
  refine wpAny_getItem_list_slice (lo := lo) (hi := hi) (st := none) L S (e1 ▸ partIs p) (e2 ▸ partIs u) .none (by simp) ?_ (by rw [List.size_toArray, r.length]; exact hz)
  refine ⟨.ref s.heap.objs.size, _, H'.add (X := AO.list (cut l lo hi)) (fun b o e => Heap.get?_push_of_some _ e) (Nat.le_refl _) (Heap.get?_push_size _ rfl)
    (Pl.seq (show Value.type "list" ≠ Value.type "tuple" by decide) rfl) ⟨⟨rfl, rfl⟩, (vs.drop (lo.elim 0 (clipAt l.length))).take (hi.elim l.length (clipAt l.length) - lo.elim 0 (clipAt l.length)), 0, ?_, ((r.drop _).take _).mono tk⟩ rfl rfl, vr_ref.mpr rfl, tk, h _⟩
  show Data.seq _ _ = _
  rw [slicePick_plain]
  simp only [List.size_toArray, r.length]
theorem g_bytes_slice {x : Array UInt8} {a : Addr} {lo hi : Option Int} (hz : x.size ≤ sizeLine) (h : Q (.bytes (KBy.picked x lo hi)) σ) : Op2 C VR A ((a, AO.slice lo hi) :: σ) getItem (.bytes x) (.ref a) Q := by
  rintro s _ _ H ⟨t, rfl⟩ rfl
  obtain ⟨l, u, _, S, e1, e2⟩ := sliceOf H
  have H' := H.sub (List.sublist_cons_self ..)
  exact getItem_meets (typeIs_bytes _ _ _) (by decide) FB.slot_bytes_getitem FB.entry_bytes_getitem (FB.args_bytes_getitem_2 _ _) (KBc.meets_slice2 x t _ (e1 ▸ partIs l) (e2 ▸ partIs u))
    ⟨S, Nat.le_trans (KBc.size_picked_le x lo hi) hz, fun t' k => ⟨_, σ, H'.toks, vr_bytes.mpr ⟨_, rfl⟩, TK.refl _, h⟩⟩
end
section
variable {C : Cx} {A : Around} {σ σ' : Led} {Q : V → Led → Prop} {x y : Str} {i j : Int}
theorem s_list {a : Addr} {l : List V} {v : V} {Qu : Unit → Led → Prop} (U : LU a (AO.list l) (AO.list (l.set i.toNat v)) σ σ') (h0 : 0 ≤ i) (h1 : i < l.length) (h63 : i < 2 ^ 63) (h : Qu () σ') : Op3 C RU A σ setItem (.ref a) (.int i) v Qu := by
  rintro s _ _ c H rfl ⟨u, rfl⟩ rv
  obtain ⟨o, vs, n, ho, hc, hdc, hd, r⟩ := seqOf H U.mem
  have hT : s.TypeIs (.ref a) "list" := ⟨o, ho, hc⟩
  unfold WP setItem
  try with_reducible refine wpAny_holding ?_
  first | refine wpAny_bind (wpAny_pure ?_) | skip
  refine wpAny_bind (wpAny_sequenceKey hT (by decide) ?_)
  refine wpAny_bind (wpAny_callSpecial?_slot (name := Str.ofString "__setitem__") hT slot_list_setitem
    (wpAny_call_entry slot_list_setitem hT entry_list_setitem ?_ (args_list_setitem _ _ _)))
  show wpAny _ _ (Builtin.List.listSubscript? (.int i u) >>= _) _ _ s
  refine wpAny_bind (wpAny_listSubscript_int (fitsIndex_of h0 h63) ?_)
  clear h63
  obtain ⟨j, rfl⟩ := Int.eq_ofNat_of_zero_le h0
  have hl := r.length
  have hj : j < vs.toArray.size := by rw [List.size_toArray]; lia
  have hx' : vs.toArray[j]? = some vs.toArray[j] := Array.getElem?_eq_getElem hj
  show wpAny _ _ ((seqItemAt a j >>= fun r => pure (r.map (j, ·))) >>= _) _ _ s
  refine wpAny_bind (wpAny_bind (wpAny_seqItemAt ho hd (wpAny_pure ?_)))
  rw [hx']
  show wpAny _ _ (setSeqItemAt a j c >>= _) _ _ s
  obtain ⟨n', hd'⟩ := Obj.data_mapSeq hd (·.setIfInBounds j c)
  have hs : Heap.SameBut a s.heap (s.heap.update a (Obj.mapSeq (·.setIfInBounds j c))) := Heap.SameBut.update ..
  have tk := HR.tkUpd H U hs
  have gg : (s.heap.update a (Obj.mapSeq (·.setIfInBounds j c))).get? a = some (o.mapSeq (·.setIfInBounds j c)) := Heap.get?_update_self _ ho (Obj.isFreed_of_seq hd')
  have cc : (o.mapSeq (·.setIfInBounds j c)).cls = .type "list" := (Obj.cls_mapSeq ..).trans hc
  have fin : Post C RU s.heap Qu () { s with heap := s.heap.update a (Obj.mapSeq (·.setIfInBounds j c)) } :=
    ⟨(), σ', (H.upd (s' := { s with heap := s.heap.update a (Obj.mapSeq (·.setIfInBounds j c)) }) U hs gg (Pl.seq (by rw [cc]; decide) hd') ⟨⟨cc, (mapSeq_dict ..).trans hdc⟩, vs.set j c, n', by rw [hd']; simp, (r.mono tk).set (rv.mono tk)⟩ rfl rfl).1, trivial, tk, h⟩
  refine wpAny_bind (wpAny_setSeqItemAt ho hd ?_)
  first
    | exact wpAny_bind (wpAny_pure (wpAny_pure ⟨.none, rfl, wpAny_pure fin⟩))
    | exact wpAny_pure ⟨.none, rfl, wpAny_pure fin⟩
theorem c_len_list {a : Addr} {l : List V} (hm : (a, AO.list l) ∈ σ) (hz : l.length ≤ sizeLine) (h : Q (.int l.length) σ) : Call C A σ (.bi "len") [.ref a] Q := by
  rintro s fv vs H rfl r
  simp only [VRs] at r
  obtain ⟨_, _, rfl, rfl, rfl⟩ := r
  obtain ⟨ws, L, r⟩ := listOf H hm
  rw [sizeLine_eq] at hz
  have e := r.length
  refine call_len_list L (by rw [List.size_toArray]; lia) ?_
  rw [List.size_toArray, e]
  exact done_int (h := s.heap) (d := s.drawn) H h
theorem c_len_str (hz : x.length ≤ sizeLine) (h : Q (.int x.length) σ) : Call C A σ (.bi "len") [.str x] Q := by
  rintro s fv vs H rfl r
  simp only [VRs] at r
  obtain ⟨_, _, rfl, ⟨t, rfl⟩, rfl⟩ := r
  rw [sizeLine_eq] at hz
  exact PySem.P.len_str (by lia) (done_int (h := s.heap) (d := s.drawn) H h)
theorem c_abs (h : Q (.int (i.natAbs : Int)) σ) : Call C A σ (.bi "abs") [.int i] Q := by
  rintro s fv vs H rfl r
  simp only [VRs] at r
  obtain ⟨_, _, rfl, ⟨t, rfl⟩, rfl⟩ := r
  refine call_abs_int fun u tk => ?_
  have e : (if i < 0 then -i else i) = (i.natAbs : Int) := by split <;> lia
  rw [e]
  exact done_int (h := s.heap) (d := s.drawn) H h
theorem bin_bcat {b c : Array UInt8} (hz : b.size + c.size ≤ 16777216) (h : Q (.bytes (b ++ c)) σ) : Bin C A σ .Add (.bytes b) (.bytes c) Q := by
  rintro s a d H ⟨t, rfl⟩ ⟨u, rfl⟩; exact KBy.add_bytes hz fun t' k => ⟨_, σ, H.toks, vr_bytes.mpr ⟨_, rfl⟩, TK.refl _, h⟩
end
end Mine
end
section
open PySem PySem.W PySem.Calls PyProof.Rows PySem.Spec
set_option Elab.async false
set_option maxRecDepth 100000
set_option linter.unusedVariables false
namespace Mine
noncomputable def S (l : List Nat) : Str := ⟨l.toArray⟩
theorem S_cat (a b : List Nat) : S a ++ S b = S (a ++ b) := by apply Str.ext'; rw [Str.cps_append]; simp [S]
@[simp] theorem S_len (a : List Nat) : (S a).length = a.length := by simp [S, Str.length]
@[simp] theorem S_cps (a : List Nat) : (S a).cps.toList = a := by simp [S]
theorem S_inj {a b : List Nat} (h : S a = S b) : a = b := by simpa using congrArg (fun x : Str => x.cps.toList) h
noncomputable def reps (n : Nat) (x : List Nat) : List Nat := (List.replicate n x).flatten
section
variable {C : Cx} {A : Around} {σ σ' : Led} {env : Env} {pos : Pos} {Q : V → Led → Prop} {x y : Str} {i j : Int}
theorem foldl_app (l : List (Array Nat)) (a : Array Nat) : (l.foldl (· ++ ·) a).toList = a.toList ++ (l.map Array.toList).flatten := by
  induction l generalizing a with
  | nil => simp
  | cons h t ih => simp [ih]
theorem bin_smul {a : List Nat} (h1 : i ≤ 1000) (h0 : -1000 ≤ i) (hz : a.length ≤ 1000) (h : Q (.str (S (reps i.toNat a))) σ) : Bin C A σ .Mult (.str (S a)) (.int i) Q := by
  rintro s _ _ H ⟨t, rfl⟩ ⟨u, rfl⟩
  have hm : a.length * i.toNat ≤ 1000 * 1000 := Nat.mul_le_mul hz (by lia)
  refine PySem.P.mul_str (by simp only [Bool.or_eq_false_iff, decide_eq_false_iff_not]; constructor <;> lia) (fun h2 h3 => ?_) (fun h2 h3 => ?_) ?_
  · rw [S_len]
    have : (1000 : Int) ≤ (2 ^ 63 - 1) / i := by
      rw [Int.le_ediv_iff_mul_le (by lia)]; lia
    lia
  · rw [S_len]
    unfold Builtin.Str.tooLong
    simp only [decide_eq_false_iff_not]
    first
      | (rw [sizeLine_eq]; lia)
      | (simp [sizeLine_eq]; lia)
  · have key : ∀ n : Nat, S (reps n a) = ⟨(List.replicate n (S a).cps).foldl (· ++ ·) #[]⟩ := fun n => by
      apply Str.ext'
      apply Array.toList_inj.mp
      show (S (reps n a)).cps.toList = _
      rw [S_cps, foldl_app]
      simp [reps, S]
    split
    · have e : i.toNat = 0 := by lia
      rw [e] at h
      have e2 : S (reps 0 a) = Str.empty := by simp [reps, S, Str.empty]
      rw [e2] at h
      exact ⟨by decide, done_str (d := s.drawn) H h⟩
    · split
      · rename_i h2 h3
        have e : S (reps i.toNat a) = S a := by
          rw [Bool.or_eq_true, beq_iff_eq, beq_iff_eq, S_len] at h3
          rcases h3 with h3 | h3
          · subst h3; simp [reps]
          · have : a = [] := List.eq_nil_of_length_eq_zero h3
            subst this; simp [reps]
        rw [e] at h
        exact ⟨_, σ, H, vr_str.mpr ⟨t, rfl⟩, TK.refl _, h⟩
      · rw [← key]
        refine ⟨?_, done_str (d := s.drawn) H h⟩
        rw [S_len, sizeLine_eq]
        have : (reps i.toNat a).length = i.toNat * a.length := by simp [reps]
        rw [this, Nat.mul_comm]; lia
theorem c_divmod (hb : j ≠ 0) (hs : j.natAbs.log2 < 9000) (h : Q (.tup [.int (i.fdiv j), .int (i.fmod j)]) σ) : Call C A σ (.bi "divmod") [.int i, .int j] Q := by
  rintro s fv vs H rfl r
  simp only [VRs] at r
  obtain ⟨_, _, rfl, ⟨t, rfl⟩, _, _, rfl, ⟨u, rfl⟩, rfl⟩ := r
  refine divmod_int hb ?_ (.inl (PyProof.noPylong_of_log2 hs))
  have H' : HR C σ { s with toks := s.toks + 1 + 1, heap := s.heap.push (tupObj [.int (i.fdiv j) s.toks, .int (i.fmod j) (s.toks + 1)]) } := H.grow (fun b o e => Heap.get?_push_of_some _ e) rfl rfl
  exact ⟨.tup [.int (i.fdiv j), .int (i.fmod j)], σ, H', ⟨_, _, rfl, Heap.get?_push_size _ rfl, VRs.cons ⟨_, rfl⟩ (VRs.cons ⟨_, rfl⟩ VRs.nil)⟩, TK.push _, h⟩
theorem c_int (h : Q (.int i) σ) : Call C A σ (.type "int") [.int i] Q := by
  rintro s fv vs H rfl r
  simp only [VRs] at r
  obtain ⟨_, _, rfl, ⟨t, rfl⟩, rfl⟩ := r
  exact call_int_int ⟨_, σ, H, vr_int.mpr ⟨_, rfl⟩, TK.refl _, h⟩
theorem strs_of {h : Heap} : ∀ {l : List Str} {vs : List Value}, VRs h (l.map .str) vs → ∃ l' : List (Str × Tok), l'.map (·.1) = l ∧ strValues l' = vs
  | [], _, r => by simp only [List.map_nil, VRs] at r; subst r; exact ⟨[], rfl, rfl⟩
  | x :: l, _, r => by
    simp only [List.map_cons, VRs] at r
    obtain ⟨_, _, rfl, ⟨t, rfl⟩, r⟩ := r
    obtain ⟨l', e1, e2⟩ := strs_of r
    exact ⟨(x, t) :: l', by simp [e1], by simp [strValues, ← e2]⟩
theorem join_ok {sep : Str} {l : List Str} {n : Nat} (h1 : (l.map (·.length)).sum + l.length * sep.length ≤ 16777216) : Builtin.Str.tooLong (l.toArray.foldl (· + ·.length + sep.length) 0) = false := by
  rw [StrLaws.joinTotal]
  unfold Builtin.Str.tooLong
  simp only [decide_eq_false_iff_not]
  first
    | (rw [sizeLine_eq]; lia)
    | (simp [sizeLine_eq]; lia)
theorem c_join_list {l : List Str} {a : Addr} (hm : (a, AO.list (l.map .str)) ∈ σ) (hz : (l.map (·.length)).sum + l.length * x.length ≤ 16777216) (h : Q (.str (Txt.join x l)) σ) : Call C A σ (.bi "str.join") [.str x, .ref a] Q := by
  rintro s fv vs H rfl r
  simp only [VRs] at r
  obtain ⟨_, _, rfl, ⟨t, rfl⟩, _, _, rfl, rfl, rfl⟩ := r
  obtain ⟨ws, L, rl⟩ := listOf H hm
  obtain ⟨l', e1, e2⟩ := strs_of rl
  subst e1
  subst e2
  have hz' := join_ok (n := 0) hz
  exact call_meets PySem.F.slot_str_join (typeIs_str _ _ _) PySem.F.entry_str_join (PySem.F.args_str_join_2 _ _) (meets_str_join_list x t a l' hz')
    ⟨L, post_join l' ⟨joinFit_length hz', fun t' k => done_str (d := s.drawn) H h⟩⟩
theorem c_count (h : Q (.int (Builtin.Str.occurrences x y 0 x.length (x.length + 1)).length) σ) : Call C A σ (.bi "str.count") [.str x, .str y] Q := by
  rintro s fv vs H rfl r
  simp only [VRs] at r
  obtain ⟨_, _, rfl, ⟨t, rfl⟩, _, _, rfl, ⟨u, rfl⟩, rfl⟩ := r
  exact call_gives PySem.F.slot_str_count (typeIs_str _ _ _) PySem.F.entry_str_count (PySem.F.args_str_count_2 _ _) (gives_str_count x y t u) (done_int (h := s.heap) (d := s.drawn) H h)
theorem m_join {Qm : V → List V → Led → Prop} (h : Qm (.bi "str.join") [.str x] σ) : Mth C A σ (.str x) "join" Qm := by
  rintro s _ pl H ⟨t, rfl⟩
  exact GM.join ⟨(.bi "str.join", [.str x]), σ, H, ⟨rfl, VRs.cons ⟨t, rfl⟩ VRs.nil⟩, TK.refl _, h⟩
theorem m_count {Qm : V → List V → Led → Prop} (h : Qm (.bi "str.count") [.str x] σ) : Mth C A σ (.str x) "count" Qm := by
  rintro s _ pl H ⟨t, rfl⟩
  exact GM.count ⟨(.bi "str.count", [.str x]), σ, H, ⟨rfl, VRs.cons ⟨t, rfl⟩ VRs.nil⟩, TK.refl _, h⟩
theorem m_append {Qm : V → List V → Led → Prop} {a : Addr} {l : List V} (hm : (a, AO.list l) ∈ σ) (h : Qm (.bi "list.append") [.ref a] σ) : Mth C A σ (.ref a) "append" Qm := by
  rintro s _ pl H rfl
  obtain ⟨o, vs, n, g, c, d, dt, r⟩ := seqOf H hm
  exact getMethod_list_append g c d ⟨(.bi "list.append", [.ref a]), σ, H, ⟨rfl, VRs.cons rfl VRs.nil⟩, TK.refl _, h⟩
theorem m_pop {Qm : V → List V → Led → Prop} {a : Addr} {l : List V} (hm : (a, AO.list l) ∈ σ) (h : Qm (.bi "list.pop") [.ref a] σ) : Mth C A σ (.ref a) "pop" Qm := by
  rintro s _ pl H rfl
  obtain ⟨o, vs, n, g, c, d, dt, r⟩ := seqOf H hm
  exact getMethod_builtin (T := "list") (id := "list.pop") ⟨o, g, c⟩ PySem.F.plainAttrs_list PySem.F.slot_list_pop PySem.F.type_list_pop (fun b e => by cases e; exact ⟨o, g, d⟩) ⟨(.bi "list.pop", [.ref a]), σ, H, ⟨rfl, VRs.cons rfl VRs.nil⟩, TK.refl _, h⟩
noncomputable def Asgs (C : Cx) (A : Around) (env : Env) : Led → List Expr → List V → (Led → Prop) → Prop
  | σ, [], [], Q => Q σ
  | σ, t :: ts, v :: vs, Q => Asg C A env σ t v (fun σ₁ => Asgs C A env σ₁ ts vs Q)
  | _, _, _, _ => False
theorem asgs_ {Q : Led → Prop} {h₀ : Heap} {P : Unit → Shared → Prop} {E : Value → Shared → Prop} : ∀ (ts : List Expr) (vs : List V) (ws : List Value) (σ : Led) (s : Shared), (∀ t ∈ ts, (match t with | .Starred _ _ => false | _ => true) = true) → HR C σ s → TK h₀ s.heap → VRs s.heap vs ws →
    Asgs C A env σ ts vs Q → (∀ s' σ', HR C σ' s' → TK h₀ s'.heap → Q σ' → P () s') → wpAny (model C.prog C.w) A (assignInOrder ((assignEach ts env).map (·.2)) ws) P E s
  | [], [], _, σ, s, _, H, tk, r, q, k => by simp only [VRs] at r; subst r; exact wpAny_pure (k s σ H tk q)
  | t :: ts, v :: vs, _, σ, s, hs, H, tk, r, q, k => by
    simp only [VRs] at r
    obtain ⟨w, ws, rfl, rw', r⟩ := r
    have e : (assignEach (t :: ts) env).map (·.2) = assign t env :: (assignEach ts env).map (·.2) := by
      have := hs t (List.Mem.head _)
      cases t <;> first | rfl | (simp at this)
    rw [e]
    unfold assignInOrder
    refine wpAny_bind (wpAny_holding ((q s w H rw').run fun _ s₁ _ σ₁ H₁ _ k₁ q₁ => ?_))
    exact asgs_ ts vs ws σ₁ s₁ (fun t ht => hs t (.tail _ ht)) H₁ (tk.trans k₁) (r.mono k₁) q₁ k
  | [], _ :: _, _, _, _, _, _, _, _, q, _ => q.elim
  | _ :: _, [], _, _, _, _, _, _, _, q, _ => q.elim
theorem assignEach_len : ∀ ts : List Expr, (assignEach ts env).length = ts.length
  | [] => rfl
  | t :: ts => by cases t <;> exact congrArg Nat.succ (assignEach_len ts)
theorem asg_tup {ts : List Expr} {n : Nat} {vs : List V} {Q : Led → Prop} (hA : A.handled = none) (h : Asgs C A env σ ts vs Q) (hs : ∀ t ∈ ts, (match t with | .Starred _ _ => false | _ => true) = true) (hl : ts.length = vs.length) (hst : (assignEach ts env).findIdx? (·.1) = none) :
    Asg C A env σ (.Tuple ts n pos) (.tup vs) Q := by
  intro s v H r
  obtain ⟨a, ws, rfl, T, r⟩ := tupOf r
  refine wpAny_assign_Tuple hA (show s.heap.IsTuple a ws.toArray from T) (by rw [assignEach_len, List.size_toArray, r.length, hl]) hst fun h' hx => ?_
  have grow : ∀ b o, s.heap.get? b = some o → h'.get? b = some o := fun b o e => hx b o (Nat.ne_of_lt (Heap.lt_size e)) e
  have H' : HR C σ { s with heap := h' } := H.grow grow rfl rfl
  have tk : TK s.heap h' := fun b o e _ => grow b o e
  exact asgs_ ts vs ws σ _ hs H' tk (r.mono tk) h fun s' σ' H'' tk' q => ⟨(), σ', H'', trivial, tk', q⟩
theorem x_asg {e : Expr} {Qn : Led → Prop} {Qr : V → Led → Prop} {Qb Qc : Led → Prop} {ts : List Expr} {n : Nat} {p' : Pos} (h : Tr C VR A σ (eval e env) (fun v σ₁ => Asg C A env σ₁ (.Tuple ts n p') v Qn))
    (hs : swapsWithSole [.Tuple ts n p'] e pos.line env = pure false := by rfl) (hw : swappedStores [.Tuple ts n p'] e env = pure none := by rfl) : X C A env σ (.Assign [.Tuple ts n p'] e pos) Qn Qr Qb Qc :=
  fun s H => Assign_Tuple ((h s H).run fun a s₁ v σ₁ H₁ r₁ k₁ q₁ => (q₁ s₁ a H₁ r₁).run fun _ s₂ _ σ₂ H₂ _ k₂ q₂ => post_next H₂ (k₁.trans k₂) q₂) hs hw
end
end Mine
end
section
open PySem PySem.W PySem.Calls PyProof.Rows PySem.Spec
set_option Elab.async false
set_option maxRecDepth 100000
set_option linter.unusedVariables false
namespace Mine
section
variable {C : Cx} {A : Around} {σ σ' : Led} {env cenv : Env} {elt target iter : Expr} {ifs : List Expr} {scope : Scope} {pos : Pos} {D : Addr} {Qn : Led → Prop} {it : V}
theorem tests_mono {Q Q' : Bool → Led → Prop} (h : Tests C A cenv σ ifs Q) (k : ∀ b σ, Q b σ → Q' b σ) : Tests C A cenv σ ifs Q' := by
  match ifs, h with
  | [], h => exact k _ _ h
  | [c], h => exact Tr.mono h k
theorem loopC_sb {σ σ₀ : Led} (k : Sb σ₀ σ) (h : LoopC C A cenv elt target ifs D Qn it σ₀) : LoopC C A cenv elt target ifs D Qn it σ := by
  obtain ⟨J, n, j, turn⟩ := h
  refine ⟨fun n σ => ∃ σ₀, Sb σ₀ σ ∧ J n σ₀, n, ⟨σ₀, k, j⟩, fun n σ ⟨σ₁, k, j⟩ => nx_sb k fun s v H r => (turn n σ₁ j s v H r).mono fun o σ₃ q => ?_⟩
  cases o with
  | none => exact q
  | some y =>
    refine fun s a H r => (q s a H r).mono fun _ σ₄ q => tests_mono q fun b σ₅ q => ?_
    cases b with
    | false => obtain ⟨m, hm, j⟩ := q; exact ⟨m, hm, _, .refl, j⟩
    | true => exact Tr.mono q fun v σ₆ q => fun s fv vs H r rr => (q s fv vs H r rr).mono fun _ σ₇ ⟨m, hm, j⟩ => ⟨m, hm, _, .refl, j⟩
theorem cloop_iter {a : Addr} {Xo : Nat → AO} {l : List V} {G : Led → Prop} (sb : Sb ((D, AO.list []) :: (a, Xo 0) :: σ') σ) (I : Iter C A a Xo l G) (J : Nat → List V → Led → Prop) (h0 : J 0 [] σ') (hG : ∀ i acc σ, J i acc σ → G ((D, AO.list acc) :: σ)) (hz : l.length ≤ sizeLine)
    (turn : ∀ i y acc σ, l[i]? = some y → acc.length ≤ i → J i acc σ → Asg C A cenv ((a, Xo (i + 1)) :: (D, AO.list acc) :: σ) target y (fun σ₁ => Tests C A cenv σ₁ ifs (fun b σ₂ => if b = true then
        Tr C VR A σ₂ (eval elt cenv) (fun v σ₃ => ∃ σ', Sb ((D, AO.list acc) :: (a, Xo (i + 1)) :: σ') σ₃ ∧ J (i + 1) (acc ++ [v]) σ')
        else ∃ σ', Sb ((D, AO.list acc) :: (a, Xo (i + 1)) :: σ') σ₂ ∧ J (i + 1) acc σ')))
    (fin : ∀ acc σ, J l.length acc σ → Qn ((D, AO.list acc) :: σ)) : CLoop C A cenv elt target ifs D Qn (.ref a) σ := by
  have main := cloop_seq (D := D) I J h0 hG hz turn fin
  refine ⟨loopC_sb sb main, fun s v H r => ?_⟩
  have := I.self ((D, AO.list []) :: σ') (fun it σ'' => LoopC C A cenv elt target ifs D Qn it σ'') ?_
  · exact this s v ((HR.sb sb H).perm (List.Perm.swap ..)) r
  · exact loopC_sb (.take (.tail .head) (.take .head .refl)) main
theorem e_lc {cl : List (Str × Addr)} {ks cn : List Str} {Q : V → Led → Prop} (nd : ks.Nodup) (hcn : (cellNames scope).reverse = cn) (hclos : closureFor scope env = pure cl)
    (hkind : scope.kind = .function) (hnames : ∀ x ∈ scope.names, x.2 = .local → scope.names.lookup x.1 = some .local)
    (h : Tr C VR A σ (eval iter env) (fun x σ₁ => It C A σ₁ x (fun it σ₂ => ∀ D L cs, cs.map Prod.fst = cn → CLoop C A (cenvOf scope L cs cl env) elt target ifs D
      (fun σ' => ∃ vs σ'', Sb ((L, AO.fr ks vs) :: σ'') σ' ∧ Q (.ref D) σ'') it ((D, AO.list []) :: (L, AO.fr ks (ks.map fun _ => none)) :: (celled cs ++ σ₂)))))
    (ht : ∀ it v, letOwnedTupleGo target it v = pure ()) (hs : ∀ x, foldedSetIterable iter env x = pure x) :
    Tr C VR A σ (eval (.ListComp elt [⟨target, iter, ifs, 0⟩] scope pos) env) Q :=
  comp_ (use := none) nd hcn hclos hkind hnames h ht hs
theorem x_lc {cl : List (Str × Addr)} {ks cn : List Str} {y : Str} {py spos : Pos} {Qr : V → Led → Prop} {Qb Qc : Led → Prop} (nd : ks.Nodup) (hcn : (cellNames scope).reverse = cn) (hclos : closureFor scope env = pure cl)
    (hkind : scope.kind = .function) (hnames : ∀ x ∈ scope.names, x.2 = .local → scope.names.lookup x.1 = some .local)
    (h : Tr C VR A σ (eval iter env) (fun x σ₁ => It C A σ₁ x (fun it σ₂ => ∀ D L cs, cs.map Prod.fst = cn → CLoop C A (cenvOf scope L cs cl env) elt target ifs D
      (fun σ' => St C A σ' (storeName env y) (.ref D) (fun _ σ'' => ∃ vs σ₃, Sb ((L, AO.fr ks vs) :: σ₃) σ'' ∧ Qn σ₃)) it ((D, AO.list []) :: (L, AO.fr ks (ks.map fun _ => none)) :: (celled cs ++ σ₂)))))
    (ht : ∀ it v, letOwnedTupleGo target it v = pure ()) (hs : ∀ x, foldedSetIterable iter env x = pure x)
    (hsw : swapsWith (.ListComp elt [⟨target, iter, ifs, 0⟩] scope pos) (some (.Name y py)) spos.line env = pure true) :
    X C A env σ (.Assign [.Name y py] (.ListComp elt [⟨target, iter, ifs, 0⟩] scope pos) spos) Qn Qr Qb Qc := by
  intro s H
  unfold WP
  rw [exec_Assign_Name_used _ _ _ _ hsw]
  refine wpAny_bind (wpAny_standAt (wpAny_bind ?_))
  show wpAny _ A (do let _ ← comprehension (.ListComp elt [⟨target, iter, ifs, 0⟩] scope pos) scope env _ (newList []) false (eval iter env) (some (assign (.Name y py) env))) _ _ s
  refine wpAny_bind ((comp_ (use := some (assign (.Name y py) env)) (Q := fun _ σ' => Qn σ') nd hcn hclos hkind hnames ?_ ht hs s H).run fun v s₁ b σ₁ H₁ r₁ k₁ q₁ => wpAny_pure (wpAny_pure (post_next H₁ k₁ q₁)))
  refine Tr.mono h fun x σ₁ q => fun s a H r => (q s a H r).mono fun it σ₂ q => fun D L cs hcs => ?_
  have q := q D L cs hcs
  have lift : ∀ σ', St C A σ' (storeName env y) (.ref D) (fun _ σ'' => ∃ vs σ₃, Sb ((L, AO.fr ks vs) :: σ₃) σ'' ∧ Qn σ₃) → CompEnd C A ks L D (fun _ σ' => Qn σ') (some (assign (.Name y py) env)) σ' := fun σ' q => fun s a H r => wpAny_assign_Name (q s a H r)
  have up : ∀ {it σ}, LoopC C A (cenvOf scope L cs cl env) elt target ifs D (fun σ' => St C A σ' (storeName env y) (.ref D) (fun _ σ'' => ∃ vs σ₃, Sb ((L, AO.fr ks vs) :: σ₃) σ'' ∧ Qn σ₃)) it σ →
      LoopC C A (cenvOf scope L cs cl env) elt target ifs D (CompEnd C A ks L D (fun _ σ' => Qn σ') (some (assign (.Name y py) env))) it σ := by
    rintro it σ ⟨J, n, j, turn⟩
    refine ⟨J, n, j, fun n σ j s v H r => (turn n σ j s v H r).mono fun o σ₃ q => ?_⟩
    cases o with
    | none => exact lift _ q
    | some y => exact q
  exact ⟨up q.1, fun s v H r => (q.2 s v H r).mono fun it σ q => up q⟩
end
end Mine
end
section
open PySem PySem.W PySem.Calls PyProof.Rows PySem.Spec
set_option Elab.async false
set_option maxRecDepth 100000
set_option linter.unusedVariables false
namespace Mine
section
variable {C : Cx} {A : Around} {σ σ' : Led} {Q : V → Led → Prop} {a : Addr} {l : List V} {i : Int} {v : V}
noncomputable def HasL (C : Cx) (σ : Led) (b : Addr) (l : List V) : Prop := ∀ s, HR C σ s → ∃ vs, s.heap.IsList b vs.toArray ∧ VRs s.heap l vs
noncomputable def OldL (C : Cx) (a : Addr) (ns : List Int) : Prop := ∃ o vs n, C.h₀.get? a = some o ∧ o.cls = .type "list" ∧ o.data = .seq vs.toArray n ∧ ∀ h, VRs h (ns.map V.int) vs
theorem OldL.has {ns : List Int} (h : OldL C a ns) : HasL C σ a (ns.map V.int) := fun s H => by
  obtain ⟨o, vs, n, g, c, d, r⟩ := h
  exact ⟨vs, ⟨o, H.bg.old.get_of_cls g (by rw [c]; decide), c, n, d⟩, r _⟩
theorem has_listH (hm : HasL C σ a l) : Has C σ (.ref a) := ⟨"list", _, list_getitem_lookup, fun s ov H r => by cases r; obtain ⟨vs, L, _⟩ := hm s H; exact L.typeIs⟩
theorem g_listH (hm : HasL C σ a l) (h0 : 0 ≤ i) (h63 : i < 2 ^ 63) (hv : l[i.toNat]? = some v) (h : Q v σ) : Op2 C VR A σ getItem (.ref a) (.int i) Q := by
  rintro s _ b H rfl ⟨u, rfl⟩
  obtain ⟨vs, L, r⟩ := hm s H
  obtain ⟨w, hw, rw'⟩ := r.get hv
  exact wpAny_getItem_list L h0 h63 (by simpa using hw) ⟨v, σ, H, rw', TK.refl _, h⟩
theorem c_len_listH (hm : HasL C σ a l) (hz : l.length ≤ sizeLine) (h : Q (.int l.length) σ) : Call C A σ (.bi "len") [.ref a] Q := by
  rintro s fv vs H rfl r
  simp only [VRs] at r
  obtain ⟨_, _, rfl, rfl, rfl⟩ := r
  obtain ⟨ws, L, r⟩ := hm s H
  rw [sizeLine_eq] at hz
  have e := r.length
  refine call_len_list L (by rw [List.size_toArray]; lia) ?_
  rw [List.size_toArray, e]
  exact done_int (h := s.heap) (d := s.drawn) H h
theorem bin_pow {j : Int} (hn : 0 ≤ j) (hs : Builtin.Int.intBits i * j ≤ 2 ^ 27) (h : Q (.int (i ^ j.toNat)) σ) : Bin C A σ .Pow (.int i) (.int j) Q := by
  rintro s a b H ⟨t, rfl⟩ ⟨u, rfl⟩; exact PyProof.Rows.pow_int hn hs (done_int (h := s.heap) (d := s.drawn) H h)
end
section
variable {C : Cx} {A : Around} {σ σ' : Led} {env : Env} {Qn : Led → Prop} {Qr : V → Led → Prop}
theorem loop_sb {target : Expr} {body : List Stmt} {it : V} {σ₀ : Led} (k : Sb σ₀ σ) (h : Loop C A env it target body σ₀ Qn Qr) : Loop C A env it target body σ Qn Qr := by
  obtain ⟨J, n, j, turn⟩ := h
  refine ⟨fun n σ => ∃ σ₀, Sb σ₀ σ ∧ J n σ₀, n, ⟨σ₀, k, j⟩, fun n σ ⟨σ₁, k, j⟩ => nx_sb k fun s v H r => (turn n σ₁ j s v H r).mono fun o σ₃ q => ?_⟩
  cases o with
  | none => exact q
  | some y =>
    refine fun s a H r => (q s a H r).mono fun _ σ₄ q => Tr.mono q fun f σ₅ q => ?_
    cases f with
    | next => obtain ⟨m, hm, j⟩ := q; exact ⟨m, hm, _, .refl, j⟩
    | cont => obtain ⟨m, hm, j⟩ := q; exact ⟨m, hm, _, .refl, j⟩
    | brk => exact q
    | ret x => exact q
theorem loop_it {target : Expr} {body : List Stmt} {a : Addr} {Xo : Nat → AO} {l : List V} {G : Led → Prop} (sb : Sb ((a, Xo 0) :: σ') σ) (I : Iter C A a Xo l G) (J : Nat → Led → Prop) (h0 : J 0 σ') (hG : ∀ i σ, J i σ → G σ)
    (turn : ∀ i y σ, l[i]? = some y → J i σ → Asg C A env ((a, Xo (i + 1)) :: σ) target y (fun σ₁ => Xs C A env σ₁ body (fun σ₂ => ∃ σ', Sb ((a, Xo (i + 1)) :: σ') σ₂ ∧ J (i + 1) σ') Qr (fun σ₂ => ∃ σ', Sb σ' σ₂ ∧ Qn σ') (fun σ₂ => ∃ σ', Sb ((a, Xo (i + 1)) :: σ') σ₂ ∧ J (i + 1) σ')))
    (fin : ∀ σ, J l.length σ → Qn σ) : Loop C A env (.ref a) target body σ Qn Qr := loop_sb sb (loop_seq I J h0 hG turn fin)
theorem upto_get {i : Int} {n k : Nat} {y : V} (h : (upto i n)[k]? = some y) : k < n ∧ y = .int (i + k) := by
  have hk : k < n := by simpa [upto] using (List.getElem?_eq_some_iff.mp h).1
  refine ⟨hk, ?_⟩
  simp [upto, List.getElem?_range, hk] at h
  exact h.symm
theorem upto_len {i : Int} {n : Nat} : (upto i n).length = n := by simp [upto]
theorem loop_range {target : Expr} {body : List Stmt} {a : Addr} {i e : Int} {n : Nat} (sb : Sb ((a, AO.rit i e) :: σ') σ) (he : e = n) (hA : A.handled = none) (J : Nat → Led → Prop) (h0 : J 0 σ')
    (turn : ∀ k σ, k < n → J k σ → Asg C A env ((a, AO.rit (i + ((k + 1 : Nat) : Int)) ((n : Int) - ((k + 1 : Nat) : Int))) :: σ) target (.int (i + k)) (fun σ₁ => Xs C A env σ₁ body (fun σ₂ => ∃ σ', Sb ((a, AO.rit (i + ((k + 1 : Nat) : Int)) ((n : Int) - ((k + 1 : Nat) : Int))) :: σ') σ₂ ∧ J (k + 1) σ') Qr (fun σ₂ => ∃ σ', Sb σ' σ₂ ∧ Qn σ') (fun σ₂ => ∃ σ', Sb ((a, AO.rit (i + ((k + 1 : Nat) : Int)) ((n : Int) - ((k + 1 : Nat) : Int))) :: σ') σ₂ ∧ J (k + 1) σ')))
    (fin : ∀ σ, J n σ → Qn σ) : Loop C A env (.ref a) target body σ Qn Qr := by
  subst he
  refine loop_it (Xo := fun k => AO.rit (i + k) ((n : Int) - k)) (σ' := σ') ?_ (iter_range hA (i := i) (n := n)) J h0 (fun _ _ _ => trivial) (fun k y σ hy j => ?_) (by rw [upto_len]; exact fin)
  · have e1 : i + ((0 : Nat) : Int) = i := by lia
    have e2 : (n : Int) - ((0 : Nat) : Int) = n := by lia
    show Sb ((a, AO.rit (i + ((0 : Nat) : Int)) ((n : Int) - ((0 : Nat) : Int))) :: σ') σ
    rw [e1, e2]; exact sb
  · obtain ⟨hk, rfl⟩ := upto_get hy
    exact turn k σ hk j
end
end Mine
end
section
open PySem PySem.W PySem.Calls PyProof.Rows PySem.Spec Builtin Builtin.ObjectAttr
set_option Elab.async false
set_option maxRecDepth 100000
set_option linter.unusedVariables false
namespace Mine
noncomputable def ER (h : Heap) : List Str → List (Option V) → List DictEntry → Prop
  | [], [], es => es = []
  | k :: ks, v :: vs, es => ∃ e r, es = e :: r ∧ (∃ t, e.key = .str k t) ∧ (∀ x, v = some x → VR h x e.val) ∧ ER h ks vs r
  | _, _, _ => False
theorem ER.mono {h h' : Heap} (k : TK h h') : ∀ {ks : List Str} {vs : List (Option V)} {es : List DictEntry}, ER h ks vs es → ER h' ks vs es
  | [], [], _, H => H
  | _ :: _, _ :: _, _, ⟨e, r, a, b, c, d⟩ => ⟨e, r, a, b, fun x q => (c x q).mono k, ER.mono k d⟩
  | [], _ :: _, _, H => H.elim
  | _ :: _, [], _, H => H.elim
theorem ER.len {h : Heap} : ∀ {ks : List Str} {vs : List (Option V)} {es : List DictEntry}, ER h ks vs es → es.length = ks.length
  | [], [], _, H => by have : _ = [] := H; subst this; rfl
  | _ :: _, _ :: _, _, ⟨e, r, a, b, c, d⟩ => by subst a; simp [ER.len d]
  | [], _ :: _, _, H => H.elim
  | _ :: _, [], _, H => H.elim
theorem isStr_str {k n : Str} {t : Tok} : (Value.str k t).isStr n = (k == n) := rfl
theorem ER.noRef {h : Heap} : ∀ {ks : List Str} {vs : List (Option V)} {es : List DictEntry}, ER h ks vs es → es.any (·.refKey) = false
  | [], [], _, H => by have : _ = [] := H; subst this; rfl
  | _ :: _, _ :: _, _, ⟨e, r, a, ⟨t, b⟩, c, d⟩ => by
    subst a
    rw [List.any_cons, ER.noRef d, Bool.or_false]
    obtain ⟨hs, ky, vl⟩ := e
    dsimp only at b
    subst b
    rfl
  | [], _ :: _, _, H => H.elim
  | _ :: _, [], _, H => H.elim
theorem At.key {x : Str} {v : V} {ks : List Str} {vs : List (Option V)} (h : At x v ks vs) : x ∈ ks := by
  induction h with
  | head => exact .head _
  | tail _ ih => exact .tail _ ih
theorem ER.get {h : Heap} {x : Str} {v : V} {ks : List Str} {vs : List (Option V)} {es : List DictEntry} (nd : ks.Nodup) (H : ER h ks vs es) (p : At x v ks vs) : ∃ w, getL x es = some (some w) ∧ VR h v w := by
  induction p generalizing es with
  | head =>
    obtain ⟨e, r, a, ⟨t, b⟩, c, d⟩ := H
    subst a
    refine ⟨e.val, ?_, c _ rfl⟩
    unfold getL
    rw [List.find?_cons_of_pos (by rw [b, isStr_str]; simp)]
  | tail p ih =>
    rename_i y _ _ _
    obtain ⟨e, r, a, ⟨t, b⟩, c, d⟩ := H
    subst a
    obtain ⟨w, g, q⟩ := ih (List.nodup_cons.mp nd).2 d
    refine ⟨w, ?_, q⟩
    have ne : y ≠ x := fun e => (List.nodup_cons.mp nd).1 (e ▸ p.key)
    unfold getL at g ⊢
    rw [List.find?_cons_of_neg (by rw [b, isStr_str]; simpa using ne)]
    cases hf : List.find? (fun x_1 => x_1.key.isStr x) r with
    | some en => rw [hf] at g; exact g
    | none => rw [hf] at g; dsimp only at g; split at g <;> cases g
theorem ER.none {h : Heap} {x : Str} : ∀ {ks : List Str} {vs : List (Option V)} {es : List DictEntry}, ER h ks vs es → x ∉ ks → getL x es = some Option.none := by
  intro ks vs es H hx
  have nr := H.noRef
  have : es.find? (·.key.isStr x) = Option.none := by
    clear nr
    induction ks generalizing vs es with
    | nil =>
      cases vs with
      | nil => have : es = [] := H; subst this; rfl
      | cons _ _ => exact H.elim
    | cons k ks ih =>
      cases vs with
      | nil => exact H.elim
      | cons v vs =>
        obtain ⟨e, r, a, ⟨t, b⟩, c, d⟩ := H
        subst a
        rw [List.find?_cons_of_neg (by rw [b, isStr_str]; simp; intro e; exact hx (by simp [e]))]
        exact ih d (fun q => hx (by simp [q]))
  unfold getL
  rw [this, nr]; rfl
theorem ER.put {h : Heap} {x : Str} {v : V} {hs : Int} {key w : Value} (rw' : VR h v w) {ks : List Str} {vs vs' : List (Option V)} {es : List DictEntry} (nd : ks.Nodup) (H : ER h ks vs es) (p : Put x v ks vs vs') : ER h ks vs' (putL x hs key w es) := by
  induction p generalizing es with
  | head =>
    obtain ⟨e, r, a, ⟨t, b⟩, c, d⟩ := H
    subst a
    unfold putL
    rw [if_pos (by rw [b, isStr_str]; simp)]
    exact ⟨_, _, rfl, ⟨t, b⟩, fun y q => by cases q; exact rw', d⟩
  | tail p ih =>
    rename_i y _ _ _ _
    obtain ⟨e, r, a, ⟨t, b⟩, c, d⟩ := H
    subst a
    have ne : y ≠ x := fun e => (List.nodup_cons.mp nd).1 (e ▸ p.key)
    unfold putL
    rw [if_neg (by rw [b, isStr_str]; simpa using ne)]
    exact ⟨e, _, rfl, ⟨t, b⟩, c, ih (List.nodup_cons.mp nd).2 d⟩
noncomputable def AO.attrs (ks : List Str) (vs : List (Option V)) : AO := ⟨fun h o => ks.Nodup ∧ ks.length ≤ 1000 ∧ ∃ es n, o = dictOf es n ∧ ER h ks vs es, fun k ⟨a, z, es, n, b, c⟩ => ⟨a, z, es, n, b, c.mono k⟩⟩
noncomputable def AO.inst (D d : Addr) : AO := ⟨fun _ o => o.cls = .ref D ∧ o.dict = some d ∧ notCls o = true, fun _ h => h⟩
noncomputable def IsI (C : Cx) (σ : Led) (x D d : Addr) : Prop := ∀ s, HR C σ s → ∃ ox, s.heap.get? x = some ox ∧ ox.cls = .ref D ∧ ox.dict = some d ∧ notCls ox = true
section
variable {C : Cx} {K : Frag} {A : Around} {σ σ' : Led} {env : Env} {pos : Pos} {Q : V → Led → Prop} {x D d f : Addr} {name : Str} {v : V} {ks : List Str} {vs vs' : List (Option V)} {expr : Bool}
theorem isI_inst (hm : (x, AO.inst D d) ∈ σ) : IsI C σ x D d := fun s H => let ⟨o, g, _, a, b, c⟩ := H.own _ hm; ⟨o, g, a, b, c⟩
theorem isI_seq {l : List V} (hm : (x, AO.seq (.ref D) (some d) l) ∈ σ) : IsI C σ x D d := fun s H => by
  obtain ⟨o, vs, n, g, c, e, dt, _⟩ := seqOf H hm
  exact ⟨o, g, c, e, by unfold notCls; rw [dt]⟩
theorem instOf {s : Shared} (H : HR C σ s) (hi : IsI C σ x D d) (hd : (d, AO.attrs ks vs) ∈ σ) : ∃ ox es n, InstAt s.heap x ox D (some (dictOf es n)) ∧ ox.dict = some d ∧ s.heap.get? d = some (dictOf es n) ∧ ks.Nodup ∧ ks.length ≤ 1000 ∧ ER s.heap ks vs es := by
  obtain ⟨ox, g, a, b, c⟩ := hi s H
  obtain ⟨o, g', _, nd, z, es, n, e, r⟩ := H.own _ hd
  subst e
  exact ⟨ox, es, n, ⟨g, a, c, by rw [b]; exact g'⟩, b, g', nd, z, r⟩
theorem handed_vr {h : Heap} {v : V} {w : Value} (r : VR h v w) (hb : ∀ i, v = .bi i → handedIn (.builtin i) = true) : handedIn w = true := by
  cases v with
  | none => cases r; rfl
  | bool => cases r; rfl
  | int => obtain ⟨t, rfl⟩ := r; rfl
  | str => obtain ⟨t, rfl⟩ := r; rfl
  | bytes => obtain ⟨t, rfl⟩ := r; rfl
  | type => cases r; rfl
  | bi i => cases r; exact hb i rfl
  | ref => cases r; rfl
  | tup => obtain ⟨a, vs, rfl, _⟩ := r; rfl
noncomputable def noBi : V → Bool
  | .bi _ => false
  | _ => true
theorem a_own (hC : C.Is K) (hi : IsI C σ x D d) (hd : (d, AO.attrs ks vs) ∈ σ) (hv : At name v ks vs) (hg : plainGet K D name = true) (hh : hasDictIn K D = true) (ha : (findIn K (.ref D) name == some none) = true) (hb : noBi v = true) (h : Q v σ) :
    Op1 C VR A σ (fun a => getAttr a name expr) (.ref x) Q := by
  rintro s a H rfl
  obtain ⟨ox, es, n, I, _, _, nd, _, r⟩ := instOf H hi hd
  obtain ⟨w, g, rw'⟩ := r.get nd hv
  have X : K.In s.heap := hC.isK ▸ H.bg.kin
  refine get_value X I (plainGet_of hg).1 (findObj_own hh (beq_iff_eq.mp ha) rfl (by rw [lookIn_dict]; exact g)) (handed_vr rw' fun i e => by subst e; cases hb) ?_
  exact ⟨v, σ, H.toks, rw', TK.refl _, h⟩
theorem e_attr {o : Expr} {attr : Str} (h : Tr C VR A σ (eval o env) (fun ov σ₁ => Op1 C VR A σ₁ (fun a => getAttr a attr true) ov Q)) (hb : attributeBase o attr env (eval o env) = eval o env := by rfl) : Tr C VR A σ (eval (.Attribute o attr pos) env) Q := by
  intro s H
  have e : eval (.Attribute o attr pos) env = (do
    let ov ← attributeBase o attr env (eval o env)
    standAt pos.atName
    let r ← holding [ov] (getAttr ov attr true)
    letTemporaryGo o ov r
    pure r) := rfl
  unfold WP
  rw [e, hb]
  exact wpAny_bind ((h s H).run fun a s₁ ov σ₁ H₁ r₁ k₁ q₁ => wpAny_bind (wpAny_standAt (wpAny_bind (wpAny_holding ((q₁ s₁ a H₁ r₁).run fun b s₂ v σ₂ H₂ r₂ k₂ q₂ => wpAny_bind (wpAny_letTemporaryGo (wpAny_pure ⟨v, σ₂, H₂, r₂, k₁.trans k₂, q₂⟩)))))))
theorem m_fn {Qm : V → List V → Led → Prop} (hC : C.Is K) (hi : IsI C σ x D d) (hd : (d, AO.attrs ks vs) ∈ σ) (hn : name ∉ ks) (hg : plainGet K D name = true) (hf : (findIn K (.ref D) name == some (some (.ref f))) = true) (ht : (typeIn K (.ref f) == some (.type "function")) = true)
    (h : Qm (.ref f) [.ref x] σ) : Mth C A σ (.ref x) name Qm := by
  rintro s a pl H rfl
  obtain ⟨ox, es, n, I, _, _, nd, _, r⟩ := instOf H hi hd
  have X : K.In s.heap := hC.isK ▸ H.bg.kin
  refine method_fn X I (plainGet_of hg).1 (plainGet_of hg).2 (beq_iff_eq.mp hf) (beq_iff_eq.mp ht) ?_ ⟨(.ref f, [.ref x]), σ, H, ⟨rfl, VRs.cons rfl VRs.nil⟩, TK.refl _, h⟩
  show (lookIn name (dictOf es n)).map _ = _
  rw [lookIn_dict, r.none hn]; rfl
noncomputable def AO.meth (f x : Addr) : AO := ⟨fun _ o => o = methodObj (.ref f) (.ref x), fun _ h => h⟩
theorem a_bound (hC : C.Is K) (hi : IsI C σ x D d) (hd : (d, AO.attrs ks vs) ∈ σ) (hn : name ∉ ks) (hg : plainGet K D name = true) (hh : hasDictIn K D = true) (hf : (findIn K (.ref D) name == some (some (.ref f))) = true) (ht : (typeIn K (.ref f) == some (.type "function")) = true)
    (hgf : (specialIn K (.ref f) "__get__" == some (some (.builtin "function.__get__"))) = true) (htk : (takesIn K (.ref f) == some false) = true) (hc : copiedNames.contains name = false) (h : ∀ q, Q (.ref q) ((q, AO.meth f x) :: σ)) :
    Op1 C VR A σ (fun a => getAttr a name expr) (.ref x) Q := by
  rintro s a H rfl
  obtain ⟨ox, es, n, I, _, _, nd, _, r⟩ := instOf H hi hd
  have X : K.In s.heap := hC.isK ▸ H.bg.kin
  refine get_bind X I (plainGet_of hg).1 (findObj_fn hh (beq_iff_eq.mp hf) (beq_iff_eq.mp hgf) (beq_iff_eq.mp htk) hc (by rw [lookIn_dict, r.none hn])) (plainGet_of hg).2 (wpAny_call (fn_get X (beq_iff_eq.mp ht) (handed_on rfl ?_)))
  exact ⟨.ref s.heap.objs.size, _, H.toks.add (X := AO.meth f x) (fun b o e => Heap.get?_push_of_some _ e) (Nat.le_refl _) (Heap.get?_push_size _ rfl) (Pl.fields rfl (by intro e; cases e)) rfl rfl rfl, vr_ref.mpr rfl, TK.push _, h _⟩
end
end Mine
end
section
open PySem PySem.W PySem.Calls PyProof.Rows PySem.Spec Builtin Builtin.ObjectAttr
set_option Elab.async false
set_option maxRecDepth 100000
set_option linter.unusedVariables false
namespace Mine
section
variable {C : Cx} {K : Frag} {A : Around} {σ σ' : Led} {env : Env} {pos : Pos} {Q : V → Led → Prop} {x D d f : Addr} {name : Str} {v : V} {ks : List Str} {vs vs' : List (Option V)} {expr : Bool}
theorem a_set {Qu : Unit → Led → Prop} (hC : C.Is K) (hi : IsI C σ x D d) (U : LU d (AO.attrs ks vs) (AO.attrs ks vs') σ σ') (hv : Put name v ks vs vs')
    (hs : (findIn K (.ref D) "__setattr__" == some (some (.builtin "object.__setattr__"))) = true) (hp : plainOver K D = true) (ht : (takerIn K D name == some none) = true) (hh : hasDictIn K D = true) (h : Qu () σ') : Op2 C RU A σ (fun a b => setAttr a name b) (.ref x) v Qu := by
  rintro s a b H rfl rb
  obtain ⟨ox, es, n, I, hd, D0, nd, z, r⟩ := instOf H hi U.mem
  have X : K.In s.heap := hC.isK ▸ H.bg.kin
  refine set_plain X I (beq_iff_eq.mp hs) (osa_open (s := { s with toks := s.toks + 1 }) X I hp (beq_iff_eq.mp ht) fun bb => ?_)
  obtain ⟨cd, hc, hd'⟩ := any_some hh
  obtain ⟨hx, hcl, hn, -⟩ := I
  obtain ⟨oc, odi, oda, osl⟩ := ox
  dsimp only at hcl hd hx
  subst hcl hd
  have tkU : ∀ hsh key, Heap.SameBut d s.heap (s.heap.update d (Obj.putName name hsh key b)) := fun _ _ => Heap.SameBut.update ..
  refine wpAny_bind (wpAny_pure (wpAny_bind (wpAny_bind (wpAny_loadPart hx (wpAny_bind (looks_clsIn X hc _ _ _ _ (fun _ _ e => e) ?_))))))
  rw [hd']
  refine wpAny_pure (a := some d) (wpAny_bind (wpAny_pure (wpAny_bind ?_)))
  unfold nsSet
  refine wpAny_bind (wpAny_bind (wpAny_askSetting (wpAny_pure (wpAny_bind (wpAny_mkText (wpAny_bind (wpAny_loadPart D0 ?_)))))))
  dsimp only
  have c : (!es.toArray.any (·.key.isStr name) && es.toArray.any (·.refKey)) = false := by
    rw [← Array.any_toList, ← Array.any_toList]
    simp [r.noRef]
  rw [aRefKeyMayBeTheName_at, c]
  refine wpAny_updatePart D0 ?_
  have hs := tkU (PyData.keyHash C.w.params name) (.str name (s.toks + 1))
  have tk := HR.tkUpd H U hs
  have e1 : Obj.putName name (PyData.keyHash C.w.params name) (.str name (s.toks + 1)) b (dictOf es n) = dictOf (putL name (PyData.keyHash C.w.params name) (.str name (s.toks + 1)) b es) (putN name es n) := putName_dict ..
  have er : ER (s.heap.update d (Obj.putName name (PyData.keyHash C.w.params name) (.str name (s.toks + 1)) b)) ks vs' (putL name (PyData.keyHash C.w.params name) (.str name (s.toks + 1)) b es) := ER.put (rb.mono tk) nd (r.mono tk) hv
  have gg : (s.heap.update d (Obj.putName name (PyData.keyHash C.w.params name) (.str name (s.toks + 1)) b)).get? d = some (dictOf (putL name (PyData.keyHash C.w.params name) (.str name (s.toks + 1)) b es) (putN name es n)) := by
    rw [Heap.get?_update_self _ D0 (by rw [e1]; rfl), e1]
  refine wpAny_bind (wpAny_lookBehind gg (pastItsLine_dict (by rw [List.size_toArray, er.len, sizeLine_eq]; lia)) ?_)
  exact wpAny_pure ⟨(), σ', (H.upd (s' := { s with heap := s.heap.update d (Obj.putName name (PyData.keyHash C.w.params name) (.str name (s.toks + 1)) b), toks := s.toks + 2 }) U hs gg (Pl.dict rfl) ⟨nd, z, _, _, rfl, er⟩ rfl rfl).1, trivial, tk, h⟩
end
end Mine
end
section
open PySem PySem.W PySem.Calls PyProof.Rows PySem.Spec
set_option Elab.async false
set_option maxRecDepth 100000
set_option linter.unusedVariables false
namespace Mine
theorem slot_cit_next : Slot "callable_iterator" "__next__" "callable_iterator.__next__" :=
  .of (owner := "callable_iterator") (n := "__next__") (by rw [typeLookup_type, builtinLookup_eq_fast]; kernel_rfl) (by decide +kernel) (by decide +kernel) (by decide +kernel)
    (by first | exact .inl (by decide +kernel) | exact .inr (by decide +kernel)) (by rw [isSubtype_type]; kernel_rfl)
theorem slot_cit_iter : Slot "callable_iterator" "__iter__" "callable_iterator.__iter__" :=
  .of (owner := "callable_iterator") (n := "__iter__") (by rw [typeLookup_type, builtinLookup_eq_fast]; kernel_rfl) (by decide +kernel) (by decide +kernel) (by decide +kernel)
    (by first | exact .inl (by decide +kernel) | exact .inr (by decide +kernel)) (by rw [isSubtype_type]; kernel_rfl)
theorem entry_cit_next : entryFor table "callable_iterator.__next__" = some Builtin.«callable_iterator.__next__» := entryFor_of_fast (by kernel_rfl)
theorem entry_cit_iter : entryFor table "callable_iterator.__iter__" = some Builtin.«dict_keyiterator.__iter__» :=
  entryFor_alias (id' := "dict_keyiterator.__iter__") (by kernel_rfl) rfl (by decide +kernel) (by kernel_rfl)
theorem args_cit_next (a : Value) : argsOk "callable_iterator.__next__" ⟨[a], []⟩ := by unfold argsOk; kernel_rfl
theorem args_cit_iter (a : Value) : argsOk "callable_iterator.__iter__" ⟨[a], []⟩ := by unfold argsOk; kernel_rfl
section
variable {M : Model} {A : Around} {E : Value → Shared → Prop} {s : Shared}
theorem wpAny_callBorrowed {f : Value} {pos : List Value} {Q : Value → Shared → Prop} (hc : codeAny M A (.call f ⟨pos, []⟩) (wants Q E) s) : wpAny M A (callBorrowed f pos) Q E s := fun Γ p hΓ => by
  unfold callBorrowed
  rw [Sem.wp_call]
  have := hc _ p rfl (hΓ.enter (.call f ⟨pos, []⟩) none p (by intro x; cases x))
  refine wpCode_mono ?_ this
  intro r s' h
  cases r with
  | error e => exact h
  | ok fl => cases fl <;> first | exact h | exact h.elim
end
noncomputable def citObj (q : Addr) (t : Tok) : Obj := { cls := .type "callable_iterator", data := .fields #[.ref q, .str Str.empty t, .bool false] }
noncomputable def cdoneObj : Obj := { cls := .type "callable_iterator", data := .fields #[.none, .none, .bool true] }
noncomputable def AO.cit (q : Addr) : AO := ⟨fun _ o => ∃ t, o = citObj q t, fun _ h => h⟩
noncomputable def AO.cdone : AO := ⟨fun _ o => o = cdoneObj, fun _ h => h⟩
section
variable {C : Cx} {K : Frag} {A : Around} {σ σ' : Led} {Q : V → Led → Prop} {x f q it : Addr}
theorem stop_ {α : Type} {P : α → Shared → Prop} {s : Shared} {A : Around} {E : Value → Shared → Prop} {Q : Option Value → Shared → Prop} (hh : A.handled = none)
    (hQ : ∀ h', (∀ b o, s.heap.get? b = some o → h'.get? b = some o) → Q none { s with heap := h' }) :
    wpAny (model C.prog C.w) A.in1 (do raiseNew (← newExc (.type "StopIteration") []) : Sem α) P (fun e s' => wpAny (model C.prog C.w) A (do
      if ← isInstance e (.type "StopIteration") then pure none else throw e) Q E s') s := by
  refine wpAny_bind ?_
  simp only [newExc, newTuple]
  refine wpAny_bind (wpAny_newObj_type ?_ (by size_fits))
  refine wpAny_bind (m := firstArgMember _ _) (wpAny_of_eq (a := Value.none) (by first | rfl | (simp only [firstArgMember]; rfl)) ?_)
  refine wpAny_newObj_type ?_ (by size_fits)
  simp only [raiseNew]
  refine wpAny_bind (wpAny_handled ?_)
  rw [show A.in1.handled = none from hh]
  refine wpAny_bind (wpAny_pure (wpAny_throw ?_))
  refine wpAny_bind (wpAny_isInstance (T := "StopIteration") (b := true) ⟨_, Heap.get?_push_size _ rfl, rfl⟩ isSubtype_stop ?_)
  exact wpAny_pure (hQ _ fun b o e => Heap.get?_push_of_some _ (Heap.get?_push_of_some _ e))
theorem next_unfold {s : Shared} {A : Around} {P : Option Value → Shared → Prop} {E : Value → Shared → Prop} (hT : s.TypeIs (.ref it) "callable_iterator")
    (h : wpAny (model C.prog C.w) A.in1 (Builtin.«callable_iterator.__next__» ⟨[.ref it], []⟩) (fun fin s' => ∃ v, fin = .done (.ret v) ∧ P (some v) s') (fun e s' => wpAny (model C.prog C.w) A (do
      if ← isInstance e (.type "StopIteration") then pure none else throw e) P E s') s) : wpAny (model C.prog C.w) A (pyNext (.ref it)) P E s := by
  unfold pyNext
  refine wpAny_bind (wpAny_attempt (wpAny_callSpecial?_slot (name := Str.ofString "__next__") hT slot_cit_next
    (wpAny_call_entry slot_cit_next hT entry_cit_next (wpAny_mono h (fun fin s' h => ?_) fun e s' h => ?_) (args_cit_next _))))
  · obtain ⟨v, rfl, p⟩ := h
    exact ⟨v, rfl, wpAny_pure p⟩
  · exact h
noncomputable def fnAt (K : Frag) (f : Addr) : Bool := match K.lookup f with
  | some ⟨_, _, .func _, _⟩ => true
  | _ => false
theorem fnAt_get {h : Heap} (X : K.In h) (e : fnAt K f = true) : ∃ o fd, h.get? f = some o ∧ o.data = .func fd := by
  unfold fnAt at e
  split at e
  · rename_i c d fd sl ho; exact ⟨_, fd, X _ _ ho, rfl⟩
  · cases e
theorem borrows_ {h : Heap} {o : Obj} {fd : FuncData} (g : h.get? q = some (methodObj (.ref f) (.ref x))) (gf : h.get? f = some o) (hf : o.data = .func fd) : Looks (model C.prog C.w) h (borrowsExactly (.ref q)) true := by
  intro A Q E s k hq
  unfold borrowsExactly
  refine wpAny_bind (wpAny_load (k _ _ g) ?_)
  show wpAny _ _ (do match (← load f).data with | .func _ => pure true | _ => pure false : Sem Bool) _ _ s
  refine wpAny_bind (wpAny_load (k _ _ gf) ?_)
  rw [hf]
  exact wpAny_pure hq
theorem nx_cit {Qo : Option V → Led → Prop} (hC : C.Is K) (hA : A.handled = none) (hf : fnAt K f = true) (hit : (it, AO.cit q) ∈ σ) (hm : (q, AO.meth f x) ∈ σ)
    (h : CallC C A.in1 σ (.ref f) [.ref x] (fun v σ₁ => ∃ l, v = .str (S l) ∧ (it, AO.cit q) ∈ σ₁ ∧ (q, AO.meth f x) ∈ σ₁ ∧ (l ≠ [] → Qo (some (.str (S l))) σ₁) ∧ (l = [] → ∃ σ₂, LU it (AO.cit q) AO.cdone σ₁ σ₂ ∧ Qo none σ₂))) : Nx C A σ (.ref it) Qo := by
  rintro s _ H rfl
  obtain ⟨o, g, _, t, rfl⟩ := H.own _ hit
  obtain ⟨om, gm, _, e⟩ := H.own _ hm
  have e : om = methodObj (.ref f) (.ref x) := e
  subst e
  obtain ⟨of, fd, gf, hfd⟩ := fnAt_get (hC.isK ▸ H.bg.kin) hf
  have hT : s.TypeIs (.ref it) "callable_iterator" := ⟨_, g, rfl⟩
  refine next_unfold hT ?_
  show wpAny _ _ (field (.ref it) 2 >>= _) _ _ s
  refine wpAny_bind (wpAny_field g rfl (x := .bool false) rfl ?_)
  rw [if_neg (show ¬ ((Value.bool false == Value.bool true) = true) by decide)]
  show wpAny _ _ (field (.ref it) 0 >>= _) _ _ s
  refine wpAny_bind (wpAny_field g rfl (x := .ref q) rfl ?_)
  refine wpAny_bind (wpAny_attempt ?_)
  unfold callOutOfASlot
  refine wpAny_bind ((borrows_ gm gf hfd).here ?_)
  rw [if_pos rfl]
  refine wpAny_callBorrowed (method_call gm (codeAny_mono (h s (.ref f) [.ref x] H rfl (VRs.cons rfl VRs.nil)) fun r s₁ p => ?_))
  cases r with
  | error e => exact (show False from p).elim
  | ok fl =>
    cases fl with
    | ret v =>
      obtain ⟨b, σ₁, H₁, r₁, k₁, l, rfl, hit₁, hm₁, h1, h2⟩ := p
      obtain ⟨u, rfl⟩ := r₁
      obtain ⟨o, g, _, t, rfl⟩ := H₁.own _ hit₁
      show wpAny _ _ (field (.ref it) 2 >>= _) _ _ s₁
      refine wpAny_bind (wpAny_field g rfl (x := .bool false) rfl ?_)
      rw [if_neg (show ¬ ((Value.bool false == Value.bool true) = true) by decide)]
      show wpAny _ _ (field (.ref it) 1 >>= _) _ _ s₁
      refine wpAny_bind (wpAny_field g rfl (x := .str Str.empty t) rfl ?_)
      refine wpAny_bind (wpAny_holding (PyProof.Rows.eqBool_str ?_))
      by_cases hl : l = []
      · obtain ⟨σ₂, U, q2⟩ := h2 hl
        subst hl
        have e : (Str.empty == S []) = true := by decide
        rw [e]
        obtain ⟨om, gm, _, e⟩ := H₁.own _ hm₁
        have e : om = methodObj (.ref f) (.ref x) := e
        subst e
        obtain ⟨of, fd, gf, hfd⟩ := fnAt_get (hC.isK ▸ H₁.bg.kin) hf
        refine wpAny_bind (wpAny_rule ?_)
        show wpAny _ _ ((field (.ref it) 0 >>= fun w => slotLetsGo "callable_iterator.__next__" w _ >>= fun _ => setField (.ref it) 0 .none >>= fun _ => setField (.ref it) 1 .none >>= fun _ => setField (.ref it) 2 (.bool true)) >>= _) _ _ s₁
        refine wpAny_bind (wpAny_bind (wpAny_field g rfl (x := .ref q) rfl (wpAny_bind ?_)))
        unfold slotLetsGo
        refine wpAny_bind ((borrows_ gm gf hfd).here (wpAny_pure ?_))
        refine wpAny_bind (wpAny_setField_rec g (by simp) fun h1 g1 s1 => ?_)
        refine wpAny_bind (wpAny_setField_rec g1 (by simp) fun h2 g2 s2 => ?_)
        refine wpAny_setField_rec g2 (by simp) fun h3 g3 s3 => ?_
        have g3 : h3.get? it = some cdoneObj := g3
        have sb : Heap.SameBut it s₁.heap h3 := (s1.trans s2).trans s3
        have U3 := H₁.upd (s' := { s₁ with heap := h3 }) U sb g3 (Pl.fields rfl (by intro e; cases e)) rfl rfl rfl
        refine stop_ hA fun h' k' => ?_
        exact ⟨none, σ₂, U3.1.grow (s' := { s₁ with heap := h' }) k' rfl rfl, rfl, k₁.trans (U3.2.trans fun b o e _ => k' b o e), q2⟩
      · have e : (Str.empty == S l) = false := by
          rw [beq_eq_false_iff_ne]
          intro e
          apply hl
          have e2 : S [] = S l := by rw [← e]; rfl
          exact (S_inj e2).symm
        rw [e]
        exact wpAny_bind (wpAny_pure (wpAny_pure ⟨_, rfl, some (.str (S l)), σ₁, H₁, ⟨_, rfl, ⟨u, rfl⟩⟩, k₁, h1 hl⟩))
    | next => exact (show False from p).elim
    | brk => exact (show False from p).elim
    | cont => exact (show False from p).elim
theorem nx_cdone {Qo : Option V → Led → Prop} (hA : A.handled = none) (hit : (it, AO.cdone) ∈ σ) (h : Qo none σ) : Nx C A σ (.ref it) Qo := by
  rintro s _ H rfl
  obtain ⟨o, g, _, e⟩ := H.own _ hit
  have e : o = cdoneObj := e
  subst e
  have hT : s.TypeIs (.ref it) "callable_iterator" := ⟨_, g, rfl⟩
  refine next_unfold hT ?_
  show wpAny _ _ (field (.ref it) 2 >>= _) _ _ s
  refine wpAny_bind (wpAny_field g rfl (x := .bool true) rfl ?_)
  rw [if_pos (show ((Value.bool true == Value.bool true) = true) by decide)]
  refine wpAny_bind (wpAny_rule (wpAny_bind (stop_ hA fun h' k' => ⟨none, σ, H.grow (s' := { s with heap := h' }) k' rfl rfl, rfl, fun b o e _ => k' b o e, h⟩)))
theorem it_cit {Qi : V → Led → Prop} {X : AO} (hX : X = AO.cit q ∨ X = AO.cdone) (hit : (it, X) ∈ σ) (h : Qi (.ref it) σ) : It C A σ (.ref it) Qi := by
  rintro s _ H rfl
  obtain ⟨o, g, _, e⟩ := H.own _ hit
  have hT : s.TypeIs (.ref it) "callable_iterator" := by
    rcases hX with rfl | rfl
    · obtain ⟨t, rfl⟩ := e; exact ⟨_, g, rfl⟩
    · have e : o = cdoneObj := e
      subst e; exact ⟨_, g, rfl⟩
  refine wpAny_pyIter_slot hT slot_cit_iter (wpAny_call_entry slot_cit_iter hT entry_cit_iter ?_ (args_cit_iter _))
  show wpAny _ _ (ret (.ref it)) _ _ s
  exact wpAny_pure ⟨_, rfl, "callable_iterator", _, hT, slot_cit_next.lookup, .ref it, σ, H, vr_ref.mpr rfl, TK.refl _, h⟩
theorem entry_iter2 : entryFor table "iter" = some Builtin.«iter» := entryFor_of_fast (by kernel_rfl)
theorem args_iter2 (a b : Value) : argsOk "iter" ⟨[a, b], []⟩ := by unfold argsOk; kernel_rfl
theorem method_call_lookup : ∃ r, typeLookup (.type "method") "__call__" = pure (some r) := ⟨.builtin "method.__call__", by rw [typeLookup_type, builtinLookup_eq_fast]; kernel_rfl⟩
theorem c_iter2 (hm : (q, AO.meth f x) ∈ σ) (h : ∀ it, Q (.ref it) ((it, AO.cit q) :: σ)) : Call C A σ (.bi "iter") [.ref q, .str Str.empty] Q := by
  rintro s fv vs H rfl r
  simp only [VRs] at r
  obtain ⟨_, _, rfl, rfl, _, _, rfl, ⟨t, rfl⟩, rfl⟩ := r
  obtain ⟨om, gm, _, e⟩ := H.own _ hm
  have e : om = methodObj (.ref f) (.ref x) := e
  subst e
  obtain ⟨rr, hl⟩ := method_call_lookup
  have hT : s.TypeIs (.ref q) "method" := ⟨_, gm, rfl⟩
  refine Calls.call_function_entry (by decide +kernel) (by decide +kernel) entry_iter2 (args_iter2 _ _) ?_
  unfold Builtin.«iter»
  refine wpAny_bind (m := someArgs "iter" 1 2 _) (wpAny_pure ?_)
  refine wpAny_bind (wpAny_specialOf hT hl ?_)
  rw [if_neg (by simp)]
  refine wpAny_bind (wpAny_rule (wpAny_bind (wpAny_newObj_type (wpAny_pure ⟨_, rfl, .ref s.heap.objs.size, _, H.add (X := AO.cit q) (fun b o e => Heap.get?_push_of_some _ e) (Nat.le_refl _) (Heap.get?_push_size _ rfl) (Pl.fields rfl (by intro e; cases e)) ⟨t, rfl⟩ rfl rfl, vr_ref.mpr rfl, TK.push _, h _⟩))))
end
end Mine
end
section
open PySem PySem.W PySem.Calls PyProof.Rows PySem.Spec Builtin Builtin.ObjectAttr
set_option Elab.async false
set_option maxRecDepth 100000
set_option linter.unusedVariables false
namespace Mine
theorem fn_ga : typeLookup (.type "function") "__getattribute__" = pure (some (.builtin "object.__getattribute__")) := by rw [typeLookup_type, builtinLookup_eq_fast]; kernel_rfl
theorem fn_gattr : typeLookup (.type "function") "__getattr__" = pure none := by rw [typeLookup_type, builtinLookup_eq_fast]; kernel_rfl
theorem fn_read : typeLookup (.type "function") "read" = pure none := by rw [typeLookup_type, builtinLookup_eq_fast]; kernel_rfl
theorem fn_sub : isSubtype (.type "function") (.type "object") = pure true := by rw [isSubtype_type]; kernel_rfl
theorem oga_args (a b : Value) : argsOk "object.__getattribute__" ⟨[a, b], []⟩ := by unfold argsOk; kernel_rfl
section
variable {prog : Program} {w : World} {A : Around} {E : Value → Shared → Prop} {s : Shared} {st dd : Addr} {o : Obj} {es : List DictEntry} {n : Nat} {name : Str} {v : Value} {expr : Bool}
theorem get_fnattr {Q : Value → Shared → Prop} (hst : s.heap.get? st = some o) (hc : o.cls = .type "function") (hd : o.dict = some dd) (hno : notCls o = true) (hdd : s.heap.get? dd = some (dictOf es n)) (hl : getL name es = some (some v))
    (hlk : typeLookup (.type "function") name = pure none) (hh : handedIn v = true) (h : Q v { s with toks := s.toks + 1 }) : wpAny (model prog w) A (getAttr (.ref st) name expr) Q E s := by
  have hT : ∀ tk, ({ s with toks := tk } : Shared).TypeIs (.ref st) "function" := fun tk => ⟨o, hst, hc⟩
  unfold getAttr getAttrBy
  refine wpAny_bind (wpAny_mkText (wpAny_holding (wpAny_bind (wpAny_typeOf (hT _) (wpAny_bind (wpAny_of_eq fn_ga ?_))))))
  show wpAny _ _ (getAttrByItsOwn _ _ _ _ _ _) _ _ _
  unfold getAttrByItsOwn
  refine wpAny_bind (wpAny_pure (a := none) (wpAny_bind (wpAny_attempt (wpAny_holding ?_))))
  have e1 : (expr && onTheHeap (.builtin "object.__getattribute__")) = false := by cases expr <;> rfl
  unfold callGetattribute
  rw [e1, if_neg (by decide)]
  unfold boundAndCalled
  refine wpAny_bind (wpAny_of_eq (PySem.F.slot_object_getattribute.bind _) ?_)
  show wpAny _ _ (call (.builtin "object.__getattribute__") [.ref st, .str name s.toks]) _ _ _
  refine call_self (owner := "object") (n := "__getattribute__") (.inr (by decide +kernel)) (by decide +kernel) (by decide +kernel) PySem.F.entry_object_getattribute (oga_args _ _)
    (fun A' Q' E' s' k q => wpAny_isInstance ⟨o, k _ _ hst, hc⟩ fn_sub q) ?_
  show wpAny _ _ (typeOf (.ref st) >>= fun tp => find (.ref st) tp name >>= _) _ _ _
  refine wpAny_bind (wpAny_typeOf (hT _) (wpAny_bind ?_))
  unfold find
  refine wpAny_bind (wpAny_of_eq hlk ?_)
  refine wpAny_bind (wpAny_pure (a := none) (wpAny_bind (wpAny_pure (a := none) ?_)))
  show wpAny _ _ (ownThenClass _ _ _ _) _ _ _
  unfold ownThenClass inOwnDict ObjectAttr.ownDict loadHead
  obtain ⟨oc, od, odt, osl⟩ := o
  dsimp only at hc hd
  subst hc
  subst hd
  have key : ∀ {Q' : Option Value → Shared → Prop} {E'}, Q' (some v) { s with toks := s.toks + 1 } → wpAny (model prog w) A.in1 (instanceDict st false) (fun a s' => wpAny (model prog w) A.in1 (inDict name a) Q' E' s') E' { s with toks := s.toks + 1 } := by
    intro Q' E' q
    unfold instanceDict
    refine wpAny_bind (wpAny_loadPart hst ?_)
    refine wpAny_pure (a := some dd) ?_
    unfold inDict nsGet
    refine wpAny_bind (wpAny_loadPart hdd ?_)
    rw [nsLook_of (show lookIn name (dictOf es n) = some (some v) by rw [lookIn_dict]; exact hl)]
    exact wpAny_pure q
  refine wpAny_bind (wpAny_bind (wpAny_bind (wpAny_loadPart hst ?_)))
  cases odt with
  | cls c => cases hno
  | _ =>
    refine key ?_
    refine wpAny_bind (wpAny_rule (wpAny_pure ?_))
    refine wpAny_pure ⟨v, rfl, ?_⟩
    show wpAny _ _ (handedOut v) _ _ _
    rw [handedOut_of hh]
    exact wpAny_pure h
end
end Mine
end
section
open PySem PySem.W PySem.Calls PyProof.Rows PySem.Spec Builtin
set_option Elab.async false
set_option maxRecDepth 100000
set_option linter.unusedVariables false
namespace Mine
noncomputable def AO.table (ps : Array Value) : AO := ⟨fun _ o => o = tabObj ps, fun _ h => h⟩
noncomputable def fnObj (d : Option Addr) (fd : FuncData) : Obj := { cls := .type "function", dict := d, data := .func fd }
noncomputable def AO.fn (d : Option Addr) (fd : FuncData) : AO := ⟨fun _ o => o = fnObj d fd, fun _ h => h⟩
noncomputable def CodeIs (q : Str) (o : Obj) : Prop := ∃ (vs : Array Value) (t : Tok), o.data = .fields vs ∧ vs[1]? = some (.str q t)
noncomputable def AO.code (q : Str) : AO := ⟨fun _ o => CodeIs q o, fun _ h => h⟩
section
variable {C : Cx} {K : Frag} {A : Around} {σ σ' : Led} {env : Env} {pos : Pos} {Q : V → Led → Prop} {c P : Addr} {ps : Array Value}
theorem builtinsAt {s : Shared} (hC : C.Is K) (H : HR C σ s) (hP : C.h₀.get? P = none) : s.heap.BuiltinsAt C.mg P := by
  obtain ⟨bm, o, a, b, c, g, d, e, f⟩ := hC.bm
  exact ⟨bm, o, a, b, c, (fun q => by rw [q, hP] at g; cases g), H.bg.old.get_of_cls g (by rw [d]; decide), d, e, f⟩
theorem codeRec_own {s : Shared} {c' : Addr} {q : Str} (H : HR C σ s) (hm : (c', AO.code q) ∈ σ) : s.heap.CodeRec (.ref c') q := by
  obtain ⟨o, g, _, vs, t, d, e⟩ := H.own _ hm
  exact ⟨c', o, vs, t, rfl, g, d, e⟩
theorem LU.keys {a : Addr} {X X' : AO} {σ σ' : Led} (U : LU a X X' σ σ') : σ'.map Prod.fst = σ.map Prod.fst := by
  obtain ⟨pre, post, rfl, rfl⟩ := U.split
  simp
theorem HR.updX {s s' : Shared} {a : Addr} {o' : Obj} {X X' : AO} (H : HR C σ s) (U : LU a X X' σ σ') (hs : Heap.ExtBut a s.heap s'.heap)
    (hn : s'.heap.get? a = some o') (hc : Pl o') (hx : X'.P s'.heap o') (hg : s'.gens = s.gens) (ho : s'.os = s.os) : HR C σ' s' ∧ TK s.heap s'.heap := by
  obtain ⟨pre, post, rfl, rfl⟩ := U.split
  obtain ⟨o, g, nt, _⟩ := H.own (a, X) (by simp)
  have tk : TK s.heap s'.heap := fun b ob e c => by
    by_cases hb : b = a
    · subst hb; rw [g] at e; cases e; exact absurd c nt
    · exact hs b _ hb e
  have nd := H.nd
  have ha : ∀ p ∈ pre ++ post, p.1 ≠ a := by
    intro p hp e
    simp only [List.map_append, List.map_cons] at nd
    have nd' := (List.perm_middle.nodup_iff).mp nd
    exact (List.nodup_cons.mp nd').1 (by rw [← List.map_append]; exact e ▸ List.mem_map_of_mem hp)
  refine ⟨⟨H.bg.ext (H.fresh (a, X) (by simp)) hs, fun p hp => ?_, fun p hp => ?_, ?_, hg ▸ H.gens, ho ▸ H.os⟩, tk⟩
  · rcases List.mem_append.mp hp with q | q
    · obtain ⟨op, x, y, z⟩ := H.own p (List.mem_append_left _ q)
      exact ⟨op, hs _ _ (ha p (List.mem_append_left _ q)) x, y, p.2.mono tk z⟩
    · rcases List.mem_cons.mp q with rfl | q
      · exact ⟨o', hn, hc, hx⟩
      · obtain ⟨op, x, y, z⟩ := H.own p (List.mem_append_right _ (.tail _ q))
        exact ⟨op, hs _ _ (ha p (List.mem_append_right _ q)) x, y, p.2.mono tk z⟩
  · rcases List.mem_append.mp hp with q | q
    · exact H.fresh p (List.mem_append_left _ q)
    · rcases List.mem_cons.mp q with rfl | q
      · exact H.fresh (a, X) (by simp)
      · exact H.fresh p (List.mem_append_right _ (.tail _ q))
  · simpa only [List.map_append, List.map_cons] using nd
theorem HR.insert {s : Shared} {a : Addr} {o : Obj} {X : AO} (H : HR C σ s) (hf : C.Free a) (hn : a ∉ σ.map Prod.fst) (g : s.heap.get? a = some o) (pl : Pl o) (hX : X.P s.heap o) : HR C ((a, X) :: σ) s := by
  refine ⟨H.bg, fun p hp => ?_, fun p hp => ?_, ?_, H.gens, H.os⟩
  · rcases List.mem_cons.mp hp with rfl | hp
    · exact ⟨o, g, pl, hX⟩
    · exact H.own p hp
  · rcases List.mem_cons.mp hp with rfl | hp
    · exact hf
    · exact H.fresh p hp
  · rw [List.map_cons]; exact List.nodup_cons.mpr ⟨hn, H.nd⟩
theorem HR.notNew {s : Shared} {a : Addr} (H : HR C σ s) (ha : s.heap.objs.size ≤ a) : a ∉ σ.map Prod.fst := fun hm => by
  obtain ⟨p, hp, e⟩ := List.mem_map.mp hm
  obtain ⟨o', g, _⟩ := H.own p hp
  have := Heap.lt_size g
  rw [e] at this
  exact absurd ha (Nat.not_le.mpr this)
theorem grown_ {s : Shared} {c' : Addr} {q : Str} {h' : Heap} {tk : Nat} {ps' : Array Value} (H : HR C σ s) (U : LU P (AO.table ps) (AO.table ps') σ σ') (hx : Heap.ExtBut P s.heap h') (hge : s.heap.objs.size ≤ c')
    (hrec : h'.CodeRec (.ref c') q) (hP : h'.get? P = some (tabObj ps')) : HR C ((c', AO.code q) :: σ') { s with heap := h', toks := tk } ∧ TK s.heap h' := by
  have U1 := H.updX (s' := { s with heap := h', toks := tk }) U hx hP (Pl.rec rfl) rfl rfl rfl
  obtain ⟨c2, o, vs, t, e, g, d, v⟩ := hrec
  cases e
  exact ⟨U1.1.insert (H.bg.new hge) (by rw [U.keys]; exact H.notNew hge) g (Pl.rec d) ⟨vs, t, d, v⟩, U1.2⟩
theorem x_def {Qn : Led → Prop} {Qr : V → Led → Prop} {Qb Qc : Led → Prop} {name : Str} {params : Arguments} {body : List Stmt} {scope : Scope} {clos : List (Str × Addr)} {σ₀ : Led} (hC : C.Is K) (sb : Sb ((P, AO.table ps) :: σ₀) σ)
    (hcl : closureFor scope env = pure clos) (hge0 : env.globals = mainGlobals) (hcode : env.code = .ref c) (hk : codeHdIn K c P = true) (ht : TriplesOk ps.toList)
    (hnf : codeAmong pos ps.toList = none) (hd0 : params.defaults = []) (hk0 : params.kw_defaults = []) (ha : annTrees params none env = [])
    (h : ∀ f c' ctv doc pm, St C A ((f, AO.fn none (fnX name (qualnameIn env name name) params body scope clos .none .none doc pm none (.ref c') ctv)) :: (c', AO.code (qualnameIn env name name)) :: (P, AO.table (ps ++ #[rawInt pos.line, rawInt pos.col, .ref c'])) :: σ₀) (storeName env name) (.ref f) (fun _ σ'' => Qn σ'')) :
    X C A env σ (.FunctionDef name params body [] none [] scope none name pos) Qn Qr Qb Qc := by
  intro s H
  have H0 := HR.sb sb H
  obtain ⟨o, g, _, e⟩ := H0.own _ (List.Mem.head _)
  have e : o = tabObj ps := e
  subst e
  have fP := (H0.fresh _ (List.Mem.head _)).1
  have gP : mainGlobals ≠ P := fun q => H.bg.low.g (by rw [q]; exact fP)
  refine nestDef_K hd0 hk0 ha (makeFunction_K hcl hge0 H.bg.gl hcode (codeHd_of_K (hC.isK ▸ H.bg.kin) hk) g ht hnf gP (builtinsAt hC H fP) fun c' ctv doc h' tk hx hge hlt hrec hP => ?_)
  obtain ⟨H1, tk1⟩ := grown_ (tk := tk) H0 .head hx hge hrec hP
  have H2 := H1.add (s' := { s with heap := h'.push (fnObj none (fnX name (qualnameIn env name name) params body scope clos .none .none doc ((C.mg "__name__").getD .none) none (.ref c') ctv)), toks := tk }) (X := AO.fn none (fnX name (qualnameIn env name name) params body scope clos .none .none doc ((C.mg "__name__").getD .none) none (.ref c') ctv)) (fun b o e => Heap.get?_push_of_some _ e) (Nat.le_refl _) (Heap.get?_push_size _ rfl) (Pl.func rfl) rfl rfl rfl
  exact (h _ c' ctv doc _ _ _ H2 rfl).run fun _ s₂ _ σ₂ H₃ _ k₂ q₂ => post_next H₃ ((tk1.trans (TK.push _)).trans k₂) q₂
theorem e_lambda {params : Arguments} {body : Expr} {scope : Scope} {clos : List (Str × Addr)} {σ₀ : Led} (hC : C.Is K) (sb : Sb ((P, AO.table ps) :: σ₀) σ)
    (hcl : closureFor scope env = pure clos) (hge0 : env.globals = mainGlobals) (hcode : env.code = .ref c) (hk : codeHdIn K c P = true) (ht : TriplesOk ps.toList)
    (hnf : codeAmong pos ps.toList = none) (hdef : defaultsOf params env = ([], []))
    (h : ∀ f c' ctv pm, Q (.ref f) ((f, AO.fn none (kla_fn "<lambda>" (env.qual ++ "<lambda>") params body scope clos pm (.ref c') ctv)) :: (c', AO.code (env.qual ++ "<lambda>")) :: (P, AO.table (ps ++ #[rawInt pos.line, rawInt pos.col, .ref c'])) :: σ₀)) :
    Tr C VR A σ (eval (.Lambda params body scope pos) env) Q := by
  intro s H
  have H0 := HR.sb sb H
  obtain ⟨o, g, _, e⟩ := H0.own _ (List.Mem.head _)
  have e : o = tabObj ps := e
  subst e
  have fP := (H0.fresh _ (List.Mem.head _)).1
  have gP : mainGlobals ≠ P := fun q => H.bg.low.g (by rw [q]; exact fP)
  refine kla_eval hdef (kla_makeFunction hcl hge0 H.bg.gl hcode (codeHd_of_K (hC.isK ▸ H.bg.kin) hk) g ht hnf gP (builtinsAt hC H fP) fun c' ctv h' tk hx hge hlt hrec hP => ?_)
  obtain ⟨H1, tk1⟩ := grown_ (tk := tk) H0 .head hx hge hrec hP
  have H2 := H1.add (s' := { s with heap := h'.push (fnObj none (kla_fn "<lambda>" (env.qual ++ "<lambda>") params body scope clos ((C.mg "__name__").getD .none) (.ref c') ctv)), toks := tk }) (X := AO.fn none (kla_fn "<lambda>" (env.qual ++ "<lambda>") params body scope clos ((C.mg "__name__").getD .none) (.ref c') ctv)) (fun b o e => Heap.get?_push_of_some _ e) (Nat.le_refl _) (Heap.get?_push_size _ rfl) (Pl.func rfl) rfl rfl rfl
  exact ⟨.ref _, _, H2, rfl, tk1.trans (TK.push _), h _ c' ctv _⟩
end
end Mine
end
section
open PySem PySem.W PySem.Calls PyProof.Rows PySem.Spec Builtin Builtin.ObjectAttr
set_option Elab.async false
set_option maxRecDepth 100000
set_option linter.unusedVariables false
namespace Mine
theorem fn_sa : typeLookup (.type "function") "__setattr__" = pure (some (.builtin "object.__setattr__")) := by rw [typeLookup_type, builtinLookup_eq_fast]; kernel_rfl
theorem fn_mro : mroOf (.type "function") = pure [.type "function", .type "object"] := by rw [mroOf_type]; kernel_rfl
theorem fn_passes (self : Value) : refuseLoop self "__setattr__" [.type "function", .type "object"] = pure () := by kernel_rfl
theorem fn_tells (a : Addr) : ownStreamTells (.ref a) (.type "function") = pure () := by kernel_rfl
theorem fn_made (a d : Addr) : dictMade (.type "function") a d = pure (some d) := by kernel_rfl
theorem fn_hasDict : typeHasDict (.type "function") = true := by decide +kernel
section
variable {C : Cx} {K : Frag} {A : Around} {σ σ₀ : Led} {Q : V → Led → Prop} {st dd : Addr} {fd : FuncData} {name : Str} {v : V}
theorem a_setfn {Qu : Unit → Led → Prop} (sb : Sb ((st, AO.fn none fd) :: σ₀) σ) (hlk : typeLookup (.type "function") name = pure none) (h : ∀ d, Qu () ((d, AO.attrs [name] [some v]) :: (st, AO.fn (some d) fd) :: σ₀)) : Op2 C RU A σ (fun a b => setAttr a name b) (.ref st) v Qu := by
  rintro s _ b H0 rfl rb
  have H := HR.sb sb H0
  obtain ⟨o, g, _, e⟩ := H.own _ (List.Mem.head _)
  have e : o = fnObj none fd := e
  subst e
  have hT : ∀ tk, ({ s with toks := tk } : Shared).TypeIs (.ref st) "function" := fun tk => ⟨_, g, rfl⟩
  have SF := PySem.F.store_object
  refine wpAny_bind (wpAny_mkText (wpAny_bind (wpAny_bind (wpAny_bind (wpAny_typeOf (hT _) (wpAny_of_eq fn_sa (wpAny_holding ?_)))))))
  rw [SF.slot.bind]
  refine wpAny_bind (wpAny_pure (wpAny_bind ?_))
  refine call_self (owner := "object") (n := "__setattr__") (.inr SF.kind) SF.split SF.slot.plain SF.entry (SF.args _ _ _) (fun A' Q' E' s' k q => wpAny_isInstance ⟨_, k _ _ g, rfl⟩ fn_sub q) ?_
  show wpAny _ _ (Builtin.«object.__setattr__» ⟨[.ref st, .str name s.toks, b], []⟩) _ _ _
  rw [osa_eq, refuse_eq]
  refine wpAny_bind (wpAny_bind (wpAny_typeOf (hT _) (wpAny_bind (wpAny_of_eq fn_mro ?_))))
  rw [fn_passes]
  refine wpAny_pure (wpAny_bind (wpAny_typeOf (hT _) (wpAny_bind (wpAny_of_eq hlk (wpAny_bind (wpAny_pure (a := none) ?_))))))
  show wpAny _ _ (storeInOwnDict (.ref st) (.type "function") _ name b _) _ _ _
  unfold storeInOwnDict
  refine wpAny_bind (wpAny_of_eq (fn_tells st) ?_)
  rw [if_neg (by decide)]
  refine wpAny_bind ?_
  unfold ownDictForStores instanceDict
  refine wpAny_bind (wpAny_loadPart g ?_)
  show wpAny _ _ (if (!true || !typeHasDict (.type "function")) = true then _ else _) _ _ _
  rw [fn_hasDict, if_neg (by decide)]
  refine wpAny_bind (wpAny_alloc ?_)
  generalize hd0 : s.heap.objs.size = d
  have g1 : (s.heap.push (dictOf [] 0)).get? st = some (fnObj none fd) := Heap.get?_push_of_some _ g
  have gd1 : (s.heap.push (dictOf [] 0)).get? d = some (dictOf [] 0) := by rw [← hd0]; exact Heap.get?_push_size _ rfl
  have H1 : HR C ((d, AO.attrs [] []) :: (st, AO.fn none fd) :: σ₀) { s with heap := s.heap.push (dictOf [] 0), toks := s.toks + 1 } :=
    H.add (s' := { s with heap := s.heap.push (dictOf [] 0), toks := s.toks + 1 }) (o := dictOf [] 0) (fun b o e => Heap.get?_push_of_some _ e) (by rw [hd0]; exact Nat.le_refl _) gd1 (Pl.dict rfl) ⟨List.nodup_nil, by simp, [], 0, rfl, rfl⟩ rfl rfl
  have tk1 : TK s.heap (s.heap.push (dictOf [] 0)) := TK.push _
  refine wpAny_bind (wpAny_update g1 ?_)
  refine wpAny_of_eq (fn_made _ _) ?_
  have sb2 : Heap.SameBut st (s.heap.push (dictOf [] 0)) ((s.heap.push (dictOf [] 0)).update st fun o => { cls := o.cls, dict := some d, data := o.data, slots := o.slots }) := Heap.SameBut.update ..
  have g2 : ((s.heap.push (dictOf [] 0)).update st fun o => { cls := o.cls, dict := some d, data := o.data, slots := o.slots }).get? st = some (fnObj (some d) fd) := by
    rw [Heap.get?_update_self _ g1 rfl]; rfl
  have U2 : LU st (AO.fn none fd) (AO.fn (some d) fd) ((d, AO.attrs [] []) :: (st, AO.fn none fd) :: σ₀) ((d, AO.attrs [] []) :: (st, AO.fn (some d) fd) :: σ₀) := .tail .head
  have H2 := H1.upd (s' := { s with heap := (s.heap.push (dictOf [] 0)).update st fun o => { cls := o.cls, dict := some d, data := o.data, slots := o.slots }, toks := s.toks + 1 }) U2 sb2 g2 (Pl.func rfl) rfl rfl rfl
  have tk2 := H2.2
  have H2 := H2.1
  generalize hh2 : ((s.heap.push (dictOf [] 0)).update st fun o => { cls := o.cls, dict := some d, data := o.data, slots := o.slots }) = h2 at H2 tk2
  obtain ⟨od, gd2, _, _, _, es, n, eo, er⟩ := H2.own _ (List.Mem.head _)
  have er : es = [] := er
  subst er
  subst eo
  have gd2 : h2.get? d = some (dictOf [] n) := gd2
  show wpAny _ _ (storeInDict d (.str name s.toks) name b) _ _ _
  unfold storeInDict
  refine wpAny_bind (wpAny_pure ?_)
  unfold nsSet
  have gd2' : h2.get? d = some { cls := .type "dict", data := .dict #[] n } := gd2
  refine wpAny_bind (wpAny_bind (wpAny_bind (wpAny_askSetting (wpAny_pure (wpAny_bind (wpAny_mkText (wpAny_bind (wpAny_loadPart (show h2.get? d = _ from gd2') ?_))))))))
  dsimp only
  have c : aRefKeyMayBeTheName name #[] = false := by rw [aRefKeyMayBeTheName_at]; simp
  rw [c]
  have U3 : LU d (AO.attrs [] []) (AO.attrs [name] [some v]) ((d, AO.attrs [] []) :: (st, AO.fn (some d) fd) :: σ₀) ((d, AO.attrs [name] [some v]) :: (st, AO.fn (some d) fd) :: σ₀) := .head
  have e1 : Obj.putName name (PyData.keyHash C.w.params name) (.str name (s.toks + 1)) b (dictOf [] n) = dictOf [⟨PyData.keyHash C.w.params name, .str name (s.toks + 1), b⟩] (putN name [] n) := putName_dict ..
  refine wpAny_updatePart gd2 ?_
  have hs3 : Heap.SameBut d h2 (h2.update d (Obj.putName name (PyData.keyHash C.w.params name) (.str name (s.toks + 1)) b)) := Heap.SameBut.update ..
  have tk3 := HR.tkUpd H2 U3 hs3
  have gg : (h2.update d (Obj.putName name (PyData.keyHash C.w.params name) (.str name (s.toks + 1)) b)).get? d = some (dictOf [⟨PyData.keyHash C.w.params name, .str name (s.toks + 1), b⟩] (putN name [] n)) := by
    rw [Heap.get?_update_self _ gd2 (by rw [e1]; rfl), e1]
  have tk : TK s.heap (h2.update d (Obj.putName name (PyData.keyHash C.w.params name) (.str name (s.toks + 1)) b)) := tk1.trans (tk2.trans tk3)
  refine wpAny_bind (wpAny_lookBehind gg (pastItsLine_dict (by simp [sizeLine_eq])) ?_)
  have H3 := H2.upd (s' := { s with heap := h2.update d (Obj.putName name (PyData.keyHash C.w.params name) (.str name (s.toks + 1)) b), toks := s.toks + 2 }) U3 hs3 gg (Pl.dict rfl)
    ⟨by simp, by simp, _, _, rfl, ⟨_, [], rfl, ⟨_, rfl⟩, fun x q => by cases q; exact rb.mono tk, rfl⟩⟩ rfl rfl
  exact wpAny_pure ⟨.none, rfl, wpAny_pure (wpAny_pure ⟨(), _, H3.1, trivial, tk, h d⟩)⟩
end
end Mine
end
section
open PySem PySem.W PySem.Calls PyProof.Rows PySem.Spec Builtin Builtin.ObjectAttr
set_option Elab.async false
set_option maxRecDepth 100000
set_option linter.unusedVariables false
namespace Mine
theorem ER.putNew {h : Heap} {x : Str} {v : V} {hs : Int} {w : Value} {t : Tok} (rw' : VR h v w) : ∀ {ks : List Str} {vs : List (Option V)} {es : List DictEntry}, ER h ks vs es → x ∉ ks → ER h (ks ++ [x]) (vs ++ [some v]) (putL x hs (.str x t) w es)
  | [], [], _, H, _ => by
    have : _ = [] := H
    subst this
    exact ⟨_, [], rfl, ⟨t, rfl⟩, fun y q => by cases q; exact rw', rfl⟩
  | k :: ks, u :: vs, _, H, hx => by
    obtain ⟨e, r, a, ⟨t', b⟩, c, d⟩ := H
    subst a
    unfold putL
    rw [if_neg (by rw [b, isStr_str]; simp; intro e; exact hx (by simp [e]))]
    exact ⟨e, _, rfl, ⟨t', b⟩, c, ER.putNew rw' d (fun q => hx (by simp [q]))⟩
  | [], _ :: _, _, H, _ => H.elim
  | _ :: _, [], _, H, _ => H.elim
section
variable {C : Cx} {K : Frag} {A : Around} {σ σ' : Led} {env : Env} {pos : Pos} {Q : V → Led → Prop} {x D d f fI : Addr} {name : Str} {v : V} {ks ks' : List Str} {vs vs' : List (Option V)} {expr : Bool} {xs : List V}
theorem a_setW {Qu : Unit → Led → Prop} (hC : C.Is K) (hi : IsI C σ x D d) (U : LU d (AO.attrs ks vs) (AO.attrs ks' vs') σ σ')
    (hw : ∀ h es w hs t, ks.Nodup → ER h ks vs es → VR h v w → ER h ks' vs' (putL name hs (.str name t) w es)) (nd' : ks'.Nodup) (hz : ks'.length ≤ 1000)
    (hs : (findIn K (.ref D) "__setattr__" == some (some (.builtin "object.__setattr__"))) = true) (hp : plainOver K D = true) (ht : (takerIn K D name == some none) = true) (hh : hasDictIn K D = true) (h : Qu () σ') : Op2 C RU A σ (fun a b => setAttr a name b) (.ref x) v Qu := by
  rintro s a b H rfl rb
  obtain ⟨ox, es, n, I, hd, D0, nd, z, r⟩ := instOf H hi U.mem
  have X : K.In s.heap := hC.isK ▸ H.bg.kin
  refine set_plain X I (beq_iff_eq.mp hs) (osa_open (s := { s with toks := s.toks + 1 }) X I hp (beq_iff_eq.mp ht) fun bb => ?_)
  obtain ⟨cd, hc, hd'⟩ := any_some hh
  obtain ⟨hx, hcl, hn, -⟩ := I
  obtain ⟨oc, odi, oda, osl⟩ := ox
  dsimp only at hcl hd hx
  subst hcl hd
  have tkU : ∀ hsh key, Heap.SameBut d s.heap (s.heap.update d (Obj.putName name hsh key b)) := fun _ _ => Heap.SameBut.update ..
  refine wpAny_bind (wpAny_pure (wpAny_bind (wpAny_bind (wpAny_loadPart hx (wpAny_bind (looks_clsIn X hc _ _ _ _ (fun _ _ e => e) ?_))))))
  rw [hd']
  refine wpAny_pure (a := some d) (wpAny_bind (wpAny_pure (wpAny_bind ?_)))
  unfold nsSet
  refine wpAny_bind (wpAny_bind (wpAny_askSetting (wpAny_pure (wpAny_bind (wpAny_mkText (wpAny_bind (wpAny_loadPart D0 ?_)))))))
  dsimp only
  have c : (!es.toArray.any (·.key.isStr name) && es.toArray.any (·.refKey)) = false := by
    rw [← Array.any_toList, ← Array.any_toList]
    simp [r.noRef]
  rw [aRefKeyMayBeTheName_at, c]
  refine wpAny_updatePart D0 ?_
  have hs := tkU (PyData.keyHash C.w.params name) (.str name (s.toks + 1))
  have tk := HR.tkUpd H U hs
  have e1 : Obj.putName name (PyData.keyHash C.w.params name) (.str name (s.toks + 1)) b (dictOf es n) = dictOf (putL name (PyData.keyHash C.w.params name) (.str name (s.toks + 1)) b es) (putN name es n) := putName_dict ..
  have er : ER (s.heap.update d (Obj.putName name (PyData.keyHash C.w.params name) (.str name (s.toks + 1)) b)) ks' vs' (putL name (PyData.keyHash C.w.params name) (.str name (s.toks + 1)) b es) := hw _ _ _ _ _ nd (r.mono tk) (rb.mono tk)
  have gg : (s.heap.update d (Obj.putName name (PyData.keyHash C.w.params name) (.str name (s.toks + 1)) b)).get? d = some (dictOf (putL name (PyData.keyHash C.w.params name) (.str name (s.toks + 1)) b es) (putN name es n)) := by
    rw [Heap.get?_update_self _ D0 (by rw [e1]; rfl), e1]
  refine wpAny_bind (wpAny_lookBehind gg (pastItsLine_dict (by rw [List.size_toArray, er.len, sizeLine_eq]; lia)) ?_)
  exact wpAny_pure ⟨(), σ', (H.upd (s' := { s with heap := s.heap.update d (Obj.putName name (PyData.keyHash C.w.params name) (.str name (s.toks + 1)) b), toks := s.toks + 2 }) U hs gg (Pl.dict rfl) ⟨nd', hz, _, _, rfl, er⟩ rfl rfl).1, trivial, tk, h⟩
theorem a_new {Qu : Unit → Led → Prop} (hC : C.Is K) (hi : IsI C σ x D d) (U : LU d (AO.attrs ks vs) (AO.attrs (ks ++ [name]) (vs ++ [some v])) σ σ') (hn : name ∉ ks) (nd : (ks ++ [name]).Nodup) (hz : (ks ++ [name]).length ≤ 1000)
    (hs : (findIn K (.ref D) "__setattr__" == some (some (.builtin "object.__setattr__"))) = true) (hp : plainOver K D = true) (ht : (takerIn K D name == some none) = true) (hh : hasDictIn K D = true) (h : Qu () σ') : Op2 C RU A σ (fun a b => setAttr a name b) (.ref x) v Qu :=
  a_setW hC hi U (fun _ _ _ _ _ _ r rv => ER.putNew rv r hn) nd hz hs hp ht hh h
theorem Fit.under {n : Nat} {A : Around} {D : Addr} {vals : List Value} (h : Fit (n + 1) A) : Fit n (A.under (.builtin "type.__call__" ⟨.ref D :: vals, []⟩)) := by
  refine ⟨h.1, ?_, ?_⟩
  · have e : (A.under (.builtin "type.__call__" ⟨.ref D :: vals, []⟩)).depth = A.depth + 1 := rfl
    have := h.2.1; rw [e]; lia
  · have e : (A.under (.builtin "type.__call__" ⟨.ref D :: vals, []⟩)).units = A.units + 1 := rfl
    have := h.2.2; rw [e]; lia
theorem c_make (hC : C.Is K) (hm : makesIn K D = true) (hi : (findIn K (.ref D) "__init__" == some (some (.ref fI))) = true) (hf : (typeIn K (.ref fI) == some (.type "function")) = true)
    (h : ∀ x d vals, CallC C (A.under (.builtin "type.__call__" ⟨.ref D :: vals, []⟩)) ((x, AO.inst D d) :: (d, AO.attrs [] []) :: σ) (.ref fI) (.ref x :: xs) (fun v σ' => v = .none ∧ Q (.ref x) σ')) : CallC C A σ (.ref D) xs Q := by
  rintro s _ vals H rfl r
  have X : K.In s.heap := hC.isK ▸ H.bg.kin
  obtain ⟨hh, g, dr, t, os⟩ := s
  refine make_core (makes_of X hm) (looks_findIn X (beq_iff_eq.mp hi)) (fun self => bind_fn X self (beq_iff_eq.mp hf)) (.inl rfl) ?_
  have H1 : HR C ((hh.objs.size, AO.attrs [] []) :: σ) ⟨hh.push emptyDict, g, dr, t, os⟩ := H.add (s' := ⟨hh.push emptyDict, g, dr, t, os⟩) (o := dictOf [] 0) (fun b o e => Heap.get?_push_of_some _ e) (Nat.le_refl _) (Heap.get?_push_size _ rfl) (Pl.dict rfl) ⟨List.nodup_nil, by simp, [], 0, rfl, rfl⟩ rfl rfl
  have H2 : HR C ((hh.objs.size + 1, AO.inst D hh.objs.size) :: (hh.objs.size, AO.attrs [] []) :: σ) ⟨(hh.push emptyDict).push (instObj D hh.objs.size), g, dr, t, os⟩ :=
    H1.add (s' := ⟨(hh.push emptyDict).push (instObj D hh.objs.size), g, dr, t, os⟩) (o := instObj D hh.objs.size) (fun b o e => Heap.get?_push_of_some _ e) (by show (hh.push emptyDict).objs.size ≤ _; rw [Heap.size_push]; exact Nat.le_refl _)
      (by heap_get) (Pl.data (by intro _ _ e; cases e) (by intro _ e; cases e)) ⟨rfl, rfl, rfl⟩ rfl rfl
  have tk : TK hh ((hh.push emptyDict).push (instObj D hh.objs.size)) := (TK.push _).trans (TK.push _)
  refine codeAny_mono (h (hh.objs.size + 1) hh.objs.size vals _ (.ref fI) (.ref (hh.objs.size + 1) :: vals) H2 rfl (VRs.cons rfl (r.mono tk))) fun r s' p => ?_
  cases r with
  | error e => exact (show False from p).elim
  | ok fl =>
    cases fl with
    | ret u =>
      obtain ⟨b, σ₁, H₁, r₁, k₁, rfl, q⟩ := p
      exact ⟨vr_none.mp r₁, .ref (hh.objs.size + 1), σ₁, H₁, rfl, tk.trans k₁, q⟩
    | next => exact (show False from p).elim
    | brk => exact (show False from p).elim
    | cont => exact (show False from p).elim
theorem kp_fn {fd : FuncData} {o : Option Addr} (hm : (f, AO.fn o fd) ∈ σ) : Kp C σ (.ref f) := fun s v H r => by
  cases vr_ref.mp r
  obtain ⟨ob, g, _, e⟩ := H.own _ hm
  have e : ob = fnObj o fd := e
  subst e
  obtain ⟨k, _, L⟩ := keeps_F (M := model C.prog C.w) s.heap (q := f) ⟨_, _, _, _, g⟩
  exact ⟨k, L⟩
theorem m_fnattr {Qm : V → List V → Led → Prop} {st dd : Addr} {fd : FuncData} (hm : (st, AO.fn (some dd) fd) ∈ σ) (hd : (dd, AO.attrs ks vs) ∈ σ) (hv : At name v ks vs) (hb : noBi v = true) (hlk : typeLookup (.type "function") name = pure none)
    (h : Qm v [] σ) : Mth C A σ (.ref st) name Qm := by
  rintro s _ pl H rfl
  obtain ⟨o, g, _, e⟩ := H.own _ hm
  have e : o = fnObj (some dd) fd := e
  subst e
  obtain ⟨od, g', _, nd, z, es, n, e, r⟩ := H.own _ hd
  subst e
  obtain ⟨w, gl, rw'⟩ := r.get nd hv
  have hT : s.TypeIs (.ref st) "function" := ⟨_, g, rfl⟩
  unfold WP getMethod
  refine wpAny_bind (wpAny_specialOf hT fn_ga ?_)
  show wpAny _ _ (if (Manifest.canonical "object.__getattribute__" != "object.__getattribute__") = true then _ else _) _ _ _
  rw [PySem.F.canon_object_ga, if_neg (by decide)]
  refine wpAny_bind (wpAny_specialOf hT fn_gattr ?_)
  refine wpAny_bind (wpAny_specialOf hT hlk ?_)
  show wpAny _ _ (getAttr (.ref st) name >>= fun u => pure (u, [])) _ _ _
  refine wpAny_bind (get_fnattr g rfl rfl rfl g' gl hlk (handed_vr rw' fun i e => by subst e; cases hb) (wpAny_pure ?_))
  exact ⟨(v, []), σ, H.toks, ⟨rw', VRs.nil⟩, TK.refl _, h⟩
end
end Mine
end
section
open PySem PySem.W PySem.Calls PyProof.Rows PySem.Spec Builtin Builtin.Str
set_option Elab.async false
set_option maxRecDepth 100000
set_option linter.unusedVariables false
namespace Mine
theorem indices_clip {n : Nat} {i j : Int} (h0 : 0 ≤ i) (h1 : 0 ≤ j) : strSliceIndices (some i) (some j) 1 n = strSliceIndices (some (min i n)) (some (min j n)) 1 n := by
  have a0 : ¬ i < 0 := by lia
  have a1 : ¬ j < 0 := by lia
  have a2 : ¬ (min i (n : Int) < 0) := by lia
  have a3 : ¬ (min j (n : Int) < 0) := by lia
  have a4 : (1 : Int) > 0 := by decide
  have e1 : min (min i (n : Int)) n = min i n := by lia
  have e2 : min (min j (n : Int)) n = min j n := by lia
  simp only [strSliceIndices, a0, a1, a2, a3, a4, if_false, if_true, e1, e2]
theorem slice_S (x : List Nat) (i j : Nat) (h : i ≤ j) : Txt.slice (S x) (some (i : Int)) (some (j : Int)) = S ((x.drop i).take (j - i)) := by
  have e : Txt.slice (S x) (some (i : Int)) (some (j : Int)) = Txt.slice (S x) (some ((min i x.length : Nat) : Int)) (some ((min j x.length : Nat) : Int)) := by
    have e1 : ((min i x.length : Nat) : Int) = min (i : Int) (x.length : Nat) := by lia
    have e2 : ((min j x.length : Nat) : Int) = min (j : Int) (x.length : Nat) := by lia
    unfold Txt.slice
    rw [indices_clip (Int.natCast_nonneg i) (Int.natCast_nonneg j), S_len, e1, e2]
  rw [e, beq_iff_eq.mp (slice_closesL (x := S x) (i := ((min i x.length : Nat) : Int)) (j := ((min j x.length : Nat) : Int)) (by lia) (by lia) (by rw [S_len]; lia)), S_cps]
  apply congrArg S
  apply List.ext_getElem?
  intro k
  simp only [List.getElem?_take, List.getElem?_drop]
  by_cases hk : k < (((min j x.length : Nat) : Int) - ((min i x.length : Nat) : Int)).toNat
  · rw [Int.toNat_sub] at hk
    have h2 : k < j - i := Nat.lt_of_lt_of_le hk (by lia)
    have h3 : (((min i x.length : Nat) : Int)).toNat = i := by rw [Int.toNat_natCast]; clear h2; lia
    rw [← Int.toNat_sub] at hk
    rw [if_pos hk, if_pos h2, h3]
  · rw [if_neg hk]
    by_cases h2 : k < j - i
    · rw [if_pos h2, List.getElem?_eq_none (by lia)]
    · rw [if_neg h2]
theorem item_S (x : List Nat) (i : Nat) (c : Nat) (h : x[i]? = some c) : Txt.item (S x) (i : Int) = S [c] :=
  item_meets (x := S x) (by lia) (by rw [Int.toNat_natCast]; simpa [S] using h)
theorem slice_from (x : List Nat) (i : Nat) (h : i ≤ x.length) : Txt.slice (S x) (some (i : Int)) none = S (x.drop i) := by
  rw [slice_from_eq (x := S x) (b := (x.length : Int)) (by lia) (by rw [S_len]; lia) (by rw [S_len]), S_cps]
  apply congrArg S
  rw [Int.toNat_natCast, List.take_of_length_le (by simp)]
section
variable {C : Cx} {K : Frag} {A : Around} {σ σ' : Led} {Q : V → Led → Prop} {f : V} {xs : List V}
theorem CallC.sb (k : Sb σ' σ) (h : CallC C A σ' f xs Q) : CallC C A σ f xs Q := fun s fv vs H r rr => h s fv vs (HR.sb k H) r rr
theorem Call.sb (k : Sb σ' σ) (h : Call C A σ' f xs Q) : Call C A σ f xs Q := fun s fv vs H r rr => h s fv vs (HR.sb k H) r rr
theorem tru_list {a : Addr} {l : List V} {Qb : Bool → Led → Prop} (hm : (a, AO.list l) ∈ σ) (hz : l.length ≤ sizeLine) (h : Qb (!l.isEmpty) σ) : Tru C A σ (.ref a) Qb := by
  rintro s _ H rfl
  obtain ⟨vs, L, r⟩ := listOf H hm
  rw [sizeLine_eq] at hz
  have e := r.length
  refine wpAny_truthy_list L (by rw [List.size_toArray]; lia) ?_
  have e2 : vs.toArray.isEmpty = l.isEmpty := by
    cases l <;> cases vs <;> simp_all
  rw [e2]
  exact ⟨_, σ, H.toks, rfl, TK.refl _, h⟩
theorem cmp_in1 {x : List Nat} {c : Nat} {Qv : V → Led → Prop} (h : Qv (.bool (decide (c ∈ x))) σ) : Cmp C A σ .In (.str (S [c])) (.str (S x)) Qv := by
  refine cmp_sin ?_
  have := StrLaws.found_one (S x) c
  rw [S_cps] at this
  rw [show (S [c]) = (⟨#[c]⟩ : Str) from rfl, this]
  exact h
theorem cmp_seqS {x y : List Nat} {Qv : V → Led → Prop} (h : Qv (.bool (x == y)) σ) : Cmp C A σ .Eq (.str (S x)) (.str (S y)) Qv := cmp_seq (by rw [S_cps, S_cps]; exact h)
theorem inp_catS {x y : List Nat} (hz : x.length + y.length ≤ sizeLine) (h : Q (.str (S (x ++ y))) σ) : Inp C A σ .Add (.str (S x)) (.str (S y)) Q := inp_cat (by rw [S_cat, S_len, List.length_append]; exact hz) (by rw [S_cat]; exact h)
theorem bin_catS {x y : List Nat} (hz : x.length + y.length ≤ sizeLine) (h : Q (.str (S (x ++ y))) σ) : Bin C A σ .Add (.str (S x)) (.str (S y)) Q := bin_cat (by rw [S_cat, S_len, List.length_append]; exact hz) (by rw [S_cat]; exact h)
end
theorem cs_0 {cs : List (Str × Addr)} (h : cs.map Prod.fst = []) : cs = [] := List.map_eq_nil_iff.mp h
theorem cs_c {cs : List (Str × Addr)} {x : Str} {r : List Str} (h : cs.map Prod.fst = x :: r) : ∃ a t, cs = (x, a) :: t ∧ t.map Prod.fst = r := by
  cases cs with
  | nil => cases h
  | cons p t => injection h with h1 h2; subst h1; exact ⟨p.2, t, rfl, h2⟩
theorem cs_1 {cs : List (Str × Addr)} {x : Str} (h : cs.map Prod.fst = [x]) : ∃ a, cs = [(x, a)] := by
  obtain ⟨a, t, rfl, h1⟩ := cs_c h
  cases List.map_eq_nil_iff.mp h1
  exact ⟨a, rfl⟩
theorem cs_2 {cs : List (Str × Addr)} {x y : Str} (h : cs.map Prod.fst = [x, y]) : ∃ a b, cs = [(x, a), (y, b)] := by
  obtain ⟨a, t, rfl, h1⟩ := cs_c h
  obtain ⟨b, rfl⟩ := cs_1 h1
  exact ⟨a, b, rfl⟩
theorem cs_3 {cs : List (Str × Addr)} {x y z : Str} (h : cs.map Prod.fst = [x, y, z]) : ∃ a b c, cs = [(x, a), (y, b), (z, c)] := by
  obtain ⟨a, t, rfl, h1⟩ := cs_c h
  obtain ⟨b, c, rfl⟩ := cs_2 h1
  exact ⟨a, b, c, rfl⟩
end Mine
end
section
open PySem PySem.W PySem.Calls PyProof.Rows PySem.Spec
set_option Elab.async false
set_option maxRecDepth 100000
set_option linter.unusedVariables false
namespace Mine
structure LxA where
  lx : Addr
  d : Addr
  st : Addr
  sd : Addr
  rd : Addr
  cR : Addr
  cA : Addr
  cT : Addr
  atl : Addr
  pb : Addr
  fdL : FuncData
  fdR : FuncData
noncomputable abbrev strsV (l : List (List Nat)) : List V := l.map fun x => V.str (S x)
noncomputable def wsS : Str := "\n\t\r "
theorem wsS_eq : wsS = S [10, 9, 13, 32] := by decide
noncomputable abbrev Lx (D : Addr) (L : LxA) (ln : Int) (toks : List (List Nat)) (x : List Nat) (pos : Nat) (σ : Led) : Led :=
  (L.lx, AO.inst D L.d) :: (L.d, AO.attrs ["lineno", "instream", "whitespace", "pushback"] [some (.int ln), some (.ref L.st), some (.str wsS), some (.ref L.pb)]) :: (L.pb, AO.list (strsV toks)) ::
  (L.st, AO.fn (some L.sd) L.fdL) :: (L.sd, AO.attrs ["read"] [some (.ref L.rd)]) :: (L.rd, AO.fn none L.fdR) :: (L.cR, AO.code L.fdR.qualname) :: (L.cA, AO.cell (some (.ref L.atl))) :: (L.cT, AO.cell (some (.str (S x)))) :: (L.atl, AO.list [.int (pos : Nat)]) :: σ
noncomputable def RL (KK : Params → Frag) (fdR : FuncData) (cR cA cT : Addr) : Prop := ∀ (C : Cx) (A : Around) (σ : Led) (rd atl : Addr) (x : List Nat) (pos : Nat) (Q : V → Led → Prop), C.Is (KK C.w.params) → Fit 3 A → x.length ≤ 1000000 →
  Q (.str (S ((x.drop pos).take 1))) ((rd, AO.fn none fdR) :: (cR, AO.code fdR.qualname) :: (cA, AO.cell (some (.ref atl))) :: (cT, AO.cell (some (.str (S x)))) :: (atl, AO.list [.int ((pos + 1 : Nat) : Int)]) :: σ) →
  CallC C A ((rd, AO.fn none fdR) :: (cR, AO.code fdR.qualname) :: (cA, AO.cell (some (.ref atl))) :: (cT, AO.cell (some (.str (S x)))) :: (atl, AO.list [.int (pos : Nat)]) :: σ) (.ref rd) [.int 1] Q
noncomputable def isWs (c : Nat) : Bool := decide (c ∈ [10, 9, 13, 32])
noncomputable def qd : List Nat → List Nat × Nat
  | [] => ([], 1)
  | 92 :: [] => ([], 3)
  | 92 :: d :: r => (d :: (qd r).1, (qd r).2 + 2)
  | c :: r => if c = 34 then ([], 1) else (c :: (qd r).1, (qd r).2 + 1)
noncomputable def bd : List Nat → List Nat × Nat
  | [] => ([], 1)
  | 92 :: [] => ([], 3)
  | 92 :: d :: r => (d :: (bd r).1, (bd r).2 + 2)
  | c :: r => if isWs c then ([], 1) else (c :: (bd r).1, (bd r).2 + 1)
noncomputable def tk : List Nat → List Nat × Nat
  | [] => ([], 1)
  | 92 :: [] => ([], 3)
  | 92 :: d :: r => (d :: (bd r).1, (bd r).2 + 2)
  | c :: r => if isWs c then ((tk r).1, (tk r).2 + 1) else if c = 34 then ((qd r).1, (qd r).2 + 1) else (c :: (bd r).1, (bd r).2 + 1)
theorem cmp_inW {C : Cx} {A : Around} {σ : Led} {Q : V → Led → Prop} {c : Nat} (h : Q (.bool (isWs c)) σ) : Cmp C A σ .In (.str (S [c])) (.str wsS) Q := by
  rw [wsS_eq]; exact cmp_in1 h
theorem asgs_nil {C : Cx} {A : Around} {env : Env} {σ : Led} {Q : Led → Prop} (h : Q σ) : Asgs C A env σ [] [] Q := h
theorem asgs_cons {C : Cx} {A : Around} {env : Env} {σ : Led} {t : Expr} {ts : List Expr} {v : V} {vs : List V} {Q : Led → Prop} (h : Asg C A env σ t v (fun σ₁ => Asgs C A env σ₁ ts vs Q)) : Asgs C A env σ (t :: ts) (v :: vs) Q := h
theorem g_strS {C : Cx} {A : Around} {σ : Led} {Q : V → Led → Prop} {x : List Nat} {i : Int} {n c : Nat} (hi : i = (n : Int)) (hx : x[n]? = some c) (hz : x.length ≤ 1000000) (h : Q (.str (S [c])) σ) : Op2 C VR A σ getItem (.str (S x)) (.int i) Q := by
  subst hi
  have hn : n < x.length := (List.getElem?_eq_some_iff.mp hx).1
  refine g_str (by rw [S_len]; lia) (by rw [S_len]; lia) (by rw [S_len, sizeLine_eq]; lia) ?_
  rw [item_S x n c hx]; exact h
theorem g_fromS {C : Cx} {A : Around} {σ : Led} {Q : V → Led → Prop} {x : List Nat} {a : Addr} {i : Int} {n : Nat} (hi : i = (n : Int)) (hn : n ≤ x.length) (hz : x.length ≤ 1000000) (h : Q (.str (S (x.drop n))) σ) : Op2 C VR A ((a, AO.slice (some i) none) :: σ) getItem (.str (S x)) (.ref a) Q := by
  subst hi
  refine g_str_slice (by rw [S_len, sizeLine_eq]; lia) ?_
  rw [slice_from x n hn]; exact h
end Mine
end
section
open PySem PySem.W PySem.Calls PyProof.Rows PySem.Spec
set_option Elab.async false
set_option maxRecDepth 100000
set_option linter.unusedVariables false
namespace Mine
section
variable {C : Cx} {A : Around} {σ τ : Led} {env cenv : Env} {elt : Expr} {x : Str} {px : Pos} {D L : Addr} {Qn : Led → Prop}
theorem cloop_map {a : Addr} {Xo : Nat → AO} {l : List V} {G : Led → Prop} (f : Nat → V) (sb : Sb ((D, AO.list []) :: (a, Xo 0) :: (cenv.locals, AO.fr [x] [none]) :: τ) σ) (I : Iter C A a Xo l G) (hG : ∀ acc u, G ((D, AO.list acc) :: (cenv.locals, AO.fr [x] [u]) :: τ)) (hz : l.length ≤ sizeLine)
    (hk : cenv.scope.kind = .function) (hl : cenv.kindOf x = some .local)
    (turn : ∀ i y acc, l[i]? = some y → acc.length ≤ i → Tr C VR A ((a, Xo (i + 1)) :: (D, AO.list acc) :: (cenv.locals, AO.fr [x] [some y]) :: τ) (eval elt cenv) (fun v σ₃ => v = f i ∧ Sb ((D, AO.list acc) :: (a, Xo (i + 1)) :: (cenv.locals, AO.fr [x] [some y]) :: τ) σ₃))
    (fin : ∀ u, Qn ((D, AO.list ((List.range l.length).map f)) :: (cenv.locals, AO.fr [x] [u]) :: τ)) : CLoop C A cenv elt (.Name x px) [] D Qn (.ref a) σ := by
  refine cloop_iter sb I (fun i acc σ' => ∃ u, acc = (List.range i).map f ∧ σ' = (cenv.locals, AO.fr [x] [u]) :: τ) ⟨none, rfl, rfl⟩ ?_ hz ?_ ?_
  · rintro i acc σ' ⟨u, rfl, rfl⟩; exact hG _ _
  · rintro i y acc σ' hy ha ⟨u, rfl, rfl⟩
    refine asg_name (st_loc (.tail (.tail .head)) .head ?_ hk hl)
    show Tests C A cenv _ [] _
    refine Tr.mono (turn i y _ hy ha) fun v σ₃ ⟨e, sb⟩ => ⟨_, sb, some y, ?_, rfl⟩
    rw [List.range_succ, List.map_append, e]; rfl
  · rintro acc σ' ⟨u, rfl, rfl⟩; exact fin u
theorem range_sb {a : Addr} {i e : Int} {n : Nat} {σ' : Led} (he : e = n) (h : Sb ((D, AO.list []) :: (a, AO.rit i e) :: σ') σ) : Sb ((D, AO.list []) :: (a, (fun k : Nat => AO.rit (i + k) ((n : Int) - k)) 0) :: σ') σ := by
  subst he
  have e1 : i + ((0 : Nat) : Int) = i := by lia
  have e2 : (n : Int) - ((0 : Nat) : Int) = n := by lia
  show Sb ((D, AO.list []) :: (a, AO.rit (i + ((0 : Nat) : Int)) ((n : Int) - ((0 : Nat) : Int))) :: σ') σ
  rw [e1, e2]; exact h
theorem cloop_rmap {a : Addr} {i e : Int} {n : Nat} (f : Nat → V) (he : e = n) (hA : A.handled = none) (sb : Sb ((D, AO.list []) :: (a, AO.rit i e) :: (cenv.locals, AO.fr [x] [none]) :: τ) σ) (hz : n ≤ sizeLine)
    (hk : cenv.scope.kind = .function) (hl : cenv.kindOf x = some .local)
    (turn : ∀ (k : Nat) acc X, k < n → acc.length ≤ k → Tr C VR A ((a, X) :: (D, AO.list acc) :: (cenv.locals, AO.fr [x] [some (.int (i + k))]) :: τ) (eval elt cenv) (fun v σ₃ => v = f k ∧ Sb ((D, AO.list acc) :: (a, X) :: (cenv.locals, AO.fr [x] [some (.int (i + k))]) :: τ) σ₃))
    (fin : ∀ u, Qn ((D, AO.list ((List.range n).map f)) :: (cenv.locals, AO.fr [x] [u]) :: τ)) : CLoop C A cenv elt (.Name x px) [] D Qn (.ref a) σ := by
  refine cloop_map f (range_sb he sb) (iter_range hA (i := i) (n := n)) (fun _ _ => trivial) (by rw [upto_len]; exact hz) hk hl (fun k y acc hy ha => ?_) (by rw [upto_len]; exact fin)
  obtain ⟨hk, rfl⟩ := upto_get hy
  exact turn k acc _ hk ha
end
end Mine
end
section
open PySem PySem.W PySem.Calls PyProof.Rows PySem.Spec
set_option Elab.async false
set_option maxRecDepth 100000
set_option linter.unusedVariables false
namespace Mine
noncomputable def TrA {α β : Type} (C : Cx) (R : Heap → β → α → Prop) (A : Around) (c : Code) (σ : Led) (t : Sem α) (Q : β → Led → Prop) : Prop :=
  ∀ s, HR C σ s → _root_.PySem.wpAt (model C.prog C.w) A c t (Post C R s.heap Q) No s
structure Cx.Main (C : Cx) (file : Str) : Prop where
  file : ((C.prog.main.file : Str) == file) = true
  sup : (C.prog.main.scope.names.lookup ("super" : Str)).isSome = false
section
variable {C : Cx} {A : Around} {σ : Led} {env : Env} {Qn : Led → Prop} {Qr : V → Led → Prop} {Qb Qc : Led → Prop} {pos : Pos} {e : Expr} {st : Stmt} {rest : List Stmt} {c : Code} {Q : V → Led → Prop}
theorem TrA.of {α β : Type} {R : Heap → β → α → Prop} {t : Sem α} {Q : β → Led → Prop} (h : Tr C R A σ t Q) : TrA C R A c σ t Q := fun s H => wpAt_of_wpAny (h s H)
theorem TrA.up {α β : Type} {R : Heap → β → α → Prop} {t : Sem α} {Q : β → Led → Prop} {s : Shared} {h : Heap} (k : TK h s.heap) (w : _root_.PySem.wpAt (model C.prog C.w) A c t (Post C R s.heap Q) No s) : _root_.PySem.wpAt (model C.prog C.w) A c t (Post C R h Q) No s :=
  ks_wpAt_mono w (fun a s' ⟨b, σ', x, y, z, q⟩ => ⟨b, σ', x, y, k.trans z, q⟩) fun _ _ e => e
noncomputable def XsA (C : Cx) (A : Around) (c : Code) (env : Env) (σ : Led) (st : List Stmt) (Qn : Led → Prop) (Qr : V → Led → Prop) (Qb Qc : Led → Prop) : Prop := TrA C FR A c σ (execs st env) (FQ Qn Qr Qb Qc)
noncomputable def XA (C : Cx) (A : Around) (c : Code) (env : Env) (σ : Led) (st : Stmt) (Qn : Led → Prop) (Qr : V → Led → Prop) (Qb Qc : Led → Prop) : Prop := TrA C FR A c σ (exec st env) (FQ Qn Qr Qb Qc)
theorem XA.of (h : X C A env σ st Qn Qr Qb Qc) : XA C A c env σ st Qn Qr Qb Qc := TrA.of h
theorem xsA_nil (h : Qn σ) : XsA C A c env σ [] Qn Qr Qb Qc := TrA.of (xs_nil h)
theorem xsA_cons (h : XA C A c env σ st (fun σ₁ => XsA C A c env σ₁ rest Qn Qr Qb Qc) Qr Qb Qc) : XsA C A c env σ (st :: rest) Qn Qr Qb Qc :=
  fun s H => ks_wpAt_execs_cons (ks_wpAt_mono (h s H) (fun f s₁ p => by
    obtain ⟨b, σ₁, H₁, r₁, k₁, q₁⟩ := p
    cases b with
    | next => cases r₁; exact TrA.up k₁ (q₁ s₁ H₁)
    | brk => cases r₁; exact ⟨.brk, σ₁, H₁, rfl, k₁, q₁⟩
    | cont => cases r₁; exact ⟨.cont, σ₁, H₁, rfl, k₁, q₁⟩
    | ret x => obtain ⟨v, rfl, r⟩ := r₁; exact ⟨.ret x, σ₁, H₁, ⟨v, rfl, r⟩, k₁, q₁⟩) fun _ _ e => e)
theorem xA_ret (h : TrA C VR A c σ (eval e env) Qr) : XA C A c env σ (.Return (some e) pos) Qn Qr Qb Qc :=
  fun s H => ks_wpAt_Return_some (ks_wpAt_mono (h s H) (fun a s₁ ⟨v, σ₁, H₁, r₁, k₁, q₁⟩ => post_ret H₁ r₁ k₁ q₁) fun _ _ e => e)
theorem xA_expr (h : TrA C VR A c σ (eval e env) (fun _ σ₁ => Qn σ₁)) (hi : interactive env = false := by rfl) (hs : swapsWith e none pos.line env = pure false := by rfl) : XA C A c env σ (.Expr e pos) Qn Qr Qb Qc :=
  fun s H => ks_wpAt_Expr_any (ks_wpAt_mono (h s H) (fun a s₁ ⟨v, σ₁, H₁, r₁, k₁, q₁⟩ => post_next H₁ k₁ q₁) fun _ _ e => e) hi hs
theorem eA_meth0 {o : Expr} {name : Str} {ap : Pos} {pl : Sem Bool}
    (h : TrA C VR A c σ (attributeBase o name env (eval o env)) (fun ov σ₁ => ∀ s a, HR C σ₁ s → VR s.heap ov a → WP C RP A s (getMethod a name pl) (fun p σ₂ => Kp C σ₂ p.1 ∧ Call C A σ₂ p.1 p.2 Q)))
    (he : eval (.Call (.Attribute o name ap) [] [] pos) env = (do
      let ov ← attributeBase o name env (eval o env)
      standAt ap.atName
      let (f, first) ← holding [ov] (getMethod ov name pl)
      callWith pos f first (backTo pos (starEach [] env)) []) := by rfl) :
    TrA C VR A c σ (eval (.Call (.Attribute o name ap) [] [] pos) env) Q := by
  intro s H
  refine ks_wpAt_MethodCall (pl := pl) (ks_wpAt_mono (h s H) (fun ov s₁ p => ?_) fun _ _ e => e) he
  obtain ⟨x, σ₁, H₁, r₁, k₁, q₁⟩ := p
  refine (q₁ s₁ ov H₁ r₁).run fun p s₂ q σ₂ H₂ r₂ k₂ q₂ => ?_
  obtain ⟨fv, first⟩ := p
  refine callWith_ (as := []) (env := env) (by rfl) ((es_nil (env := env) (pos := pos) (Ql := fun xs σ₃ => xs = [] ∧ σ₃ = σ₂) ⟨rfl, rfl⟩ s₂ H₂).run fun vs s₃ xs σ₃ H₃ r₃ k₃ q₃ => ?_)
  obtain ⟨rfl, rfl⟩ := q₃
  refine ⟨q₂.1 s₃ fv H₃ (r₂.1.mono k₃), ?_⟩
  have r₃ : vs = [] := r₃
  subst r₃
  rw [List.append_nil]
  exact (q₂.2 s₃ fv _ H₃ (r₂.1.mono k₃) (r₂.2.mono k₃)).up (k₁.trans (k₂.trans k₃))
noncomputable def AO.sup (D x Cl : Addr) : AO := ⟨fun _ o => o = ks_superObj D x Cl, fun _ h => h⟩
theorem super_base {K : Frag} {body : List Stmt} {q : Str} {scope : Scope} {p0 p1 : Pos} {attr : Str} {whole : Sem Value} {fd : FuncData} {ar : Arg} {vs : Array Value} {file : Str} {tf : Tok} {oc ccl cl : Value} {od cdd cld : Option Addr} {osl ccs csl : Array (Option Value)} {cdD : ClassData}
    {x d D Cl f cc cda L : Addr} {ks : List Str} {us : List (Option V)} (hC : C.Is K) (hM : C.Main file) (hi : IsI C σ x Cl d)
    (hf : K.lookup f = some ⟨oc, od, .func fd, osl⟩) (hp : (fd.params.posonlyargs ++ fd.params.args).head? = some ar) (hm : (L, AO.fr ks us) ∈ σ) (hv : At ar.arg (.ref x) ks us)
    (hcode : K.lookup cda = some ⟨ccl, cdd, .fields vs, ccs⟩) (hvs : vs[2]? = some (.str file tf))
    (hcell : K.lookup cc = some ⟨cl, cld, .cell (some (.ref D)), csl⟩) (hD : clsIn K D = some cdD) (hsub : mroIn K Cl (.ref D) = some true) (hsuper : nsIn K mainGlobals "super" = some none)
    (hat : (attr == ("__class__" : Str)) = false) (hks : scope.names.lookup ("super" : Str) = some .globalImplicit) (hkc : scope.names.lookup ("__class__" : Str) = some .free) (hka : scope.names.lookup ar.arg = some .local) (hk : scope.kind = .function)
    (hboot : bootBuiltins "super" = some (.type "super"))
    (h : ∀ so, Q (.ref so) ((so, AO.sup D x Cl) :: σ)) :
    TrA C VR A (.func body (ksEnv q scope L f (.ref cda) cc)) σ (attributeBase (.Call (.Name "super" p0) [] [] p1) attr (ksEnv q scope L f (.ref cda) cc) whole) Q := by
  intro s H
  obtain ⟨hh, g, dr, t, os⟩ := s
  have X : K.In hh := hC.isK ▸ H.bg.kin
  obtain ⟨oD, hD1, hD2⟩ : ∃ oD, hh.get? D = some oD ∧ oD.data = .cls cdD := by
    unfold clsIn at hD
    split at hD
    · rename_i c d cd' sl ho
      cases hD
      exact ⟨_, X _ _ ho, rfl⟩
    · cases hD
  obtain ⟨ox, hx, hxc, hxd, hxn⟩ := hi _ H
  refine ks_wpAt_super_base (env := ksEnv q scope L f (.ref cda) cc) hks hkc hat rfl (X _ _ hf) rfl hp rfl (X _ _ hcode) rfl hvs hM.file hM.sup ?_
  refine ks_loadName_global hk hks (loadGlobal_builtin (env := ksEnv q scope L f (.ref cda) cc) H.bg.gl (hC.globN _ hsuper) H.bg.bl ((hC.blt "super" (by decide)).trans hboot) ⟨rfl, ?_⟩)
  refine wpAny_loadName_free hk hkc rfl ⟨_, X _ _ hcell, rfl⟩ ?_
  refine n_loc' (env := ksEnv q scope L f (.ref cda) cc) H hm hv (fun w r => ?_) hk hka
  cases vr_ref.mp r
  refine ks_wpAny_isType_cls hD1 hD2 ⟨rfl, ?_⟩
  refine ks_wpAny_call_super hD1 hD2 hx hxc (fun c e => ?_) (looks_mroIn X hsub) (fun h' e k => ?_)
  · unfold notCls at hxn
    rw [e] at hxn
    exact Bool.noConfusion hxn
  · exact ⟨.ref hh.objs.size, _, H.add (s' := ⟨h', g, dr, t, os⟩) (X := AO.sup D x Cl) k (Nat.le_refl _) e (Pl.fields rfl (by intro e; cases e)) rfl rfl rfl, vr_ref.mpr rfl, fun _ _ e _ => k _ _ e, h _⟩
end
noncomputable def bbObj (ty id : String) (x : Addr) : Obj := { cls := .type ty, data := .fields #[.builtin id, .ref x] }
noncomputable def AO.bbi (ty id : String) (x : Addr) : AO := ⟨fun _ o => o = bbObj ty id x, fun _ h => h⟩
section
variable {prog : Program} {w : World} {A : Around} {E : Value → Shared → Prop} {h : Heap} {g : Array GenState} {d : Drawn} {t : Nat} {os : OsState}
theorem sup_ga {so D x Cl : Addr} {l₀ l : List Value} {K : Frag} {name : Str} {tk : Tok} {id ty0 ty gid : String} {G : Builtin} {Q : Fin → Shared → Prop}
    (hso : h.get? so = some (ks_superObj D x Cl)) (hno : Looks (model prog w) h (opaqueClassAbove (.ref Cl)) none)
    (hC : Looks (model prog w) h (mroOf (.ref Cl)) l₀) (hl : (l₀.dropWhile (· != .ref D)).drop 1 = l) (X : K.In h)
    (hf : alongIn K name l = some (some (.builtin id))) (hT : typeOf (.builtin id) = pure (.type ty0)) (slot : Slot ty0 "__get__" gid) (entry : entryFor table gid = some G) (args : ∀ a b c, argsOk gid ⟨[a, b, c], []⟩)
    (hxC : x ≠ Cl) (hn : (name == ("__class__" : Str)) = false)
    (run : ∀ {A : Around} {P : Fin → Shared → Prop} {E' : Value → Shared → Prop}, P (.done (.ret (.ref h.objs.size))) ⟨h.push (bbObj ty id x), g, d, t, os⟩ → wpAny (model prog w) A (G ⟨[.builtin id, .ref x, .ref Cl], []⟩) P E' ⟨h, g, d, t, os⟩)
    (hq : Q (.done (.ret (.ref h.objs.size))) ⟨h.push (bbObj ty id x), g, d, t, os⟩) :
    wpAny (model prog w) A (Builtin.«super.__getattribute__» ⟨[.ref so, .str name tk], []⟩) Q E ⟨h, g, d, t, os⟩ := by
  have hlk := slot.lookup
  have hne : (Value.ref x == Value.ref Cl) = false := by simp [hxC]
  have hTf : (⟨h, g, d, t, os⟩ : Shared).TypeIs (.builtin id) ty0 := hT
  have hdt : (ks_superObj D x Cl).data = .fields #[.ref D, .ref x, .ref Cl] := rfl
  have f0 : (#[.ref D, .ref x, .ref Cl] : Array Value)[0]? = some (.ref D) := rfl
  have f1 : (#[.ref D, .ref x, .ref Cl] : Array Value)[1]? = some (.ref x) := rfl
  have f2 : (#[.ref D, .ref x, .ref Cl] : Array Value)[2]? = some (.ref Cl) := rfl
  unfold Builtin.«super.__getattribute__»
  repeat (first
    | (with_reducible refine wpAny_field hso hdt f0 ?_) | (with_reducible refine wpAny_field hso hdt f1 ?_) | (with_reducible refine wpAny_field hso hdt f2 ?_)
    | (with_reducible refine ks_wpAny_notOpaque hno ?_)
    | (with_reducible refine Looks.at hC ?_; rw [hl])
    | (refine ks_forIn_along X (fun _ _ => rfl) rfl ?_ hf)
    | (with_reducible refine wpAny_typeOf hTf ?_)
    | (with_reducible refine wpAny_call_entry slot hTf entry ?_ (args _ _ _))
    | (with_reducible refine run ?_)
    | (with_reducible refine ⟨_, rfl, ?_⟩)
    | (simp only [hn, hne, Bool.or_false, Bool.false_eq_true, if_false])
    | wp_step
    | dsimp only)
  all_goals exact hq
end
end Mine
end
section
open PySem PySem.W PySem.Calls PyProof.Rows PySem.Spec
set_option Elab.async false
set_option maxRecDepth 100000
set_option linter.unusedVariables false
namespace Mine
theorem slot_md : Slot "method_descriptor" "__get__" "method_descriptor.__get__" :=
  .of (owner := "method_descriptor") (n := "__get__") (by rw [typeLookup_type, builtinLookup_eq_fast]; kernel_rfl) (by decide +kernel) (by decide +kernel) (by decide +kernel)
    (by first | exact .inl (by decide +kernel) | exact .inr (by decide +kernel)) (by rw [isSubtype_type]; kernel_rfl)
theorem slot_wd : Slot "wrapper_descriptor" "__get__" "wrapper_descriptor.__get__" :=
  .of (owner := "wrapper_descriptor") (n := "__get__") (by rw [typeLookup_type, builtinLookup_eq_fast]; kernel_rfl) (by decide +kernel) (by decide +kernel) (by decide +kernel)
    (by first | exact .inl (by decide +kernel) | exact .inr (by decide +kernel)) (by rw [isSubtype_type]; kernel_rfl)
theorem entry_md : entryFor table "method_descriptor.__get__" = some Builtin.«method_descriptor.__get__» := entryFor_of_tree (by kernel_rfl)
theorem entry_wd : entryFor table "wrapper_descriptor.__get__" = some Builtin.«wrapper_descriptor.__get__» := entryFor_of_tree (by kernel_rfl)
theorem args_md (a b c : Value) : argsOk "method_descriptor.__get__" ⟨[a, b, c], []⟩ := by unfold argsOk; kernel_rfl
theorem args_wd (a b c : Value) : argsOk "wrapper_descriptor.__get__" ⟨[a, b, c], []⟩ := by unfold argsOk; kernel_rfl
theorem type_pop : typeOf (.builtin "list.pop") = pure (.type "method_descriptor") := by show builtinType _ = _; rw [builtinType_eq_fast]; kernel_rfl
theorem type_init : typeOf (.builtin "list.__init__") = pure (.type "wrapper_descriptor") := by show builtinType _ = _; rw [builtinType_eq_fast]; kernel_rfl
theorem type_len : typeOf (.builtin "list.__len__") = pure (.type "wrapper_descriptor") := by show builtinType _ = _; rw [builtinType_eq_fast]; kernel_rfl
section
variable {prog : Program} {w : World} {A : Around} {E : Value → Shared → Prop} {s : Shared} {x Cl : Addr} {P : Fin → Shared → Prop}
theorem run_pop (hi : Looks (model prog w) s.heap (isInstance (.ref x) (.type "list")) true) (h : P (.done (.ret (.ref s.heap.objs.size))) { s with heap := s.heap.push (bbObj "builtin_function_or_method" "list.pop" x) }) :
    wpAny (model prog w) A (Builtin.«method_descriptor.__get__» ⟨[.builtin "list.pop", .ref x, .ref Cl], []⟩) P E s := by
  unfold Builtin.«method_descriptor.__get__»
  refine wpAny_bind (wpAny_of_eq (a := (.builtin "list.pop", some (.ref x), some (.ref Cl))) (by first | rfl | kernel_rfl) ?_)
  dsimp only
  simp only [show Manifest.toldItsClass.contains "list.pop" = false by decide +kernel, Bool.false_eq_true, if_false]
  try refine wpAny_bind (wpAny_pure ?_)
  refine wpAny_bind ?_
  refine wpAny_bind (wpAny_of_eq (a := (PySem.Str.ofString "pop", Value.type "list")) (by first | rfl | kernel_rfl) ?_)
  dsimp only
  refine wpAny_bind (hi.here ?_)
  refine wpAny_pure ?_
  exact wpAny_bind (wpAny_newObj_type (wpAny_pure h))
theorem run_init (hi : Looks (model prog w) s.heap (isInstance (.ref x) (.type "list")) true) (h : P (.done (.ret (.ref s.heap.objs.size))) { s with heap := s.heap.push (bbObj "method-wrapper" "list.__init__" x) }) :
    wpAny (model prog w) A (Builtin.«wrapper_descriptor.__get__» ⟨[.builtin "list.__init__", .ref x, .ref Cl], []⟩) P E s := by
  unfold Builtin.«wrapper_descriptor.__get__»
  refine wpAny_bind (wpAny_of_eq (a := (.builtin "list.__init__", some (.ref x), some (.ref Cl))) (by first | rfl | kernel_rfl) ?_)
  dsimp only
  refine wpAny_bind ?_
  refine wpAny_bind (wpAny_of_eq (a := (PySem.Str.ofString "__init__", Value.type "list")) (by first | rfl | kernel_rfl) ?_)
  dsimp only
  refine wpAny_bind (hi.here ?_)
  refine wpAny_pure ?_
  exact wpAny_bind (wpAny_newObj_type (wpAny_pure h))
theorem run_len (hi : Looks (model prog w) s.heap (isInstance (.ref x) (.type "list")) true) (h : P (.done (.ret (.ref s.heap.objs.size))) { s with heap := s.heap.push (bbObj "method-wrapper" "list.__len__" x) }) :
    wpAny (model prog w) A (Builtin.«wrapper_descriptor.__get__» ⟨[.builtin "list.__len__", .ref x, .ref Cl], []⟩) P E s := by
  unfold Builtin.«wrapper_descriptor.__get__»
  refine wpAny_bind (wpAny_of_eq (a := (.builtin "list.__len__", some (.ref x), some (.ref Cl))) (by first | rfl | kernel_rfl) ?_)
  dsimp only
  refine wpAny_bind ?_
  refine wpAny_bind (wpAny_of_eq (a := (PySem.Str.ofString "__len__", Value.type "list")) (by first | rfl | kernel_rfl) ?_)
  dsimp only
  refine wpAny_bind (hi.here ?_)
  refine wpAny_pure ?_
  exact wpAny_bind (wpAny_newObj_type (wpAny_pure h))
end
end Mine
end
section
open PySem PySem.W PySem.Calls PyProof.Rows PySem.Spec
set_option Elab.async false
set_option maxRecDepth 100000
set_option linter.unusedVariables false
namespace Mine
section
variable {prog : Program} {w : World} {A : Around} {E : Value → Shared → Prop} {h : Heap} {g : Array GenState} {d : Drawn} {t : Nat} {os : OsState}
theorem sup_gm {so D x Cl : Addr} {l₀ l : List Value} {K : Frag} {name : Str} {id ty0 ty gid : String} {G : Builtin} {pl : Sem Bool} {Q : Value × List Value → Shared → Prop}
    (hso : h.get? so = some (ks_superObj D x Cl)) (hno : Looks (model prog w) h (opaqueClassAbove (.ref Cl)) none)
    (hC : Looks (model prog w) h (mroOf (.ref Cl)) l₀) (hl : (l₀.dropWhile (· != .ref D)).drop 1 = l) (X : K.In h)
    (hf : alongIn K name l = some (some (.builtin id))) (hT : typeOf (.builtin id) = pure (.type ty0)) (slot : Slot ty0 "__get__" gid) (entry : entryFor table gid = some G) (args : ∀ a b c, argsOk gid ⟨[a, b, c], []⟩)
    (hxC : x ≠ Cl) (hn : (name == ("__class__" : Str)) = false)
    (run : ∀ {A : Around} {t : Nat} {P : Fin → Shared → Prop} {E' : Value → Shared → Prop}, P (.done (.ret (.ref h.objs.size))) ⟨h.push (bbObj ty id x), g, d, t, os⟩ → wpAny (model prog w) A (G ⟨[.builtin id, .ref x, .ref Cl], []⟩) P E' ⟨h, g, d, t, os⟩)
    (hq : Q (.ref h.objs.size, []) ⟨h.push (bbObj ty id x), g, d, t + 1, os⟩) :
    wpAny (model prog w) A (getMethod (.ref so) name pl) Q E ⟨h, g, d, t, os⟩ := by
  have hlk := PySem.F.ks_slot_super_ga.lookup
  have hcan := PySem.F.ks_canon_super_ga
  have hT' : ∀ t', (⟨h, g, d, t', os⟩ : Shared).TypeIs (.ref so) "super" := fun _ => ⟨_, hso, rfl⟩
  unfold getMethod
  refine wpAny_bind (wpAny_specialOf (hT' _) hlk ?_)
  show wpAny _ _ (if (Manifest.canonical "super.__getattribute__" != "object.__getattribute__") = true then _ else _) _ _ _
  rw [if_pos hcan]
  unfold getAttr getAttrBy
  refine wpAny_bind (wpAny_bind (wpAny_mkText (wpAny_holding (wpAny_bind (wpAny_typeOf (hT' _) (wpAny_bind (wpAny_of_eq hlk ?_)))))))
  show wpAny _ _ (getAttrByItsOwn (.ref so) (.str name t) (.type "super") (.builtin "super.__getattribute__") true false) _ _ _
  unfold getAttrByItsOwn hookBefore callGetattribute boundAndCalled
  refine wpAny_bind (wpAny_of_eq (show (if onTheHeap (.type "super") then typeLookup (.type "super") "__getattr__" else pure none) = pure none from rfl) ?_)
  refine wpAny_bind (wpAny_attempt (wpAny_holding ?_))
  show wpAny _ _ (bindSpecial (.builtin "super.__getattribute__") (.ref so) >>= _) _ _ _
  refine wpAny_bind (wpAny_of_eq (PySem.F.ks_slot_super_ga.bind _) ?_)
  refine wpAny_mono (Q := fun v s' => v = .ref h.objs.size ∧ s' = ⟨h.push (bbObj ty id x), g, d, t + 1, os⟩) (E := fun _ _ => False)
    (wpAny_call_entry PySem.F.ks_slot_super_ga (hT' _) PySem.F.ks_entry_super_ga (sup_ga hso hno hC hl X hf hT slot entry args hxC hn run ⟨_, rfl, rfl, rfl⟩) (PySem.F.ks_gaArgs_super _ _)) (fun v s' hv => ?_) fun _ _ z => z.elim
  obtain ⟨rfl, rfl⟩ := hv
  exact wpAny_pure (wpAny_pure hq)
end
section
variable {C : Cx} {K : Frag} {A : Around} {σ σ' : Led} {Q : V → Led → Prop} {x d D Cl so : Addr} {name : Str} {T : Value} {dc : Option Addr} {l : List V}
theorem m_sup {id ty0 ty gid : String} {G : Builtin} {Qm : V → List V → Led → Prop} (hC : C.Is K) (hso : (so, AO.sup D x Cl) ∈ σ) (hx : (x, AO.seq (.ref Cl) (some d) l) ∈ σ) (hl : mroIn K Cl (.type "list") = some true) (hno : nsIn K cStatics "thirdparty.any" = some none)
    (hf : ks_superIn K Cl D name = some (some (.builtin id))) (hT : typeOf (.builtin id) = pure (.type ty0)) (slot : Slot ty0 "__get__" gid) (entry : entryFor table gid = some G) (args : ∀ a b c, argsOk gid ⟨[a, b, c], []⟩) (hn : (name == ("__class__" : Str)) = false)
    (run : ∀ {A : Around} {s : Shared} {P : Fin → Shared → Prop} {E' : Value → Shared → Prop}, Looks (model C.prog C.w) s.heap (isInstance (.ref x) (.type "list")) true → P (.done (.ret (.ref s.heap.objs.size))) { s with heap := s.heap.push (bbObj ty id x) } → wpAny (model C.prog C.w) A (G ⟨[.builtin id, .ref x, .ref Cl], []⟩) P E' s)
    (h : ∀ q, Qm (.ref q) [] ((q, AO.bbi ty id x) :: σ)) : Mth C A σ (.ref so) name Qm := by
  rintro s a pl H rfl
  obtain ⟨hh, g, dr, t, os⟩ := s
  have X : K.In hh := hC.isK ▸ H.bg.kin
  obtain ⟨o, gso, _, e⟩ := H.own _ hso
  have e : o = ks_superObj D x Cl := e
  subst e
  obtain ⟨ox, hxx, hxc, hxd, hxn⟩ := isI_seq hx _ H
  obtain ⟨ox', vs, n, g', c', _, dt, _⟩ := seqOf H hx
  have IL : Looks (model C.prog C.w) hh (isInstance (.ref x) (.type "list")) true := (listTy_cls hC hl).inst _ _ _ H.bg.kin g' c'
  cases hc : clsIn K Cl with
  | none => unfold ks_superIn at hf; rw [hc] at hf; cases hf
  | some cd =>
    unfold ks_superIn at hf
    rw [hc] at hf
    have hxC : x ≠ Cl := by
      rintro rfl
      unfold clsIn at hc
      split at hc
      · rename_i c d cd' sl ho
        have e := X _ _ ho
        have hxx : hh.get? x = some ox := hxx
        rw [hxx] at e
        cases e
        exact Bool.noConfusion hxn
      · cases hc
    refine sup_gm gso (looks_opaque X hno) (l₀ := cd.mro) ?_ rfl X hf hT slot entry args hxC hn (fun q => run IL q) ?_
    · exact fun A Q E s k q => wpAny_bind ((looks_clsIn X hc) A _ E s k (wpAny_pure q))
    · exact ⟨(.ref hh.objs.size, []), _, H.add (s' := ⟨hh.push (bbObj ty id x), g, dr, t + 1, os⟩) (X := AO.bbi ty id x) (fun b o e => Heap.get?_push_of_some _ e) (Nat.le_refl _) (Heap.get?_push_size _ rfl) (Pl.fields rfl (by intro e; cases e)) rfl rfl rfl, ⟨vr_ref.mpr rfl, VRs.nil⟩, TK.push _, h _⟩
theorem LU.self {a : Addr} {X : AO} {σ : Led} (h : (a, X) ∈ σ) : LU a X X σ σ := by
  induction h with
  | head => exact .head
  | tail _ _ ih => exact .tail ih
noncomputable def Tree (C : Cx) (σ : Led) (B : Builtin) (args : List Value) (Q : V → Led → Prop) : Prop := ∀ (A : Around) s, HR C σ s → wpAny (model C.prog C.w) A (B ⟨args, []⟩) (fun fin s' => ∃ v, fin = .done (.ret v) ∧ Post C VR s.heap Q v s') No s
theorem b_pop (hT : ListTy C T) {y : V} (U : LU D (AO.seq T dc (l ++ [y])) (AO.seq T dc l) σ σ') (hz : (l ++ [y]).length ≤ sizeLine) (h : Q y σ') : Tree C σ Builtin.«list.pop» [.ref D] Q := by
  intro A s H
  obtain ⟨o, ws, n, g, c, d, dt, rl⟩ := seqOf H U.mem
  have e := rl.length
  obtain ⟨w, hw, rw'⟩ := rl.get (i := l.length) (x := y) (by simp)
  have hsz : ws.toArray.size = l.length + 1 := by rw [List.size_toArray, e]; simp
  have hne : ¬ ws.toArray.isEmpty = true := by
    intro he; have : ws.toArray.size = 0 := by simpa using he
    lia
  have hy : ws.toArray[ws.toArray.size - 1]? = some w := by rw [hsz]; simpa using hw
  have hpos : 0 < ws.toArray.size := by lia
  have hk : seqIndex? (-1) ws.toArray.size = some (ws.toArray.size - 1) := by
    rw [seqIndex_neg (by lia) (by lia)]; congr 1; lia
  have fin : ∀ s' : Shared, s'.heap.get? D = some o → s' = s → wpAny (model C.prog C.w) A (updateSeq D (fun xs => xs.eraseIdxIfInBounds (ws.toArray.size - 1))) (fun _ s' => Post C VR s.heap Q w s') No s' := by
    rintro s' _ rfl
    refine upd_seq hT H U hz (by simp at hz ⊢; lia) (fun h vs tk r => ⟨vs.take l.length, ?_, ?_⟩) fun s' H' tk => ⟨y, σ', H', rw'.mono tk, tk, h⟩
    · have e2 := r.length
      simp at e2
      rw [hsz]
      apply Array.toList_inj.mp
      simp [List.eraseIdx_eq_take_drop_succ, e2]
    · simpa using r.take l.length
  obtain ⟨oc, od, odt, osl⟩ := o
  dsimp only at dt c d
  subst dt
  obtain ⟨hp, gg, dd, tk, os⟩ := s
  wp_walk using wpAny_loadPart' g
  simp only [hk, hy, Option.bind_some, Option.map_some]
  show wpAny _ _ (updateSeq D (fun xs => xs.eraseIdxIfInBounds (ws.toArray.size - 1)) >>= fun _ => ret w) _ _ _
  refine wpAny_bind (wpAny_mono (fin _ g rfl) (fun _ s' p => wpAny_pure ⟨w, rfl, p⟩) fun _ _ x => x)
theorem b_init (hT : ListTy C T) (hm : (D, AO.seq T dc []) ∈ σ) (h : Q .none σ) : Tree C σ Builtin.«list.__init__» [.ref D] Q := by
  intro A s H
  obtain ⟨o, vs, n, g, c, d, dt, r⟩ := seqOf H hm
  have e0 : vs = [] := r
  subst e0
  show wpAny _ A (do let old ← Builtin.List.listItems (.ref D); Builtin.List.listUpdate (.ref D) (fun _ => #[]); letGo old.toList.reverse; ret .none) _ _ s
  refine wpAny_bind ?_
  unfold Builtin.List.listItems
  refine wpAny_bind (wpAny_seqItems g dt (wpAny_pure ?_))
  show wpAny _ A (updateSeq D (fun _ => #[]) >>= fun _ => letGo (#[] : Array Value).toList.reverse >>= fun _ => ret .none) _ _ s
  obtain ⟨U, _⟩ : ∃ U : LU D (AO.seq T dc []) (AO.seq T dc []) σ σ, True := ⟨LU.self hm, trivial⟩
  refine wpAny_bind (upd_seq hT H U (Nat.zero_le _) (Nat.zero_le _) (fun h vs tk r => ⟨[], rfl, VRs.nil⟩) fun s' H' tk => ?_)
  exact wpAny_bind (wpAny_letGo (wpAny_pure ⟨.none, rfl, .none, σ, H', rfl, tk, h⟩))
theorem b_len (hm : (D, AO.seq T dc l) ∈ σ) (hz : l.length ≤ sizeLine) (h : Q (.int l.length) σ) : Tree C σ Builtin.«list.__len__» [.ref D] Q := by
  intro A s H
  obtain ⟨o, ws, n, g, c, d, dt, rl⟩ := seqOf H hm
  obtain ⟨oc, od, odt, osl⟩ := o
  dsimp only at dt c d
  subst dt
  have e := rl.length
  show wpAny _ _ (do retInt (← seqSize D)) _ _ s
  unfold seqSize
  refine wpAny_bind (wpAny_bind (wpAny_loadPart' g ?_))
  refine wpAny_pure ?_
  unfold retInt
  refine wpAny_bind (wpAny_mkInt (wpAny_pure ?_))
  rw [show ((ws.toArray.size : Nat) : Int) = (l.length : Int) by rw [List.size_toArray, e]]
  exact ⟨_, rfl, done_int (h := s.heap) (d := s.drawn) H h⟩
end
end Mine
end
section
open PySem PySem.W PySem.Calls PyProof.Rows PySem.Spec
set_option Elab.async false
set_option maxRecDepth 100000
set_option linter.unusedVariables false
namespace Mine
section
variable {C : Cx} {K : Frag} {A : Around} {σ σ' : Led} {Q : V → Led → Prop} {x d D Cl q : Addr} {name : Str} {ty id : String} {T : Value} {dc : Option Addr} {l : List V} {B : Builtin}
theorem kp_bbi (hm : (q, AO.bbi ty id x) ∈ σ) (h1 : (Value.type ty != .type "method") = true) (h2 : (Value.type ty == .type "builtin_function_or_method" || Value.type ty == .type "method-wrapper") = true) : Kp C σ (.ref q) := by
  intro s v H r
  cases vr_ref.mp r
  obtain ⟨o, g, _, e⟩ := H.own _ hm
  have e : o = bbObj ty id x := e
  subst e
  refine ⟨.machine, ?_⟩
  unfold keeperOf
  refine (Looks.ld (part := none) g).andThen ?_
  simp only [bbObj, h1, h2, if_true]
  exact .now
theorem c_bbi (hm : (q, AO.bbi ty id x) ∈ σ) (h1 : (Value.type ty != .type "method") = true) (h2 : (Value.type ty == .type "method" || Value.type ty == .type "builtin_function_or_method" || Value.type ty == .type "method-wrapper") = true)
    (hq : (Code.builtin id ⟨[.ref x], []⟩).quiet = true) (hb : entryFor table id = some B)
    (ck : ∀ {A : Around} {s : Shared} {Q : Unit → Shared → Prop} {E : Value → Shared → Prop}, HR C σ s → Q () s → wpAny (model C.prog C.w) A (checkBoundCall id ⟨[.ref x], []⟩) Q E s) (tree : Tree C σ B [.ref x] Q) : Call C A σ (.ref q) [] Q := by
  rintro s fv vs H rfl r
  have e0 : vs = [] := r
  subst e0
  obtain ⟨o, g, _, e⟩ := H.own _ hm
  have e : o = bbObj ty id x := e
  subst e
  refine wpAny_call (codeAny_of_tree ?_)
  show wpAny _ A.in1 (callAny (.ref q) ⟨[], []⟩) _ _ s
  simp only [callAny]
  refine wpAny_bind (wpAny_load g ?_)
  simp only [bbObj, h1, h2, if_true]
  refine wpAny_bind (ck H ?_)
  refine wpAny_bind (wpAny_pure (wpAny_pure ?_))
  refine ⟨hq, codeAny_builtin hb (wpAny_mono (tree _ s H) (fun fin s' h' => ?_) fun _ _ e => e.elim)⟩
  obtain ⟨v, rfl, hv⟩ := h'
  exact hv
end
end Mine
end
section
open PySem PySem.W PySem.Calls PyProof.Rows PySem.Spec
set_option Elab.async false
set_option maxRecDepth 100000
set_option linter.unusedVariables false
namespace Mine
section
variable {C : Cx} {K : Frag} {A : Around} {σ : Led} {name qual : Str} {params : Arguments} {body : List Stmt} {scope : Scope} {cl : List (Str × Addr)} {dV kV doc pm cdv ct oc : Value} {an od : Option Addr} {osl : Array (Option Value)} {f : Addr} {xs : List V} {Q : V → Led → Prop} {n : Nat}
theorem call_defA {ks : List Str} {vs : List (Option V)} (hC : C.Is K) (ho : K.lookup f = some ⟨oc, od, .func (fnX name qual params body scope cl dV kV doc pm an cdv ct), osl⟩) (hcd : codeIn K cdv qual = true) (hfit : Fit (n + 1) A)
    (nd : ks.Nodup) (hcell : ∀ x ∈ scope.names, x.2 ≠ .cell)
    (hbind : ∀ s as, K.In s.heap → VRs s.heap xs as → ∃ binds, BindsTo s (fnX name qual params body scope cl dV kV doc pm an cdv ct) ⟨as, []⟩ binds ∧ (∀ y ∈ binds, scope.names.lookup y.1 = some .local) ∧ FrOk s.heap ks vs binds)
    (h : ∀ L A', Fit n A' → XsA C A' (.func body (envX qual scope L f cdv cl)) (envX qual scope L f cdv cl) ((L, AO.fr ks vs) :: σ) body (fun σ' => Drop Q .none σ') (fun v σ' => Drop Q v σ') (fun _ => False) (fun _ => False))
    (hco : scope.isCoroutine = false := by rfl) (hgen : scope.isGenerator = false := by rfl) (hk : scope.kind = .function := by rfl) : CallC C A σ (.ref f) xs Q := by
  cases hC.isK
  rintro s fv as H rfl ra
  obtain ⟨binds, hb, hl, hf⟩ := hbind s as H.bg.kin ra
  refine (ks_codeAny_call_defAt (fd := fnX name qual params body scope cl dV kV doc pm an cdv ct) (body := body) (binds := binds) hfit.room (H.bg.kin _ _ ho) rfl H.bg.nl (codeRec_of H.bg.kin hcd) rfl hb hcell hl (fun h₀ hns hk₁ => ?_) hco hgen hk)
  obtain ⟨o, es, ep, g, d, kk, fe⟩ := hns
  have lt : s.heap.objs.size < h₀.objs.size := Heap.lt_size g
  have tk : TK s.heap h₀ := fun _ _ e _ => hk₁ _ _ e
  have H' : HR C ((s.heap.objs.size, AO.fr ks vs) :: σ) { s with heap := h₀, toks := s.toks + binds.length } :=
    H.add (o := o) hk₁ (Nat.le_refl _) g (Pl.dict d)
      ⟨nd, es, ep, d, kk, fun p hp x e => by obtain ⟨w, e1, e2⟩ := hf p hp x e; exact ⟨w, by rw [fe]; exact e1, e2.mono tk⟩⟩ rfl rfl
  refine ks_wpAt_mono (h s.heap.objs.size (A.deeper (envX qual scope s.heap.objs.size f cdv cl)) hfit.deeper _ H') (fun fl s₁ p => ?_) fun _ _ e => e.elim
  obtain ⟨b, σ₁, H₁, r₁, k₁, q₁⟩ := p
  cases b with
  | next => cases r₁; obtain ⟨σ₂, k₂, q⟩ := q₁; exact ⟨.none, σ₂, HR.sb k₂ H₁, vr_none.mpr rfl, tk.trans k₁, q⟩
  | brk => exact q₁.elim
  | cont => exact q₁.elim
  | ret x => obtain ⟨v, rfl, r⟩ := r₁; obtain ⟨σ₂, k₂, q⟩ := q₁; exact ⟨x, σ₂, HR.sb k₂ H₁, r, tk.trans k₁, q⟩
end
section
variable {C : Cx} {K : Frag} {A : Around} {σ : Led} {x Cl d : Addr} {l : List V}
theorem ck_slot {id : String} (h : ∀ x, checkBoundCall id ⟨[.ref x], []⟩ = pure ()) {A : Around} {s : Shared} {Q : Unit → Shared → Prop} {E : Value → Shared → Prop} (x : Addr) (q : Q () s) : wpAny (model C.prog C.w) A (checkBoundCall id ⟨[.ref x], []⟩) Q E s := by
  rw [h x]; exact wpAny_pure q
theorem ck_init (x : Addr) : checkBoundCall "list.__init__" ⟨[.ref x], []⟩ = pure () := by kernel_rfl
theorem ck_len (x : Addr) : checkBoundCall "list.__len__" ⟨[.ref x], []⟩ = pure () := by kernel_rfl
end
end Mine
end
section
open PySem PySem.W PySem.Calls PyProof.Rows PySem.Spec
set_option Elab.async false
set_option maxRecDepth 100000
set_option linter.unusedVariables false
namespace Mine
theorem ck_pop_args (a : Value) : (match Manifest.signature? "list.pop" with | some sig => Bind.checkArgs "list.pop" { sig with full := "_Accumulator.pop" } ⟨[a], []⟩ | none => pure ()) = pure () := by
  rw [signature?_of (id := "list.pop") (n := ['p', 'o', 'p']) (o := ['t', 's', 'i', 'l']) (by kernel_rfl) PySem.F.owner_list]; kernel_rfl
theorem kind_pop : builtinKind "list.pop" = some .method := by decide +kernel
theorem var_pop : Manifest.varargsMethods.contains "list.pop" = false := by decide +kernel
section
variable {C : Cx} {K : Frag} {σ : Led} {x Cl d : Addr} {l : List V} {cd : ClassData}
theorem ck_pop (hC : C.Is K) (hx : (x, AO.seq (.ref Cl) (some d) l) ∈ σ) (hm : mroIn K Cl (.type "module") = some false) (hcd : clsIn K Cl = some cd) (hty : typeIn K (.ref Cl) = some (.type "type")) (hq : cd.qualname.toString = "_Accumulator")
    {A : Around} {s : Shared} {Q : Unit → Shared → Prop} {E : Value → Shared → Prop} (H : HR C σ s) (q : Q () s) : wpAny (model C.prog C.w) A (checkBoundCall "list.pop" ⟨[.ref x], []⟩) Q E s := by
  obtain ⟨hh, g, dr, t, os⟩ := s
  have X : K.In hh := hC.isK ▸ H.bg.kin
  obtain ⟨ox, hxx, hxc, hxd, hxn⟩ := isI_seq hx _ H
  have hnc : ∀ c, ox.data ≠ .cls c := fun c e => by unfold notCls at hxn; rw [e] at hxn; exact Bool.noConfusion hxn
  have T : Looks (model C.prog C.w) hh (typeOf (.ref x)) (.ref Cl) := hxc ▸ (Looks.ld hxx).andThen .now
  have IM : Looks (model C.prog C.w) hh (isInstance (.ref x) (.type "module")) false := T.andThen (looks_mroIn X hm)
  have ca := ck_pop_args
  unfold checkBoundCall
  cases hs : Manifest.signature? "list.pop" with
  | none => exact wpAny_pure q
  | some sig =>
    simp only [hs] at ca
    simp only [kind_pop]
    rw [if_neg (by decide)]
    refine wpAny_bind (IM.here ?_)
    rw [var_pop, if_neg (by decide)]
    refine wpAny_bind (ks_wpAny_isType_inst hxx hnc ?_)
    refine wpAny_bind (m := (if false = true then pure (Value.ref x) else typeOf (Value.ref x))) (T.here ?_)
    dsimp only
    refine wpAny_bind ((looks_clsIn X hcd).here ?_)
    refine wpAny_bind ((looks_typeIn X hty).here ?_)
    rw [if_pos (by decide)]
    have e : s!"{cd.qualname.toString}.{Bind.lastOf "list.pop"}" = "_Accumulator.pop" := by rw [hq]; decide +kernel
    refine wpAny_of_eq (a := ()) ?_ q
    show Bind.checkArgs "list.pop" { sig with full := s!"{cd.qualname.toString}.{Bind.lastOf "list.pop"}" } _ = _
    rw [e]; exact ca _
end
section
variable {C : Cx} {A : Around} {σ : Led} {env : Env} {pos : Pos} {c : Code} {Q : V → Led → Prop}
theorem eA_m0 {o : Expr} {name : Str} {ap : Pos} {pl : Sem Bool}
    (h : TrA C VR A c σ (attributeBase o name env (eval o env)) (fun ov σ₁ => Mth C A σ₁ ov name (fun f first σ₂ => Kp C σ₂ f ∧ Call C A σ₂ f first Q)))
    (he : eval (.Call (.Attribute o name ap) [] [] pos) env = (do
      let ov ← attributeBase o name env (eval o env)
      standAt ap.atName
      let (f, first) ← holding [ov] (getMethod ov name pl)
      callWith pos f first (backTo pos (starEach [] env)) []) := by rfl) :
    TrA C VR A c σ (eval (.Call (.Attribute o name ap) [] [] pos) env) Q :=
  eA_meth0 (pl := pl) (fun s H => ks_wpAt_mono (h s H) (fun v s' ⟨x, σ', H', r, k, q⟩ => ⟨x, σ', H', r, k, fun s a H r => q s a pl H r⟩) fun _ _ e => e) he
end
end Mine
end
section
open PySem PySem.W PySem.Calls PyProof.Rows PySem.Spec
set_option Elab.async false
set_option maxRecDepth 100000
set_option linter.unusedVariables false
namespace Mine
section
variable {C : Cx} {K : Frag} {A : Around} {σ : Led} {x D d : Addr} {name : Str} {ks : List Str} {vs : List (Option V)}
theorem m_any {Qm : V → List V → Led → Prop} {ga ty : String} {f : Value} {fV : V} (hC : C.Is K) (hi : IsI C σ x D d) (hd : (d, AO.attrs ks vs) ∈ σ) (hn : name ∉ ks)
    (hga : findIn K (.ref D) "__getattribute__" = some (some (.builtin ga))) (hcan : Manifest.canonical ga = "object.__getattribute__") (hk : findIn K (.ref D) "__getattr__" = some none)
    (hf : findIn K (.ref D) name = some (some f)) (ht : typeIn K f = some (.type ty)) (hty : (Value.type ty != .type "function" && Value.type ty != .type "method_descriptor" && Value.type ty != .type "wrapper_descriptor") = false)
    (hv : ∀ h, VR h fV f) (h : Qm fV [.ref x] σ) : Mth C A σ (.ref x) name Qm := by
  rintro s a pl H rfl
  obtain ⟨ox, es, n, I, od, D0, nd, _, r⟩ := instOf H hi hd
  have X : K.In s.heap := hC.isK ▸ H.bg.kin
  have fin : Post C RP s.heap (fun p σ' => Qm p.1 p.2 σ') (f, [.ref x]) s := ⟨(fV, [.ref x]), σ, H, ⟨hv _, VRs.cons rfl VRs.nil⟩, TK.refl _, h⟩
  unfold WP getMethod specialOf
  refine wpAny_bind (wpAny_bind (I.type.here ((looks_findIn X hga).here ?_)))
  dsimp only
  rw [hcan, if_neg (by decide)]
  refine wpAny_bind (wpAny_bind (I.type.here ((looks_findIn X hk).here ?_)))
  refine wpAny_bind (wpAny_bind (I.type.here ((looks_findIn X hf).here (wpAny_bind ((looks_typeIn X ht).here ?_)))))
  rw [hty, if_neg (by decide)]
  refine wpAny_bind (wpAny_loadPart I.at_ ?_)
  have hd := I.dict
  cases e : ox.dict with
  | none => exact wpAny_bind (wpAny_rule (wpAny_pure fin))
  | some dx =>
    rw [e] at hd
    refine wpAny_bind (wpAny_bind (wpAny_loadPart hd ?_))
    have e2 : lookIn name (dictOf es n) = some none := by rw [lookIn_dict, r.none hn]
    rw [nsLook_of e2]
    exact wpAny_pure (wpAny_bind (wpAny_rule (wpAny_pure fin)))
end
end Mine
end
section
open PySem PySem.W PySem.Calls PyProof.Rows PySem.Spec Builtin Builtin.ObjectAttr
set_option Elab.async false
set_option maxRecDepth 100000
set_option linter.unusedVariables false
namespace Mine
noncomputable def isRefV : Value → Bool
  | .ref _ => true
  | _ => false
noncomputable def isTyV (n : String) : Value → Bool
  | .type k => k == n
  | _ => false
noncomputable def listMro : List Value → Bool
  | [a, b, c] => isRefV a && (isTyV "list" b && isTyV "object" c)
  | _ => false
theorem isRefV_ {v : Value} (h : isRefV v = true) : ∃ a, v = .ref a := by
  cases v <;> first | exact ⟨_, rfl⟩ | cases h
theorem isTyV_ {n : String} {v : Value} (h : isTyV n v = true) : v = .type n := by
  cases v <;> first | cases h; done | rw [show _ = n from beq_iff_eq.mp h]
theorem refuse_list (self : Value) : refuseLoop self "__setattr__" [.type "list", .type "object"] = pure () := by kernel_rfl
theorem refuse_L (self : Value) {l : List Value} (e : listMro l = true) : refuseLoop self "__setattr__" l = pure () ∧ l.contains (.type "object") = true ∧ l.isEmpty = false := by
  rcases l with _ | ⟨x, _ | ⟨y, _ | ⟨z, _ | ⟨d, l⟩⟩⟩⟩
  · exact Bool.noConfusion e
  · exact Bool.noConfusion e
  · exact Bool.noConfusion e
  · obtain ⟨e0, e3⟩ := Bool.and_eq_true_iff.mp e
    obtain ⟨e1, e2⟩ := Bool.and_eq_true_iff.mp e3
    obtain ⟨c, rfl⟩ := isRefV_ e0
    cases isTyV_ e1
    cases isTyV_ e2
    exact ⟨by rw [refuseLoop_ref]; exact refuse_list self, by simp, rfl⟩
  · exact Bool.noConfusion e
section
variable {prog : Program} {w : World} {A : Around} {s : Shared} {K : Frag} {x C : Addr} {R : Result → Shared → Prop}
theorem osa_openL {ox : Obj} {od : Option Obj} {name : Str} {tk : Tok} {v : Value} {r : Option Value} (X : K.In s.heap) (I : InstAt s.heap x ox C od) (hp : (clsIn K C).any (fun cd => listMro cd.mro) = true) (ht : takerIn K C name = some r)
    (h : ∀ b, wpAny (model prog w) A.in1 (match r with | some a => setByDescriptor a (.ref x) v | none => storeInOwnDict (.ref x) (.ref C) (.str name tk) name v b)
      (fun fin s' => match fin with | .done f => R (.ok f) s' | .again c' => c'.quiet = true ∧ codeAny (model prog w) A c' R s') (fun e s' => R (.error e) s') s) :
    codeAny (model prog w) A (.call (.builtin "object.__setattr__") ⟨[.ref x, .str name tk, v], []⟩) R s := by
  have SF := PySem.F.store_object
  obtain ⟨cd, hc, ho'⟩ := any_some hp
  obtain ⟨ho, ob, ne⟩ := refuse_L (.ref x) ho'
  have sub : Looks (model prog w) s.heap (isInstance (.ref x) (.type "object")) true := I.type.andThen (looks_mroIn X (by unfold mroIn; rw [hc, Option.bind_some, if_neg (by rw [ne]; decide), ob]))
  refine codeAny_call_builtin SF.slot.plain SF.entry (@check_slot (model prog w) _ _ s "object.__setattr__" "object" "__setattr__" (.ref x) [.str name tk, v] [] _ SF.kind SF.split sub (SF.args (.ref x) (.str name tk) v) ?_)
  obtain ⟨attr, ha, hr⟩ := Option.bind_eq_some_iff.mp ht
  have hm : Looks (model prog w) s.heap (mroOf (.ref C)) cd.mro := (looks_clsIn X hc).andThen .now
  have L3 : Looks (model prog w) s.heap (storeTaker? attr) r := by
    cases attr with
    | none => cases hr; exact .now
    | some a =>
      obtain ⟨b, hb, rfl⟩ := Option.map_eq_some_iff.mp hr
      refine (looks_takesIn X hb).andThen ?_
      cases b <;> exact .now
  rw [osa_eq, refuse_eq]
  refine wpAny_bind (wpAny_bind (I.type.here (wpAny_bind (hm.here ?_))))
  rw [ho]
  refine wpAny_pure (wpAny_bind (I.type.here (wpAny_bind ((looks_findIn X ha).here (wpAny_bind (L3.here ?_))))))
  exact h _
end
section
variable {C : Cx} {K : Frag} {A : Around} {σ σ' : Led} {env : Env} {pos : Pos} {Q : V → Led → Prop} {x D d f fI : Addr} {name : Str} {v : V} {ks ks' : List Str} {vs vs' : List (Option V)} {expr : Bool} {xs : List V}
theorem a_setL {Qu : Unit → Led → Prop} (hC : C.Is K) (hi : IsI C σ x D d) (U : LU d (AO.attrs ks vs) (AO.attrs ks' vs') σ σ')
    (hw : ∀ h es w hs t, ks.Nodup → ER h ks vs es → VR h v w → ER h ks' vs' (putL name hs (.str name t) w es)) (nd' : ks'.Nodup) (hz : ks'.length ≤ 1000)
    (hs : (findIn K (.ref D) "__setattr__" == some (some (.builtin "object.__setattr__"))) = true) (hp : (clsIn K D).any (fun cd => listMro cd.mro) = true) (ht : (takerIn K D name == some none) = true) (hh : hasDictIn K D = true) (h : Qu () σ') : Op2 C RU A σ (fun a b => setAttr a name b) (.ref x) v Qu := by
  rintro s a b H rfl rb
  obtain ⟨ox, es, n, I, hd, D0, nd, z, r⟩ := instOf H hi U.mem
  have X : K.In s.heap := hC.isK ▸ H.bg.kin
  refine set_plain X I (beq_iff_eq.mp hs) (osa_openL (s := { s with toks := s.toks + 1 }) X I hp (beq_iff_eq.mp ht) fun bb => ?_)
  obtain ⟨cd, hc, hd'⟩ := any_some hh
  obtain ⟨hx, hcl, hn, -⟩ := I
  obtain ⟨oc, odi, oda, osl⟩ := ox
  dsimp only at hcl hd hx
  subst hcl hd
  have tkU : ∀ hsh key, Heap.SameBut d s.heap (s.heap.update d (Obj.putName name hsh key b)) := fun _ _ => Heap.SameBut.update ..
  refine wpAny_bind (wpAny_pure (wpAny_bind (wpAny_bind (wpAny_loadPart hx (wpAny_bind (looks_clsIn X hc _ _ _ _ (fun _ _ e => e) ?_))))))
  rw [hd']
  refine wpAny_pure (a := some d) (wpAny_bind (wpAny_pure (wpAny_bind ?_)))
  unfold nsSet
  refine wpAny_bind (wpAny_bind (wpAny_askSetting (wpAny_pure (wpAny_bind (wpAny_mkText (wpAny_bind (wpAny_loadPart D0 ?_)))))))
  dsimp only
  have c : (!es.toArray.any (·.key.isStr name) && es.toArray.any (·.refKey)) = false := by
    rw [← Array.any_toList, ← Array.any_toList]
    simp [r.noRef]
  rw [aRefKeyMayBeTheName_at, c]
  refine wpAny_updatePart D0 ?_
  have hs := tkU (PyData.keyHash C.w.params name) (.str name (s.toks + 1))
  have tk := HR.tkUpd H U hs
  have e1 : Obj.putName name (PyData.keyHash C.w.params name) (.str name (s.toks + 1)) b (dictOf es n) = dictOf (putL name (PyData.keyHash C.w.params name) (.str name (s.toks + 1)) b es) (putN name es n) := putName_dict ..
  have er : ER (s.heap.update d (Obj.putName name (PyData.keyHash C.w.params name) (.str name (s.toks + 1)) b)) ks' vs' (putL name (PyData.keyHash C.w.params name) (.str name (s.toks + 1)) b es) := hw _ _ _ _ _ nd (r.mono tk) (rb.mono tk)
  have gg : (s.heap.update d (Obj.putName name (PyData.keyHash C.w.params name) (.str name (s.toks + 1)) b)).get? d = some (dictOf (putL name (PyData.keyHash C.w.params name) (.str name (s.toks + 1)) b es) (putN name es n)) := by
    rw [Heap.get?_update_self _ D0 (by rw [e1]; rfl), e1]
  refine wpAny_bind (wpAny_lookBehind gg (pastItsLine_dict (by rw [List.size_toArray, er.len, sizeLine_eq]; lia)) ?_)
  exact wpAny_pure ⟨(), σ', (H.upd (s' := { s with heap := s.heap.update d (Obj.putName name (PyData.keyHash C.w.params name) (.str name (s.toks + 1)) b), toks := s.toks + 2 }) U hs gg (Pl.dict rfl) ⟨nd', hz, _, _, rfl, er⟩ rfl rfl).1, trivial, tk, h⟩
theorem a_newL {Qu : Unit → Led → Prop} (hC : C.Is K) (hi : IsI C σ x D d) (U : LU d (AO.attrs ks vs) (AO.attrs (ks ++ [name]) (vs ++ [some v])) σ σ') (hn : name ∉ ks) (nd : (ks ++ [name]).Nodup) (hz : (ks ++ [name]).length ≤ 1000)
    (hs : (findIn K (.ref D) "__setattr__" == some (some (.builtin "object.__setattr__"))) = true) (hp : (clsIn K D).any (fun cd => listMro cd.mro) = true) (ht : (takerIn K D name == some none) = true) (hh : hasDictIn K D = true) (h : Qu () σ') : Op2 C RU A σ (fun a b => setAttr a name b) (.ref x) v Qu :=
  a_setL hC hi U (fun _ _ _ _ _ _ r rv => ER.putNew rv r hn) nd hz hs hp ht hh h
end
end Mine
end
section
open PySem PySem.W PySem.Calls PyProof.Rows PySem.Spec
set_option Elab.async false
set_option maxRecDepth 100000
set_option linter.unusedVariables false
namespace Mine
theorem oldK_extL {h₀ h h' : Heap} (K : OldK h₀ h) {wr : List Addr} (ha : ∀ a ∈ wr, h₀.get? a = none) (hx : ∀ b o, b ∉ wr → h.get? b = some o → h'.get? b = some o) : OldK h₀ h' := by
  have ne : ∀ b o, h₀.get? b = some o → b ∉ wr := fun b o e q => by rw [ha b q] at e; cases e
  refine ⟨fun b o e => ?_, fun b o e => let ⟨o', ho'⟩ := K.there b o e; ⟨o', hx b o' (ne b o e) ho'⟩⟩
  rcases K.old b o e with x | ⟨t, hc, vs, more, hv, x⟩ | ⟨rfl, hc, ⟨o', es, n, ho', r⟩, z⟩
  · exact .inl (hx b _ (ne b o e) x)
  · exact .inr (.inl ⟨t, hc, vs, more, hv, hx b _ (ne b o e) x⟩)
  · exact .inr (.inr ⟨rfl, hc, ⟨o', es, n, hx _ _ (ne _ o e) ho', r⟩, fun key => by rw [OldK.staticOf_congr ((hx _ _ (ne _ o e) ho').trans ho'.symm) key]; exact z key⟩)
section
variable {C : Cx} {K : Frag} {A : Around} {σ : Led} {s s' : Shared}
theorem Bg.extL {h h' : Heap} {wr : List Addr} (B : Bg C h) (hf : ∀ a ∈ wr, C.Free a) (hs : ∀ b o, b ∉ wr → h.get? b = some o → h'.get? b = some o) : Bg C h' :=
  have ne : ∀ {b}, C.h₀.get? b ≠ none → b ∉ wr := fun {b} e q => e (hf b q).1
  { low := B.low
    old := oldK_extL B.old (fun a ha => (hf a ha).1) hs
    kin := fun b o e => hs _ _ (ne (B.low.K b o e)) (B.kin b o e)
    gl := B.gl.at' fun o e => hs _ o (ne B.low.g) e
    bl := B.bl.at' fun o e => hs _ o (ne B.low.b) e
    nl := let ⟨mc, x, y⟩ := B.nl; ⟨mc, x.at' fun o e => hs _ o (ne B.low.s) e, y⟩
    gt := fun p hp => by
      obtain ⟨ps, x, y⟩ := B.gt p hp
      refine ⟨ps, ?_, ?_⟩
      · obtain ⟨o, vs, file, tf, flags, tg, inF, text, tt, op, a, r1, r2, r3, r4, r5, r6, b, r⟩ := x
        exact ⟨o, vs, file, tf, flags, tg, inF, text, tt, op, hs _ _ (ne (B.low.t p hp).1) a, r1, r2, r3, r4, r5, r6, hs _ _ (ne (B.low.t p hp).2) b, r⟩
      · obtain ⟨⟨o, vs, a, r⟩, b⟩ := y
        exact ⟨⟨o, vs, hs _ _ (ne (B.low.t p hp).1) a, r⟩, hs _ _ (ne (B.low.t p hp).2) b⟩
    kept := fun q hq => hs _ _ (fun hm => (hf _ hm).2 q hq rfl) (B.kept q hq)
    kpf := B.kpf }
theorem HR.extL {wr : List Addr} (H : HR C σ s) (hf : ∀ a ∈ wr, C.Free a) (hn : ∀ a ∈ wr, a ∉ σ.map Prod.fst) (hp : ∀ a ∈ wr, ∀ o, s.heap.get? a = some o → Pl o)
    (hs : ∀ b o, b ∉ wr → s.heap.get? b = some o → s'.heap.get? b = some o) (hg : AllBare s'.gens ∧ ∀ (i : Nat) (x : GenState), C.gs[i]? = some x → s'.gens[i]? = some x) (ho : s'.os = s.os) : HR C σ s' ∧ TK s.heap s'.heap := by
  have tk : TK s.heap s'.heap := fun b o e c => by
    by_cases hb : b ∈ wr
    · exact absurd c (hp b hb o e)
    · exact hs b o hb e
  refine ⟨⟨H.bg.extL hf hs, fun p hp => ?_, H.fresh, H.nd, hg, ho ▸ H.os⟩, tk⟩
  obtain ⟨o, a, b, c⟩ := H.own p hp
  exact ⟨o, hs _ _ (fun hm => hn _ hm (List.mem_map_of_mem hp)) a, b, p.2.mono tk c⟩
end
end Mine
end
section
open PySem PySem.W PySem.Calls PyProof.Rows PySem.Spec
set_option Elab.async false
set_option maxRecDepth 100000
set_option linter.unusedVariables false
namespace Mine
noncomputable def GenW (C : Cx) (A : Around) (σ : Led) (h₀ : Heap) (a : Addr) (n : Nat) (F : Nat → Value → Prop) (s : Shared) : Prop :=
  ∃ fp wr g St, WalksS C.prog C.w A.in4 a fp wr (GenOnlyQ g) n F St ∧ St 0 s ∧ (∀ i s', St i s' → s'.TypeIs (.ref a) "generator") ∧ a ∈ fp ∧ (∀ b ∈ fp, b < s.heap.objs.size) ∧
    ∀ s' : Shared, (∀ b o, b ∉ wr → s.heap.get? b = some o → s'.heap.get? b = some o) → GenOnlyQ g s.gens s'.gens → s'.os = s.os → HR C σ s' ∧ TK h₀ s'.heap
noncomputable def pairV (p : List Nat × List Nat) : V := .tup [.str (S p.1), .str (S p.2)]
noncomputable def QElt (C : Cx) (cenv : Env) (xa xb : Str) (elt : Expr) (ps : List (List Nat × List Nat)) (F : Nat → Value → Prop) : Prop :=
  ∀ (A' : Around) (E' : Value → Shared → Prop) i p ta tb (s₂ : Shared) m₂, A'.handled = none → Bg C s₂.heap → ps[i]? = some p → s₂.heap.Ns cenv.locals m₂ → m₂ xa = some (.str (S p.1) ta) → m₂ xb = some (.str (S p.2) tb) →
    wpAny (model C.prog C.w) A' (eval elt cenv) (fun y s₃ => F i y ∧ Keeps s₂ s₃) E' s₂
section
variable {C : Cx} {K : Frag} {A : Around} {σ : Led} {s : Shared}
end
end Mine
end
section
open PySem PySem.W PySem.Calls PyProof.Rows PySem.Spec PySem.SeqAt
set_option Elab.async false
set_option maxRecDepth 100000
set_option linter.unusedVariables false
namespace Mine
section
variable {C : Cx} {K : Frag} {A : Around} {σ : Led} {x D d f a b : Addr} {ks : List Str} {vs : List (Option V)} {Q : V → Led → Prop} {n : Nat}
theorem bin_ladd {l m : List V} (ha : (a, AO.list l) ∈ σ) (hb : (b, AO.list m) ∈ σ) (hz : l.length + m.length ≤ sizeLine) (h : ∀ c, Q (.ref c) ((c, AO.list (l ++ m)) :: σ)) : Bin C A σ .Add (.ref a) (.ref b) Q := by
  rintro s _ _ H rfl rfl
  obtain ⟨oa, ws, na, ga, ca, da, ta, ra⟩ := seqOf H ha
  obtain ⟨ob, ys, nb, gb, cb, db, tb, rb⟩ := seqOf H hb
  refine concat_meets ⟨_, ga, ca⟩ ⟨_, gb, cb⟩ noFill_list_add seq_list_add F.slot_list_add F.entry_list_add (F.args_list_add_2 _ _) (list_addW a b ws.toArray ys.toArray na nb oa.dict ob.dict oa.slots ob.slots (by rw [List.size_toArray, List.size_toArray, ra.length, rb.length]; exact hz)) ?_
  obtain ⟨oc, od, ot, os⟩ := oa
  obtain ⟨oc', od', ot', os'⟩ := ob
  dsimp only at *
  subst ca ta cb tb
  refine ⟨ga, gb, ?_⟩
  have tk : TK s.heap (s.heap.push { cls := .type "list", data := .seq (ws.toArray ++ ys.toArray) }) := TK.push _
  refine ⟨.ref s.heap.objs.size, _, H.add (X := AO.list (l ++ m)) (fun b o e => Heap.get?_push_of_some _ e) (Nat.le_refl _) (Heap.get?_push_size _ rfl)
    (Pl.seq (show Value.type "list" ≠ Value.type "tuple" by decide) rfl) ⟨⟨rfl, rfl⟩, ws ++ ys, 0, by simp, (ra.append rb).mono tk⟩ rfl rfl, vr_ref.mpr rfl, tk, h _⟩
noncomputable def leaf : V → Bool
  | .none | .bool _ | .int _ | .str _ => true
  | _ => false
noncomputable def flatD : V → Bool
  | .tup l => l.all leaf
  | v => leaf v
theorem eq_leaf {s : Shared} {v : V} {y z : Value} (hl : leaf v = true) (ry : VR s.heap v y) (rz : VR s.heap v z) : EqAt A s y z true := by
  cases v with
  | none => cases vr_none.mp ry; cases vr_none.mp rz; exact EqAt.same _
  | bool b => cases vr_bool.mp ry; cases vr_bool.mp rz; exact EqAt.same _
  | int i =>
    obtain ⟨t, rfl⟩ := vr_int.mp ry; obtain ⟨u, rfl⟩ := vr_int.mp rz
    have := EqAt.int_int (A := A) (s := s) i t i u; rwa [beq_self_eq_true] at this
  | str i =>
    obtain ⟨t, rfl⟩ := vr_str.mp ry; obtain ⟨u, rfl⟩ := vr_str.mp rz
    have := EqAt.str_str (A := A) (s := s) i t i u; rwa [beq_self_eq_true] at this
  | _ => exact Bool.noConfusion hl
theorem all_true (n : Nat) : (List.range n).all (fun _ => true) = true := by simp
theorem eq_flat {s : Shared} {v : V} {y z : Value} (hu : A.units < cLine) (hl : flatD v = true) (ry : VR s.heap v y) (rz : VR s.heap v z) : EqAt A s y z true := by
  cases v with
  | tup l =>
    obtain ⟨p, ps, rfl, gp, rp⟩ := vr_tup.mp ry
    obtain ⟨q, qs, rfl, gq, rq⟩ := vr_tup.mp rz
    by_cases e : p = q
    · subst e; exact EqAt.same _
    · have hsz : ps.toArray.size = qs.toArray.size := by rw [List.size_toArray, List.size_toArray, rp.length, rq.length]
      have X := RcAt.tuples (A := A) (s := s) (l := p) (b := q) (items := ps.toArray) (items2 := qs.toArray) (e := fun _ => true) ⟨_, gp, rfl, 0, rfl⟩ ⟨_, gq, rfl, 0, rfl⟩ hu (fun j h1 h2 => by
        have h1' : j < l.length := by rw [← rp.length]; simpa using h1
        have el : l[j]? = some l[j] := List.getElem?_eq_getElem h1'
        obtain ⟨u, eu, ru⟩ := rp.get el
        obtain ⟨w, ew, rw'⟩ := rq.get el
        obtain ⟨_, eu⟩ := List.getElem?_eq_some_iff.mp eu
        obtain ⟨_, ew⟩ := List.getElem?_eq_some_iff.mp ew
        simp only [List.getElem_toArray]
        rw [eu, ew]
        exact eq_leaf (List.all_eq_true.mp hl _ (List.getElem_mem h1')) ru rw')
      rw [hsz, Nat.min_self, all_true, beq_self_eq_true] at X
      exact EqAt.of_refs e X
  | none => exact eq_leaf (v := V.none) rfl ry rz
  | bool b => exact eq_leaf (v := V.bool b) rfl ry rz
  | int b => exact eq_leaf (v := V.int b) rfl ry rz
  | str b => exact eq_leaf (v := V.str b) rfl ry rz
  | _ => cases hl
theorem eq_items {s : Shared} {l : List V} {ps qs : List Value} (hu : A.units < cLine) (hl : l.all flatD = true) (rp : VRs s.heap l ps) (rq : VRs s.heap l qs) (j : Nat) (h1 : j < ps.toArray.size) (h2 : j < qs.toArray.size) :
    EqAt A s ps.toArray[j] qs.toArray[j] true := by
  have h1' : j < l.length := by rw [← rp.length]; simpa using h1
  have el : l[j]? = some l[j] := List.getElem?_eq_getElem h1'
  obtain ⟨u, eu, ru⟩ := rp.get el
  obtain ⟨w, ew, rw'⟩ := rq.get el
  obtain ⟨_, eu⟩ := List.getElem?_eq_some_iff.mp eu
  obtain ⟨_, ew⟩ := List.getElem?_eq_some_iff.mp ew
  simp only [List.getElem_toArray]
  rw [eu, ew]
  exact eq_flat hu (List.all_eq_true.mp hl _ (List.getElem_mem h1')) ru rw'
theorem cmp_lne {l : List V} (hA : Fit 1 A) (ha : (a, AO.list l) ∈ σ) (hb : (b, AO.list l) ∈ σ) (hl : l.all flatD = true) (h : Q (.bool false) σ) : Cmp C A σ .NotEq (.ref a) (.ref b) Q := by
  rintro s _ _ H rfl rfl
  obtain ⟨ps, La, rp⟩ := listOf H ha
  obtain ⟨qs, Lb, rq⟩ := listOf H hb
  refine EqBoolInt.of_rcne (k := false) ?_ (done_bool H h)
  have X := RcNeAt.lists (e := fun _ => true) La Lb (by rw [List.size_toArray, List.size_toArray, rp.length, rq.length]) hA.units (eq_items hA.in1.units hl rp rq)
  rw [all_true] at X
  exact X
theorem c_lrange {i j : Int} (hA : A.handled = none) (hm : (b, AO.range i j) ∈ σ) (hi : -(2 ^ 62) ≤ i) (hi' : i < 2 ^ 62) (hj : -(2 ^ 62) ≤ j) (hj' : j < 2 ^ 62) (hz : (j - i).toNat ≤ 2 ^ 20) (h : ∀ a, Q (.ref a) ((a, AO.list (upto i (j - i).toNat)) :: σ)) : Call C A σ (.type "list") [.ref b] Q := by
  rintro s fv vs' H rfl r
  simp only [VRs] at r
  obtain ⟨_, _, rfl, rfl, rfl⟩ := r
  obtain ⟨o, g, _, t, u, v, rfl⟩ := H.own _ hm
  have hsm : Builtin.Range.small i j 1 = true := small_one hi hi' hj hj'
  have hn : Builtin.Range.rangeSize i j 1 = ((j - i).toNat : Int) := by
    unfold Builtin.Range.rangeSize
    rw [if_pos (by decide)]
    by_cases e : i < j
    · rw [if_pos e, Int.ediv_one]; lia
    · rw [if_neg e]; lia
  refine call_list_range (n := (j - i).toNat) hA g hsm hn (by lia) fun h' tk acc' c' hk hS' hacc => ?_
  have H' : HR C ((s.heap.objs.size, AO.list (upto i (j - i).toNat)) :: σ) { s with heap := h', toks := tk } := H.add (s' := { s with heap := h', toks := tk }) hk (Nat.le_refl _) hS' (Pl.seq (show Value.type "list" ≠ Value.type "tuple" by decide) rfl) ⟨⟨rfl, rfl⟩, acc'.toList, c', by simp, ?_⟩ rfl rfl
  · exact ⟨_, _, H', vr_ref.mpr rfl, fun _ _ e _ => hk _ _ e, h _⟩
  · have gen : ∀ (m : Nat) (l : List Value) (i : Int), l.length = m → (∀ (k : Nat) (v : Value), l[k]? = some v → ∃ t, v = Value.int (i + (k : Nat)) t) → VRs h' (upto i m) l := by
      intro m
      induction m with
      | zero => intro l i e _; rw [List.eq_nil_of_length_eq_zero e]; exact VRs.nil
      | succ m ih =>
        intro l i e hl
        cases l with
        | nil => cases e
        | cons v r =>
          obtain ⟨t, e0⟩ := hl 0 v rfl
          have : upto i (m + 1) = .int i :: upto (i + 1) m := by
            unfold upto
            rw [List.range_succ_eq_map, List.map_cons, List.map_map]
            congr 1
            · simp
            · exact List.map_congr_left fun k _ => by simp only [Function.comp]; congr 1; lia
          rw [this]
          refine VRs.cons (vr_int.mpr ⟨t, by rw [e0]; simp⟩) (ih r (i + 1) (by simpa using e) fun k w hw => ?_)
          obtain ⟨t, e1⟩ := hl (k + 1) w (by simpa using hw)
          exact ⟨t, by rw [e1]; congr 1; lia⟩
    refine gen _ _ _ (by rw [Array.length_toList]; exact hacc.1) fun k v hv => ?_
    obtain ⟨t, rfl⟩ := hacc.2 k v (by simpa using hv)
    exact ⟨t, by rw [Int.mul_one]⟩
theorem c_sum {ns : List Int} (hA : A.handled = none) (hm : (a, AO.list (ns.map V.int)) ∈ σ) (h : Q (.int ns.sum) σ) : Call C A σ (.bi "sum") [.ref a] Q := by
  rintro s fv vs' H rfl r
  simp only [VRs] at r
  obtain ⟨_, _, rfl, rfl, rfl⟩ := r
  obtain ⟨ws, La, rw'⟩ := listOf H hm
  refine call_sum_walkAnyS (wpAny_pyIter_list La ?_)
  have hne : a ≠ s.heap.objs.size := by obtain ⟨o, g, _⟩ := La; exact Nat.ne_of_lt (Heap.lt_size g)
  have H1 : HR C σ { s with heap := s.heap.push { cls := .type "list_iterator", data := .fields #[.ref a, .int 0 0] } } := H.grow (fun b o e => Heap.get?_push_of_some _ e) rfl rfl
  have len : ws.length = ns.length := by rw [rw'.length, List.length_map]
  refine ⟨s.heap.objs.size, _, _, _, _, _, _, fun i => ns.getD i 0, rfl, (Walks.list (A := A.in1) hA s.heap.objs.size a hne ws.toArray).toS, ⟨⟨_, Heap.get?_push_size _ rfl, rfl, rfl⟩, La.at fun o e => Heap.get?_push_of_some _ e⟩, ?_, ?_, ?_⟩
  · intro b hb
    show b < (s.heap.push _).objs.size
    rw [Heap.size_push]
    simp only [List.mem_cons, List.not_mem_nil, or_false] at hb
    rcases hb with rfl | rfl
    · exact Nat.lt_succ_self _
    · obtain ⟨o, g, _⟩ := La; exact Nat.lt_succ_of_lt (Heap.lt_size g)
  · intro i v hv
    rw [List.getElem?_toArray] at hv
    have hi : i < ns.length := by rw [← len]; exact (List.getElem?_eq_some_iff.mp hv).1
    obtain ⟨w, ew, r⟩ := rw'.get (i := i) (x := .int (ns.getD i 0)) (by rw [List.getElem?_map, List.getElem?_eq_getElem hi, List.getD_eq_getElem?_getD, List.getElem?_eq_getElem hi]; rfl)
    rw [hv] at ew; cases ew
    exact vr_int.mp r
  · intro s' t' hm'
    have X := H.extL (s' := s') (wr := [s.heap.objs.size]) (fun b hb => by rw [List.mem_singleton] at hb; rw [hb]; exact H.bg.new (Nat.le_refl _)) (fun b hb => by rw [List.mem_singleton] at hb; rw [hb]; exact H.notNew (Nat.le_refl _))
      (fun b hb o e => by rw [List.mem_singleton] at hb; subst hb; exact absurd (Heap.lt_size e) (Nat.lt_irrefl _)) (fun b o hb e => hm'.heap b o hb (Heap.get?_push_of_some _ e)) (by rw [show s'.gens = s.gens from hm'.gens]; exact H.gens) hm'.os
    refine ⟨_, σ, X.1, vr_int.mpr ⟨t', rfl⟩, X.2, ?_⟩
    have e : ∀ k, k ≤ ns.length → preSum (fun i => ns.getD i 0) k = (ns.take k).sum := by
      intro k
      induction k with
      | zero => intro _; rfl
      | succ k ih =>
        intro hk
        have e1 : ns[k]? = some (ns[k]'(by lia)) := List.getElem?_eq_getElem (by lia)
        rw [preSum, ih (by lia), List.take_add_one, e1, List.sum_append]
        simp only [List.getD_eq_getElem?_getD, e1, Option.getD_some, Option.toList_some, List.sum_cons, List.sum_nil, Int.add_zero]
    rw [List.size_toArray, len, e _ (Nat.le_refl _), List.take_length]
    exact h
end
end Mine
end
section
open PySem PySem.W PySem.Calls PyProof.Rows PySem.Spec Builtin Builtin.ObjectAttr Builtin.Getset_descriptor
set_option Elab.async false
set_option maxRecDepth 100000
set_option maxHeartbeats 4000000
set_option linter.unusedVariables false
namespace Mine
noncomputable def makesInL (K : Frag) (C : Addr) : Bool := match K.lookup C with
  | some ⟨_, _, .cls cd, sl⟩ => !cd.abstract && !cd.hasDel && (sl.toList[4]?).join == some (.builtin "list.__new__") && !cd.mro.isEmpty && cd.mro.contains (.ref C) && cd.mro.contains (.type "list") &&
      specialIn K (.ref C) "__call__" == some (some (.builtin "type.__call__")) && instIn K (.ref C) (.type "type") == some true
  | _ => false
structure MakesL (M : Model) (h : Heap) (C : Addr) : Prop where
  obj : ∃ oc od cd sl, h.get? C = some ⟨oc, od, .cls cd, sl⟩ ∧ cd.abstract = false ∧ cd.hasDel = false ∧ cd.mro.isEmpty = false
  made : Looks M h (Bind.madeBy (.ref C)) (some "list.__new__")
  base : Looks M h (Bind.staticBase (.ref C)) (.ref C)
  self : Looks M h (isSubtype (.ref C) (.ref C)) true
  top : Looks M h (isSubtype (.ref C) (.type "list")) true
  call : Looks M h (specialOf (.ref C) "__call__") (some (.builtin "type.__call__"))
  typ : Looks M h (isInstance (.ref C) (.type "type")) true
theorem makesL_of {K : Frag} {M : Model} {h : Heap} (X : K.In h) {C : Addr} (e : makesInL K C = true) : MakesL M h C := by
  unfold makesInL at e
  split at e
  · rename_i oc od cd sl ho
    simp only [Bool.and_eq_true, Bool.not_eq_true', beq_iff_eq] at e
    obtain ⟨⟨⟨⟨⟨⟨⟨e1, e2⟩, e3⟩, e4⟩, e5⟩, e6⟩, e7⟩, e8⟩ := e
    have hc : clsIn K C = some cd := by unfold clsIn; rw [ho]
    have hm : Looks M h (mroOf (.ref C)) cd.mro := (looks_clsIn X hc).andThen .now
    obtain ⟨c, l, hl⟩ : ∃ c l, cd.mro = c :: l := by cases q : cd.mro with | nil => rw [q] at e4; cases e4 | cons c l => exact ⟨c, l, rfl⟩
    have made : Looks M h (Bind.madeBy (.ref C)) (some "list.__new__") := by
      intro A Q E s k q
      unfold Bind.madeBy
      refine wpAny_bind (hm A _ E s k ?_)
      rw [hl, List.forIn_cons]
      refine wpAny_bind (wpAny_bind (wpAny_bind (wpAny_bind (wpAny_loadPart (k _ _ (X _ _ ho)) (wpAny_pure ?_)))))
      dsimp only
      rw [← Array.getElem?_toList, e3]
      exact wpAny_pure (wpAny_pure (wpAny_pure q))
    refine ⟨⟨oc, od, cd, sl, X _ _ ho, e1, e2, e4⟩, made, ?_, looks_mroIn X ?_, looks_mroIn X ?_, looks_specialIn X e7, looks_instIn X e8⟩
    · intro A Q E s k q
      unfold Bind.staticBase
      refine wpAny_bind (hm A _ E s k ?_)
      rw [hl, List.forIn_cons]
      exact wpAny_bind (wpAny_bind (wpAny_bind (made A _ E s k (wpAny_pure (wpAny_pure (wpAny_pure q))))))
    · unfold mroIn; rw [hc, Option.bind_some, if_neg (by rw [e4]; decide), e5]
    · unfold mroIn; rw [hc, Option.bind_some, if_neg (by rw [e4]; decide), e6]
  · cases e
noncomputable abbrev instObjL (C dx : Addr) : Obj := { cls := .ref C, dict := some dx, data := .seq #[] }
theorem ln_kind : builtinKind "list.__new__" = some .builtinFn := by decide +kernel
theorem ln_split : splitId "list.__new__" = some ("list", "__new__") := by decide +kernel
theorem ln_sig : Manifest.signature? "list.__new__" = some ⟨.any, "list", "list", .cls, [⟨"args", .varPos, false⟩, ⟨"kwargs", .varKw, false⟩]⟩ := by kernel_rfl
section
variable {prog : Program} {w : World} {A : Around} {K : Frag} {C : Addr} {R : Result → Shared → Prop} {h : Heap} {g : Array GenState} {d : Drawn} {t : Nat} {os : OsState}
end
section
variable {C : Cx} {K : Frag} {A : Around} {σ : Led} {D fI : Addr} {Q : V → Led → Prop} {y : V}
end
end Mine
end
section
open PySem PySem.W PySem.Calls PyProof.Rows PySem.Spec
set_option Elab.async false
set_option maxRecDepth 100000
set_option linter.unusedVariables false
namespace Mine
section
variable {C : Cx} {A : Around} {σ τ : Led} {env cenv : Env} {elt cnd : Expr} {x : Str} {px : Pos} {D L : Addr} {Qn : Led → Prop}
theorem cloop_fmap {a : Addr} {Xo : Nat → AO} {l : List V} {G : Led → Prop} (p : Nat → Bool) (f : Nat → V) (sb : Sb ((D, AO.list []) :: (a, Xo 0) :: (cenv.locals, AO.fr [x] [none]) :: τ) σ) (I : Iter C A a Xo l G) (hG : ∀ acc u, G ((D, AO.list acc) :: (cenv.locals, AO.fr [x] [u]) :: τ)) (hz : l.length ≤ sizeLine)
    (hk : cenv.scope.kind = .function) (hl : cenv.kindOf x = some .local)
    (test : ∀ i y acc X, l[i]? = some y → Tr C RB A ((a, X) :: (D, AO.list acc) :: (cenv.locals, AO.fr [x] [some y]) :: τ) (isTrue cnd cenv (eval cnd cenv)) (fun b σ₃ => b = p i ∧ Sb ((D, AO.list acc) :: (a, X) :: (cenv.locals, AO.fr [x] [some y]) :: τ) σ₃))
    (turn : ∀ i y acc X, l[i]? = some y → p i = true → acc.length ≤ i → Tr C VR A ((D, AO.list acc) :: (a, X) :: (cenv.locals, AO.fr [x] [some y]) :: τ) (eval elt cenv) (fun v σ₃ => v = f i ∧ Sb ((D, AO.list acc) :: (a, X) :: (cenv.locals, AO.fr [x] [some y]) :: τ) σ₃))
    (fin : ∀ u, Qn ((D, AO.list (((List.range l.length).filter p).map f)) :: (cenv.locals, AO.fr [x] [u]) :: τ)) : CLoop C A cenv elt (.Name x px) [cnd] D Qn (.ref a) σ := by
  refine cloop_iter sb I (fun i acc σ' => ∃ u, acc = ((List.range i).filter p).map f ∧ σ' = (cenv.locals, AO.fr [x] [u]) :: τ) ⟨none, rfl, rfl⟩ ?_ hz ?_ ?_
  · rintro i acc σ' ⟨u, rfl, rfl⟩; exact hG _ _
  · rintro i y acc σ' hy ha ⟨u, rfl, rfl⟩
    refine asg_name (st_loc (.tail (.tail .head)) .head ?_ hk hl)
    show Tests C A cenv _ [cnd] _
    refine Tr.mono (test i y _ _ hy) fun b σ₃ ⟨e, sb⟩ => ?_
    subst e
    cases hp : p i with
    | true =>
      simp only [if_true]
      refine Tr.sb sb (Tr.mono (turn i y _ _ hy hp ha) fun v σ₃ ⟨e, sb⟩ => ⟨_, sb, some y, ?_, rfl⟩)
      rw [List.range_succ, List.filter_append, List.map_append, e]; simp [hp]
    | false =>
      simp only [Bool.false_eq_true, if_false]
      refine ⟨_, sb, some y, ?_, rfl⟩
      rw [List.range_succ, List.filter_append, List.map_append]; simp [hp]
  · rintro acc σ' ⟨u, rfl, rfl⟩; exact fin u
end
end Mine
namespace Mine
section
variable {C : Cx} {A : Around} {σ : Led} {Q : V → Led → Prop}
end
end Mine
namespace Mine
theorem loop_rangeX {C : Cx} {A : Around} {σ σ' : Led} {env : Env} {Qn : Led → Prop} {Qr : V → Led → Prop} {target : Expr} {body : List Stmt} {a : Addr} {e : Int} {n : Nat} (sb : Sb ((a, AO.rit 0 e) :: σ') σ) (he : e = n) (hA : A.handled = none) (J : Nat → Led → Prop) (h0 : J 0 σ')
    (turn : ∀ (k : Nat) (X : AO) σ, k < n → J k σ → Asg C A env ((a, X) :: σ) target (.int (k : Nat)) (fun σ₁ => Xs C A env σ₁ body (fun σ₂ => ∃ σ', Sb ((a, X) :: σ') σ₂ ∧ J (k + 1) σ') Qr (fun σ₂ => ∃ σ', Sb σ' σ₂ ∧ Qn σ') (fun σ₂ => ∃ σ', Sb ((a, X) :: σ') σ₂ ∧ J (k + 1) σ')))
    (fin : ∀ σ, J n σ → Qn σ) : Loop C A env (.ref a) target body σ Qn Qr := by
  refine loop_range sb he hA J h0 (fun k σ hk j => ?_) fin
  have e0 : (0 : Int) + k = (k : Nat) := by lia
  rw [e0]
  exact turn k _ σ hk j
end Mine
namespace Mine
section
variable {C : Cx} {A : Around} {σ τ : Led} {cenv : Env} {elt : Expr} {x : Str} {px : Pos} {D : Addr} {Qn : Led → Prop}
end
end Mine
namespace Mine
section
variable {C : Cx} {A : Around} {σ σ' : Led} {cenv : Env} {elt target : Expr} {D : Addr} {Qn : Led → Prop}
end
end Mine
end
section
open PySem PySem.W PySem.Calls PyProof.Rows PySem.Spec
set_option Elab.async false
set_option maxRecDepth 100000
set_option linter.unusedVariables false
namespace Mine
noncomputable def cxOf (prog : Program) (w : World) (K : Frag) (s : Shared) (mg mb : Str → Option Value) (own : List Addr) (gt : List (Addr × Addr)) : Cx :=
  { prog := prog, w := w, K := K, h₀ := hideAll s.heap own, os := s.os, mg := mg, mb := mb, gt := gt, kp := [], gs := #[] }
section
variable {prog p : Program} {w : World} {K : Frag} {s : Shared} {mg mb : Str → Option Value} {c0 P0 : Addr} {gt : List (Addr × Addr)} {loose : List Str} {mean : ExcName → Option Value}
theorem ns_ne {h : Heap} {a P : Addr} {m : Str → Option Value} {ps : Array Value} (n : h.Ns a m) (t : h.get? P = some (tabObj ps)) : a ≠ P := fun e => by
  obtain ⟨o, es, ep, g, d, _⟩ := n
  rw [e, t] at g; cases g; cases d
theorem is_start (X : K.In s.heap) (T : Top p loose mean mg mb s.heap) (h0 : s.heap.get? P0 = some (tabObj #[])) : (cxOf prog w K s mg mb [P0] gt).Is K where
  isK := rfl
  glob := fun x v e => mg_of X T.g e
  globN := fun x e => mg_none_of X T.g e
  blt := T.builtins
  bm := by
    obtain ⟨bm, ob, h1, h2, h3, h4, h5, h6⟩ := T.bmain
    refine ⟨bm, ob, h1, h2, fun e => ?_, hideAll_get _ h3 fun q => ?_, h4, h5, h6⟩
    · obtain ⟨o, es, ep, g, d, _⟩ := T.g
      rw [← e, h3] at g; cases g; rw [h6] at d; cases d
    · rw [List.mem_singleton] at q
      rw [q, h0] at h3; cases h3; cases h4
theorem hr_start (X : K.In s.heap) (T : Top p loose mean mg mb s.heap) (hg : s.gens = #[]) (hK : K.lookup P0 = none) (h0 : s.heap.get? P0 = some (tabObj #[])) (hgt : TabsAt gt s.heap) (hne : ∀ q ∈ gt, q.2 ≠ P0) :
    HR (cxOf prog w K s mg mb [P0] gt) [(P0, AO.table #[])] s := by
  have keep : ∀ {b o}, s.heap.get? b = some o → b ≠ P0 → (hideAll s.heap [P0]).get? b = some o := fun e n => hideAll_get _ e (by simpa using n)
  have ex : ∀ {b o}, s.heap.get? b = some o → b ≠ P0 → (hideAll s.heap [P0]).get? b ≠ none := fun e n q => by rw [keep e n] at q; cases q
  have gm : ∀ {a m}, s.heap.Ns a m → (hideAll s.heap [P0]).get? a ≠ none := fun n => by
    have ne := ns_ne n h0
    obtain ⟨o, es, ep, g, _⟩ := n
    exact ex g ne
  have nc : ∀ {c P}, CodeHd s.heap c P → c ≠ P0 := fun x e => by
    obtain ⟨o, vs, _, _, _, _, _, _, _, e1, e2, _⟩ := x
    rw [e, h0] at e1; cases e1; cases e2
  obtain ⟨mc, nm, nl⟩ := T.nolimit
  refine ⟨⟨⟨fun a o e => ?_, gm T.g, gm T.b, gm nm, fun q hq => ⟨?_, ?_⟩, fun q hq => ⟨#[], ?_⟩, fun q hq e => ?_⟩, .of_keep fun b o e => of_hideAll _ e, X, T.g, T.b, T.nolimit, fun q hq => ⟨#[], ?_, ?_⟩, fun q hq => (nomatch hq), fun q hq => (nomatch hq)⟩, fun q hq => ?_, fun q hq => ?_, ?_, ⟨?_, fun i x e => ?_⟩, rfl⟩
  · refine ex (X _ _ e) fun q => ?_
    have e : K.lookup a = some o := e
    rw [q, hK] at e; cases e
  · obtain ⟨hc, _⟩ := hgt q hq
    have := nc hc
    obtain ⟨o, vs, _, _, _, _, _, _, _, e1, _⟩ := hc
    exact ex e1 this
  · exact ex (hgt q hq).2 (hne q hq)
  · have t := (hgt q hq).1.tab (hgt q hq).2
    obtain ⟨⟨o, vs, a, r⟩, b⟩ := t
    exact ⟨⟨o, vs, keep a (nc (hgt q hq).1), r⟩, keep b (hne q hq)⟩
  · exact ns_ne nm (hgt q hq).2 e.symm
  · exact (hgt q hq).1.code (hgt q hq).2 (by simp [TriplesOk])
  · exact (hgt q hq).1.tab (hgt q hq).2
  · rw [List.mem_singleton] at hq; subst hq
    exact ⟨_, h0, Pl.rec rfl, rfl⟩
  · rw [List.mem_singleton] at hq; subst hq
    exact ⟨hideAll_none _ (.head _), fun q hq => (nomatch hq)⟩
  · simp
  · rw [hg]; exact .empty
  · simp [cxOf] at e
theorem old_end {s' : Shared} {ps : Array Value} (hd : CodeHd s.heap c0 P0) (h0 : s.heap.get? P0 = some (tabObj #[])) (H : HR (cxOf prog w K s mg mb [P0] gt) [(P0, AO.table ps)] s') : OldK s.heap s'.heap ∧ s'.os = s.os ∧ AllBare s'.gens := by
  obtain ⟨o', g', _, e'⟩ := H.own _ (List.Mem.head _)
  have e' : o' = tabObj ps := e'
  subst e'
  have O : OldK (hideAll s.heap [P0]) s'.heap := H.bg.old
  have keep : ∀ {b o}, s.heap.get? b = some o → b ≠ P0 → (hideAll s.heap [P0]).get? b = some o := fun e n => hideAll_get _ e (by simpa using n)
  refine ⟨⟨fun b o e => ?_, fun b o e => ?_⟩, H.os, H.gens.1⟩
  · by_cases hb : b = P0
    · subst hb
      rw [h0] at e; cases e
      refine .inr (.inl ⟨(hd.tab h0).isCodeTable, rfl, #[], ps, rfl, ?_⟩)
      rw [Array.empty_append]; exact g'
    · rcases O.old b o (keep e hb) with x | ⟨t, hc, vs, more, hv, x⟩ | ⟨rfl, hc, z1, z2⟩
      · exact .inl x
      · refine .inr (.inl ⟨?_, hc, vs, more, hv, x⟩)
        obtain ⟨c, o, vs, a, r⟩ := t
        exact ⟨c, o, vs, of_hideAll _ a, r⟩
      · refine .inr (.inr ⟨rfl, hc, z1, fun key => ?_⟩)
        have q := OldK.staticOf_congr (h := s.heap) (h' := hideAll s.heap [P0]) ((keep e hb).trans e.symm) key
        rw [← q]; exact z2 key
  · by_cases hb : b = P0
    · subst hb; exact ⟨_, g'⟩
    · exact O.there b o (keep e hb)
theorem oldL_start {sc : Addr} {vs : List Value} {ns : List Int} (hl : s.heap.IsList sc vs.toArray) (hi : IntsAre vs ns) (h0 : s.heap.get? P0 = some (tabObj #[])) : OldL (cxOf prog w K s mg mb [P0] gt) sc ns := by
  obtain ⟨o, g, c, n, d⟩ := hl
  refine ⟨o, vs, n, hideAll_get _ g fun q => ?_, c, d, fun h => ?_⟩
  · rw [List.mem_singleton] at q
    rw [q, h0] at g; cases g; cases c
  · clear d
    induction hi with
    | nil => exact VRs.nil
    | cons n t _ ih => exact VRs.cons (vr_int.mpr ⟨_, rfl⟩) ih
end
end Mine
end
section
open PySem PySem.W PySem.Calls PyProof.Rows PySem.Spec Builtin Builtin.ObjectAttr Builtin.Getset_descriptor
set_option Elab.async false
set_option maxRecDepth 100000
set_option maxHeartbeats 4000000
set_option linter.unusedVariables false
namespace Mine
section
variable {prog : Program} {w : World} {A : Around} {K : Frag} {C : Addr} {R : Result → Shared → Prop} {h : Heap} {g : Array GenState} {d : Drawn} {t : Nat} {os : OsState}
theorem ln_args0 (C : Addr) : Bind.checkArgs "list.__new__" ⟨.any, "list", "list", .cls, [⟨"args", .varPos, false⟩, ⟨"kwargs", .varKw, false⟩]⟩ ⟨[.ref C], []⟩ = pure () := by kernel_rfl
theorem new_L0 (Y : MakesL (model prog w) h C)
    (hq : R (.ok (.ret (.ref (h.objs.size + 1)))) ⟨(h.push emptyDict).push (instObjL C h.objs.size), g, d, t, os⟩) :
    codeAny (model prog w) A (.call (.builtin "list.__new__") ⟨[.ref C], []⟩) R ⟨h, g, d, t, os⟩ := by
  obtain ⟨⟨oc, od, cd, sl, hC, e1, e2, e4⟩, made, base, self, top, call, typ⟩ := Y
  refine codeAny_call_builtin_code (plainId_quiet PySem.F.plain_list_new _) ?_
  simp only [checkBuiltinCall, ln_kind, ln_split, ln_sig, ln_args0]
  repeat (first | simp only [bne_self_eq_false, Bool.false_eq_true, if_false] | lk)
  refine codeAny_builtin_stack PySem.F.entry_list_new rfl fun p st => ?_
  rw [Around.under_plainId PySem.F.plain_list_new _]
  have hown := owner_list_new
  simp only [hown]
  have fin : ∀ A', wpAny (model prog w) A' (do
      let x ← newDict
      match x with
      | .ref d => do ret (← newObj (.ref C) (.seq #[]) (some d))
      | _ => unsupported "internal:list.__new__") (fun fin s' => match fin with | .done f => R (.ok f) s' | .again c' => c'.quiet = true ∧ codeAny (model prog w) A c' R s') (fun e s' => R (.error e) s') ⟨h, g, d, t, os⟩ := by
    intro A'
    refine wpAny_bind (wpAny_newObj_type ?_ (by size_fits))
    dsimp only
    refine wpAny_bind ?_
    show wpAny _ _ (newObjAsIs _ _ _) _ _ _
    unfold newObjAsIs classHasDel
    refine wpAny_bind (wpAny_alloc (wpAny_bind (wpAny_bind (wpAny_load (Heap.get?_push_of_some _ (Heap.get?_push_of_some _ hC)) (wpAny_pure ?_)))))
    rw [e2]
    refine wpAny_pure (wpAny_pure ?_)
    show R _ _
    rw [Heap.size_push]
    exact hq
  repeat (first | simp only [Bool.not_true, Bool.false_eq_true, if_false] | exact fin _ | lk)
theorem make_coreL0 {init : Value} (Y : MakesL (model prog w) h C) (hi : Looks (model prog w) h (typeLookup (.ref C) "__init__") (some init))
    (hb : ∀ self, Looks (model prog w) h (bindSpecial init self) (init, [self]))
    (hq : codeAny (model prog w) (A.under (.builtin "type.__call__" ⟨[.ref C], []⟩)) (.call init ⟨[.ref (h.objs.size + 1)], []⟩) (InitBack (h.objs.size + 1) R) ⟨(h.push emptyDict).push (instObjL C h.objs.size), g, d, t, os⟩) :
    codeAny (model prog w) A (.call (.ref C) ⟨[], []⟩) R ⟨h, g, d, t, os⟩ := by
  have Y' := Y
  obtain ⟨⟨oc, od, cd, sl, hC, e1, e2, e4⟩, made, base, self, top, call, typ⟩ := Y
  refine codeAny_of_tree ?_
  show wpAny _ _ (callAny (.ref C) _) _ _ _
  refine nd_load hC ?_
  show wpAny _ _ (callAny.viaDunder (.ref C) _) _ _ _
  unfold callAny.viaDunder
  refine wpAny_bind (call.at ?_)
  dsimp only
  rw [tc_bind]
  refine wpAny_bind (wpAny_pure (wpAny_bind (wpAny_pure ?_)))
  refine wpAny_pure (a := Fin.again (.call (.builtin "type.__call__") ⟨[.ref C], []⟩)) (And.intro rfl ?_)
  refine codeAny_call_builtin_at (Code.quiet_builtin _ (by decide +kernel)) entry_typeCall (check_slot tc_kind tc_split typ (tc_args _ _ _) ?_)
  unfold Builtin.«type.__call__»
  have hm : Looks (model prog w) h (mroOf (.ref C)) cd.mro := ((Looks.ld (part := none) hC).andThen .now).andThen .now
  repeat (first | simp only [e4, Bool.false_eq_true, if_false] | with_reducible refine wpAny_call ?_ | lk)
  refine new_L0 Y' ?_
  have k : ∀ b o, h.get? b = some o → ((h.push emptyDict).push (instObjL C h.objs.size)).get? b = some o := fun b o e => Heap.get?_push_of_some _ (Heap.get?_push_of_some _ e)
  have hx : ((h.push emptyDict).push (instObjL C h.objs.size)).get? (h.objs.size + 1) = some (instObjL C h.objs.size) := by heap_get
  have t1 : Looks (model prog w) ((h.push emptyDict).push (instObjL C h.objs.size)) (typeOf (.ref (h.objs.size + 1))) (.ref C) := (Looks.ld hx).andThen .now
  have s1 := self.keeps k
  have i1 := hi.keeps k
  have b1 := (hb (.ref (h.objs.size + 1))).keeps k
  unfold isInstance callSpecial? specialOf
  repeat (first | with_reducible refine wpAny_call ?_ | lk)
  refine codeAny_mono hq fun r s' z => ?_
  rcases r with e | (v | _ | _ | _) <;> first | exact z | exact z.elim | skip
  obtain ⟨rfl, z⟩ := z
  exact wpAny_pure (wpAny_pure z)
end
theorem Fit.under0 {n : Nat} {A : Around} {D : Addr} (h : Fit (n + 1) A) : Fit n (A.under (.builtin "type.__call__" ⟨[.ref D], []⟩)) := h.under (vals := [])
section
variable {C : Cx} {K : Frag} {A : Around} {σ : Led} {D fI : Addr} {Q : V → Led → Prop} {y : V}
theorem c_makeL0 (hC : C.Is K) (hm : makesInL K D = true) (hi : (findIn K (.ref D) "__init__" == some (some (.ref fI))) = true) (hf : (typeIn K (.ref fI) == some (.type "function")) = true)
    (h : ∀ x d, CallC C (A.under (.builtin "type.__call__" ⟨[.ref D], []⟩)) ((x, AO.seq (.ref D) (some d) []) :: (d, AO.attrs [] []) :: σ) (.ref fI) [.ref x] (fun v σ' => v = .none ∧ Q (.ref x) σ')) : CallC C A σ (.ref D) [] Q := by
  rintro s _ vals H rfl r
  simp only [VRs] at r
  subst r
  have X : K.In s.heap := hC.isK ▸ H.bg.kin
  obtain ⟨hh, g, dr, t, os⟩ := s
  refine make_coreL0 (makesL_of X hm) (looks_findIn X (beq_iff_eq.mp hi)) (fun self => bind_fn X self (beq_iff_eq.mp hf)) ?_
  have H1 : HR C ((hh.objs.size, AO.attrs [] []) :: σ) ⟨hh.push emptyDict, g, dr, t, os⟩ := H.add (s' := ⟨hh.push emptyDict, g, dr, t, os⟩) (o := dictOf [] 0) (fun b o e => Heap.get?_push_of_some _ e) (Nat.le_refl _) (Heap.get?_push_size _ rfl) (Pl.dict rfl) ⟨List.nodup_nil, by simp, [], 0, rfl, rfl⟩ rfl rfl
  have H2 : HR C ((hh.objs.size + 1, AO.seq (.ref D) (some hh.objs.size) []) :: (hh.objs.size, AO.attrs [] []) :: σ) ⟨(hh.push emptyDict).push (instObjL D hh.objs.size), g, dr, t, os⟩ :=
    H1.add (s' := ⟨(hh.push emptyDict).push (instObjL D hh.objs.size), g, dr, t, os⟩) (o := instObjL D hh.objs.size) (fun b o e => Heap.get?_push_of_some _ e) (by show (hh.push emptyDict).objs.size ≤ _; rw [Heap.size_push]; exact Nat.le_refl _)
      (by heap_get) (Pl.seq (by intro e; cases e) rfl) ⟨⟨rfl, rfl⟩, [], 0, rfl, VRs.nil⟩ rfl rfl
  have tk : TK hh ((hh.push emptyDict).push (instObjL D hh.objs.size)) := (TK.push _).trans (TK.push _)
  refine codeAny_mono (h (hh.objs.size + 1) hh.objs.size _ (.ref fI) [.ref (hh.objs.size + 1)] H2 rfl (VRs.cons rfl VRs.nil)) fun r s' p => ?_
  cases r with
  | error e => exact (show False from p).elim
  | ok fl =>
    cases fl with
    | ret u =>
      obtain ⟨b, σ₁, H₁, r₁, k₁, rfl, q⟩ := p
      exact ⟨vr_none.mp r₁, .ref (hh.objs.size + 1), σ₁, H₁, rfl, tk.trans k₁, q⟩
    | next => exact (show False from p).elim
    | brk => exact (show False from p).elim
    | cont => exact (show False from p).elim
end
end Mine
end
section
open PySem PySem.W PySem.Calls PyProof.Rows PySem.Spec PySem.SeqAt
set_option Elab.async false
set_option maxRecDepth 100000
set_option linter.unusedVariables false
namespace Mine
noncomputable def EqD (σ : Led) : Nat → V → V → Prop
  | 0, v, w => leaf v = true ∧ v = w
  | n + 1, v, w => (leaf v = true ∧ v = w) ∨ (∃ l m, v = .tup l ∧ w = .tup m ∧ l.length = m.length ∧ ∀ (i : Nat) x y, l[i]? = some x → m[i]? = some y → EqD σ n x y) ∨
    (∃ a b l m, v = .ref a ∧ w = .ref b ∧ (a, AO.list l) ∈ σ ∧ (b, AO.list m) ∈ σ ∧ l.length = m.length ∧ ∀ (i : Nat) x y, l[i]? = some x → m[i]? = some y → EqD σ n x y)
noncomputable def EqL (σ : Led) (n : Nat) (l m : List V) : Prop := l.length = m.length ∧ ∀ (i : Nat) x y, l[i]? = some x → m[i]? = some y → EqD σ n x y
section
variable {σ : Led} {n : Nat}
theorem EqL.nil : EqL σ n [] [] := ⟨rfl, fun i x y h => by simp at h⟩
theorem EqL.cons {x y : V} {l m : List V} (h : EqD σ n x y) (H : EqL σ n l m) : EqL σ n (x :: l) (y :: m) :=
  ⟨by simp [H.1], fun i u v hu hv => by
    cases i with
    | zero => simp only [List.getElem?_cons_zero, Option.some.injEq] at hu hv; subst hu; subst hv; exact h
    | succ i => simp only [List.getElem?_cons_succ] at hu hv; exact H.2 i u v hu hv⟩
theorem EqD.leaf {v : V} (h : leaf v = true) : EqD σ n v v := by
  cases n with
  | zero => exact ⟨h, rfl⟩
  | succ n => exact Or.inl ⟨h, rfl⟩
theorem EqD.tup {l m : List V} (h : EqL σ n l m) : EqD σ (n + 1) (.tup l) (.tup m) := Or.inr (Or.inl ⟨l, m, rfl, rfl, h⟩)
theorem EqD.flat {v : V} (h : flatD v = true) : EqD σ (n + 1) v v := by
  cases v with
  | tup l => exact .tup ⟨rfl, fun i x y hx hy => by rw [hx] at hy; cases hy; exact .leaf (List.all_eq_true.mp h _ (List.mem_of_getElem? hx))⟩
  | none => exact .leaf h
  | bool b => exact .leaf h
  | int b => exact .leaf h
  | str b => exact .leaf h
  | _ => cases h
end
section
variable {C : Cx} {σ : Led} {s : Shared}
theorem eq_its {A : Around} {n : Nat} (H : HR C σ s) (ih : ∀ {v w : V} {y z : Value}, EqD σ n v w → VR s.heap v y → VR s.heap w z → EqAt A s y z true) {l m : List V} {ps qs : List Value}
    (rp : VRs s.heap l ps) (rq : VRs s.heap m qs) (hl : l.length = m.length) (h : ∀ (i : Nat) x y, l[i]? = some x → m[i]? = some y → EqD σ n x y) (j : Nat) (h1 : j < ps.toArray.size) (h2 : j < qs.toArray.size) : EqAt A s ps.toArray[j] qs.toArray[j] true := by
  have h1' : j < l.length := by rw [← rp.length]; simpa using h1
  have h2' : j < m.length := by rw [← rq.length]; simpa using h2
  have el : l[j]? = some l[j] := List.getElem?_eq_getElem h1'
  have em : m[j]? = some m[j] := List.getElem?_eq_getElem h2'
  obtain ⟨u, eu, ru⟩ := rp.get el
  obtain ⟨w, ew, rw'⟩ := rq.get em
  obtain ⟨_, eu⟩ := List.getElem?_eq_some_iff.mp eu
  obtain ⟨_, ew⟩ := List.getElem?_eq_some_iff.mp ew
  simp only [List.getElem_toArray]
  rw [eu, ew]
  exact ih (h j _ _ el em) ru rw'
theorem eq_deep (H : HR C σ s) : ∀ (n : Nat) {A : Around} {v w : V} {y z : Value}, A.units + n < cLine → EqD σ n v w → VR s.heap v y → VR s.heap w z → EqAt A s y z true
  | 0, A, v, w, y, z, _, ⟨hl, e⟩, ry, rz => by subst e; exact eq_leaf hl ry rz
  | n + 1, A, v, w, y, z, hu, h, ry, rz => by
    have ih : ∀ {v w : V} {y z : Value}, EqD σ n v w → VR s.heap v y → VR s.heap w z → EqAt A.in1 s y z true := fun h ry rz => eq_deep H n (by show A.units + 1 + n < _; lia) h ry rz
    rcases h with ⟨hl, e⟩ | ⟨l, m, rfl, rfl, hl, h⟩ | ⟨a, b, l, m, rfl, rfl, ha, hb, hl, h⟩
    · subst e; exact eq_leaf hl ry rz
    · obtain ⟨p, ps, rfl, gp, rp⟩ := vr_tup.mp ry
      obtain ⟨q, qs, rfl, gq, rq⟩ := vr_tup.mp rz
      by_cases e : p = q
      · subst e; exact EqAt.same _
      · have hsz : ps.toArray.size = qs.toArray.size := by rw [List.size_toArray, List.size_toArray, rp.length, rq.length, hl]
        have X := RcAt.tuples (A := A) (s := s) (l := p) (b := q) (items := ps.toArray) (items2 := qs.toArray) (e := fun _ => true) ⟨_, gp, rfl, 0, rfl⟩ ⟨_, gq, rfl, 0, rfl⟩ (by lia) (eq_its H ih rp rq hl h)
        rw [hsz, Nat.min_self, all_true, beq_self_eq_true] at X
        exact EqAt.of_refs e X
    · cases ry; cases rz
      by_cases e : a = b
      · subst e; exact EqAt.same _
      · obtain ⟨ps, La, rp⟩ := listOf H ha
        obtain ⟨qs, Lb, rq⟩ := listOf H hb
        have X := RcAt.lists (A := A) (e := fun _ => true) La Lb (by rw [List.size_toArray, List.size_toArray, rp.length, rq.length, hl]) (by lia) (eq_its H ih rp rq hl h)
        rw [all_true] at X
        exact EqAt.of_refs e X
end
section
variable {C : Cx} {A : Around} {σ : Led} {a b : Addr} {Q : V → Led → Prop}
theorem cmp_leqD (n : Nat) {l m : List V} (hA : Fit 1 A) (hn : n ≤ 10) (ha : (a, AO.list l) ∈ σ) (hb : (b, AO.list m) ∈ σ) (hl : EqL σ n l m) (h : Q (.bool true) σ) : Cmp C A σ .Eq (.ref a) (.ref b) Q := by
  rintro s _ _ H rfl rfl
  obtain ⟨ps, La, rp⟩ := listOf H ha
  obtain ⟨qs, Lb, rq⟩ := listOf H hb
  refine EqBoolInt.of_rc (k := true) ?_ (done_bool H h)
  have X := RcAt.lists (e := fun _ => true) La Lb (by rw [List.size_toArray, List.size_toArray, rp.length, rq.length, hl.1]) hA.units (eq_its H (fun {v w y z} h ry rz => eq_deep H n (by show A.units + 1 + n < cLine; have : A.units + 12 ≤ 9600 := hA.2.2; have : cLine = 9900 := rfl; lia) h ry rz) rp rq hl.1 hl.2)
  rw [all_true] at X
  exact X
end
end Mine
end
section
open PySem PySem.W PySem.Calls PyProof.Rows PySem.Spec PySem.SeqAt
set_option Elab.async false
set_option maxRecDepth 100000
set_option linter.unusedVariables false
namespace Mine
noncomputable def RD (h : Heap) : Option V → Option Value → Prop
  | none, y => y = none
  | some v, y => ∃ w, y = some w ∧ VR h v w
theorem RD.mono {h h' : Heap} (k : TK h h') : ∀ {x : Option V} {y : Option Value}, RD h x y → RD h' x y
  | none, _, e => e
  | some _, _, ⟨w, e, r⟩ => ⟨w, e, r.mono k⟩
noncomputable def AO.dct {P : Program} {w : World} {K : Type} [DecidableEq K] (knd : KeyKind P w K) (n : Nat) (F : K → Option V) : AO :=
  ⟨fun h o => ∃ kvs, o.IsDictOf knd kvs ∧ kvs.length ≤ n ∧ ∀ k, RD h (F k) (valueAt kvs k), fun t ⟨kvs, a, b, c⟩ => ⟨kvs, a, b, fun k => (c k).mono t⟩⟩
theorem valueAt_stored {K : Type} [DecidableEq K] (kvs : List (K × Value)) (k : K) (v : Value) (x : K) : valueAt (stored kvs k v) x = if x = k then some v else valueAt kvs x := by
  have hfm : ∀ l : List (K × Value), valueAt (l.map fun kv => if kv.1 = k then (kv.1, v) else kv) x = if x = k then (if l.any (fun kv => decide (kv.1 = k)) = true then some v else none) else valueAt l x := by
    intro l
    induction l with
    | nil => simp [valueAt]
    | cons p r ih =>
      unfold valueAt at ih ⊢
      rw [List.map_cons, List.find?_cons, List.find?_cons]
      by_cases h1 : p.1 = k
      · by_cases h2 : x = k
        · subst h2; simp [h1]
        · have : ¬ p.1 = x := fun e => h2 (by rw [← e, h1])
          simp only [h1, if_true, h2, if_false] at ih ⊢
          have h3 : ¬ k = x := fun e => h2 e.symm
          simp only [h3, decide_false]
          exact ih
      · simp only [h1, if_false]
        by_cases h4 : p.1 = x
        · have : ¬ x = k := fun e => h1 (by rw [h4, e])
          simp [h4, this]
        · simp only [h4, decide_false]
          rw [ih]
          rw [List.any_cons, decide_eq_false h1, Bool.false_or]
  unfold stored
  by_cases h : kvs.any (fun kv => decide (kv.1 = k)) = true
  · rw [if_pos h, hfm, if_pos h]
  · rw [if_neg h]
    unfold valueAt
    rw [List.find?_append]
    by_cases h2 : x = k
    · subst h2
      rw [if_pos rfl]
      have : kvs.find? (fun kv => decide (kv.1 = x)) = none := by
        rw [List.find?_eq_none]; intro p hp hh; exact h (List.any_eq_true.mpr ⟨p, hp, hh⟩)
      rw [this]; simp
    · rw [if_neg h2]
      have h3 : ¬ k = x := fun e => h2 e.symm
      cases kvs.find? (fun kv => decide (kv.1 = x)) <;> simp [h3]
section
variable {C : Cx} {A : Around} {σ σ' : Led} {K : Type} [DecidableEq K] {knd : KeyKind C.prog C.w K} {d : Addr} {n : Nat} {F : K → Option V}
theorem dctOf {s : Shared} (H : HR C σ s) (hm : (d, AO.dct knd n F) ∈ σ) : ∃ kvs, s.heap.DictOf knd d kvs ∧ kvs.length ≤ n ∧ ∀ k, RD s.heap (F k) (valueAt kvs k) := by
  obtain ⟨o, g, _, kvs, i, a, b⟩ := H.own _ hm
  exact ⟨kvs, Heap.dictOf_iff.mpr ⟨o, g, i⟩, a, b⟩
noncomputable def IsKey (knd : KeyKind C.prog C.w K) (x : V) (k : K) : Prop := ∀ h v, VR h x v → knd.is k v = true
theorem key_int (i : Int) : IsKey (C := C) (intKind C.prog C.w) (.int i) i := fun h v r => by obtain ⟨t, rfl⟩ := r; exact intKind_is _ _ _ _
theorem key_str (x : Str) : IsKey (C := C) (strKind C.prog C.w) (.str x) x := fun h v r => by obtain ⟨t, rfl⟩ := r; exact strKind_is _ _ _ _
theorem has_dct (hm : (d, AO.dct knd n F) ∈ σ) : Has C σ (.ref d) := ⟨"dict", _, slot_dict_getitem.lookup, fun s ov H r => by cases r; obtain ⟨kvs, D, _⟩ := dctOf H hm; exact D.typeIs⟩
theorem g_dct {x v : V} {k : K} {Q : V → Led → Prop} (hm : (d, AO.dct knd n F) ∈ σ) (hk : IsKey knd x k) (hv : F k = some v) (h : Q v σ) : Op2 C VR A σ getItem (.ref d) x Q := by
  rintro s _ kv H rfl rk
  obtain ⟨kvs, D, _, r⟩ := dctOf H hm
  have r := r k
  rw [hv] at r
  obtain ⟨w, e, rv⟩ := r
  exact wpAny_getItem_of (hk _ _ rk) D.mapOf e ⟨v, σ, H.toks, rv, TK.refl _, h⟩
theorem cmp_nindct {x : V} {k : K} {Q : V → Led → Prop} (hm : (d, AO.dct knd n F) ∈ σ) (hds : (d == sysModules) = false) (hk : IsKey knd x k) (h : Q (.bool (!(F k).isSome)) σ) : Cmp C A σ .NotIn x (.ref d) Q := by
  rintro s kv _ H rk rfl
  obtain ⟨kvs, D, _, r⟩ := dctOf H hm
  have e : (valueAt kvs k).isSome = (F k).isSome := by
    have r := r k
    cases hF : F k with
    | none => rw [hF] at r; rw [show valueAt kvs k = none from r]; rfl
    | some v => rw [hF] at r; obtain ⟨w, e, _⟩ := r; rw [e]; rfl
  refine wpAny_notIn_of (hk _ _ rk) hds D.mapOf ?_
  rw [e]
  exact ⟨_, σ, H.toks, vr_bool.mpr rfl, TK.refl _, h⟩
theorem isDict_pl {o : Obj} {kvs : List (K × Value)} (h : o.IsDictOf knd kvs) : Pl o := by
  obtain ⟨es, ep, _, d, _⟩ := h; exact Pl.dict d
theorem dct_upd {s : Shared} {x v : V} {k : K} {w : Value} {h' : Heap} {tk : Nat} {kvs : List (K × Value)} (H : HR C σ s) (U : LU d (AO.dct knd n F) (AO.dct knd (n + 1) fun x => if x = k then some v else F x) σ σ') (hl : kvs.length ≤ n) (r : ∀ k, RD s.heap (F k) (valueAt kvs k)) (rv : VR s.heap v w)
    (D' : h'.DictOf knd d (stored kvs k w)) (hs : Heap.SameBut d s.heap h') : HR C σ' { s with heap := h', toks := tk } ∧ TK s.heap h' := by
  obtain ⟨o', g', i'⟩ := Heap.dictOf_iff.mp D'
  have hl' : (stored kvs k w).length ≤ n + 1 := by have := stored_length_le kvs k w; lia
  have tk' : TK s.heap h' := HR.tkUpd H U hs
  refine H.upd (s' := { s with heap := h', toks := tk }) U hs g' (isDict_pl i') ⟨_, i', hl', fun y => ?_⟩ rfl rfl
  rw [valueAt_stored]
  show RD h' (if y = k then some v else F y) _
  by_cases h : y = k
  · rw [if_pos h, if_pos h]; exact ⟨w, rfl, rv.mono tk'⟩
  · rw [if_neg h, if_neg h]; exact (r y).mono tk'
theorem s_dct {x v : V} {k : K} {Qu : Unit → Led → Prop} (U : LU d (AO.dct knd n F) (AO.dct knd (n + 1) fun x => if x = k then some v else F x) σ σ') (hk : IsKey knd x k) (hz : n ≤ 1000000) (h : Qu () σ') : Op3 C RU A σ setItem (.ref d) x v Qu := by
  rintro s _ kv w H rfl rk rv
  obtain ⟨kvs, D, hl, r⟩ := dctOf H U.mem
  refine wpAny_setItem_pairs (hk _ _ rk) D (fun h' D' hs => ?_) (by rw [sizeLine_eq]; lia)
  obtain ⟨H', t'⟩ := dct_upd (x := x) (tk := s.toks + 1) H U hl r rv D' hs
  exact ⟨(), σ', H', trivial, t', h⟩
theorem dset_ {x v : V} {k : K} {s : Shared} {kv w : Value} {Qu : Led → Prop} (H : HR C σ s) (U : LU d (AO.dct knd n F) (AO.dct knd (n + 1) fun x => if x = k then some v else F x) σ σ') (hk : IsKey knd x k) (hz : n ≤ 1000000) (rk : VR s.heap x kv) (rv : VR s.heap v w) (h : Qu σ') : WP C RU A s (dictSet d kv w) (fun _ σ => Qu σ) := by
  obtain ⟨kvs, D, hl, r⟩ := dctOf H U.mem
  refine wpAny_dictSet_pairs (hk _ _ rk) D (fun h' D' hs => ?_) (by rw [sizeLine_eq]; lia)
  obtain ⟨H', t'⟩ := dct_upd (x := x) (tk := s.toks + 1) H U hl r rv D' hs
  exact ⟨(), σ', H', trivial, t', h⟩
theorem new_ne {s : Shared} (H : HR C σ s) : (s.heap.objs.size == sysModules) = false := by
  obtain ⟨mc, x, _⟩ := H.bg.nl
  obtain ⟨_, _, _, g, _⟩ := x
  have := Heap.lt_size g
  have e : cStatics = 2 := rfl
  have e2 : sysModules = 1 := rfl
  rw [beq_eq_false_iff_ne]
  intro q
  rw [e] at this
  rw [q, e2] at this
  exact absurd this (by decide)
theorem newDict_ (knd : KeyKind C.prog C.w K) {Q : V → Led → Prop} (h : ∀ a, (a == sysModules) = false → Q (.ref a) ((a, AO.dct knd 0 fun _ => none) :: σ)) : Tr C VR A σ newDict Q := by
  intro s H
  refine wpAny_newObj_type ?_
  have tk : TK s.heap (s.heap.push { cls := .type "dict", data := .dict #[] }) := TK.push _
  obtain ⟨o, g, i⟩ := Heap.dictOf_iff.mp (Heap.DictOf.new (knd := knd) s.heap)
  exact ⟨.ref s.heap.objs.size, _, H.add (X := AO.dct knd 0 fun _ => none) (fun b o e => Heap.get?_push_of_some _ e) (Nat.le_refl _) g (isDict_pl i) ⟨[], i, Nat.le_refl _, fun k => rfl⟩ rfl rfl, vr_ref.mpr rfl, tk, h _ (new_ne H)⟩
theorem e_dict0 (knd : KeyKind C.prog C.w K) {env : Env} {pos : Pos} {Q : V → Led → Prop} (h : ∀ a, (a == sysModules) = false → Q (.ref a) ((a, AO.dct knd 0 fun _ => none) :: σ)) : Tr C VR A σ (eval (.Dict [] [] pos) env) Q := by
  intro s H
  show wpAny _ _ _ _ _ s
  rw [eval_Dict_empty]
  exact wpAny_bind (wpAny_standAt (newDict_ knd h s H))
theorem cmp_lnnil {l : List V} {a b : Addr} {Q : V → Led → Prop} (hA : Fit 1 A) (ha : (a, AO.list l) ∈ σ) (hb : (b, AO.list []) ∈ σ) (h : Q (.bool (!l.isEmpty)) σ) : Cmp C A σ .NotEq (.ref a) (.ref b) Q := by
  cases l with
  | nil => exact cmp_lne hA ha hb rfl h
  | cons v r =>
    rintro s _ _ H rfl rfl
    obtain ⟨ps, La, rp⟩ := listOf H ha
    obtain ⟨qs, Lb, rq⟩ := listOf H hb
    refine EqBoolInt.of_rcne (k := true) ?_ (done_bool H h)
    exact RcNeAt.lists_lengths La Lb (by rw [List.size_toArray, List.size_toArray, rp.length, rq.length]; simp) hA.units
end
end Mine
end
section
open PySem PySem.W PySem.Calls PyProof.Rows PySem.Spec PySem.SeqAt
set_option Elab.async false
set_option maxRecDepth 100000
set_option linter.unusedVariables false
namespace Mine
noncomputable def DSet (C : Cx) (A : Around) (σ : Led) (D : Addr) (k v : V) (Q : Led → Prop) : Prop := ∀ s a b, HR C σ s → VR s.heap k a → VR s.heap v b → WP C RU A s (dictSet D a b) (fun _ σ' => Q σ')
noncomputable def LoopD (C : Cx) (A : Around) (cenv : Env) (kx vx target : Expr) (ifs : List Expr) (D : Addr) (Qn : Led → Prop) (it : V) (σ : Led) : Prop :=
  ∃ (J : Nat → Led → Prop) (n : Nat), J n σ ∧ ∀ n σ, J n σ → Nx C A σ it (fun o σ₃ => match o with
    | none => Qn σ₃
    | some y => Asg C A cenv σ₃ target y (fun σ₄ => Tests C A cenv σ₄ ifs (fun b σ₅ => if b = true then Tr C VR A σ₅ (eval kx cenv) (fun k σ₆ => Tr C VR A σ₆ (eval vx cenv) (fun v σ₇ => DSet C A σ₇ D k v (fun σ₈ => ∃ m, m < n ∧ J m σ₈))) else ∃ m, m < n ∧ J m σ₅)))
noncomputable def DLoop (C : Cx) (A : Around) (cenv : Env) (kx vx target : Expr) (ifs : List Expr) (D : Addr) (Qn : Led → Prop) (it : V) (σ : Led) : Prop :=
  LoopD C A cenv kx vx target ifs D Qn it σ ∧ It C A σ it (LoopD C A cenv kx vx target ifs D Qn)
section
variable {C : Cx} {A : Around} {σ : Led} {env cenv : Env} {kx vx target iter : Expr} {ifs : List Expr} {scope : Scope} {pos : Pos} {D : Addr} {Qn : Led → Prop} {it : V}
theorem loopD_ {s : Shared} {itv : Value} {R : Result → Shared → Prop} (H : HR C σ s) (r : VR s.heap it itv) (h : LoopD C A cenv kx vx target ifs D Qn it σ)
    (k : ∀ s' σ', HR C σ' s' → TK s.heap s'.heap → Qn σ' → R (.ok .next) s') (ht : ∀ it v, letOwnedTupleGo target it v = pure ()) :
    codeAny (model C.prog C.w) A (.compLoop (.DictComp kx vx [⟨target, iter, ifs, 0⟩] scope pos) 0 itv (.ref D) cenv) R s := by
  obtain ⟨J, n, j0, turn⟩ := h
  refine codeAny_compLoop_testsD (fun n s' => ∃ σ', HR C σ' s' ∧ TK s.heap s'.heap ∧ J n σ') (fun n s' ⟨σ', H', kk, j⟩ => ?_) n ⟨σ, H, TK.refl _, j0⟩ (ht itv)
  refine (turn n σ' j s' itv H' (r.mono kk)).run fun o s₁ b σ₁ H₁ r₁ k₁ q₁ => ?_
  cases b with
  | none => cases r₁; exact k _ _ H₁ (kk.trans k₁) q₁
  | some y =>
    obtain ⟨v, rfl, rv⟩ := r₁
    refine (q₁ s₁ v H₁ rv).run fun _ s₂ _ σ₂ H₂ _ k₂ q₂ => tests_ H₂ q₂ fun b s₃ σ₃ H₃ k₃ q₃ => ?_
    have k3 := kk.trans (k₁.trans (k₂.trans k₃))
    cases b with
    | false => obtain ⟨m, hm, j⟩ := q₃; exact ⟨m, hm, σ₃, H₃, k3, j⟩
    | true =>
      simp only [if_true] at q₃ ⊢
      refine (q₃ s₃ H₃).run fun x s₄ xv σ₄ H₄ r₄ k₄ q₄ => (q₄ s₄ H₄).run fun y s₅ yv σ₅ H₅ r₅ k₅ q₅ => (q₅ s₅ x y H₅ (r₄.mono k₅) r₅).run fun _ s₆ _ σ₆ H₆ _ k₆ q₆ => ?_
      obtain ⟨m, hm, j⟩ := q₆
      exact ⟨m, hm, σ₆, H₆, k3.trans (k₄.trans (k₅.trans k₆)), j⟩
theorem dcomp_ {K : Type} [DecidableEq K] (knd : KeyKind C.prog C.w K) {cl : List (Str × Addr)} {ks : List Str} {cn : List Str} {use : Option (Value → Sem Unit)} {Q : V → Led → Prop} {pos' : Pos} (nd : ks.Nodup) (hcn : (cellNames scope).reverse = cn) (hclos : closureFor scope env = pure cl)
    (hkind : scope.kind = .function) (hnames : ∀ x ∈ scope.names, x.2 = .local → scope.names.lookup x.1 = some .local)
    (h : Tr C VR A σ (eval iter env) (fun x σ₁ => It C A σ₁ x (fun it σ₂ => ∀ D L cs, cs.map Prod.fst = cn → DLoop C A (cenvOf scope L cs cl env) kx vx target ifs D
      (CompEnd C A ks L D Q use) it ((D, AO.dct knd 0 fun _ => none) :: (L, AO.fr ks (ks.map fun _ => none)) :: (celled cs ++ σ₂)))))
    (ht : ∀ it v, letOwnedTupleGo target it v = pure ()) (hs : ∀ x, foldedSetIterable iter env x = pure x) :
    Tr C VR A σ (comprehension (.DictComp kx vx [⟨target, iter, ifs, 0⟩] scope pos) scope env pos' newDict false (eval iter env) use) Q := by
  intro s H
  refine wpAny_comprehension_free (g := ⟨target, iter, ifs, 0⟩) (gs := []) rfl hs hclos hkind hnames ?_
  refine (h s H).run fun xv s₁ x σ₁ H₁ r₁ k₁ q₁ => (q₁ s₁ xv H₁ r₁).run fun itv s₂ it σ₂ H₂ r₂ k₂ q₂ => ?_
  have hn : Tr C VR A σ₂ newDict (fun v σ' => ∃ D, v = .ref D ∧ σ' = (D, AO.dct knd 0 fun _ => none) :: σ₂) := newDict_ knd fun a _ => ⟨a, rfl, rfl⟩
  refine (hn s₂ H₂).run fun Dv s₃ Dx σ₃ H₃ r₃ k₃ q₃ => ?_
  obtain ⟨D, rfl, rfl⟩ := q₃
  obtain rfl := vr_ref.mp r₃
  have he : WP C RE A s₃ (newFunctionEnv scope env.globals cl (([] : List Str).zip ([] : List Value)) env.qual none .none (some env)) (fun cenv σ₄ => ∃ L cs, cs.map Prod.fst = cn ∧ { cenv with scope := relabel scope env } = cenvOf scope L cs cl env ∧ cenv.locals = L ∧
      σ₄ = (L, AO.fr ks (ks.map fun _ => none)) :: (celled cs ++ (D, AO.dct knd 0 fun _ => none) :: σ₂)) :=
    newFunctionEnv_ (bxs := []) (bvs := []) nd hcn rfl H₃ VRs.nil fun L cs hcs => ⟨L, cs, hcs, rfl, rfl, rfl⟩
  refine he.run fun cenv s₄ cenv' σ₄ H₄ r₄ k₄ q₄ => ?_
  cases r₄
  obtain ⟨L, cs, hcs, hce, hL, rfl⟩ := q₄
  rw [hce, hL]
  have H₅ : HR C ((D, AO.dct knd 0 fun _ => none) :: (L, AO.fr ks (ks.map fun _ => none)) :: (celled cs ++ σ₂)) s₄ := by
    refine H₄.perm ((List.Perm.swap ..).trans (List.Perm.cons _ List.perm_middle.symm))
  have kk := k₁.trans (k₂.trans (k₃.trans k₄))
  have goal : ∀ s' σ', HR C σ' s' → TK s₄.heap s'.heap → CompEnd C A ks L D Q use σ' → compPost (model C.prog C.w) A No use (Post C VR s.heap Q) (.ref D) L (.ok .next) s' := by
    intro s' σ' H' k' q
    cases use with
    | none =>
      obtain ⟨vs, σ'', sb, q⟩ := q
      have H'' := HR.sb sb H'
      obtain ⟨o, g, _, F⟩ := H''.own _ (List.Mem.head _)
      obtain ⟨m, N, _⟩ := FrIs.nsOf F g
      refine ⟨m, N, fun h' hs' => ?_⟩
      have D' := HR.del (s' := { s' with heap := h' }) H'' hs'.extBut rfl rfl
      exact ⟨.ref D, σ'', D'.1, vr_ref.mpr rfl, kk.trans (k'.trans D'.2), q⟩
    | some u =>
      refine (q s' _ H' rfl).run fun _ s'' _ σ'' H'' _ k'' q'' => ?_
      obtain ⟨vs, σ₃, sb, q⟩ := q''
      have H₃' := HR.sb sb H''
      obtain ⟨o, g, _, F⟩ := H₃'.own _ (List.Mem.head _)
      obtain ⟨m, N, _⟩ := FrIs.nsOf F g
      refine ⟨m, N, fun h' hs' => ?_⟩
      have D' := HR.del (s' := { s'' with heap := h' }) H₃' hs'.extBut rfl rfl
      exact ⟨.none, σ₃, D'.1, vr_none.mpr rfl, kk.trans (k'.trans (k''.trans D'.2)), q⟩
  have q := q₂ D L cs hcs
  have ritv := r₂.mono (k₃.trans k₄)
  refine codeAny_compStart_dict (loopD_ H₅ ritv q.1 goal ht) ?_
  refine (q.2 s₄ itv H₅ ritv).run fun it' s₅ itx σ₅ H₆ r₅ k₅ q₅ => loopD_ H₆ r₅ q₅ (fun s' σ' H' k' q => goal s' σ' H' (k₅.trans k') q) ht
end
section
variable {C : Cx} {A : Around} {σ σ' : Led} {env cenv : Env} {kx vx target iter : Expr} {ifs : List Expr} {scope : Scope} {pos : Pos} {D : Addr} {Qn : Led → Prop} {K : Type} [DecidableEq K] {knd : KeyKind C.prog C.w K}
theorem loopD_sb {it : V} {σ₀ : Led} (k : Sb σ₀ σ) (h : LoopD C A cenv kx vx target ifs D Qn it σ₀) : LoopD C A cenv kx vx target ifs D Qn it σ := by
  obtain ⟨J, n, j, turn⟩ := h
  refine ⟨fun m σ => ∃ σ', Sb σ' σ ∧ J m σ', n, ⟨σ₀, k, j⟩, ?_⟩
  rintro n σ ⟨σ', k, j⟩
  refine nx_sb k fun s v H r => (turn n σ' j s v H r).mono fun o σ₃ q => ?_
  cases o with
  | none => exact q
  | some y =>
    refine fun s v H r => (q s v H r).mono fun _ σ₄ q => tests_mono q fun b σ₅ q => ?_
    cases b with
    | false => obtain ⟨m, hm, j⟩ := q; exact ⟨m, hm, _, .refl, j⟩
    | true =>
      simp only [if_true] at q ⊢
      exact Tr.mono q fun k σ₆ q => Tr.mono q fun v σ₇ q => fun s a b H ra rb => (q s a b H ra rb).mono fun _ σ₈ ⟨m, hm, j⟩ => ⟨m, hm, _, .refl, j⟩
theorem loopD_seq {a : Addr} {Xo : Nat → AO} {l : List V} {G : Led → Prop} (I : Iter C A a Xo l G) (hz : l.length ≤ 1000000) (F : Nat → K → Option V) (J : Nat → Led → Prop) (h0 : J 0 σ) (hF0 : F 0 = fun _ => none) (hG : ∀ i σ, J i σ → G ((D, AO.dct knd i (F i)) :: σ))
    (turn : ∀ i y σ, l[i]? = some y → J i σ → Asg C A cenv ((a, Xo (i + 1)) :: (D, AO.dct knd i (F i)) :: σ) target y (fun σ₁ =>
        Tr C VR A σ₁ (eval kx cenv) (fun kv σ₂ => Tr C VR A σ₂ (eval vx cenv) (fun v σ₃ => ∃ k σ', IsKey knd kv k ∧ (F (i + 1) = fun x => if x = k then some v else F i x) ∧ Sb ((D, AO.dct knd i (F i)) :: (a, Xo (i + 1)) :: σ') σ₃ ∧ J (i + 1) σ'))))
    (fin : ∀ σ, J l.length σ → Qn ((D, AO.dct knd l.length (F l.length)) :: σ)) : LoopD C A cenv kx vx target [] D Qn (.ref a) ((D, AO.dct knd 0 fun _ => none) :: (a, Xo 0) :: σ) := by
  refine ⟨fun n σ => ∃ i σ', n = l.length + 1 - i ∧ i ≤ l.length ∧ Sb ((D, AO.dct knd i (F i)) :: (a, Xo i) :: σ') σ ∧ J i σ', l.length + 1, ⟨0, σ, rfl, Nat.zero_le _, by rw [hF0]; exact .refl, h0⟩, ?_⟩
  rintro n σ ⟨i, σ', rfl, hi, sb, j⟩
  refine (fun (h : Nx C A ((a, Xo i) :: (D, AO.dct knd i (F i)) :: σ') (.ref a) _) => (fun s v H r => h s v ((HR.sb sb H).perm (List.Perm.swap ..)) r : Nx C A σ (.ref a) _)) ?_
  rcases Nat.lt_or_ge i l.length with hl | hl
  · have e : l[i]? = some l[i] := List.getElem?_eq_getElem hl
    refine I.item i l[i] _ _ e (hG i σ' j) ?_
    refine fun s v H r => (turn i l[i] σ' e j s v H r).mono fun _ σ₁ q => ?_
    show Tests C A cenv σ₁ [] _
    unfold Tests
    simp only [if_true]
    refine Tr.mono q fun kv σ₂ q => Tr.mono q fun v σ₃ q => ?_
    obtain ⟨k, σ₄, hk, hF, sb2, j2⟩ := q
    intro s a' b' H ra rb
    refine dset_ (knd := knd) (n := i) (F := F i) (HR.sb sb2 H) .head hk (by lia) ra rb ?_
    exact ⟨l.length + 1 - (i + 1), by lia, i + 1, σ₄, rfl, hl, by rw [hF]; exact .refl, j2⟩
  · have e : i = l.length := Nat.le_antisymm hi hl
    subst e
    exact I.stop _ _ (hG _ _ j) (fin σ' j)
theorem dloop_iter {a : Addr} {Xo : Nat → AO} {l : List V} {G : Led → Prop} (sb : Sb ((D, AO.dct knd 0 fun _ => none) :: (a, Xo 0) :: σ') σ) (I : Iter C A a Xo l G) (hz : l.length ≤ 1000000) (F : Nat → K → Option V) (J : Nat → Led → Prop) (h0 : J 0 σ') (hF0 : F 0 = fun _ => none) (hG : ∀ i σ, J i σ → G ((D, AO.dct knd i (F i)) :: σ))
    (turn : ∀ i y σ, l[i]? = some y → J i σ → Asg C A cenv ((a, Xo (i + 1)) :: (D, AO.dct knd i (F i)) :: σ) target y (fun σ₁ =>
        Tr C VR A σ₁ (eval kx cenv) (fun kv σ₂ => Tr C VR A σ₂ (eval vx cenv) (fun v σ₃ => ∃ k σ', IsKey knd kv k ∧ (F (i + 1) = fun x => if x = k then some v else F i x) ∧ Sb ((D, AO.dct knd i (F i)) :: (a, Xo (i + 1)) :: σ') σ₃ ∧ J (i + 1) σ'))))
    (fin : ∀ σ, J l.length σ → Qn ((D, AO.dct knd l.length (F l.length)) :: σ)) : DLoop C A cenv kx vx target [] D Qn (.ref a) σ := by
  have L := loopD_seq (C := C) (A := A) (σ := σ') (cenv := cenv) (kx := kx) (vx := vx) (target := target) (D := D) (Qn := Qn) (knd := knd) I hz F J h0 hF0 hG turn fin
  refine ⟨loopD_sb sb L, fun s v H r => ?_⟩
  have := I.self ((D, AO.dct knd 0 fun _ => none) :: σ') (fun it σ'' => LoopD C A cenv kx vx target [] D Qn it σ'') ?_
  · exact this s v ((HR.sb sb H).perm (List.Perm.swap ..)) r
  · exact loopD_sb (.take (.tail .head) (.take .head .refl)) L
theorem e_dc (knd : KeyKind C.prog C.w K) {cl : List (Str × Addr)} {ks cn : List Str} {Q : V → Led → Prop} (nd : ks.Nodup) (hcn : (cellNames scope).reverse = cn) (hclos : closureFor scope env = pure cl)
    (hkind : scope.kind = .function) (hnames : ∀ x ∈ scope.names, x.2 = .local → scope.names.lookup x.1 = some .local)
    (h : Tr C VR A σ (eval iter env) (fun x σ₁ => It C A σ₁ x (fun it σ₂ => ∀ D L cs, cs.map Prod.fst = cn → DLoop C A (cenvOf scope L cs cl env) kx vx target ifs D
      (fun σ' => ∃ vs σ'', Sb ((L, AO.fr ks vs) :: σ'') σ' ∧ Q (.ref D) σ'') it ((D, AO.dct knd 0 fun _ => none) :: (L, AO.fr ks (ks.map fun _ => none)) :: (celled cs ++ σ₂)))))
    (ht : ∀ it v, letOwnedTupleGo target it v = pure ()) (hs : ∀ x, foldedSetIterable iter env x = pure x) :
    Tr C VR A σ (eval (.DictComp kx vx [⟨target, iter, ifs, 0⟩] scope pos) env) Q :=
  dcomp_ knd (use := none) nd hcn hclos hkind hnames h ht hs
end
end Mine
end
section
open PySem PySem.W PySem.Calls PyProof.Rows PySem.Spec
set_option Elab.async false
set_option maxRecDepth 100000
set_option linter.unusedVariables false
namespace Mine
section
variable {C : Cx} {A : Around} {σ : Led} {env : Env} {pos : Pos} {Qn R : Led → Prop} {Qr : V → Led → Prop} {Qb Qc : Led → Prop} {t : Expr} {b o : List Stmt}
theorem Xs.next {st : List Stmt} (h : Xs C A env σ st R Qr Qb Qc) (k : ∀ σ', R σ' → Qn σ') : Xs C A env σ st Qn Qr Qb Qc :=
  Tr.mono h fun f σ' q => by
    cases f with
    | next => exact k _ q
    | cont => exact q
    | brk => exact q
    | ret x => exact q
theorem x_ifJ (R : Led → Prop) (h : Tr C RB A σ (isTrue t env (eval t env)) (fun c σ₁ => if c = true then Xs C A env σ₁ b R Qr Qb Qc else Xs C A env σ₁ o R Qr Qb Qc)) (k : ∀ σ', R σ' → Qn σ') : X C A env σ (.If t b o pos) Qn Qr Qb Qc :=
  x_if (Tr.mono h fun c σ₁ q => by
    cases c with
    | true => simp only [if_true] at q ⊢; exact q.next k
    | false => simp only [Bool.false_eq_true, if_false] at q ⊢; exact q.next k)
end
noncomputable def fd {K : Type} [DecidableEq K] (k : Nat → K) (v : Nat → V) : Nat → K → Option V
  | 0, _ => none
  | i + 1, x => if x = k i then some (v i) else fd k v i x
theorem fd_succ {K : Type} [DecidableEq K] (k : Nat → K) (v : Nat → V) (i : Nat) : fd k v (i + 1) = fun x => if x = k i then some (v i) else fd k v i x := rfl
theorem fd_at {K : Type} [DecidableEq K] (k : Nat → K) (v : Nat → V) : ∀ n, (∀ i j, i < n → j < n → k i = k j → v i = v j) → ∀ i, i < n → fd k v n (k i) = some (v i)
  | 0, _, i, h => absurd h (Nat.not_lt_zero _)
  | n + 1, H, i, h => by
    rw [fd_succ]
    show (if k i = k n then some (v n) else fd k v n (k i)) = _
    by_cases e : k i = k n
    · rw [if_pos e, H i n h (Nat.lt_succ_self n) e]
    · rw [if_neg e]
      refine fd_at k v n (fun a b ha hb => H a b (by lia) (by lia)) i ?_
      rcases Nat.lt_or_ge i n with q | q
      · exact q
      · have : i = n := by lia
        subst this; exact absurd rfl e
noncomputable def PL (D : Addr) (z : Nat) (pa da : Nat → Addr) (it : Nat → List (List Nat × List Nat)) : Nat → Led
  | 0 => []
  | n + 1 => (pa n, AO.seq (.ref D) (some (da n)) ((it n).map pairV)) :: (da n, AO.attrs ["_initial_size"] [some (.int (z : Nat))]) :: PL D z pa da it n
section
variable {D : Addr} {z : Nat} {pa da : Nat → Addr} {it : Nat → List (List Nat × List Nat)} {σ : Led}
end
noncomputable def ws3 (v : Nat) : List Nat := [32, 9].take (v % 3)
end Mine
end
section
open PySem PySem.W PySem.Calls PyProof.Rows PySem.Spec
set_option Elab.async false
set_option maxRecDepth 100000
set_option linter.unusedVariables false
namespace Mine
section
variable {prog : Program} {w : World} {A : Around} {E : Value → Shared → Prop} {R : Result → Shared → Prop} {s : Shared}
theorem compLoop_tests2 {elt target iter : Expr} {ifs : List Expr} {scope : Scope} {pos : Pos} {it acc : Value} {env : Env} (I : Nat → Shared → Prop)
    (turn : ∀ n s, I n s → wpAny (model prog w) A (pyNext it) (fun r s₁ => match r with
      | none => R (.ok .next) s₁
      | some v => wpAny (model prog w) A (letOwnedTupleGo target it v) (fun _ s₁' => wpAny (model prog w) A (assign target env v) (fun _ s₂ =>
          wpAny (model prog w) A (forIn ifs true fun c r => if r = true then do let ok ← isTrue c env (eval c env); pure (ForInStep.yield ok) else pure (ForInStep.yield r)) (fun ok s₃ =>
            if ok = true then wpAny (model prog w) A (eval elt env) (fun x s₄ =>
              wpAny (model prog w) A (call (.builtin "list.append") [acc, x]) (fun _ s₅ => ∃ m, m < n ∧ I m s₅) (notedBy (model prog w) A env fun e s' => R (.error e) s') s₄) (notedBy (model prog w) A env fun e s' => R (.error e) s') s₃
            else ∃ m, m < n ∧ I m s₃) (notedBy (model prog w) A env fun e s' => R (.error e) s') s₂) (notedBy (model prog w) A env fun e s' => R (.error e) s') s₁') (notedBy (model prog w) A env fun e s' => R (.error e) s') s₁) (notedBy (model prog w) A env fun e s' => R (.error e) s') s)
    (n : Nat) (h : I n s) :
    codeAny (model prog w) A (.compLoop (.ListComp elt [⟨target, iter, ifs, 0⟩] scope pos) 0 it acc env) R s := by
  refine codeAny_loop rfl I (fun n s hI => ?_) n h
  show wpAny _ A ((compTurn (.ListComp elt [⟨target, iter, ifs, 0⟩] scope pos) 0 it acc env).onRaise (fun x => do noteFrame x env; theTreesLotGoes x)) _ _ s
  refine wpAny_noted ?_
  rw [compTurn_list]
  refine wpAny_bind (wpAny_standAt (wpAny_bind (wpAny_mono (turn n s hI) (fun r s₁ h₁ => ?_) fun _ _ h' => h')))
  cases r with
  | none => exact wpAny_pure h₁
  | some v =>
    refine wpAny_bind (wpAny_mono h₁ (fun _ s₁' h₁' => ?_) fun _ _ h' => h')
    refine wpAny_bind (wpAny_mono h₁' (fun _ s₂ h₂ => wpAny_bind (wpAny_mono h₂ (fun ok s₃ h₃ => ?_) fun _ _ h' => h')) fun _ _ h' => h')
    cases ok with
    | false => exact wpAny_pure ⟨rfl, h₃⟩
    | true =>
      exact wpAny_bind (wpAny_bind (wpAny_mono h₃ (fun x s₄ h₄ => wpAny_bind (wpAny_mono h₄ (fun _ s₅ h₅ => wpAny_pure (wpAny_pure ⟨rfl, h₅⟩)) fun _ _ h' => h')) fun _ _ h' => h'))
end
noncomputable def Lit (σ : Led) (it y : V) : Prop := ∃ a b i l, it = .ref a ∧ (a, AO.lit b i) ∈ σ ∧ y = .tup l
noncomputable def LoopT (C : Cx) (A : Around) (cenv : Env) (elt target : Expr) (ifs : List Expr) (D : Addr) (Qn : Led → Prop) (it : V) (σ : Led) : Prop :=
  ∃ (J : Nat → Led → Prop) (n : Nat), J n σ ∧ ∀ n σ, J n σ → Nx C A σ it (fun o σ₃ => match o with
    | none => Qn σ₃
    | some y => Lit σ₃ it y ∧ Asg C A cenv σ₃ target y (fun σ₄ => Tests C A cenv σ₄ ifs (fun b σ₅ => if b = true then Tr C VR A σ₅ (eval elt cenv) (fun v σ₆ => Call C A σ₆ (.bi "list.append") [.ref D, v] (fun _ σ₇ => ∃ m, m < n ∧ J m σ₇)) else ∃ m, m < n ∧ J m σ₅)))
noncomputable def CLoopT (C : Cx) (A : Around) (cenv : Env) (elt target : Expr) (ifs : List Expr) (D : Addr) (Qn : Led → Prop) (it : V) (σ : Led) : Prop :=
  LoopT C A cenv elt target ifs D Qn it σ ∧ It C A σ it (LoopT C A cenv elt target ifs D Qn)
section
variable {C : Cx} {A : Around} {σ : Led} {env cenv : Env} {elt iter : Expr} {elts : List Expr} {x1 : Nat} {tp : Pos} {ifs : List Expr} {scope : Scope} {pos : Pos} {D : Addr} {Qn : Led → Prop} {it : V}
theorem loopT_ {s : Shared} {itv : Value} {R : Result → Shared → Prop} (H : HR C σ s) (r : VR s.heap it itv) (h : LoopT C A cenv elt (.Tuple elts x1 tp) ifs D Qn it σ)
    (k : ∀ s' σ', HR C σ' s' → TK s.heap s'.heap → Qn σ' → R (.ok .next) s') :
    codeAny (model C.prog C.w) A (.compLoop (.ListComp elt [⟨.Tuple elts x1 tp, iter, ifs, 0⟩] scope pos) 0 itv (.ref D) cenv) R s := by
  obtain ⟨J, n, j0, turn⟩ := h
  refine compLoop_tests2 (fun n s' => ∃ σ', HR C σ' s' ∧ TK s.heap s'.heap ∧ J n σ') (fun n s' ⟨σ', H', kk, j⟩ => ?_) n ⟨σ, H, TK.refl _, j0⟩
  refine (turn n σ' j s' itv H' (r.mono kk)).run fun o s₁ b σ₁ H₁ r₁ k₁ q₁ => ?_
  cases b with
  | none => cases r₁; exact k _ _ H₁ (kk.trans k₁) q₁
  | some y =>
    obtain ⟨v, rfl, rv⟩ := r₁
    obtain ⟨⟨ia, ib, ii, l, rfl, hm, rfl⟩, q₁⟩ := q₁
    obtain ⟨oi, gi, _, ci, di⟩ := H₁.own _ hm
    obtain ⟨ta, tvs, rfl, _⟩ := vr_tup.mp rv
    cases vr_ref.mp r
    refine wpAny_letOwnedTupleGo_listiter ⟨oi, gi, ci, di⟩ ?_
    refine (q₁ s₁ _ H₁ rv).run fun _ s₂ _ σ₂ H₂ _ k₂ q₂ => tests_ H₂ q₂ fun b s₃ σ₃ H₃ k₃ q₃ => ?_
    have k3 := kk.trans (k₁.trans (k₂.trans k₃))
    cases b with
    | false => obtain ⟨m, hm, j⟩ := q₃; exact ⟨m, hm, σ₃, H₃, k3, j⟩
    | true =>
      simp only [if_true] at q₃ ⊢
      refine (q₃ s₃ H₃).run fun x s₄ xv σ₄ H₄ r₄ k₄ q₄ => (q₄ s₄ _ [.ref D, x] H₄ rfl (VRs.cons rfl (VRs.cons r₄ VRs.nil))).run fun _ s₅ _ σ₅ H₅ _ k₅ q₅ => ?_
      obtain ⟨m, hm, j⟩ := q₅
      exact ⟨m, hm, σ₅, H₅, k3.trans (k₄.trans k₅), j⟩
theorem e_lcT {cl : List (Str × Addr)} {ks : List Str} {cn : List Str} {Q : V → Led → Prop} (nd : ks.Nodup) (hcn : (cellNames scope).reverse = cn) (hclos : closureFor scope env = pure cl)
    (hkind : scope.kind = .function) (hnames : ∀ x ∈ scope.names, x.2 = .local → scope.names.lookup x.1 = some .local)
    (h : Tr C VR A σ (eval iter env) (fun x σ₁ => It C A σ₁ x (fun it σ₂ => ∀ D L cs, cs.map Prod.fst = cn → CLoopT C A (cenvOf scope L cs cl env) elt (.Tuple elts x1 tp) ifs D
      (fun σ' => ∃ vs σ'', Sb ((L, AO.fr ks vs) :: σ'') σ' ∧ Q (.ref D) σ'') it ((D, AO.list []) :: (L, AO.fr ks (ks.map fun _ => none)) :: (celled cs ++ σ₂)))))
    (hs : ∀ x, foldedSetIterable iter env x = pure x) :
    Tr C VR A σ (eval (.ListComp elt [⟨.Tuple elts x1 tp, iter, ifs, 0⟩] scope pos) env) Q := by
  intro s H
  show wpAny _ _ (comprehension (.ListComp elt [⟨.Tuple elts x1 tp, iter, ifs, 0⟩] scope pos) scope env _ (newList []) false (eval iter env) none) _ _ s
  refine wpAny_comprehension_free (g := ⟨.Tuple elts x1 tp, iter, ifs, 0⟩) (gs := []) rfl hs hclos hkind hnames ?_
  refine (h s H).run fun xv s₁ x σ₁ H₁ r₁ k₁ q₁ => (q₁ s₁ xv H₁ r₁).run fun itv s₂ it σ₂ H₂ r₂ k₂ q₂ => ?_
  have hn : OpL C VR A σ₂ newList [] (fun v σ' => ∃ D, v = .ref D ∧ σ' = (D, AO.list []) :: σ₂) := newList_ (Nat.zero_le _) fun a => ⟨a, rfl, rfl⟩
  refine (hn s₂ [] H₂ VRs.nil).run fun Dv s₃ Dx σ₃ H₃ r₃ k₃ q₃ => ?_
  obtain ⟨D, rfl, rfl⟩ := q₃
  obtain rfl := vr_ref.mp r₃
  have he : WP C RE A s₃ (newFunctionEnv scope env.globals cl (([] : List Str).zip ([] : List Value)) env.qual none .none (some env)) (fun cenv σ₄ => ∃ L cs, cs.map Prod.fst = cn ∧ { cenv with scope := relabel scope env } = cenvOf scope L cs cl env ∧ cenv.locals = L ∧
      σ₄ = (L, AO.fr ks (ks.map fun _ => none)) :: (celled cs ++ (D, AO.list []) :: σ₂)) :=
    newFunctionEnv_ (bxs := []) (bvs := []) nd hcn rfl H₃ VRs.nil fun L cs hcs => ⟨L, cs, hcs, rfl, rfl, rfl⟩
  refine he.run fun cenv s₄ cenv' σ₄ H₄ r₄ k₄ q₄ => ?_
  cases r₄
  obtain ⟨L, cs, hcs, hce, hL, rfl⟩ := q₄
  rw [hce, hL]
  have H₅ : HR C ((D, AO.list []) :: (L, AO.fr ks (ks.map fun _ => none)) :: (celled cs ++ σ₂)) s₄ := by
    refine H₄.perm ((List.Perm.swap ..).trans (List.Perm.cons _ List.perm_middle.symm))
  have kk := k₁.trans (k₂.trans (k₃.trans k₄))
  have goal : ∀ s' σ', HR C σ' s' → TK s₄.heap s'.heap → (∃ vs σ'', Sb ((L, AO.fr ks vs) :: σ'') σ' ∧ Q (.ref D) σ'') → compPost (model C.prog C.w) A No none (Post C VR s.heap Q) (.ref D) L (.ok .next) s' := by
    intro s' σ' H' k' q
    obtain ⟨vs, σ'', sb, q⟩ := q
    have H'' := HR.sb sb H'
    obtain ⟨o, g, _, F⟩ := H''.own _ (List.Mem.head _)
    obtain ⟨m, N, _⟩ := FrIs.nsOf F g
    refine ⟨m, N, fun h' hs' => ?_⟩
    have D' := HR.del (s' := { s' with heap := h' }) H'' hs'.extBut rfl rfl
    exact ⟨.ref D, σ'', D'.1, vr_ref.mpr rfl, kk.trans (k'.trans D'.2), q⟩
  have q := q₂ D L cs hcs
  have ritv := r₂.mono (k₃.trans k₄)
  refine codeAny_compStart_list (loopT_ H₅ ritv q.1 goal) ?_
  refine (q.2 s₄ itv H₅ ritv).run fun it' s₅ itx σ₅ H₆ r₅ k₅ q₅ => loopT_ H₆ r₅ q₅ (fun s' σ' H' k' q => goal s' σ' H' (k₅.trans k') q)
end
section
variable {C : Cx} {A : Around} {σ σ' : Led} {cenv : Env} {elt target cnd : Expr} {ifs : List Expr} {D b : Addr} {Qn : Led → Prop}
theorem loopT_sb {it : V} {σ₀ : Led} (k : Sb σ₀ σ) (h : LoopT C A cenv elt target ifs D Qn it σ₀) : LoopT C A cenv elt target ifs D Qn it σ := by
  obtain ⟨J, n, j, turn⟩ := h
  refine ⟨fun n σ => ∃ σ₀, Sb σ₀ σ ∧ J n σ₀, n, ⟨σ₀, k, j⟩, fun n σ ⟨σ₁, k, j⟩ => nx_sb k fun s v H r => (turn n σ₁ j s v H r).mono fun o σ₃ q => ?_⟩
  cases o with
  | none => exact q
  | some y =>
    refine ⟨q.1, fun s a H r => (q.2 s a H r).mono fun _ σ₄ q => tests_mono q fun b σ₅ q => ?_⟩
    cases b with
    | false => obtain ⟨m, hm, j⟩ := q; exact ⟨m, hm, _, .refl, j⟩
    | true => exact Tr.mono q fun v σ₆ q => fun s fv vs H r rr => (q s fv vs H r rr).mono fun _ σ₇ ⟨m, hm, j⟩ => ⟨m, hm, _, .refl, j⟩
theorem loopT_seq {a : Addr} {l : List V} {G : Led → Prop} (I : Iter C A a (AO.lit b) l G) (ht : ∀ y ∈ l, ∃ t, y = V.tup t) (J : Nat → List V → Led → Prop) (h0 : J 0 [] σ) (hG : ∀ i acc σ, J i acc σ → G ((D, AO.list acc) :: σ)) (hz : l.length ≤ sizeLine)
    (turn : ∀ i y acc σ, l[i]? = some y → acc.length ≤ i → J i acc σ → Asg C A cenv ((a, AO.lit b (i + 1)) :: (D, AO.list acc) :: σ) target y (fun σ₁ => Tests C A cenv σ₁ ifs (fun t σ₂ => if t = true then
        Tr C VR A σ₂ (eval elt cenv) (fun v σ₃ => ∃ σ', Sb ((D, AO.list acc) :: (a, AO.lit b (i + 1)) :: σ') σ₃ ∧ J (i + 1) (acc ++ [v]) σ')
        else ∃ σ', Sb ((D, AO.list acc) :: (a, AO.lit b (i + 1)) :: σ') σ₂ ∧ J (i + 1) acc σ')))
    (fin : ∀ acc σ, J l.length acc σ → Qn ((D, AO.list acc) :: σ)) : LoopT C A cenv elt target ifs D Qn (.ref a) ((D, AO.list []) :: (a, AO.lit b 0) :: σ) := by
  refine ⟨fun n σ => ∃ i acc σ', n = l.length + 1 - i ∧ i ≤ l.length ∧ acc.length ≤ i ∧ Sb ((D, AO.list acc) :: (a, AO.lit b i) :: σ') σ ∧ J i acc σ', l.length + 1, ⟨0, [], σ, rfl, Nat.zero_le _, Nat.le_refl _, .refl, h0⟩, ?_⟩
  rintro n σ ⟨i, acc, σ', rfl, hi, ha, sb, j⟩
  refine (fun (h : Nx C A ((a, AO.lit b i) :: (D, AO.list acc) :: σ') (.ref a) _) => (fun s v H r => h s v ((HR.sb sb H).perm (List.Perm.swap ..)) r : Nx C A σ (.ref a) _)) ?_
  rcases Nat.lt_or_ge i l.length with hl | hl
  · have e : l[i]? = some l[i] := List.getElem?_eq_getElem hl
    refine I.item i l[i] _ _ e (hG i acc σ' j) ?_
    obtain ⟨tt, ett⟩ := ht l[i] (List.getElem_mem hl)
    refine ⟨⟨a, b, i + 1, tt, rfl, List.Mem.head _, ett⟩, ?_⟩
    refine fun s v H r => (turn i l[i] acc σ' e ha j s v H r).mono fun _ σ₁ q => ?_
    have back : ∀ {acc' : List V} {σ₂ : Led}, acc'.length ≤ i + 1 → (∃ σ', Sb ((D, AO.list acc') :: (a, AO.lit b (i + 1)) :: σ') σ₂ ∧ J (i + 1) acc' σ') →
        ∃ m, m < l.length + 1 - i ∧ ∃ i acc σ', m = l.length + 1 - i ∧ i ≤ l.length ∧ acc.length ≤ i ∧ Sb ((D, AO.list acc) :: (a, AO.lit b i) :: σ') σ₂ ∧ J i acc σ' := by
      rintro acc' σ₂ hh ⟨σ', k, j⟩
      exact ⟨l.length + 1 - (i + 1), by lia, i + 1, acc', σ', rfl, hl, hh, k, j⟩
    refine tests_mono q fun t σ₂ q => ?_
    cases t with
    | false => exact back (by lia) q
    | true =>
      simp only [if_true] at q ⊢
      refine Tr.mono q fun v σ₃ ⟨σ', k, j⟩ => ?_
      intro s fv vs H r rr
      refine c_append (Q := fun _ σ₇ => ∃ m, m < l.length + 1 - i ∧ ∃ i acc σ', m = l.length + 1 - i ∧ i ≤ l.length ∧ acc.length ≤ i ∧ Sb ((D, AO.list acc) :: (a, AO.lit b i) :: σ') σ₇ ∧ J i acc σ') .head (by lia) ?_ s fv vs (HR.sb k H) r rr
      exact back (by simp; lia) ⟨σ', .refl, j⟩
  · have e : i = l.length := Nat.le_antisymm hi hl
    subst e
    exact I.stop _ _ (hG _ _ _ j) (fin acc σ' j)
theorem cloopT_iter {a : Addr} {l : List V} {G : Led → Prop} (sb : Sb ((D, AO.list []) :: (a, AO.lit b 0) :: σ') σ) (I : Iter C A a (AO.lit b) l G) (ht : ∀ y ∈ l, ∃ t, y = V.tup t) (J : Nat → List V → Led → Prop) (h0 : J 0 [] σ') (hG : ∀ i acc σ, J i acc σ → G ((D, AO.list acc) :: σ)) (hz : l.length ≤ sizeLine)
    (turn : ∀ i y acc σ, l[i]? = some y → acc.length ≤ i → J i acc σ → Asg C A cenv ((a, AO.lit b (i + 1)) :: (D, AO.list acc) :: σ) target y (fun σ₁ => Tests C A cenv σ₁ ifs (fun t σ₂ => if t = true then
        Tr C VR A σ₂ (eval elt cenv) (fun v σ₃ => ∃ σ', Sb ((D, AO.list acc) :: (a, AO.lit b (i + 1)) :: σ') σ₃ ∧ J (i + 1) (acc ++ [v]) σ')
        else ∃ σ', Sb ((D, AO.list acc) :: (a, AO.lit b (i + 1)) :: σ') σ₂ ∧ J (i + 1) acc σ')))
    (fin : ∀ acc σ, J l.length acc σ → Qn ((D, AO.list acc) :: σ)) : CLoopT C A cenv elt target ifs D Qn (.ref a) σ := by
  have main := loopT_seq (D := D) I ht J h0 hG hz turn fin
  refine ⟨loopT_sb sb main, fun s v H r => ?_⟩
  have := I.self ((D, AO.list []) :: σ') (fun it σ'' => LoopT C A cenv elt target ifs D Qn it σ'') ?_
  · exact this s v ((HR.sb sb H).perm (List.Perm.swap ..)) r
  · exact loopT_sb (.take (.tail .head) (.take .head .refl)) main
theorem cloopT_map {a : Addr} {l : List V} {G : Led → Prop} (f : Nat → V) (sb : Sb ((D, AO.list []) :: (a, AO.lit b 0) :: σ') σ) (I : Iter C A a (AO.lit b) l G) (ht : ∀ y ∈ l, ∃ t, y = V.tup t) (J : Nat → Led → Prop) (h0 : J 0 σ') (hG : ∀ i acc σ, J i σ → G ((D, AO.list acc) :: σ)) (hz : l.length ≤ sizeLine)
    (turn : ∀ i y acc σ, l[i]? = some y → J i σ → Asg C A cenv ((a, AO.lit b (i + 1)) :: (D, AO.list acc) :: σ) target y (fun σ₁ => Tr C VR A σ₁ (eval elt cenv) (fun v σ₃ => v = f i ∧ ∃ σ', Sb ((D, AO.list acc) :: (a, AO.lit b (i + 1)) :: σ') σ₃ ∧ J (i + 1) σ')))
    (fin : ∀ σ, J l.length σ → Qn ((D, AO.list ((List.range l.length).map f)) :: σ)) : CLoopT C A cenv elt target [] D Qn (.ref a) σ := by
  refine cloopT_iter sb I ht (fun i acc σ' => acc = (List.range i).map f ∧ J i σ') ⟨rfl, h0⟩ (fun i acc σ h => hG i acc σ h.2) hz (fun i y acc σ hy ha j => ?_) (fun acc σ h => by rw [h.1]; exact fin σ h.2)
  obtain ⟨ea, j⟩ := j
  refine fun s v H r => (turn i y acc σ hy j s v H r).mono fun _ σ₁ q => ?_
  show Tests C A cenv σ₁ [] _
  unfold Tests
  simp only [if_true]
  refine Tr.mono q fun v σ₃ q => ?_
  obtain ⟨rfl, σ', k, j⟩ := q
  exact ⟨σ', k, by rw [List.range_succ, List.map_append, ← ea]; rfl, j⟩
end
end Mine
end
section
open PySem PySem.W PySem.Calls PyProof.Rows PySem.Spec
set_option Elab.async false
set_option maxRecDepth 100000
set_option linter.unusedVariables false
namespace Mine
theorem ints_are {h : Heap} : ∀ {ns : List Int} {vs : List Value}, VRs h (ns.map V.int) vs → IntsAre vs ns
  | [], vs, r => by simp only [List.map_nil, VRs] at r; subst r; exact .nil
  | n :: ns, vs, r => by
    simp only [List.map_cons, VRs] at r
    obtain ⟨v, w, rfl, ⟨t, rfl⟩, r⟩ := r
    exact .cons n t (ints_are r)
section
variable {C : Cx} {A : Around} {σ : Led} {a : Addr} {Q : V → Led → Prop} {ns : List Int} {k : Int}
theorem cmp_ninI (hm : (a, AO.list (ns.map V.int)) ∈ σ) (h : Q (.bool (!(ns.any (· == k)))) σ) : Cmp C A σ .NotIn (.int k) (.ref a) Q := by
  rintro s _ _ H ⟨t, rfl⟩ rfl
  obtain ⟨vs, L, r⟩ := listOf H hm
  exact notin_list_ints L (ints_are r) (done_bool H h)
theorem c_max (hA : A.handled = none) (hm : (a, AO.list (ns.map V.int)) ∈ σ) (hne : 0 < ns.length) (h : ∀ M, M ∈ ns → (∀ x ∈ ns, x ≤ M) → Q (.int M) σ) : Call C A σ (.bi "max") [.ref a] Q := by
  rintro s fv vs' H rfl r
  simp only [VRs] at r
  obtain ⟨_, _, rfl, rfl, rfl⟩ := r
  obtain ⟨vs, L, rv⟩ := listOf H hm
  have hi := ints_are rv
  obtain ⟨xs, e⟩ := hi.allInts.items
  have hns : ns = xs.toList.map (·.1) := by
    rw [← hi.numsOf, ← nums_intItems, ← e]
  have hsz : 0 < xs.size := by
    have h3 := hne; rw [hns, List.length_map, Array.length_toList] at h3; exact h3
  rw [e] at L
  refine max_intList hA L hsz fun v h' tk hv hk => ?_
  obtain ⟨t, rfl⟩ := intItems_at hv
  obtain ⟨h1, h2⟩ := argBest_gt (numAt xs) (xs.size - 1)
  refine ⟨.int _, σ, H.grow (s' := { s with heap := h', toks := tk }) hk rfl rfl, ⟨t, rfl⟩, fun _ _ e _ => hk _ _ e, h _ ?_ fun a ha => ?_⟩
  · rw [hns, numAt_eq]; exact getD_mem (by rw [List.length_map, Array.length_toList]; lia)
  · rw [hns] at ha
    obtain ⟨j, hj, rfl⟩ := mem_getD ha
    rw [List.length_map, Array.length_toList] at hj
    rw [← numAt_eq]; exact h2 j (by lia)
noncomputable def RwL (ra : Nat → Addr) (it : Nat → List V) : Nat → Led
  | 0 => []
  | n + 1 => (ra n, AO.list (it n)) :: RwL ra it n
theorem RwL_mem {ra : Nat → Addr} {it : Nat → List V} : ∀ {n i : Nat}, i < n → (ra i, AO.list (it i)) ∈ RwL ra it n ++ σ
  | 0, i, h => absurd h (Nat.not_lt_zero _)
  | n + 1, i, h => by
    by_cases e : i = n
    · subst e; exact .head _
    · exact .tail _ (RwL_mem (by lia))
theorem RwL_congr {ra ra' : Nat → Addr} {it it' : Nat → List V} : ∀ {n : Nat}, (∀ i, i < n → ra i = ra' i ∧ it i = it' i) → RwL ra it n = RwL ra' it' n
  | 0, _ => rfl
  | n + 1, h => by
    have e := h n (Nat.lt_succ_self n)
    rw [RwL, RwL, e.1, e.2, RwL_congr fun i hi => h i (Nat.lt_succ_of_lt hi)]
theorem RwL_new {ra : Nat → Addr} {it : Nat → List V} {n : Nat} (x : Addr) (l : List V) (h : it n = l) : RwL (fun p => if p = n then x else ra p) it (n + 1) = (x, AO.list l) :: RwL ra it n := by
  rw [RwL, h, if_pos rfl, RwL_congr (ra' := ra) (it' := it) fun i hi => ⟨if_neg (by lia), rfl⟩]
end
end Mine
end
section
open PySem PySem.W PySem.Calls PyProof.Rows PySem.Spec
set_option Elab.async false
set_option maxRecDepth 100000
set_option linter.unusedVariables false
namespace Mine
theorem pick_mid (p : Addr × AO) : ∀ (P σ : Led), Pick p (P ++ p :: σ) (P ++ σ)
  | [], σ => .head
  | q :: P, σ => .tail (pick_mid p P σ)
theorem sb_rot (P : Led) : ∀ (X σ : Led), Sb (X ++ (P ++ σ)) (P ++ (X ++ σ))
  | [], σ => .refl
  | x :: X, σ => .take (pick_mid x P (X ++ σ)) (sb_rot P X σ)
theorem Call.drop {C : Cx} {A : Around} {σ : Led} {f : V} {xs : List V} {Q : V → Led → Prop} (h : Call C A σ f xs (Drop Q)) : Call C A σ f xs Q := fun s fv vs H r rr => (h s fv vs H r rr).drop
theorem clipN (n i : Nat) : clipAt n (i : Int) = min i n := clipAt_nat n i
theorem cut_from (l : List V) (i : Nat) : cut l (some (i : Int)) none = l.drop i := by
  unfold cut
  simp only [Option.elim, clipN]
  by_cases h : i ≤ l.length
  · rw [Nat.min_eq_left h, List.take_of_length_le (by simp)]
  · rw [Nat.min_eq_right (by lia), List.drop_length, List.drop_eq_nil_of_le (by lia)]; simp
theorem cut_to (l : List V) (i : Nat) : cut l none (some (i : Int)) = l.take i := by
  unfold cut
  simp only [Option.elim, clipN, Nat.sub_zero, List.drop_zero]
  by_cases h : i ≤ l.length
  · rw [Nat.min_eq_left h]
  · rw [Nat.min_eq_right (by lia), List.take_length, List.take_of_length_le (by lia)]
end Mine
end
section
set_option Elab.async false
set_option linter.unusedVariables false
set_option maxRecDepth 100000
namespace Mine
noncomputable def ordsF : Nat → List (List Nat)
  | 0 => [[]]
  | k + 1 => (ordsF k).flatMap fun o => (List.range (k + 1)).map fun j => o.take j ++ k :: o.drop j
noncomputable def ringF (o : List Nat) (a : Nat) : Nat → List Nat → Nat → List Nat
  | 0, r, _ => r
  | f + 1, r, l => if o.getD l 0 = a then r else ringF o a f (r ++ [o.getD l 0]) (o.getD l 0)
noncomputable def ringsF (o : List Nat) : Nat → List Nat → List (List Nat)
  | 0, _ => []
  | _, [] => []
  | f + 1, a :: l => let r := ringF o a 4 [a] a; r :: ringsF o f ((a :: l).filter fun k => !r.contains k)
noncomputable def msk : List Nat → Nat
  | [] => 0
  | k :: r => 2 ^ k + msk r
noncomputable def selA (b : Nat → Bool) : List Nat → Nat → List Nat
  | [], _ => []
  | k :: r, p => if b (2 ^ k + p) then k :: selA b r (2 ^ k + p) else selA b r (2 ^ k + p)
noncomputable def selR (b : Nat → Bool) : List (List Nat) → List Nat
  | [] => []
  | r :: rs => if b (msk r) then r ++ selR b rs else selR b rs
noncomputable def pick (b1 b2 b3 b4 b5 b6 b7 b8 b9 b10 b11 b12 b13 b14 b15 : Bool) (n : Nat) : Bool :=
  match n with
  | 1 => b1 | 2 => b2 | 3 => b3 | 4 => b4 | 5 => b5 | 6 => b6 | 7 => b7 | 8 => b8 | 9 => b9 | 10 => b10 | 11 => b11 | 12 => b12 | 13 => b13 | 14 => b14 | 15 => b15 | _ => false
noncomputable def lhs (b : Nat → Bool) : List Nat := (ordsF 4).map fun o => msk (selA b o 0)
noncomputable def rhs (b : Nat → Bool) : List Nat := (ordsF 4).map fun o => msk (selR b (ringsF o 4 [0, 1, 2, 3]))
noncomputable def pw : List Nat → Nat
  | [] => 0
  | a :: l => 32 ^ a + pw l
noncomputable def sh : List Nat → List Nat
  | [] => []
  | 0 :: l => sh l
  | (a + 1) :: l => a :: sh l
theorem sh_pw : ∀ l, pw l = l.count 0 + 32 * pw (sh l)
  | [] => rfl
  | 0 :: l => by rw [pw, sh, sh_pw l, List.count_cons_self, Nat.pow_zero]; lia
  | (a + 1) :: l => by
    rw [pw, sh, pw, sh_pw l, List.count_cons_of_ne (by lia), Nat.pow_succ]
    generalize 32 ^ a = t
    lia
theorem sh_cnt (a : Nat) : ∀ l, (sh l).count a = l.count (a + 1)
  | [] => rfl
  | 0 :: l => by rw [sh, sh_cnt a l, List.count_cons_of_ne (by lia)]
  | (b + 1) :: l => by
    rw [sh, List.count_cons, List.count_cons, sh_cnt a l]
    congr 1
    by_cases h : b = a
    · subst h; simp
    · rw [if_neg (by simpa using h), if_neg (by simp; lia)]
theorem sh_len : ∀ l, (sh l).length ≤ l.length
  | [] => Nat.le_refl _
  | 0 :: l => Nat.le_succ_of_le (sh_len l)
  | (a + 1) :: l => Nat.succ_le_succ (sh_len l)
theorem sh_lt (n : Nat) : ∀ l : List Nat, (∀ a ∈ l, a < n + 1) → ∀ a ∈ sh l, a < n
  | [], _, a, h => nomatch h
  | 0 :: l, q, a, h => sh_lt n l (fun x hx => q x (.tail _ hx)) a h
  | (b + 1) :: l, q, a, h => by
    rw [sh] at h
    rcases List.mem_cons.mp h with rfl | h
    · have := q (a + 1) (.head _); lia
    · exact sh_lt n l (fun x hx => q x (.tail _ hx)) a h
theorem pw_cnt : ∀ n (l m : List Nat), (∀ a ∈ l, a < n) → (∀ a ∈ m, a < n) → l.length ≤ 31 → m.length ≤ 31 → pw l = pw m → ∀ a, l.count a = m.count a
  | 0, l, m, h1, h2, _, _, _, a => by
    have e1 : l = [] := by cases l with | nil => rfl | cons x r => exact absurd (h1 x (.head _)) (Nat.not_lt_zero _)
    have e2 : m = [] := by cases m with | nil => rfl | cons x r => exact absurd (h2 x (.head _)) (Nat.not_lt_zero _)
    rw [e1, e2]
  | n + 1, l, m, h1, h2, l1, l2, e, a => by
    have c1 : l.count 0 ≤ l.length := List.count_le_length
    have c2 : m.count 0 ≤ m.length := List.count_le_length
    rw [sh_pw l, sh_pw m] at e
    cases a with
    | zero => lia
    | succ a =>
      rw [← sh_cnt, ← sh_cnt]
      exact pw_cnt n (sh l) (sh m) (sh_lt n l h1) (sh_lt n m h2) (Nat.le_trans (sh_len l) l1) (Nat.le_trans (sh_len m) l2) (by lia) a
theorem pw_perm {l m : List Nat} (h1 : ∀ a ∈ l, a < 16) (h2 : ∀ a ∈ m, a < 16) (l1 : l.length ≤ 31) (l2 : m.length ≤ 31) (e : pw l = pw m) : l.Perm m :=
  List.perm_iff_count.mpr (pw_cnt 16 l m h1 h2 l1 l2 e)
noncomputable def all2 (f : Bool → Bool) : Bool := f false && f true
theorem all2_at {f : Bool → Bool} (h : all2 f = true) (b : Bool) : f b = true := by
  have := Bool.and_eq_true_iff.mp h
  cases b
  · exact this.1
  · exact this.2
noncomputable def im (a b c k : Bool) : Bool := cond (a == b && c != a) true k
theorem im_at {a b c k : Bool} (h : im a b c k = true) (e : a = b → c = a) : k = true := by
  unfold im at h
  cases a <;> cases b <;> cases c <;> first | exact h | cases e rfl
noncomputable def chk (b1 b2 b3 : Bool) : Bool := im b1 b2 b3 <|
  all2 fun b4 =>
  all2 fun b5 => im b1 b4 b5 <|
  all2 fun b6 => im b2 b4 b6 <|
  all2 fun b7 => im b3 b4 b7 <| im b2 b5 b7 <| im b1 b6 b7 <|
  all2 fun b8 =>
  all2 fun b9 => im b1 b8 b9 <|
  all2 fun b10 => im b2 b8 b10 <|
  all2 fun b11 => im b3 b8 b11 <| im b2 b9 b11 <| im b1 b10 b11 <|
  all2 fun b12 => im b4 b8 b12 <|
  all2 fun b13 => im b5 b8 b13 <| im b4 b9 b13 <| im b1 b12 b13 <|
  all2 fun b14 => im b6 b8 b14 <| im b4 b10 b14 <| im b2 b12 b14 <|
  all2 fun b15 => im b7 b8 b15 <| im b6 b9 b15 <| im b5 b10 b15 <| im b4 b11 b15 <| im b3 b12 b15 <| im b2 b13 b15 <| im b1 b14 b15 <|
  Nat.beq (pw (lhs (pick b1 b2 b3 b4 b5 b6 b7 b8 b9 b10 b11 b12 b13 b14 b15))) (pw (rhs (pick b1 b2 b3 b4 b5 b6 b7 b8 b9 b10 b11 b12 b13 b14 b15)))
noncomputable def bt (m k : Nat) : Nat := m / 2 ^ k % 2
noncomputable def sumM (h : Nat → Int) (m : Nat) : Int := (bt m 0 : Int) * h 0 + (bt m 1 : Int) * h 1 + (bt m 2 : Int) * h 2 + (bt m 3 : Int) * h 3
theorem bt_add : ∀ a, a < 16 → ∀ b, b < 16 → a &&& b = 0 → ∀ k, k < 4 → bt (a + b) k = bt a k + bt b k := by decide +kernel
theorem sumM_add (h : Nat → Int) {a b : Nat} (ha : a < 16) (hb : b < 16) (e : a &&& b = 0) : sumM h (a + b) = sumM h a + sumM h b := by
  unfold sumM
  rw [bt_add a ha b hb e 0 (by decide), bt_add a ha b hb e 1 (by decide), bt_add a ha b hb e 2 (by decide), bt_add a ha b hb e 3 (by decide)]
  simp only [Int.natCast_add, Int.add_mul]
  lia
theorem sumM_0 (h : Nat → Int) : sumM h 0 = 0 := by simp [sumM, bt]
theorem sumM_one (h : Nat → Int) : ∀ k, k < 4 → sumM h (2 ^ k) = h k
  | 0, _ => by simp [sumM, bt]
  | 1, _ => by simp [sumM, bt]
  | 2, _ => by simp [sumM, bt]
  | 3, _ => by simp [sumM, bt]
  | k + 4, h => absurd h (by lia)
theorem ins_ok1 : ∀ k, k < 4 → ∀ m, m < 16 → bt m k = 0 → 2 ^ k &&& m = 0 ∧ 2 ^ k + m < 16 ∧ 2 ^ k < 16 := by decide +kernel
theorem ins_ok2 : ∀ k, k < 4 → ∀ m, m < 16 → ∀ j, j < 4 → (bt m k == 0 && j != k) = true → bt (2 ^ k + m) j = bt m j := by decide +kernel
theorem ins_ok (k : Nat) (hk : k < 4) (m : Nat) (hm : m < 16) (e : bt m k = 0) : 2 ^ k &&& m = 0 ∧ 2 ^ k + m < 16 ∧ 2 ^ k < 16 ∧ ∀ j, j < 4 → j ≠ k → bt (2 ^ k + m) j = bt m j := by
  obtain ⟨a, b, c⟩ := ins_ok1 k hk m hm e
  exact ⟨a, b, c, fun j hj n => ins_ok2 k hk m hm j hj (by rw [e]; simpa using n)⟩
theorem sumM_ins (h : Nat → Int) {k m : Nat} (hk : k < 4) (hm : m < 16) (e : bt m k = 0) : sumM h (2 ^ k + m) = h k + sumM h m := by
  obtain ⟨a, b, c, _⟩ := ins_ok k hk m hm e
  rw [sumM_add h c hm a, sumM_one h k hk]
theorem msk_ok : ∀ (l : List Nat), (∀ k ∈ l, k < 4) → l.Nodup → msk l < 16 ∧ ∀ j, j < 4 → j ∉ l → bt (msk l) j = 0
  | [], _, _ => ⟨by decide, fun j _ _ => by simp [msk, bt]⟩
  | k :: l, h, n => by
    obtain ⟨n1, n2⟩ := List.nodup_cons.mp n
    obtain ⟨a, b⟩ := msk_ok l (fun x hx => h x (.tail _ hx)) n2
    have hk := h k (.head _)
    obtain ⟨_, c, _, d⟩ := ins_ok k hk (msk l) a (b k hk n1)
    refine ⟨c, fun j hj hn => ?_⟩
    rw [msk, d j hj (fun e => hn (e ▸ .head _))]
    exact b j hj fun e => hn (.tail _ e)
theorem sumM_msk (h : Nat → Int) : ∀ (l : List Nat), (∀ k ∈ l, k < 4) → l.Nodup → sumM h (msk l) = (l.map h).sum
  | [], _, _ => sumM_0 h
  | k :: l, q, n => by
    obtain ⟨n1, n2⟩ := List.nodup_cons.mp n
    obtain ⟨a, b⟩ := msk_ok l (fun x hx => q x (.tail _ hx)) n2
    rw [msk, sumM_ins h (q k (.head _)) a (b k (q k (.head _)) n1), sumM_msk h l (fun x hx => q x (.tail _ hx)) n2, List.map_cons, List.sum_cons]
noncomputable def popc (m : Nat) : Nat := bt m 0 + bt m 1 + bt m 2 + bt m 3
theorem popc_msk (l : List Nat) (q : ∀ k ∈ l, k < 4) (n : l.Nodup) : popc (msk l) = l.length := by
  have h := sumM_msk (fun _ => 1) l q n
  have e : ∀ l : List Nat, (l.map (fun _ => (1 : Int))).sum = l.length := by
    intro l
    induction l with
    | nil => rfl
    | cons a r ih => rw [List.map_cons, List.sum_cons, ih, List.length_cons]; lia
  rw [e] at h
  simp only [sumM, Int.mul_one] at h
  unfold popc
  lia
noncomputable def tell (h : Nat → Int) (l : List Nat) : Nat × Int := (l.length, (l.map h).sum)
theorem tell_msk (h : Nat → Int) (l : List Nat) (q : ∀ k ∈ l, k < 4) (n : l.Nodup) : tell h l = (popc (msk l), sumM h (msk l)) := by rw [tell, popc_msk l q n, sumM_msk h l q n]
noncomputable def sg (h : Nat → Int) (m : Nat) : Bool := decide (0 < sumM h m)
theorem sg_iff {h : Nat → Int} {m : Nat} : sg h m = true ↔ 0 < sumM h m := decide_eq_true_iff
theorem sg_ok (h : Nat → Int) (a b : Nat) (ha : a < 16) (hb : b < 16) (e : a &&& b = 0) (q : sg h a = sg h b) : sg h (a + b) = sg h a := by
  unfold sg at *
  rw [sumM_add h ha hb e]
  rw [decide_eq_decide] at *
  lia
theorem selA_sub (b : Nat → Bool) : ∀ (l : List Nat) p, (selA b l p).Sublist l
  | [], _ => .slnil
  | k :: r, p => by
    unfold selA
    split
    · exact (selA_sub b r _).cons_cons _
    · exact (selA_sub b r _).cons _
theorem selR_sub (b : Nat → Bool) : ∀ (rs : List (List Nat)), (selR b rs).Sublist rs.flatten
  | [] => .slnil
  | r :: rs => by
    unfold selR
    rw [List.flatten_cons]
    split
    · exact (List.Sublist.refl r).append (selR_sub b rs)
    · exact (selR_sub b rs).trans (List.sublist_append_right ..)
theorem ords_ok : ∀ o ∈ ordsF 4, (∀ k ∈ o, k < 4) ∧ o.Nodup ∧ (∀ k ∈ (ringsF o 4 [0, 1, 2, 3]).flatten, k < 4) ∧ (ringsF o 4 [0, 1, 2, 3]).flatten.Nodup := by decide +kernel
theorem chk_ok (b1 b2 b3 : Bool) : chk b1 b2 b3 = true := by cases b1 <;> cases b2 <;> cases b3 <;> decide +kernel
theorem spitzer (σ : Nat → Bool) (h : ∀ a b, a < 16 → b < 16 → a &&& b = 0 → σ a = σ b → σ (a + b) = σ a) : List.Perm (lhs σ) (rhs σ) := by
  have k := chk_ok (σ 1) (σ 2) (σ 3)
  replace k := im_at k (h 1 2 (by decide) (by decide) rfl)
  replace k := all2_at k (σ 4)
  replace k := all2_at k (σ 5)
  replace k := im_at k (h 1 4 (by decide) (by decide) rfl)
  replace k := all2_at k (σ 6)
  replace k := im_at k (h 2 4 (by decide) (by decide) rfl)
  replace k := all2_at k (σ 7)
  replace k := im_at k (h 3 4 (by decide) (by decide) rfl)
  replace k := im_at k (h 2 5 (by decide) (by decide) rfl)
  replace k := im_at k (h 1 6 (by decide) (by decide) rfl)
  replace k := all2_at k (σ 8)
  replace k := all2_at k (σ 9)
  replace k := im_at k (h 1 8 (by decide) (by decide) rfl)
  replace k := all2_at k (σ 10)
  replace k := im_at k (h 2 8 (by decide) (by decide) rfl)
  replace k := all2_at k (σ 11)
  replace k := im_at k (h 3 8 (by decide) (by decide) rfl)
  replace k := im_at k (h 2 9 (by decide) (by decide) rfl)
  replace k := im_at k (h 1 10 (by decide) (by decide) rfl)
  replace k := all2_at k (σ 12)
  replace k := im_at k (h 4 8 (by decide) (by decide) rfl)
  replace k := all2_at k (σ 13)
  replace k := im_at k (h 5 8 (by decide) (by decide) rfl)
  replace k := im_at k (h 4 9 (by decide) (by decide) rfl)
  replace k := im_at k (h 1 12 (by decide) (by decide) rfl)
  replace k := all2_at k (σ 14)
  replace k := im_at k (h 6 8 (by decide) (by decide) rfl)
  replace k := im_at k (h 4 10 (by decide) (by decide) rfl)
  replace k := im_at k (h 2 12 (by decide) (by decide) rfl)
  replace k := all2_at k (σ 15)
  replace k := im_at k (h 7 8 (by decide) (by decide) rfl)
  replace k := im_at k (h 6 9 (by decide) (by decide) rfl)
  replace k := im_at k (h 5 10 (by decide) (by decide) rfl)
  replace k := im_at k (h 4 11 (by decide) (by decide) rfl)
  replace k := im_at k (h 3 12 (by decide) (by decide) rfl)
  replace k := im_at k (h 2 13 (by decide) (by decide) rfl)
  replace k := im_at k (h 1 14 (by decide) (by decide) rfl)
  refine pw_perm (fun a ha => ?_) (fun a ha => ?_) (by rw [lhs, List.length_map]; decide +kernel) (by rw [rhs, List.length_map]; decide +kernel) (Nat.eq_of_beq_eq_true k)
  · obtain ⟨o, ho, rfl⟩ := List.mem_map.mp ha
    obtain ⟨q, n, _⟩ := ords_ok o ho
    have s := selA_sub σ o 0
    exact (msk_ok _ (fun k hk => q k (s.subset hk)) (s.nodup n)).1
  · obtain ⟨o, ho, rfl⟩ := List.mem_map.mp ha
    obtain ⟨_, _, q, n⟩ := ords_ok o ho
    have s := selR_sub σ (ringsF o 4 [0, 1, 2, 3])
    exact (msk_ok _ (fun k hk => q k (s.subset hk)) (s.nodup n)).1
noncomputable def selZ (h : Nat → Int) : List Nat → Int → List Nat
  | [], _ => []
  | k :: r, p => if 0 < h k + p then k :: selZ h r (h k + p) else selZ h r (h k + p)
theorem selZ_eq (h : Nat → Int) : ∀ (l : List Nat) (p : Nat), (∀ k ∈ l, k < 4) → l.Nodup → p < 16 → (∀ k ∈ l, bt p k = 0) → selZ h l (sumM h p) = selA (sg h) l p
  | [], _, _, _, _, _ => rfl
  | k :: r, p, q, n, hp, hb => by
    obtain ⟨n1, n2⟩ := List.nodup_cons.mp n
    have hk := q k (.head _)
    obtain ⟨_, c, _, d⟩ := ins_ok k hk p hp (hb k (.head _))
    have i := selZ_eq h r (2 ^ k + p) (fun x hx => q x (.tail _ hx)) n2 c fun x hx => by
      rw [d x (q x (.tail _ hx)) fun e => n1 (e ▸ hx)]; exact hb x (.tail _ hx)
    have e := sumM_ins h hk hp (hb k (.head _))
    rw [e] at i
    unfold selZ selA sg
    rw [e, i]
    simp only [decide_eq_true_eq]
    rfl
noncomputable def selRZ (h : Nat → Int) : List (List Nat) → List Nat
  | [] => []
  | r :: rs => if 0 < (r.map h).sum then r ++ selRZ h rs else selRZ h rs
theorem selRZ_eq (h : Nat → Int) : ∀ (rs : List (List Nat)), (∀ k ∈ rs.flatten, k < 4) → rs.flatten.Nodup → selRZ h rs = selR (sg h) rs
  | [], _, _ => rfl
  | r :: rs, q, n => by
    rw [List.flatten_cons] at q n
    have i := selRZ_eq h rs (fun k hk => q k (List.mem_append_right _ hk)) (List.nodup_append.mp n).2.1
    have e := sumM_msk h r (fun k hk => q k (List.mem_append_left _ hk)) (List.nodup_append.mp n).1
    unfold selRZ selR
    by_cases c : 0 < (r.map h).sum
    · rw [if_pos c, if_pos (sg_iff.mpr (e ▸ c)), i]
    · rw [if_neg c, if_neg (fun x => c (e ▸ sg_iff.mp x)), i]
theorem orders_rings (h : Nat → Int) : List.Perm ((ordsF 4).map fun o => tell h (selZ h o 0)) ((ordsF 4).map fun o => tell h (selRZ h (ringsF o 4 [0, 1, 2, 3]))) := by
  have p := (spitzer (sg h) (sg_ok h)).map fun m => (popc m, sumM h m)
  unfold lhs rhs at p
  rw [List.map_map, List.map_map] at p
  have e1 : ∀ o ∈ ordsF 4, tell h (selZ h o 0) = (popc (msk (selA (sg h) o 0)), sumM h (msk (selA (sg h) o 0))) := by
    intro o ho
    obtain ⟨q, n, _⟩ := ords_ok o ho
    have s := selA_sub (sg h) o 0
    have e := selZ_eq h o 0 q n (by decide) fun k hk => by simp [bt]
    rw [sumM_0] at e
    rw [e, tell_msk h _ (fun k hk => q k (s.subset hk)) (s.nodup n)]
  have e2 : ∀ o ∈ ordsF 4, tell h (selRZ h (ringsF o 4 [0, 1, 2, 3])) = (popc (msk (selR (sg h) (ringsF o 4 [0, 1, 2, 3]))), sumM h (msk (selR (sg h) (ringsF o 4 [0, 1, 2, 3])))) := by
    intro o ho
    obtain ⟨_, _, q, n⟩ := ords_ok o ho
    have s := selR_sub (sg h) (ringsF o 4 [0, 1, 2, 3])
    rw [selRZ_eq h _ q n, tell_msk h _ (fun k hk => q k (s.subset hk)) (s.nodup n)]
  rw [List.map_congr_left e1, List.map_congr_left e2]
  exact p
end Mine
end
section
open PySem PySem.W PyProof.Rows
set_option Elab.async false
set_option linter.unusedVariables false
set_option autoImplicit true
namespace Mine
noncomputable def kok (lt : Nat → Nat → Bool) : KasT α → (α → Prop) → Prop
  | .ret a, Q => Q a
  | .ask i j k, Q => kok lt (k (lt i j)) Q
theorem kok_bind {lt : Nat → Nat → Bool} {f : α → KasT β} {Q : β → Prop} : ∀ t : KasT α, kok lt t (fun a => kok lt (f a) Q) → kok lt (t.bind f) Q
  | .ret _, h => h
  | .ask i j k, h => kok_bind (k (lt i j)) h
theorem kok_ask {lt : Nat → Nat → Bool} {i j : Nat} {k : Bool → KasT α} {Q : α → Prop} (h : kok lt (k (lt i j)) Q) : kok lt (.ask i j k) Q := h
section
variable {O : KeyOrd} {ky : Nat → O.α}
noncomputable def lt_ (ky : Nat → O.α) (i j : Nat) : Bool := O.blt (ky i) (ky j)
noncomputable def KP (ky : Nat → O.α) (p : Array Nat) (i : Nat) : O.α := ky (p.getD i 0)
noncomputable def Srt (ky : Nat → O.α) (p : Array Nat) (k : Nat) : Prop := ∀ i j, i ≤ j → j < k → O.kle (KP ky p i) (KP ky p j)
noncomputable def NIn (ky : Nat → O.α) (p : Array Nat) (k : Nat) : Prop := ∀ i j, i ≤ j → j < k → O.kle (KP ky p j) (KP ky p i)
theorem KP_congr {xs ys : Array Nat} {i j : Nat} (h : xs[i]? = ys[j]?) : KP ky xs i = KP ky ys j := by
  unfold KP
  rw [Array.getD_eq_getD_getElem?, Array.getD_eq_getD_getElem?, h]
theorem KP_bubble {xs : Array Nat} {src d : Nat} (hs : src < xs.size) (hd : d ≤ src) (k : Nat) :
    KP ky (bubble xs src d) k = if k = src - d then KP ky xs src else if src - d < k ∧ k ≤ src then KP ky xs (k - 1) else KP ky xs k := by
  have e := getElem?_bubble hs d hd k
  by_cases h1 : k = src - d
  · rw [if_pos h1] at e ⊢; exact KP_congr e
  · rw [if_neg h1] at e ⊢
    by_cases h2 : src - d < k ∧ k ≤ src
    · rw [if_pos h2] at e ⊢; exact KP_congr e
    · rw [if_neg h2] at e ⊢; exact KP_congr e
theorem KP_mirror {xs : Array Nat} {i j : Nat} (hj : j ≤ xs.size) (k : Nat) :
    KP ky (mirror xs i j ((j - i) / 2)) k = if i ≤ k ∧ k < j then KP ky xs (i + j - 1 - k) else KP ky xs k := by
  have e := getElem?_mirror_all (i := i) hj k
  by_cases h1 : i ≤ k ∧ k < j
  · rw [if_pos h1] at e ⊢; exact KP_congr e
  · rw [if_neg h1] at e ⊢; exact KP_congr e
theorem KP_mirror_equal {xs : Array Nat} {i j : Nat} (hj : j ≤ xs.size) (heq : ∀ k, i ≤ k → k < j → KP ky xs k = KP ky xs (j - 1)) (k : Nat) :
    KP ky (kas_rev xs i j) k = KP ky xs k := by
  unfold kas_rev
  rw [KP_mirror hj]
  split
  · rw [heq _ (by lia) (by lia), heq k (by lia) (by lia)]
  · rfl
theorem rev_perm (xs : Array Nat) (i j : Nat) : (kas_rev xs i j).Perm xs := mirror_perm _ _ _ _
theorem asc_ok {p : Array Nat} {Q : Nat → Prop} : ∀ (f n : Nat), 1 ≤ n → Srt ky p n → (∀ m, n ≤ m → m ≤ n + f → Srt ky p m → (m = n + f ∨ O.klt (KP ky p m) (KP ky p (m - 1))) → Q m) → kok (lt_ ky) (kas_asc p f n) Q
  | 0, n, _, hs, h => h n (Nat.le_refl _) (Nat.le_refl _) hs (.inl rfl)
  | f + 1, n, h1, hs, h => by
    refine kok_ask ?_
    cases e : lt_ ky (p.getD n 0) (p.getD (n - 1) 0) with
    | true =>
      rw [if_pos rfl]
      exact h n (Nat.le_refl _) (by lia) hs (.inr e)
    | false =>
      rw [if_neg (by simp)]
      refine asc_ok f (n + 1) (by lia) (fun i j hij hj => ?_) fun m a b c d => h m (by lia) (by lia) c (by rcases d with d | d; exact .inl (by lia); exact .inr d)
      by_cases hjx : j < n
      · exact hs i j hij hjx
      · have hj' : j = n := by lia
        subst hj'
        by_cases hi' : i = j
        · subst hi'; exact KeyOrd.kle_refl _
        · exact KeyOrd.kle_trans (hs i (j - 1) (by lia) (by lia)) e
theorem desc_ok {Q : Array Nat × Nat × Nat → Prop} : ∀ (f : Nat) (p : Array Nat) (n q : Nat), 1 ≤ n → n + f ≤ p.size → NIn ky p n → q + 1 ≤ n → (∀ i, n - (q + 1) ≤ i → i < n → KP ky p i = KP ky p (n - 1)) →
    (∀ p' m q', p'.Perm p → n ≤ m → m ≤ n + f → NIn ky p' m → q' + 1 ≤ m → (∀ i, m - (q' + 1) ≤ i → i < m → KP ky p' i = KP ky p' (m - 1)) → Q (p', m, q')) → kok (lt_ ky) (kas_desc f p n q) Q
  | 0, p, n, q, _, _, hs, hq, he, h => h p n q (Array.Perm.refl _) (Nat.le_refl _) (Nat.le_refl _) hs hq he
  | f + 1, p, x, q, h1, hz, hs, hq, he, h => by
    refine kok_ask ?_
    cases e : lt_ ky (p.getD x 0) (p.getD (x - 1) 0) with
    | true =>
      rw [if_pos rfl]
      have step1 : ∀ xs : Array Nat, (∀ k, KP ky xs k = KP ky p k) → NIn ky xs (x + 1) := by
        intro xs hk i j hij hj
        rw [hk, hk]
        by_cases hjx : j < x
        · exact hs i j hij hjx
        · have hj' : j = x := by lia
          subst hj'
          by_cases hi' : i = j
          · subst hi'; exact KeyOrd.kle_refl _
          · exact KeyOrd.kle_trans (KeyOrd.kle_of_klt e) (hs i (j - 1) (by lia) (by lia))
      by_cases hneq : q > 0
      · rw [if_pos hneq]
        refine desc_ok f _ (x + 1) 0 (by lia) (by rw [(rev_perm ..).size_eq]; lia) (step1 _ (KP_mirror_equal (by lia) he)) (by lia) (fun i h1 h2 => by congr 1; lia) fun p' m q' a b c d e' g => h p' m q' (a.trans (rev_perm ..)) (by lia) (by lia) d e' g
      · rw [if_neg hneq]
        exact desc_ok f p (x + 1) 0 (by lia) (by lia) (step1 _ fun _ => rfl) (by lia) (fun i h1 h2 => by congr 1; lia) fun p' m q' a b c d e' g => h p' m q' a (by lia) (by lia) d e' g
    | false =>
      rw [if_neg (by simp)]
      refine kok_ask ?_
      cases e2 : lt_ ky (p.getD (x - 1) 0) (p.getD x 0) with
      | true =>
        rw [if_pos rfl]
        exact h p x q (Array.Perm.refl _) (Nat.le_refl _) (by lia) hs hq he
      | false =>
        rw [if_neg (by simp)]
        have heqx : KP ky p x = KP ky p (x - 1) := KeyOrd.kle_antisymm e2 e
        refine desc_ok f p (x + 1) (q + 1) (by lia) (by lia) (fun i j hij hj => ?_) (by lia) (fun i h1 h2 => ?_) fun p' m q' a b c d e' g => h p' m q' a (by lia) (by lia) d e' g
        · by_cases hjx : j < x
          · exact hs i j hij hjx
          · have hj' : j = x := by lia
            subst hj'
            by_cases hi' : i = j
            · subst hi'; exact KeyOrd.kle_refl _
            · rw [heqx]; exact hs i (j - 1) (by lia) (by lia)
        · rw [show x + 1 - 1 = x by lia]
          by_cases hix : i = x
          · subst hix; rfl
          · rw [heqx]; exact he i (by lia) (by lia)
noncomputable def CQ (ky : Nat → O.α) (n : Nat) (p : Array Nat) (Q : Nat × Array Nat → Prop) : Prop := ∀ m p', p'.Perm p → 1 ≤ m → m ≤ n → Srt ky p' m → Q (m, p')
theorem tail3_ok {n nrem : Nat} {p : Array Nat} {Q : Nat × Array Nat → Prop} (h1 : 1 ≤ n) (hn : n ≤ nrem) (hz : nrem ≤ p.size) (hs : NIn ky p n) (h : CQ ky nrem p Q) : kok (lt_ ky) (kas_tail3 n nrem p) Q := by
  unfold kas_tail3
  refine kok_bind _ (asc_ok (nrem - n) n h1 (fun i j hij hj => ?_) fun m a b c _ => ?_)
  · unfold kas_rev
    rw [KP_mirror (by lia), KP_mirror (by lia), if_pos (by lia), if_pos (by lia)]
    exact hs _ _ (by lia) (by lia)
  · exact h m _ (rev_perm ..) (by lia) (by lia) c
theorem descPart_ok {n nrem : Nat} {p : Array Nat} {Q : Nat × Array Nat → Prop} (h1 : 1 ≤ n) (hn : n + 1 ≤ nrem) (hz : nrem ≤ p.size) (hs : NIn ky p (n + 1)) (h : CQ ky nrem p Q) : kok (lt_ ky) (kas_descPart n nrem p) Q := by
  unfold kas_descPart
  refine kok_bind _ (desc_ok _ p (n + 1) 0 (by lia) (by lia) hs (by lia) (fun i h1 h2 => by congr 1; lia) fun p' m q a b c d e g => ?_)
  dsimp only
  have hz' : p'.size = p.size := a.size_eq
  by_cases hq : q > 0
  · rw [if_pos hq]
    refine tail3_ok (by lia) (by lia) (by rw [(rev_perm ..).size_eq]; lia) (fun i j hij hj => ?_) fun m' p'' a' b' c' d' => h m' p'' (a'.trans ((rev_perm ..).trans a)) b' c' d'
    rw [KP_mirror_equal (by lia) g, KP_mirror_equal (by lia) g]
    exact d i j hij hj
  · rw [if_neg hq]
    exact tail3_ok (by lia) (by lia) (by lia) d fun m' p'' a' b' c' d' => h m' p'' (a'.trans a) b' c' d'
theorem count_ok {nrem : Nat} {p : Array Nat} {Q : Nat × Array Nat → Prop} (h1 : 1 ≤ nrem) (hz : nrem ≤ p.size) (h : CQ ky nrem p Q) : kok (lt_ ky) (kas_count nrem p) Q := by
  unfold kas_count
  refine kok_bind _ (asc_ok (nrem - 1) 1 (Nat.le_refl 1) (fun i j hij hj => by have : i = j := (by lia); subst this; exact KeyOrd.kle_refl _) fun n hn1 hn2 hsn hor => ?_)
  by_cases hnn : n = nrem
  · rw [if_pos (by simpa using hnn)]
    exact h n p (Array.Perm.refl _) hn1 (by lia) hsn
  · rw [if_neg (by simpa using hnn)]
    have hlt : O.klt (KP ky p n) (KP ky p (n - 1)) := hor.resolve_left (by lia)
    by_cases hgt : n > 1
    · rw [if_pos hgt]
      refine kok_ask ?_
      cases hrose : lt_ ky (p.getD 0 0) (p.getD (n - 1) 0) with
      | true =>
        rw [if_pos rfl]
        exact h n p (Array.Perm.refl _) hn1 (by lia) hsn
      | false =>
        rw [if_neg (by simp)]
        have hall : ∀ k, 0 ≤ k → k < n → KP ky p k = KP ky p (n - 1) := by
          intro k _ hk
          have a1 := hsn 0 k (by lia) hk
          have a2 := hsn k (n - 1) (by lia) (by lia)
          exact KeyOrd.kle_antisymm a2 (KeyOrd.kle_trans hrose a1)
        refine descPart_ok (by lia) (by lia) (by rw [(rev_perm ..).size_eq]; lia) (fun i j hij hj => ?_) fun m' p'' a' b' c' d' => h m' p'' (a'.trans (rev_perm ..)) b' c' d'
        rw [KP_mirror_equal (by lia) hall, KP_mirror_equal (by lia) hall]
        by_cases hjn : j < n
        · rw [hall i (by lia) (by lia), hall j (by lia) hjn]; exact KeyOrd.kle_refl _
        · have hj' : j = n := by lia
          subst hj'
          by_cases hi' : i = j
          · subst hi'; exact KeyOrd.kle_refl _
          · rw [hall i (by lia) (by lia)]; exact KeyOrd.kle_of_klt hlt
    · rw [if_neg hgt]
      have hn1' : n = 1 := by lia
      subst hn1'
      refine descPart_ok (by lia) (by lia) hz ?_ h
      intro i j hij hj
      by_cases hi' : i = j
      · subst hi'; exact KeyOrd.kle_refl _
      · have hi0 : i = 0 := by lia
        have hj1 : j = 1 := by lia
        subst hi0; subst hj1
        exact KeyOrd.kle_of_klt hlt
theorem place_ok {p : Array Nat} {k : Nat} {Q : Nat → Prop} (hs : Srt ky p k) : ∀ (f l r : Nat), l ≤ r → r ≤ k → r - l ≤ f → (∀ i, i < l → O.kle (KP ky p i) (KP ky p k)) → (∀ i, r ≤ i → i < k → O.klt (KP ky p k) (KP ky p i)) →
    (∀ l, l ≤ k → (∀ i, i < l → O.kle (KP ky p i) (KP ky p k)) → (∀ i, l ≤ i → i < k → O.klt (KP ky p k) (KP ky p i)) → Q l) → kok (lt_ ky) (kas_place p k f l r) Q
  | 0, l, r, hlr, hrk, hf, hlo, hhi, h => h l (by lia) hlo (fun i a b => hhi i (by lia) b)
  | f + 1, l, r, hlr, hrk, hf, hlo, hhi, h => by
    unfold kas_place
    by_cases hge : l ≥ r
    · rw [if_pos hge]
      exact h l (by lia) hlo (fun i a b => hhi i (by lia) b)
    · rw [if_neg hge]
      refine kok_ask ?_
      cases e : lt_ ky (p.getD k 0) (p.getD ((l + r) / 2) 0) with
      | true =>
        rw [if_pos rfl]
        exact place_ok hs f l ((l + r) / 2) (by lia) (by lia) (by lia) hlo (fun i a b => KeyOrd.klt_of_klt_of_kle e (hs _ _ a b)) h
      | false =>
        rw [if_neg (by simp)]
        exact place_ok hs f ((l + r) / 2 + 1) r (by lia) hrk (by lia) (fun i a => KeyOrd.kle_trans (hs i ((l + r) / 2) (by lia) (by lia)) (show O.kle _ _ from e)) hhi h
theorem bin_ok {Q : Array Nat → Prop} : ∀ (f k : Nat) (p : Array Nat), k + f ≤ p.size → Srt ky p k → (∀ p', p'.Perm p → Srt ky p' (k + f) → Q p') → kok (lt_ ky) (kas_bin f p k) Q
  | 0, k, p, _, hs, h => h p (Array.Perm.refl _) hs
  | f + 1, k, p, hz, hs, h => by
    unfold kas_bin
    refine kok_bind _ (place_ok hs k 0 k (by lia) (by lia) (by lia) (fun i hi => by lia) (fun i h1 h2 => by lia) fun l hlk hlo hhi => ?_)
    have pm : (bubble p k (k - l)).Perm p := bubble_perm ..
    refine bin_ok f (k + 1) _ (by rw [pm.size_eq]; lia) (fun i j hij hj => ?_) fun p' a b => h p' (a.trans pm) (by rw [show k + (f + 1) = k + 1 + f by lia]; exact b)
    rw [KP_bubble (by lia) (by lia), KP_bubble (by lia) (by lia), show k - (k - l) = l by lia]
    repeat' split
    all_goals first
      | (exfalso; lia)
      | exact KeyOrd.kle_refl _
      | exact hlo _ (by lia)
      | exact KeyOrd.kle_of_klt (hhi _ (by lia) (by lia))
      | exact hs _ _ (by lia) (by lia)
theorem sort_ok {n : Nat} {Q : Array Nat → Prop} (h1 : 1 ≤ n) (h : ∀ p, p.Perm (List.range n).toArray → Srt ky p n → Q p) : kok (lt_ ky) (kas_sort n) Q := by
  unfold kas_sort
  have hz : (List.toArray (List.range n)).size = n := by simp
  refine kok_bind _ (count_ok h1 (by rw [hz]; exact Nat.le_refl _) fun m p a b c d => ?_)
  dsimp only
  have hp : p.size = n := a.size_eq.trans hz
  by_cases hm : m < n
  · rw [if_pos hm]
    refine bin_ok _ _ p (by lia) (by rw [Nat.max_eq_left b]; exact d) fun p' a' b' => h p' (a'.trans a) (by rw [show n = max m 1 + (n - max m 1) by lia]; exact b')
  · rw [if_neg hm]
    have : m = n := by lia
    subst this
    exact h p a d
end
end Mine
end
section
open PySem PySem.W PyProof.Rows
set_option Elab.async false
set_option linter.unusedVariables false
set_option autoImplicit true
namespace Mine
noncomputable def inR (n : Nat) (R : α → Prop) : KasT α → Prop
  | .ret a => R a
  | .ask i j k => i < n ∧ j < n ∧ ∀ b, inR n R (k b)
theorem inR_bind {n : Nat} {f : α → KasT β} {R : β → Prop} : ∀ t : KasT α, inR n (fun a => inR n R (f a)) t → inR n R (t.bind f)
  | .ret _, h => h
  | .ask i j k, h => ⟨h.1, h.2.1, fun b => inR_bind (k b) (h.2.2 b)⟩
noncomputable def PL_ (n : Nat) (p : Array Nat) : Prop := ∀ k, p.getD k 0 < n
theorem PL_.perm {n : Nat} {p q : Array Nat} (h : q.Perm p) (hn : 0 < n) (hp : PL_ n p) : PL_ n q := by
  intro k
  rw [Array.getD_eq_getD_getElem?]
  cases e : q[k]? with
  | none => exact hn
  | some x =>
    have m : x ∈ p := h.mem_iff.mp (Array.mem_of_getElem? e)
    obtain ⟨i, hi, rfl⟩ := Array.getElem_of_mem m
    have := hp i
    rw [Array.getD_eq_getD_getElem?, Array.getElem?_eq_getElem hi] at this
    exact this
section
variable {n : Nat} (hn : 0 < n)
include hn
theorem asc_in {p : Array Nat} (hp : PL_ n p) {R : Nat → Prop} (hR : ∀ m, R m) : ∀ f k, inR n R (kas_asc p f k)
  | 0, k => hR k
  | f + 1, k => ⟨hp _, hp _, fun b => by
    cases b
    · exact asc_in hp hR f (k + 1)
    · exact hR k⟩
theorem desc_in {R : Array Nat × Nat × Nat → Prop} (hR : ∀ p m q, PL_ n p → R (p, m, q)) : ∀ f p k q, PL_ n p → inR n R (kas_desc f p k q)
  | 0, p, k, q, hp => hR _ _ _ hp
  | f + 1, p, k, q, hp => ⟨hp _, hp _, fun b => by
    cases b
    · exact ⟨hp _, hp _, fun b => by
        cases b
        · exact desc_in hR f p (k + 1) (q + 1) hp
        · exact hR _ _ _ hp⟩
    · show inR n R (if q > 0 then _ else _)
      split
      · exact desc_in hR f _ _ _ (PL_.perm (rev_perm ..) hn hp)
      · exact desc_in hR f _ _ _ hp⟩
theorem tail3_in {R : Nat × Array Nat → Prop} (hR : ∀ m p, PL_ n p → R (m, p)) {m nrem : Nat} {p : Array Nat} (hp : PL_ n p) : inR n R (kas_tail3 m nrem p) := by
  unfold kas_tail3
  have hp' := PL_.perm (rev_perm p 0 m) hn hp
  exact inR_bind _ (asc_in hn hp' (fun k => hR k _ hp') _ _)
theorem descPart_in {R : Nat × Array Nat → Prop} (hR : ∀ m p, PL_ n p → R (m, p)) {m nrem : Nat} {p : Array Nat} (hp : PL_ n p) : inR n R (kas_descPart m nrem p) := by
  unfold kas_descPart
  refine inR_bind _ (desc_in hn (fun p m q hp => ?_) _ _ _ _ hp)
  dsimp only
  split
  · exact tail3_in hn hR (PL_.perm (rev_perm ..) hn hp)
  · exact tail3_in hn hR hp
theorem count_in {R : Nat × Array Nat → Prop} (hR : ∀ m p, PL_ n p → R (m, p)) {nrem : Nat} {p : Array Nat} (hp : PL_ n p) : inR n R (kas_count nrem p) := by
  unfold kas_count
  refine inR_bind _ (asc_in hn hp (fun k => ?_) _ _)
  split
  · exact hR _ _ hp
  · split
    · refine ⟨hp _, hp _, fun b => ?_⟩
      cases b
      · exact descPart_in hn hR (PL_.perm (rev_perm ..) hn hp)
      · exact hR _ _ hp
    · exact descPart_in hn hR hp
theorem place_in {p : Array Nat} (hp : PL_ n p) {R : Nat → Prop} (hR : ∀ m, R m) (k : Nat) : ∀ f l r, inR n R (kas_place p k f l r)
  | 0, l, r => hR l
  | f + 1, l, r => by
    unfold kas_place
    split
    · exact hR l
    · refine ⟨hp _, hp _, fun b => ?_⟩
      cases b
      · exact place_in hp hR k f _ _
      · exact place_in hp hR k f _ _
theorem bin_in {R : Array Nat → Prop} (hR : ∀ p, PL_ n p → R p) : ∀ f p k, PL_ n p → inR n R (kas_bin f p k)
  | 0, p, k, hp => hR p hp
  | f + 1, p, k, hp => by
    unfold kas_bin
    exact inR_bind _ (place_in hn hp (fun l => bin_in hR f _ _ (PL_.perm (bubble_perm ..) hn hp)) _ _ _ _)
theorem sort_in : inR n (fun _ => True) (kas_sort n) := by
  unfold kas_sort
  have hp : PL_ n (List.toArray (List.range n)) := by
    intro k
    rw [Array.getD_eq_getD_getElem?]
    simp only [List.getElem?_toArray]
    by_cases h : k < n
    · rw [List.getElem?_range h]; exact h
    · rw [List.getElem?_eq_none (by simpa using h)]; exact hn
  refine inR_bind _ (count_in hn (fun m p hp => ?_) hp)
  dsimp only
  split
  · exact bin_in hn (fun _ _ => trivial) _ _ _ hp
  · trivial
end
theorem kas_pure {cmp : Nat → Nat → (Bool → Shared → Prop) → Shared → Prop} {lt : Nat → Nat → Bool} {n : Nat} {s : Shared} (hc : ∀ i j C, i < n → j < n → C (lt i j) s → cmp i j C s) {Q : α → Shared → Prop} {R : α → Prop} : ∀ t : KasT α, inR n R t → kok lt t (fun a => Q a s) → t.kasWp cmp Q s
  | .ret a, _, h => h
  | .ask i j k, r, h => hc i j _ r.1 r.2.1 (kas_pure hc (k (lt i j)) (r.2.2 _) h)
noncomputable def pairOrd : KeyOrd where
  α := Int × Int
  blt a b := decide (a.1 < b.1) || (a.1 == b.1 && decide (a.2 < b.2))
  irrefl a := by simp
  trans a b c h1 h2 := by
    simp only [Bool.or_eq_true, decide_eq_true_eq, Bool.and_eq_true, beq_iff_eq] at *
    lia
  negTrans a b c h := by
    simp only [Bool.or_eq_true, decide_eq_true_eq, Bool.and_eq_true, beq_iff_eq] at *
    lia
  total a b h1 h2 := by
    simp only [Bool.or_eq_false_iff, decide_eq_false_iff_not, Bool.and_eq_false_iff, beq_eq_false_iff_ne] at *
    obtain ⟨a1, a2⟩ := a
    obtain ⟨b1, b2⟩ := b
    simp only [Prod.mk.injEq] at *
    lia
end Mine
end
section
open PySem PySem.W PySem.Calls PyProof.Rows PySem.Spec
set_option Elab.async false
set_option maxRecDepth 100000
set_option linter.unusedVariables false
namespace Mine
noncomputable def prV (p : Int × Int) : V := .tup [.int p.1, .int p.2]
theorem prV_at {h : Heap} {ps : List (Int × Int)} {vs : List Value} (r : VRs h (ps.map prV) vs) {i : Nat} (hi : i < vs.length) :
    ∃ x t u, vs.getD i Value.none = .ref x ∧ h.get? x = some (tupObj [.int (ps.getD i (0, 0)).1 t, .int (ps.getD i (0, 0)).2 u]) := by
  induction ps generalizing vs i with
  | nil => simp only [List.map_nil, VRs] at r; subst r; exact absurd hi (Nat.not_lt_zero _)
  | cons p ps ih =>
    simp only [List.map_cons, VRs] at r
    obtain ⟨v, w, rfl, rp, r⟩ := r
    cases i with
    | succ i => exact ih r (Nat.lt_of_succ_lt_succ hi)
    | zero =>
      simp only [prV, VR, VRs] at rp
      obtain ⟨a, us, rfl, g, x, l, rfl, ⟨t, rfl⟩, y, l', rfl, ⟨u, rfl⟩, rfl⟩ := rp
      exact ⟨a, t, u, rfl, g⟩
theorem prV_tups {h : Heap} {ps : List (Int × Int)} : ∀ {vs : List Value}, VRs h (ps.map prV) vs → ∃ fs, KatTups h vs fs ∧ fs.length = ps.length ∧ ∀ v ∈ fs, ∃ n t, v = Value.int n t := by
  induction ps with
  | nil => intro vs r; simp only [List.map_nil, VRs] at r; subst r; exact ⟨[], KatTups.nil, rfl, fun _ h => nomatch h⟩
  | cons p ps ih =>
    intro vs r
    simp only [List.map_cons, VRs] at r
    obtain ⟨v, w, rfl, rp, r⟩ := r
    simp only [prV, VR, VRs] at rp
    obtain ⟨a, us, rfl, g, x, l, rfl, ⟨t, rfl⟩, y, l', rfl, ⟨u, rfl⟩, rfl⟩ := rp
    obtain ⟨fs, k, e, f⟩ := ih r
    exact ⟨_ :: fs, KatTups.cons g rfl rfl rfl k, congrArg (· + 1) e, fun v hv => by
      rcases List.mem_cons.mp hv with rfl | hv
      · exact ⟨_, _, rfl⟩
      · exact f v hv⟩
section
variable {prog : Program} {w : World} {A : Around} {E : Value → Shared → Prop} {s : Shared}
theorem pair_lt {x y : Addr} {a b c d : Int} {t u t' u' : Tok} {Q : Bool → Shared → Prop} (hx : s.heap.get? x = some (tupObj [.int a t, .int b u])) (hy : s.heap.get? y = some (tupObj [.int c t', .int d u']))
    (h : Q (pairOrd.blt (a, b) (c, d)) s) : wpAny (model prog w) A (keyLt' (tuples' true) (.ref x) (.ref y)) Q E s := by
  refine kat_lt hx rfl hy rfl ?_
  show KatLex prog w A true false Q [(.int a t, .int c t'), (.int b u, .int d u')] 0 s
  refine kat_cons (wpAny_eqBool_int (kat_go (fun e => kat_yes (kat_cons (wpAny_eqBool_int (kat_go (fun e2 => kat_yes (kat_nil ?_)) (fun e2 => kat_no ?_))))) fun e => kat_no ?_))
  · have e' := beq_iff_eq.mp e; have e2' := beq_iff_eq.mp e2
    subst e'; subst e2'
    have := pairOrd.irrefl (a, b)
    rw [this] at h
    exact h
  · have e' := beq_iff_eq.mp e; subst e'
    refine kat_one _ _ (wpAny_lt_int ?_)
    have k : pairOrd.blt (a, b) (a, d) = decide (b < d) := by
      show (decide (a < a) || (a == a && decide (b < d))) = _
      simp
    rw [k] at h
    exact h
  · refine oneLt_int ?_
    have k : pairOrd.blt (a, b) (c, d) = decide (a < c) := by
      show (decide (a < c) || (a == c && decide (b < d))) = _
      rw [e]; simp
    rw [k] at h
    exact h
theorem list_sort_pairs {a : Addr} {vs : List Value} {ps : List (Int × Int)} {n : Nat} {P : PySem.Fin → Shared → Prop} (ho : s.heap.get? a = some (seqObj "list" vs.toArray n))
    (rv : VRs s.heap (ps.map prV) vs) (hl : ps.length = vs.length) (h2 : 2 ≤ vs.length) (h64 : vs.length < 64)
    (h : ∀ p : Array Nat, p.Perm (List.range vs.length).toArray → Srt (O := pairOrd) (fun i => ps.getD i (0, 0)) p vs.length → P (.done (.ret .none)) { s with heap := sortedHeap s.heap a vs (List.toArray (p.toList.map fun i => vs.getD i Value.none)) }) :
    wpAny (model prog w) A (Builtin.«list.sort» ⟨[.ref a], []⟩) P E s := by
  rw [list_sort_plain]
  have ha : a < s.heap.objs.size := Heap.lt_size ho
  have hz : vs.length ≤ sizeLine := by rw [sizeLine_eq]; lia
  refine wpAny_bind (listItems_at ho rfl ?_)
  refine wpAny_bind (listUpdate_at ho rfl ?_ (by rw [List.size_toArray]; exact hz) (Nat.zero_le _))
  obtain ⟨e1, ho1⟩ : ∃ e1, (s.heap.update a (Obj.mapSeq fun _ => #[])).get? a = some (seqObj "list" #[] e1) := ⟨_, get?_update_seq ho (fun _ => #[])⟩
  refine wpAny_bind (seqEpoch_at ho1 rfl ?_)
  refine wpAny_bind (wpAny_newTuple ?_ (by show vs.length ≤ _; exact hz))
  refine wpAny_bind (wpAny_newList ?_ (Nat.zero_le _))
  refine wpAny_holding ?_
  have ho6 : (((s.heap.update a (Obj.mapSeq fun _ => #[])).push (seqObj "tuple" vs.toArray 0)).push (seqObj "list" #[] 0)).get? a = some (seqObj "list" #[] e1) := by
    rw [Heap.get?_push_ne _ _ _ (by rw [size_push', Heap.size_update]; exact Nat.ne_of_lt (Nat.lt_succ_of_lt ha)), Heap.get?_push_ne _ _ _ (by rw [Heap.size_update]; exact Nat.ne_of_lt ha)]
    exact ho1
  show wpAny (model prog w) A _ P E { s with heap := ((s.heap.update a (Obj.mapSeq fun _ => #[])).push (seqObj "tuple" vs.toArray 0)).push (seqObj "list" #[] 0) }
  dsimp only
  have tk : TK s.heap (((s.heap.update a (Obj.mapSeq fun _ => #[])).push (seqObj "tuple" vs.toArray 0)).push (seqObj "list" #[] 0)) := by
    intro b o e c
    have hb : b ≠ a := by
      rintro rfl
      rw [ho] at e
      cases e
      exact absurd c.1 (show Value.type "list" ≠ Value.type "tuple" by decide)
    exact Heap.get?_push_of_some _ (Heap.get?_push_of_some _ (by rw [Heap.get?_update_ne _ _ _ _ hb]; exact e))
  have r6 := rv.mono tk
  generalize hH : ((s.heap.update a (Obj.mapSeq fun _ => #[])).push (seqObj "tuple" vs.toArray 0)).push (seqObj "list" #[] 0) = h6 at *
  have hn2 : ¬ vs.toArray.size < 2 := by rw [List.size_toArray]; lia
  rw [if_neg hn2, if_neg hn2]
  obtain ⟨fs, kt, ef, hf⟩ := prV_tups r6
  refine wpAny_bind (kat_kind (T := .type "int") (s := { s with heap := h6 }) kt (by lia) (fun v hv => by obtain ⟨n, t, rfl⟩ := hf v hv; exact .now) (by decide) ?_)
  have hc : ∀ (i j : Nat) (C : Bool → Shared → Prop), i < vs.length → j < vs.length → C (lt_ (O := pairOrd) (fun i => ps.getD i (0, 0)) i j) { s with heap := h6 } → kas_ask prog w A (tuples' true) vs i j C { s with heap := h6 } := by
    intro i j C hi hj hC
    obtain ⟨x, t, u, ex, gx⟩ := prV_at r6 hi
    obtain ⟨y, t', u', ey, gy⟩ := prV_at r6 hj
    unfold kas_ask
    rw [ex, ey]
    exact pair_lt gx gy hC
  refine wpAny_bind (wpAny_mono (kat_run (κ := tuples' true) (Q := fun st' s' => s' = { s with heap := h6 } ∧ ∃ p : Array Nat, p.Perm (List.range vs.length).toArray ∧ Srt (O := pairOrd) (fun i => ps.getD i (0, 0)) p vs.length ∧ arrOf st' = p.map (kas_item (vs.toArray.zip vs.toArray)) ∧ failedOf st' = none)
    (G := fun p s' => s' = { s with heap := h6 } ∧ p.Perm (List.range vs.length).toArray ∧ Srt (O := pairOrd) (fun i => ps.getD i (0, 0)) p vs.length) rfl h2 h64 (fun p' st' s' a1 a2 a3 a4 => ⟨a4.1, p', a4.2.1, a4.2.2, a2, a3⟩)
    (kas_pure hc _ (sort_in (by lia)) (sort_ok (by lia) fun p pp ps => ⟨rfl, pp, ps⟩))) ?_ fun _ _ e => e)
  rintro ⟨⟨⟩, st'⟩ s' ⟨rfl, p, hp, hs, har, hf'⟩
  dsimp only
  have hout := kat_snds rfl har
  have hsz : (List.toArray (p.toList.map fun i => vs.getD i Value.none)).size = vs.length := by rw [List.size_toArray, List.length_map, Array.length_toList, hp.size_eq]; simp
  rw [hout]
  refine wpAny_bind (seqEpoch_at ho6 rfl ?_)
  refine wpAny_bind (listUpdate_at ho6 rfl ?_ (Nat.zero_le _) (Nat.le_trans (Nat.le_of_eq hsz) (Nat.le_succ_of_le hz)))
  rw [hf']
  simp only [bne_self_eq_false, Bool.false_eq_true, if_false]
  have k := h p hp hs
  unfold sortedHeap at k
  rw [hH] at k
  exact wpAny_pure k
end
section
variable {C : Cx} {A : Around} {σ : Led} {a : Addr} {Q : V → Led → Prop} {ps : List (Int × Int)}
theorem prV_out {h : Heap} {vs : List Value} (r : VRs h (ps.map prV) vs) (hl : ps.length = vs.length) : ∀ l : List Nat, (∀ i ∈ l, i < vs.length) → VRs h ((l.map fun i => ps.getD i (0, 0)).map prV) (l.map fun i => vs.getD i Value.none)
  | [], _ => VRs.nil
  | i :: l, hi => by
    have hi0 := hi i (.head _)
    have hi1 : i < ps.length := hl ▸ hi0
    obtain ⟨v, hv, rv⟩ := r.get (i := i) (x := prV ps[i]) (by rw [List.getElem?_map, List.getElem?_eq_getElem hi1]; rfl)
    refine VRs.cons ?_ (prV_out r hl l fun j hj => hi j (.tail _ hj))
    show VR h (prV (ps.getD i (0, 0))) (vs.getD i Value.none)
    rw [List.getD_eq_getElem?_getD, List.getD_eq_getElem?_getD, hv, List.getElem?_eq_getElem hi1]
    exact rv
theorem range_getD (ps : List (Int × Int)) : (List.range ps.length).map (fun i => ps.getD i (0, 0)) = ps := by
  apply List.ext_getElem?
  intro i
  rw [List.getElem?_map]
  by_cases h : i < ps.length
  · rw [List.getElem?_range h, List.getElem?_eq_getElem h, Option.map_some, List.getD_eq_getElem?_getD, List.getElem?_eq_getElem h]; rfl
  · rw [List.getElem?_eq_none (by simpa using h), List.getElem?_eq_none (by lia)]; rfl
noncomputable def PairLe (x y : Int × Int) : Prop := pairOrd.kle x y
theorem sorted_one : ∀ {l m : List (Int × Int)}, l.Perm m → l.Pairwise PairLe → m.Pairwise PairLe → l = m
  | [], m, p, _, _ => (p.nil_eq)
  | a :: l, [], p, _, _ => absurd p.length_eq (by simp)
  | a :: l, b :: m, p, h1, h2 => by
    have e : a = b := by
      obtain ⟨x1, _⟩ := List.pairwise_cons.mp h1
      obtain ⟨y1, _⟩ := List.pairwise_cons.mp h2
      have ma : a ∈ b :: m := p.mem_iff.mp (.head _)
      have mb : b ∈ a :: l := p.mem_iff.mpr (.head _)
      rcases List.mem_cons.mp ma with e | ma
      · exact e
      · rcases List.mem_cons.mp mb with e | mb
        · exact e.symm
        · exact KeyOrd.kle_antisymm (O := pairOrd) (x1 b mb) (y1 a ma)
    subst e
    rw [sorted_one (List.Perm.cons_inv p) (List.pairwise_cons.mp h1).2 (List.pairwise_cons.mp h2).2]
theorem c_sorted (hm : (a, AO.list (ps.map prV)) ∈ σ) (h2 : 2 ≤ ps.length) (h64 : ps.length < 64) (h : ∀ r (qs : List (Int × Int)), qs.Perm ps → qs.Pairwise PairLe → Q (.ref r) ((r, AO.list (qs.map prV)) :: σ)) : Call C A σ (.bi "sorted") [.ref a] Q := by
  rintro s fv vs' H rfl r
  simp only [VRs] at r
  obtain ⟨_, _, rfl, rfl, rfl⟩ := r
  obtain ⟨vs, L, rv⟩ := listOf H hm
  have hl : ps.length = vs.length := by rw [rv.length, List.length_map]
  rw [hl] at h2 h64
  have hz : vs.length ≤ sizeLine := by rw [sizeLine_eq]; lia
  unfold WP
  refine Calls.call_function_entry kind_sorted plain_sorted entry_sorted (args_sorted1 _) ?_
  unfold Builtin.«sorted»
  refine wpAny_bind (m := checkCount "sorted" 1 1 _) (wpAny_pure ?_)
  refine wpAny_bind (collect_list L ?_ hz)
  refine wpAny_bind (wpAny_newList ?_ hz)
  have hsz : ((s.heap.push (seqObj "list" #[] 0)).update s.heap.objs.size (Obj.mapSeq (· ++ vs.toArray))).objs.size = s.heap.objs.size + 1 := by
    rw [Heap.size_update, size_push']
  have hoL : (((s.heap.push (seqObj "list" #[] 0)).update s.heap.objs.size (Obj.mapSeq (· ++ vs.toArray))).push (seqObj "list" vs.toArray 0)).get? (s.heap.objs.size + 1) = some (seqObj "list" vs.toArray 0) := by
    rw [← hsz]; exact Heap.get?_push_size _ rfl
  have keep : ∀ b o, s.heap.get? b = some o → (((s.heap.push (seqObj "list" #[] 0)).update s.heap.objs.size (Obj.mapSeq (· ++ vs.toArray))).push (seqObj "list" vs.toArray 0)).get? b = some o := fun b o q => by
    have hlt : b < s.heap.objs.size := Heap.lt_size q
    rw [Heap.get?_push_ne _ _ _ (by rw [hsz]; exact Nat.ne_of_lt (Nat.lt_succ_of_lt hlt)), Heap.get?_update_ne _ _ _ _ (Nat.ne_of_lt hlt), Heap.get?_push_ne _ _ _ (Nat.ne_of_lt hlt)]
    exact q
  show wpAny _ _ _ _ _ { s with heap := ((s.heap.push (seqObj "list" #[] 0)).update s.heap.objs.size (Obj.mapSeq (· ++ vs.toArray))).push (seqObj "list" vs.toArray 0) }
  rw [hsz]
  refine wpAny_bind (wpAny_holding (wpAny_call_entry slot_list_sort ⟨_, hoL, rfl⟩ entry_list_sort (list_sort_pairs hoL (rv.mono fun b o e _ => keep b o e) hl h2 h64 fun p hp hs => ⟨_, rfl, ?_⟩) (args_list_sort _)))
  refine wpAny_pure ⟨_, rfl, ?_⟩
  obtain ⟨e, ge⟩ := sortedAll_at s.heap vs (List.toArray (p.toList.map fun i => vs.getD i Value.none))
  have kp : ∀ b o, s.heap.get? b = some o → (sortedAll s.heap vs (List.toArray (p.toList.map fun i => vs.getD i Value.none))).get? b = some o := fun b o q => sortedAll_old q
  have pl : p.toList.Perm (List.range vs.length) := Array.perm_iff_toList_perm.mp hp
  have hr : (p.toList.map fun i => ps.getD i (0, 0)).Perm ps := by
    have := pl.map fun i => ps.getD i (0, 0)
    rw [← hl, range_getD] at this
    exact this
  refine ⟨.ref (s.heap.objs.size + 1), (s.heap.objs.size + 1, AO.list ((p.toList.map fun i => ps.getD i (0, 0)).map prV)) :: σ, H.add (s' := { s with heap := sortedAll s.heap vs _ }) kp (Nat.le_succ _) ge (Pl.seq (show Value.type "list" ≠ Value.type "tuple" by decide) rfl) ⟨⟨rfl, rfl⟩, _, e, rfl, ?_⟩ rfl rfl, rfl, fun b o q _ => kp b o q, h _ _ hr ?_⟩
  · exact prV_out (rv.mono fun b o q _ => kp b o q) hl _ fun i hi => List.mem_range.mp (pl.mem_iff.mp hi)
  · rw [List.pairwise_map, List.pairwise_iff_getElem]
    intro i j hi hj hij
    have z : p.toList.length = vs.length := by rw [pl.length_eq, List.length_range]
    have k := hs i j (Nat.le_of_lt hij) (by lia)
    unfold KP at k
    rw [Array.getD_eq_getD_getElem?, Array.getD_eq_getD_getElem?, ← Array.getElem?_toList, ← Array.getElem?_toList, List.getElem?_eq_getElem hi, List.getElem?_eq_getElem hj] at k
    exact k
end
end Mine
end
section
open PySem PySem.W PySem.Calls PyProof.Rows PySem.Spec
set_option Elab.async false
set_option maxRecDepth 100000
set_option linter.unusedVariables false
namespace Mine
section
variable {prog : Program} {w : World} {A : Around} {E : Value → Shared → Prop} {s : Shared}
theorem tuple_gt_run {a b : Addr} {i j : Int} {x y : Str} {t u t' u' : Tok} {P : PySem.Fin → Shared → Prop} (ha : s.heap.get? a = some (tupObj [.int i t, .str x u])) (hb : s.heap.get? b = some (tupObj [.int j t', .str y u']))
    (h : P (.done (.ret (.bool (decide (j < i) || (i == j && decide (y.cps.toList < x.cps.toList)))))) s) : wpAny (model prog w) A (Builtin.«tuple.__gt__» ⟨[.ref a, .ref b], []⟩) P E s := by
  have hTb : s.TypeIs (.ref b) "tuple" := ⟨_, hb, rfl⟩
  show wpAny _ _ (isInstance (.ref b) (.type "tuple") >>= _) _ _ s
  refine wpAny_bind (wpAny_isInstance hTb isSubtype_tuple_tuple ?_)
  simp only [Bool.not_true, Bool.false_eq_true, if_false]
  refine wpAny_bind (wpAny_tupleItemsOf ha rfl ?_)
  refine wpAny_bind (wpAny_tupleItemsOf hb rfl ?_)
  refine wpAny_bind ?_
  show wpAny _ _ (forIn [(Value.int i t, Value.int j t'), (Value.str x u, Value.str y u')] _ _) _ _ s
  rw [List.forIn_cons]
  refine wpAny_bind (wpAny_bind (wpAny_eqBool_int ?_))
  by_cases e : i = j
  · subst e
    simp only [beq_self_eq_true, Bool.not_true, Bool.false_eq_true, if_false]
    refine wpAny_pure ?_
    dsimp only
    rw [List.forIn_cons]
    refine wpAny_bind (wpAny_bind (wpAny_eqBool_str ?_))
    by_cases e2 : x = y
    · subst e2
      simp only [decide_true, Bool.not_true, Bool.false_eq_true, if_false]
      refine wpAny_pure ?_
      dsimp only
      rw [List.forIn_nil]
      refine wpAny_pure ?_
      dsimp only
      refine wpAny_pure ?_
      have k : (decide (i < i) || (i == i && decide (x.cps.toList < x.cps.toList))) = false := by simp [List.lt_irrefl]
      rw [k] at h
      exact h
    · simp only [e2, decide_false, Bool.not_false, if_true]
      refine wpAny_bind (wpAny_rule (wpAny_bind (PySem.P.gt_str ?_)))
      refine wpAny_bind (wpAny_pure (wpAny_pure ?_))
      have k : (decide (i < i) || (i == i && decide (y.cps.toList < x.cps.toList))) = decide (y.cps.toList < x.cps.toList) := by simp
      rw [k] at h
      exact wpAny_pure (wpAny_pure h)
  · have e' : (i == j) = false := by simpa using e
    simp only [e', Bool.not_false, if_true]
    refine wpAny_bind (wpAny_rule (wpAny_bind (gt_int ?_)))
    refine wpAny_bind (wpAny_pure (wpAny_pure ?_))
    rw [e'] at h
    simp only [Bool.false_and, Bool.or_false] at h
    exact wpAny_pure (wpAny_pure h)
end
section
variable {C : Cx} {A : Around} {σ : Led} {Q : V → Led → Prop}
theorem cmp_gt_is {i j : Int} {x y : Str} (hA : Fit 1 A) (h : Q (.bool (decide (j < i) || (i == j && decide (y.cps.toList < x.cps.toList)))) σ) : Cmp C A σ .Gt (.tup [.int i, .str x]) (.tup [.int j, .str y]) Q := by
  intro s va vb H ra rb
  simp only [VR, VRs] at ra rb
  obtain ⟨a, _, rfl, ga, _, _, rfl, ⟨t, rfl⟩, _, _, rfl, ⟨u, rfl⟩, rfl⟩ := ra
  obtain ⟨b, _, rfl, gb, _, _, rfl, ⟨t', rfl⟩, _, _, rfl, ⟨u', rfl⟩, rfl⟩ := rb
  have ta : s.TypeIs (.ref a) "tuple" := ⟨_, ga, rfl⟩
  have tb : s.TypeIs (.ref b) "tuple" := ⟨_, gb, rfl⟩
  unfold WP
  show wpAny _ _ (richCompare .Gt (.ref a) (.ref b)) _ _ s
  exact wpAny_richCompare_same_room (op := .Gt) (T := "tuple") ta tb PySem.F.slot_tuple_gt (wpAny_call_entry PySem.F.slot_tuple_gt ta PySem.F.entry_tuple_gt (tuple_gt_run ga gb ⟨_, rfl, by simp, done_bool H h⟩) (PySem.F.args_tuple_gt_2 _ _)) hA.units
end
noncomputable def ltL (l m : List Nat) : Bool := decide (l.length < m.length) || (l.length == m.length && decide (l < m))
end Mine
end
section
set_option Elab.async false
set_option linter.unusedVariables false
namespace Mine
noncomputable def selN (h : Nat → Int) : List Nat → Int → List Nat
  | [], _ => []
  | k :: r, p => if 0 < h k + p then selN h r (h k + p) else k :: selN h r (h k + p)
theorem sel_sums (h : Nat → Int) : ∀ (o : List Nat) (a l : Int), 0 ≤ a → l ≤ 0 →
    (∀ i, i < (selZ h o (a + l)).length → 0 < a + (((selZ h o (a + l)).map h).take (i + 1)).sum) ∧ (∀ i, l + (((selN h o (a + l)).map h).take i).sum ≤ 0)
  | [], a, l, ha, hl => ⟨fun i hi => absurd hi (Nat.not_lt_zero _), fun i => by simp only [selN, List.map_nil, List.take_nil, List.sum_nil]; lia⟩
  | k :: r, a, l, ha, hl => by
    by_cases c : 0 < h k + (a + l)
    · obtain ⟨z, n⟩ := sel_sums h r (h k + a) l (by lia) hl
      rw [Int.add_assoc] at z n
      unfold selZ selN
      rw [if_pos c, if_pos c]
      refine ⟨fun i hi => ?_, n⟩
      rw [List.map_cons, List.take_succ_cons, List.sum_cons]
      cases i with
      | zero => rw [List.take_zero, List.sum_nil]; lia
      | succ i => have := z i (Nat.lt_of_succ_lt_succ hi); lia
    · obtain ⟨z, n⟩ := sel_sums h r a (h k + l) ha (by lia)
      rw [show a + (h k + l) = h k + (a + l) by lia] at z n
      unfold selZ selN
      rw [if_neg c, if_neg c]
      refine ⟨z, fun i => ?_⟩
      rw [List.map_cons]
      cases i with
      | zero => rw [List.take_zero, List.sum_nil]; lia
      | succ i => rw [List.take_succ_cons, List.sum_cons]; have := n i; lia
theorem sum_take_drop (l : List Int) (n : Nat) : (l.take n).sum + (l.drop n).sum = l.sum := by
  rw [← List.sum_append, List.take_append_drop]
theorem sum_rev : ∀ (l : List Int), l.reverse.sum = l.sum
  | [] => rfl
  | a :: l => by rw [List.reverse_cons, List.sum_append, sum_rev l, List.sum_cons, List.sum_cons, List.sum_nil]; lia
noncomputable def laidF (h : Nat → Int) (o : List Nat) : List Int := ((selZ h o 0).map h).reverse ++ (selN h o 0).map h
theorem laid_low (h : Nat → Int) (o : List Nat) {j : Nat} (hj : j < (selZ h o 0).length) : ((laidF h o).take j).sum < ((selZ h o 0).map h).sum := by
  obtain ⟨z, _⟩ := sel_sums h o 0 0 (Int.le_refl _) (Int.le_refl _)
  rw [Int.add_zero] at z
  unfold laidF
  rw [List.take_append_of_le_length (by rw [List.length_reverse, List.length_map]; lia), List.take_reverse, sum_rev, List.length_map]
  have e := sum_take_drop ((selZ h o 0).map h) ((selZ h o 0).length - j)
  have p := z ((selZ h o 0).length - j - 1) (by lia)
  rw [show (selZ h o 0).length - j - 1 + 1 = (selZ h o 0).length - j by lia] at p
  lia
theorem laid_top (h : Nat → Int) (o : List Nat) : ((laidF h o).take (selZ h o 0).length).sum = ((selZ h o 0).map h).sum := by
  unfold laidF
  rw [List.take_append_of_le_length (by rw [List.length_reverse, List.length_map]; lia), List.take_of_length_le (by rw [List.length_reverse, List.length_map]; lia), sum_rev]
theorem laid_le (h : Nat → Int) (o : List Nat) (j : Nat) : ((laidF h o).take j).sum ≤ ((selZ h o 0).map h).sum := by
  by_cases hj : j < (selZ h o 0).length
  · exact Int.le_of_lt (laid_low h o hj)
  · obtain ⟨_, n⟩ := sel_sums h o 0 0 (Int.le_refl _) (Int.le_refl _)
    rw [Int.add_zero] at n
    unfold laidF
    rw [List.take_append, List.sum_append, List.take_of_length_le (by rw [List.length_reverse, List.length_map]; lia), sum_rev]
    have := n (j - ((selZ h o 0).map h).reverse.length)
    lia
end Mine
end
section
open PySem PySem.W PySem.Calls PyProof.Rows PySem.Spec
set_option Elab.async false
set_option maxRecDepth 100000
set_option linter.unusedVariables false
namespace Mine
section
variable {prog : Program} {w : World} {A : Around} {E : Value → Shared → Prop} {R : Result → Shared → Prop} {s : Shared} {elt t1 i1 t2 i2 : Expr} {scope : Scope} {pos : Pos} {it acc : Value} {env : Env}
noncomputable abbrev two (elt t1 i1 t2 i2 : Expr) (scope : Scope) (pos : Pos) : Expr := .ListComp elt [⟨t1, i1, [], 0⟩, ⟨t2, i2, [], 0⟩] scope pos
theorem compTurn_in : compTurn (two elt t1 i1 t2 i2 scope pos) 1 it acc env = (standAt i2.pos >>= fun _ => pyNext it >>= fun r => match r with
      | none => pure (.done .next)
      | some v => letOwnedTupleGo t2 it v >>= fun _ => assign t2 env v >>= fun _ =>
        (eval elt env >>= fun x => call (.builtin "list.append") [acc, x] >>= fun _ => pure ()) >>= fun _ =>
          again (.compLoop (two elt t1 i1 t2 i2 scope pos) 1 it acc env)) := by rfl
theorem compTurn_out : compTurn (two elt t1 i1 t2 i2 scope pos) 0 it acc env = (standAt i1.pos >>= fun _ => pyNext it >>= fun r => match r with
      | none => pure (.done .next)
      | some v => letOwnedTupleGo t1 it v >>= fun _ => assign t1 env v >>= fun _ =>
        eval i2 env >>= fun x => standAt i2.pos >>= fun _ => foldedSetIterable i2 env x >>= fun x => holding [x] (pyIter x) >>= fun y => runOwn (.compStart (two elt t1 i1 t2 i2 scope pos) 1 y acc env) env >>= fun _ =>
          again (.compLoop (two elt t1 i1 t2 i2 scope pos) 0 it acc env)) := by rfl
theorem compLoop_in (I : Nat → Shared → Prop)
    (turn : ∀ n s, I n s → wpAny (model prog w) A (pyNext it) (fun r s₁ => match r with
      | none => R (.ok .next) s₁
      | some v => wpAny (model prog w) A (assign t2 env v) (fun _ s₂ => wpAny (model prog w) A (eval elt env) (fun x s₃ =>
          wpAny (model prog w) A (call (.builtin "list.append") [acc, x]) (fun _ s₄ => ∃ m, m < n ∧ I m s₄) (notedBy (model prog w) A env fun e s' => R (.error e) s') s₃)
          (notedBy (model prog w) A env fun e s' => R (.error e) s') s₂) (notedBy (model prog w) A env fun e s' => R (.error e) s') s₁) (notedBy (model prog w) A env fun e s' => R (.error e) s') s)
    (n : Nat) (h : I n s) (ht : ∀ v, letOwnedTupleGo t2 it v = pure ()) :
    codeAny (model prog w) A (.compLoop (two elt t1 i1 t2 i2 scope pos) 1 it acc env) R s := by
  refine codeAny_loop rfl I (fun n s hI => ?_) n h
  show wpAny _ _ ((compTurn (two elt t1 i1 t2 i2 scope pos) 1 it acc env).onRaise (fun x => do noteFrame x env; theTreesLotGoes x)) _ _ s
  refine wpAny_noted ?_
  rw [compTurn_in]
  refine wpAny_bind (wpAny_standAt (wpAny_bind (wpAny_mono (turn n s hI) (fun r s₁ h₁ => ?_) fun _ _ h' => h')))
  cases r with
  | none => exact wpAny_pure h₁
  | some v =>
    refine wpAny_bind (wpAny_of_eq (ht v) ?_)
    exact wpAny_bind (wpAny_mono h₁ (fun _ s₂ h₂ => wpAny_bind (wpAny_bind (wpAny_mono h₂ (fun x s₃ h₃ => wpAny_bind (wpAny_mono h₃
      (fun _ s₄ h₄ => wpAny_pure (wpAny_pure ⟨rfl, h₄⟩)) fun _ _ h' => h')) fun _ _ h' => h'))) fun _ _ h' => h')
theorem compStart_in
    (h0 : codeAny (model prog w) A (.compLoop (two elt t1 i1 t2 i2 scope pos) 1 it acc env) R s)
    (h : wpAny (model prog w) A (pyIter it) (fun it' s' => codeAny (model prog w) A (.compLoop (two elt t1 i1 t2 i2 scope pos) 1 it' acc env) R s')
      (notedBy (model prog w) A env fun x s' => R (.error x) s') s) :
    codeAny (model prog w) A (.compStart (two elt t1 i1 t2 i2 scope pos) 1 it acc env) R s := by
  refine codeAny_of_tree ?_
  show wpAny _ _ ((compStart (two elt t1 i1 t2 i2 scope pos) 1 it acc env).onRaise (fun x => do noteFrame x env; standAt theWindowsPlace)) _ _ s
  refine wpAny_notedAt ?_
  unfold compStart
  show wpAny _ _ (ask >>= _) _ _ s
  refine wpAny_bind (wpAny_askSetting (wpAny_ite ?_))
  split
  · first
      | exact wpAny_bind (wpAny_pure (wpAny_pure (And.intro rfl h0)))
      | exact wpAny_pure (And.intro rfl h0)
  · first
      | exact wpAny_bind (wpAny_rule (wpAny_bind (wpAny_standAt (wpAny_bind (wpAny_mono h (fun it' s' h' => wpAny_pure (And.intro rfl h')) fun _ _ x => x)))))
      | (refine wpAny_bind (wpAny_rule ?_); show wpAny _ _ (standAt i2.pos >>= _) _ _ s; exact wpAny_bind (wpAny_standAt (wpAny_bind (wpAny_mono h (fun it' s' h' => wpAny_pure (And.intro rfl h')) fun _ _ x => x))))
theorem compLoop_out (I : Nat → Shared → Prop)
    (turn : ∀ n s, I n s → wpAny (model prog w) A (pyNext it) (fun r s₁ => match r with
      | none => R (.ok .next) s₁
      | some v => wpAny (model prog w) A (assign t1 env v) (fun _ s₂ => wpAny (model prog w) A (eval i2 env) (fun x s₃ =>
          wpAny (model prog w) A (pyIter x) (fun y s₄ => codeAny (model prog w) A (.compStart (two elt t1 i1 t2 i2 scope pos) 1 y acc env) (fun r s₅ => match r with
            | .ok _ => ∃ m, m < n ∧ I m s₅
            | .error e => cameBackBy (model prog w) A env (notedBy (model prog w) A env fun e s' => R (.error e) s') e s₅) s₄) (notedBy (model prog w) A env fun e s' => R (.error e) s') s₃)
          (notedBy (model prog w) A env fun e s' => R (.error e) s') s₂) (notedBy (model prog w) A env fun e s' => R (.error e) s') s₁) (notedBy (model prog w) A env fun e s' => R (.error e) s') s)
    (n : Nat) (h : I n s) (ht : ∀ v, letOwnedTupleGo t1 it v = pure ()) (hf : ∀ x, foldedSetIterable i2 env x = pure x) :
    codeAny (model prog w) A (.compLoop (two elt t1 i1 t2 i2 scope pos) 0 it acc env) R s := by
  refine codeAny_loop rfl I (fun n s hI => ?_) n h
  show wpAny _ _ ((compTurn (two elt t1 i1 t2 i2 scope pos) 0 it acc env).onRaise (fun x => do noteFrame x env; theTreesLotGoes x)) _ _ s
  refine wpAny_noted ?_
  rw [compTurn_out]
  refine wpAny_bind (wpAny_standAt (wpAny_bind (wpAny_mono (turn n s hI) (fun r s₁ h₁ => ?_) fun _ _ h' => h')))
  cases r with
  | none => exact wpAny_pure h₁
  | some v =>
    refine wpAny_bind (wpAny_of_eq (ht v) ?_)
    refine wpAny_bind (wpAny_mono h₁ (fun _ s₂ h₂ => wpAny_bind (wpAny_mono h₂ (fun x s₃ h₃ => wpAny_bind (wpAny_standAt (wpAny_bind (wpAny_of_eq (hf x) (wpAny_bind (wpAny_holding (wpAny_mono h₃
      (fun y s₄ h₄ => wpAny_bind (wpAny_runOwn (codeAny_mono h₄ fun r s₅ h₅ => ?_))) fun _ _ h' => h'))))))) fun _ _ h' => h')) fun _ _ h' => h')
    cases r with
    | ok f => exact wpAny_pure ⟨rfl, h₅⟩
    | error e => exact h₅
end
end Mine
end
section
open PySem PySem.W PySem.Calls PyProof.Rows PySem.Spec
set_option Elab.async false
set_option maxRecDepth 100000
set_option linter.unusedVariables false
namespace Mine
noncomputable def LoopO (C : Cx) (A : Around) (cenv : Env) (elt t1 t2 i2 : Expr) (D : Addr) (Qn : Led → Prop) (it : V) (σ : Led) : Prop :=
  ∃ (J : Nat → Led → Prop) (n : Nat), J n σ ∧ ∀ n σ, J n σ → Nx C A σ it (fun o σ₃ => match o with
    | none => Qn σ₃
    | some y => Asg C A cenv σ₃ t1 y (fun σ₄ => Tr C VR A σ₄ (eval i2 cenv) (fun x σ₅ => It C A σ₅ x (fun it2 σ₆ => CLoop C A cenv elt t2 [] D (fun σ₇ => ∃ m, m < n ∧ J m σ₇) it2 σ₆))))
noncomputable def CLoopO (C : Cx) (A : Around) (cenv : Env) (elt t1 t2 i2 : Expr) (D : Addr) (Qn : Led → Prop) (it : V) (σ : Led) : Prop :=
  LoopO C A cenv elt t1 t2 i2 D Qn it σ ∧ It C A σ it (LoopO C A cenv elt t1 t2 i2 D Qn)
section
variable {C : Cx} {A : Around} {σ : Led} {env cenv : Env} {elt t1 i1 t2 i2 : Expr} {scope : Scope} {pos : Pos} {D : Addr} {Qn : Led → Prop} {it : V}
theorem loopIn_ {s : Shared} {itv : Value} {R : Result → Shared → Prop} (H : HR C σ s) (r : VR s.heap it itv) (h : LoopC C A cenv elt t2 [] D Qn it σ)
    (k : ∀ s' σ', HR C σ' s' → TK s.heap s'.heap → Qn σ' → R (.ok .next) s') (ht : ∀ it v, letOwnedTupleGo t2 it v = pure ()) :
    codeAny (model C.prog C.w) A (.compLoop (two elt t1 i1 t2 i2 scope pos) 1 itv (.ref D) cenv) R s := by
  obtain ⟨J, n, j0, turn⟩ := h
  refine compLoop_in (fun n s' => ∃ σ', HR C σ' s' ∧ TK s.heap s'.heap ∧ J n σ') (fun n s' ⟨σ', H', kk, j⟩ => ?_) n ⟨σ, H, TK.refl _, j0⟩ (ht itv)
  refine (turn n σ' j s' itv H' (r.mono kk)).run fun o s₁ b σ₁ H₁ r₁ k₁ q₁ => ?_
  cases b with
  | none => cases r₁; exact k _ _ H₁ (kk.trans k₁) q₁
  | some y =>
    obtain ⟨v, rfl, rv⟩ := r₁
    refine (q₁ s₁ v H₁ rv).run fun _ s₂ _ σ₂ H₂ _ k₂ q₂ => ?_
    have q₃ : Tr C VR A σ₂ (eval elt cenv) _ := q₂
    refine (q₃ s₂ H₂).run fun x s₄ xv σ₄ H₄ r₄ k₄ q₄ => (q₄ s₄ _ [.ref D, x] H₄ rfl (VRs.cons rfl (VRs.cons r₄ VRs.nil))).run fun _ s₅ _ σ₅ H₅ _ k₅ q₅ => ?_
    obtain ⟨m, hm, j⟩ := q₅
    exact ⟨m, hm, σ₅, H₅, kk.trans (k₁.trans (k₂.trans (k₄.trans k₅))), j⟩
theorem loopO_ {s : Shared} {itv : Value} {R : Result → Shared → Prop} (H : HR C σ s) (r : VR s.heap it itv) (h : LoopO C A cenv elt t1 t2 i2 D Qn it σ)
    (k : ∀ s' σ', HR C σ' s' → TK s.heap s'.heap → Qn σ' → R (.ok .next) s') (ht : ∀ it v, letOwnedTupleGo t1 it v = pure ()) (ht2 : ∀ it v, letOwnedTupleGo t2 it v = pure ()) (hf : ∀ x, foldedSetIterable i2 cenv x = pure x) :
    codeAny (model C.prog C.w) A (.compLoop (two elt t1 i1 t2 i2 scope pos) 0 itv (.ref D) cenv) R s := by
  obtain ⟨J, n, j0, turn⟩ := h
  refine compLoop_out (fun n s' => ∃ σ', HR C σ' s' ∧ TK s.heap s'.heap ∧ J n σ') (fun n s' ⟨σ', H', kk, j⟩ => ?_) n ⟨σ, H, TK.refl _, j0⟩ (ht itv) hf
  refine (turn n σ' j s' itv H' (r.mono kk)).run fun o s₁ b σ₁ H₁ r₁ k₁ q₁ => ?_
  cases b with
  | none => cases r₁; exact k _ _ H₁ (kk.trans k₁) q₁
  | some y =>
    obtain ⟨v, rfl, rv⟩ := r₁
    refine (q₁ s₁ v H₁ rv).run fun _ s₂ _ σ₂ H₂ _ k₂ q₂ => ?_
    refine (q₂ s₂ H₂).run fun x s₃ xv σ₃ H₃ r₃ k₃ q₃ => ?_
    refine (q₃ s₃ x H₃ r₃).run fun it2 s₄ itw σ₄ H₄ r₄ k₄ q₄ => ?_
    have kk4 := kk.trans (k₁.trans (k₂.trans (k₃.trans k₄)))
    refine compStart_in (loopIn_ H₄ r₄ q₄.1 (fun s' σ' H' k' q => ?_) ht2) ((q₄.2 s₄ it2 H₄ r₄).run fun it' s₅ itx σ₅ H₆ r₅ k₅ q₅ => loopIn_ H₆ r₅ q₅ (fun s' σ' H' k' q => ?_) ht2)
    · obtain ⟨m, hm, j⟩ := q
      exact ⟨m, hm, σ', H', kk4.trans k', j⟩
    · obtain ⟨m, hm, j⟩ := q
      exact ⟨m, hm, σ', H', kk4.trans (k₅.trans k'), j⟩
theorem comp2_ {cl : List (Str × Addr)} {ks : List Str} {cn : List Str} {use : Option (Value → Sem Unit)} {Q : V → Led → Prop} {pos' : Pos} (nd : ks.Nodup) (hcn : (cellNames scope).reverse = cn) (hclos : closureFor scope env = pure cl)
    (hkind : scope.kind = .function) (hnames : ∀ x ∈ scope.names, x.2 = .local → scope.names.lookup x.1 = some .local)
    (h : Tr C VR A σ (eval i1 env) (fun x σ₁ => It C A σ₁ x (fun it σ₂ => ∀ D L cs, cs.map Prod.fst = cn → CLoopO C A (cenvOf scope L cs cl env) elt t1 t2 i2 D
      (CompEnd C A ks L D Q use) it ((D, AO.list []) :: (L, AO.fr ks (ks.map fun _ => none)) :: (celled cs ++ σ₂)))))
    (ht : ∀ it v, letOwnedTupleGo t1 it v = pure ()) (ht2 : ∀ it v, letOwnedTupleGo t2 it v = pure ()) (hf2 : ∀ (cenv : Env) x, foldedSetIterable i2 cenv x = pure x) (hs : ∀ x, foldedSetIterable i1 env x = pure x) :
    Tr C VR A σ (comprehension (.ListComp elt [⟨t1, i1, [], 0⟩, ⟨t2, i2, [], 0⟩] scope pos) scope env pos' (newList []) false (eval i1 env) use) Q := by
  intro s H
  refine wpAny_comprehension_free (g := ⟨t1, i1, [], 0⟩) (gs := [⟨t2, i2, [], 0⟩]) rfl hs hclos hkind hnames ?_
  refine (h s H).run fun xv s₁ x σ₁ H₁ r₁ k₁ q₁ => (q₁ s₁ xv H₁ r₁).run fun itv s₂ it σ₂ H₂ r₂ k₂ q₂ => ?_
  have hn : OpL C VR A σ₂ newList [] (fun v σ' => ∃ D, v = .ref D ∧ σ' = (D, AO.list []) :: σ₂) := newList_ (Nat.zero_le _) fun a => ⟨a, rfl, rfl⟩
  refine (hn s₂ [] H₂ VRs.nil).run fun Dv s₃ Dx σ₃ H₃ r₃ k₃ q₃ => ?_
  obtain ⟨D, rfl, rfl⟩ := q₃
  obtain rfl := vr_ref.mp r₃
  have he : WP C RE A s₃ (newFunctionEnv scope env.globals cl (([] : List Str).zip ([] : List Value)) env.qual none .none (some env)) (fun cenv σ₄ => ∃ L cs, cs.map Prod.fst = cn ∧ { cenv with scope := relabel scope env } = cenvOf scope L cs cl env ∧ cenv.locals = L ∧
      σ₄ = (L, AO.fr ks (ks.map fun _ => none)) :: (celled cs ++ (D, AO.list []) :: σ₂)) :=
    newFunctionEnv_ (bxs := []) (bvs := []) nd hcn rfl H₃ VRs.nil fun L cs hcs => ⟨L, cs, hcs, rfl, rfl, rfl⟩
  refine he.run fun cenv s₄ cenv' σ₄ H₄ r₄ k₄ q₄ => ?_
  cases r₄
  obtain ⟨L, cs, hcs, hce, hL, rfl⟩ := q₄
  rw [hce, hL]
  have H₅ : HR C ((D, AO.list []) :: (L, AO.fr ks (ks.map fun _ => none)) :: (celled cs ++ σ₂)) s₄ := by
    refine H₄.perm ((List.Perm.swap ..).trans (List.Perm.cons _ List.perm_middle.symm))
  have kk := k₁.trans (k₂.trans (k₃.trans k₄))
  have goal : ∀ s' σ', HR C σ' s' → TK s₄.heap s'.heap → CompEnd C A ks L D Q use σ' → compPost (model C.prog C.w) A No use (Post C VR s.heap Q) (.ref D) L (.ok .next) s' := by
    intro s' σ' H' k' q
    cases use with
    | none =>
      obtain ⟨vs, σ'', sb, q⟩ := q
      have H'' := HR.sb sb H'
      obtain ⟨o, g, _, F⟩ := H''.own _ (List.Mem.head _)
      obtain ⟨m, N, _⟩ := FrIs.nsOf F g
      refine ⟨m, N, fun h' hs' => ?_⟩
      have D' := HR.del (s' := { s' with heap := h' }) H'' hs'.extBut rfl rfl
      exact ⟨.ref D, σ'', D'.1, vr_ref.mpr rfl, kk.trans (k'.trans D'.2), q⟩
    | some u =>
      refine (q s' _ H' rfl).run fun _ s'' _ σ'' H'' _ k'' q'' => ?_
      obtain ⟨vs, σ₃, sb, q⟩ := q''
      have H₃' := HR.sb sb H''
      obtain ⟨o, g, _, F⟩ := H₃'.own _ (List.Mem.head _)
      obtain ⟨m, N, _⟩ := FrIs.nsOf F g
      refine ⟨m, N, fun h' hs' => ?_⟩
      have D' := HR.del (s' := { s'' with heap := h' }) H₃' hs'.extBut rfl rfl
      exact ⟨.none, σ₃, D'.1, vr_none.mpr rfl, kk.trans (k'.trans (k''.trans D'.2)), q⟩
  have q := q₂ D L cs hcs
  have ritv := r₂.mono (k₃.trans k₄)
  refine codeAny_compStart_list (loopO_ H₅ ritv q.1 goal ht ht2 (hf2 _)) ?_
  refine (q.2 s₄ itv H₅ ritv).run fun it' s₅ itx σ₅ H₆ r₅ k₅ q₅ => loopO_ H₆ r₅ q₅ (fun s' σ' H' k' q => goal s' σ' H' (k₅.trans k') q) ht ht2 (hf2 _)
theorem x_lc2 {cl : List (Str × Addr)} {ks cn : List Str} {y : Str} {py spos : Pos} {Qr : V → Led → Prop} {Qb Qc : Led → Prop} (nd : ks.Nodup) (hcn : (cellNames scope).reverse = cn) (hclos : closureFor scope env = pure cl)
    (hkind : scope.kind = .function) (hnames : ∀ x ∈ scope.names, x.2 = .local → scope.names.lookup x.1 = some .local)
    (h : Tr C VR A σ (eval i1 env) (fun x σ₁ => It C A σ₁ x (fun it σ₂ => ∀ D L cs, cs.map Prod.fst = cn → CLoopO C A (cenvOf scope L cs cl env) elt t1 t2 i2 D
      (fun σ' => St C A σ' (storeName env y) (.ref D) (fun _ σ'' => ∃ vs σ₃, Sb ((L, AO.fr ks vs) :: σ₃) σ'' ∧ Qn σ₃)) it ((D, AO.list []) :: (L, AO.fr ks (ks.map fun _ => none)) :: (celled cs ++ σ₂)))))
    (ht : ∀ it v, letOwnedTupleGo t1 it v = pure ()) (ht2 : ∀ it v, letOwnedTupleGo t2 it v = pure ()) (hf2 : ∀ (cenv : Env) x, foldedSetIterable i2 cenv x = pure x) (hs : ∀ x, foldedSetIterable i1 env x = pure x)
    (hsw : swapsWith (.ListComp elt [⟨t1, i1, [], 0⟩, ⟨t2, i2, [], 0⟩] scope pos) (some (.Name y py)) spos.line env = pure true) :
    X C A env σ (.Assign [.Name y py] (.ListComp elt [⟨t1, i1, [], 0⟩, ⟨t2, i2, [], 0⟩] scope pos) spos) Qn Qr Qb Qc := by
  intro s H
  unfold WP
  rw [exec_Assign_Name_used _ _ _ _ hsw]
  refine wpAny_bind (wpAny_standAt (wpAny_bind ?_))
  show wpAny _ A (do let _ ← comprehension (.ListComp elt [⟨t1, i1, [], 0⟩, ⟨t2, i2, [], 0⟩] scope pos) scope env _ (newList []) false (eval i1 env) (some (assign (.Name y py) env))) _ _ s
  refine wpAny_bind ((comp2_ (use := some (assign (.Name y py) env)) (Q := fun _ σ' => Qn σ') nd hcn hclos hkind hnames ?_ ht ht2 hf2 hs s H).run fun v s₁ b σ₁ H₁ r₁ k₁ q₁ => wpAny_pure (wpAny_pure (post_next H₁ k₁ q₁)))
  refine Tr.mono h fun x σ₁ q => fun s a H r => (q s a H r).mono fun it σ₂ q => fun D L cs hcs => ?_
  have q := q D L cs hcs
  have lift : ∀ σ', St C A σ' (storeName env y) (.ref D) (fun _ σ'' => ∃ vs σ₃, Sb ((L, AO.fr ks vs) :: σ₃) σ'' ∧ Qn σ₃) → CompEnd C A ks L D (fun _ σ' => Qn σ') (some (assign (.Name y py) env)) σ' := fun σ' q => fun s a H r => wpAny_assign_Name (q s a H r)
  have up : ∀ {it σ}, LoopO C A (cenvOf scope L cs cl env) elt t1 t2 i2 D (fun σ' => St C A σ' (storeName env y) (.ref D) (fun _ σ'' => ∃ vs σ₃, Sb ((L, AO.fr ks vs) :: σ₃) σ'' ∧ Qn σ₃)) it σ →
      LoopO C A (cenvOf scope L cs cl env) elt t1 t2 i2 D (CompEnd C A ks L D (fun _ σ' => Qn σ') (some (assign (.Name y py) env))) it σ := by
    rintro it σ ⟨J, n, j, turn⟩
    refine ⟨J, n, j, fun n σ j s v H r => (turn n σ j s v H r).mono fun o σ₃ q => ?_⟩
    cases o with
    | none => exact lift _ q
    | some y => exact q
  exact ⟨up q.1, fun s v H r => (q.2 s v H r).mono fun it σ q => up q⟩
end
end Mine
end
section
open PySem PySem.W PySem.Calls PyProof.Rows PySem.Spec
set_option Elab.async false
set_option maxRecDepth 100000
set_option linter.unusedVariables false
namespace Mine
theorem VRs_rev {h : Heap} : ∀ {l : List V} {vs : List Value}, VRs h l vs → VRs h l.reverse vs.reverse
  | [], vs, r => by simp only [VRs] at r; subst r; exact VRs.nil
  | x :: l, vs, r => by
    simp only [VRs] at r
    obtain ⟨v, w, rfl, rx, r⟩ := r
    rw [List.reverse_cons, List.reverse_cons]
    exact (VRs_rev r).append (VRs.cons rx VRs.nil)
section
variable {C : Cx} {A : Around} {σ : Led} {a : Addr} {Q : V → Led → Prop} {ns : List Int} {k : Int}
theorem c_index (hm : (a, AO.list (ns.map V.int)) ∈ σ) (hk : k ∈ ns) (hz : ns.length ≤ 1000) (h : Q (.int (ns.idxOf k : Nat)) σ) : Call C A σ (.bi "list.index") [.ref a, .int k] Q := by
  rintro s fv vs' H rfl r
  simp only [VRs] at r
  obtain ⟨_, _, rfl, rfl, _, _, rfl, ⟨t, rfl⟩, rfl⟩ := r
  obtain ⟨vs, L, rv⟩ := listOf H hm
  have hi := ints_are rv
  obtain ⟨⟨cls, dd, data, sl⟩, ho, hc, n, hd⟩ := id L
  simp only at hc hd
  subst hc hd
  have hlen := hi.length
  have hj : ns.idxOf k < ns.length := List.idxOf_lt_length_iff.mpr hk
  refine call_meets PySem.F.slot_list_index ⟨_, ho, rfl⟩ PySem.F.entry_list_index (PySem.F.args_list_index_2 _ _)
    (PySem.SeqAt.list_indexAt a vs.toArray n dd sl (.int k t) (isInt k) (ns.idxOf k) (by simpa [hlen] using hj) (by lia) ?_ ?_) ⟨ho, fun y hy => (eq_isInt k t hi y (by simpa using hy)).at _ _, ⟨.int _, σ, ?_, ⟨_, rfl⟩, TK.refl _, h⟩⟩
  · show isInt k vs[ns.idxOf k] = true
    rw [isInt_at k hi _ (by lia) hj]
    simpa using List.getElem_idxOf hj
  · intro j hjs hlt
    show isInt k vs[j] = false
    rw [isInt_at k hi j (by simpa using hjs) (by lia)]
    exact ne_of_lt_idxOf hlt _
  · exact HR.toks H
end
noncomputable def SliceR (o : Obj) : Prop := ∃ t : Tok, o.cls = .type "slice" ∧ o.data = .fields #[.none, .none, .int (-1) t]
noncomputable def AO.slicer : AO := ⟨fun _ o => SliceR o, fun _ h => h⟩
section
variable {C : Cx} {A : Around} {σ : Led} {env : Env} {Q : V → Led → Prop}
theorem g_list_rev {b : Addr} {l : List V} {a : Addr} (hm : (b, AO.list l) ∈ σ) (hz : l.length ≤ sizeLine) (h : ∀ d, Q (.ref d) ((d, AO.list l.reverse) :: σ)) : Op2 C VR A ((a, AO.slicer) :: σ) getItem (.ref b) (.ref a) Q := by
  rintro s _ _ H rfl rfl
  obtain ⟨o, g, _, t, c, d⟩ := H.own _ (List.Mem.head _)
  obtain ⟨vs, L, r⟩ := listOf H (List.Mem.tail _ hm)
  have H' := H.sub (List.sublist_cons_self ..)
  have tk : TK s.heap (s.heap.push { cls := .type "list", data := .seq (slicePick vs.toArray none none (some (-1))) }) := TK.push _
  refine wpAny_getItem_list_slice (lo := none) (hi := none) (st := some (-1)) L (⟨o, g, c, d⟩ : s.heap.IsSliceOf a .none .none (.int (-1) t)) .none .none (.int _ _) (by decide) ?_ (by rw [List.size_toArray, r.length]; exact hz)
  refine ⟨.ref s.heap.objs.size, _, H'.add (X := AO.list l.reverse) (fun b o e => Heap.get?_push_of_some _ e) (Nat.le_refl _) (Heap.get?_push_size _ rfl)
    (Pl.seq (show Value.type "list" ≠ Value.type "tuple" by decide) rfl) ⟨⟨rfl, rfl⟩, vs.reverse, 0, ?_, ?_⟩ rfl rfl, vr_ref.mpr rfl, tk, h _⟩
  · show Data.seq _ _ = _
    rw [krv_pick]
  · exact VRs_rev (r.mono tk)
theorem e_slicer {st : Expr} {p : Pos} (h : Tr C VR A σ (eval st env) (fun z σ₁ => z = .int (-1) ∧ ∀ a, Q (.ref a) ((a, AO.slicer) :: σ₁))) : Tr C VR A σ (eval (.Slice none none (some st) p) env) Q := by
  intro s H
  refine wpAny_Slice (wpAny_pure (wpAny_pure ((h s H).run fun zv s₂ z σ₂ H₂ r₂ k₂ q₂ => ?_)))
  obtain ⟨rfl, q⟩ := q₂
  obtain ⟨t, rfl⟩ := r₂
  exact ⟨.ref s₂.heap.objs.size, _, H₂.add (X := AO.slicer) (fun b o e => Heap.get?_push_of_some _ e) (Nat.le_refl _) (Heap.get?_push_size _ rfl) (Pl.fields rfl (by intro e; cases e)) ⟨t, rfl, rfl⟩ rfl rfl, vr_ref.mpr rfl, k₂.trans (TK.push _), q _⟩
end
end Mine
end
section
open PySem PySem.W PySem.Calls PyProof.Rows PySem.Spec
set_option Elab.async false
set_option maxRecDepth 100000
set_option linter.unusedVariables false
namespace Mine
section
variable {C : Cx} {A : Around} {σ : Led} {cenv : Env} {elt t1 t2 i2 : Expr} {D : Addr} {Qn : Led → Prop}
theorem loopC_from {a : Addr} {Xo : Nat → AO} {l : List V} {G : Led → Prop} (B : Nat) (acc0 : List V) (hB : acc0.length ≤ B) (I : Iter C A a Xo l G) (J : Nat → List V → Led → Prop) (h0 : J 0 acc0 σ) (hG : ∀ i acc σ, J i acc σ → G ((D, AO.list acc) :: σ)) (hz : B + l.length ≤ sizeLine)
    (turn : ∀ i y acc σ, l[i]? = some y → acc.length ≤ B + i → J i acc σ → Asg C A cenv ((a, Xo (i + 1)) :: (D, AO.list acc) :: σ) t2 y (fun σ₂ =>
        Tr C VR A σ₂ (eval elt cenv) (fun v σ₃ => ∃ σ', Sb ((D, AO.list acc) :: (a, Xo (i + 1)) :: σ') σ₃ ∧ J (i + 1) (acc ++ [v]) σ')))
    (fin : ∀ acc σ, acc.length ≤ B + l.length → J l.length acc σ → Qn ((D, AO.list acc) :: σ)) : LoopC C A cenv elt t2 [] D Qn (.ref a) ((D, AO.list acc0) :: (a, Xo 0) :: σ) := by
  refine ⟨fun n σ => ∃ i acc σ', n = l.length + 1 - i ∧ i ≤ l.length ∧ acc.length ≤ B + i ∧ Sb ((D, AO.list acc) :: (a, Xo i) :: σ') σ ∧ J i acc σ', l.length + 1, ⟨0, acc0, σ, rfl, Nat.zero_le _, hB, .refl, h0⟩, ?_⟩
  rintro n σ ⟨i, acc, σ', rfl, hi, ha, sb, j⟩
  refine (fun (h : Nx C A ((a, Xo i) :: (D, AO.list acc) :: σ') (.ref a) _) => (fun s v H r => h s v ((HR.sb sb H).perm (List.Perm.swap ..)) r : Nx C A σ (.ref a) _)) ?_
  rcases Nat.lt_or_ge i l.length with hl | hl
  · have e : l[i]? = some l[i] := List.getElem?_eq_getElem hl
    refine I.item i l[i] _ _ e (hG i acc σ' j) ?_
    refine fun s v H r => (turn i l[i] acc σ' e ha j s v H r).mono fun _ σ₁ q => ?_
    refine Tr.mono q fun v σ₃ ⟨σ', k, j⟩ => ?_
    intro s fv vs H r rr
    refine c_append (Q := fun _ σ₇ => ∃ m, m < l.length + 1 - i ∧ ∃ i acc σ', m = l.length + 1 - i ∧ i ≤ l.length ∧ acc.length ≤ B + i ∧ Sb ((D, AO.list acc) :: (a, Xo i) :: σ') σ₇ ∧ J i acc σ') .head (by lia) ?_ s fv vs (HR.sb k H) r rr
    exact ⟨l.length + 1 - (i + 1), by lia, i + 1, _, σ', rfl, hl, by simp; lia, .refl, j⟩
  · have e : i = l.length := Nat.le_antisymm hi hl
    subst e
    exact I.stop _ _ (hG _ _ _ j) (fin acc σ' ha j)
theorem cloop_from {a : Addr} {Xo : Nat → AO} {l : List V} {G : Led → Prop} (B : Nat) (acc0 : List V) (hB : acc0.length ≤ B) (I : Iter C A a Xo l G) (J : Nat → List V → Led → Prop) (h0 : J 0 acc0 σ) (hG : ∀ i acc σ, J i acc σ → G ((D, AO.list acc) :: σ)) (hz : B + l.length ≤ sizeLine)
    (turn : ∀ i y acc σ, l[i]? = some y → acc.length ≤ B + i → J i acc σ → Asg C A cenv ((a, Xo (i + 1)) :: (D, AO.list acc) :: σ) t2 y (fun σ₂ =>
        Tr C VR A σ₂ (eval elt cenv) (fun v σ₃ => ∃ σ', Sb ((D, AO.list acc) :: (a, Xo (i + 1)) :: σ') σ₃ ∧ J (i + 1) (acc ++ [v]) σ')))
    (fin : ∀ acc σ, acc.length ≤ B + l.length → J l.length acc σ → Qn ((D, AO.list acc) :: σ)) : CLoop C A cenv elt t2 [] D Qn (.ref a) ((D, AO.list acc0) :: (a, Xo 0) :: σ) := by
  have main := loopC_from (D := D) B acc0 hB I J h0 hG hz turn fin
  refine ⟨main, fun s v H r => ?_⟩
  have := I.self ((D, AO.list acc0) :: σ) (fun it σ'' => LoopC C A cenv elt t2 [] D Qn it σ'') ?_
  · exact this s v (H.perm (List.Perm.swap ..)) r
  · exact loopC_sb (.take (.tail .head) (.take .head .refl)) main
theorem cloop_sbC {it : V} {σ₀ : Led} (k : Sb σ₀ σ) (h : CLoop C A cenv elt t2 [] D Qn it σ₀) : CLoop C A cenv elt t2 [] D Qn it σ :=
  ⟨loopC_sb k h.1, fun s v H r => h.2 s v (HR.sb k H) r⟩
theorem loopC_post {it : V} {Qm : Led → Prop} (k : ∀ σ, Qm σ → Qn σ) (h : LoopC C A cenv elt t2 [] D Qm it σ) : LoopC C A cenv elt t2 [] D Qn it σ := by
  obtain ⟨J, n, j, turn⟩ := h
  refine ⟨J, n, j, fun n σ j s v H r => (turn n σ j s v H r).mono fun o σ₃ q => ?_⟩
  cases o with
  | none => exact k _ q
  | some y => exact q
theorem cloop_post {it : V} {Qm : Led → Prop} (k : ∀ σ, Qm σ → Qn σ) (h : CLoop C A cenv elt t2 [] D Qm it σ) : CLoop C A cenv elt t2 [] D Qn it σ :=
  ⟨loopC_post k h.1, fun s v H r => (h.2 s v H r).mono fun it σ q => loopC_post k q⟩
theorem loopO_seq {a : Addr} {Xo : Nat → AO} {l : List V} {G : Led → Prop} (I : Iter C A a Xo l G) (J : Nat → List V → Led → Prop) (h0 : J 0 [] σ) (hG : ∀ i acc σ, J i acc σ → G ((D, AO.list acc) :: σ))
    (turn : ∀ i y acc σ, l[i]? = some y → J i acc σ → Asg C A cenv ((a, Xo (i + 1)) :: (D, AO.list acc) :: σ) t1 y (fun σ₄ => Tr C VR A σ₄ (eval i2 cenv) (fun x σ₅ => It C A σ₅ x (fun it2 σ₆ =>
        CLoop C A cenv elt t2 [] D (fun σ₇ => ∃ acc' σ', Sb ((D, AO.list acc') :: (a, Xo (i + 1)) :: σ') σ₇ ∧ J (i + 1) acc' σ') it2 σ₆))))
    (fin : ∀ acc σ, J l.length acc σ → Qn ((D, AO.list acc) :: σ)) : LoopO C A cenv elt t1 t2 i2 D Qn (.ref a) ((D, AO.list []) :: (a, Xo 0) :: σ) := by
  refine ⟨fun n σ => ∃ i acc σ', n = l.length + 1 - i ∧ i ≤ l.length ∧ Sb ((D, AO.list acc) :: (a, Xo i) :: σ') σ ∧ J i acc σ', l.length + 1, ⟨0, [], σ, rfl, Nat.zero_le _, .refl, h0⟩, ?_⟩
  rintro n σ ⟨i, acc, σ', rfl, hi, sb, j⟩
  refine (fun (h : Nx C A ((a, Xo i) :: (D, AO.list acc) :: σ') (.ref a) _) => (fun s v H r => h s v ((HR.sb sb H).perm (List.Perm.swap ..)) r : Nx C A σ (.ref a) _)) ?_
  rcases Nat.lt_or_ge i l.length with hl | hl
  · have e : l[i]? = some l[i] := List.getElem?_eq_getElem hl
    refine I.item i l[i] _ _ e (hG i acc σ' j) ?_
    refine fun s v H r => (turn i l[i] acc σ' e j s v H r).mono fun _ σ₁ q => Tr.mono q fun x σ₂ q => fun s v H r => (q s v H r).mono fun it2 σ₃ q => cloop_post ?_ q
    rintro σ₄ ⟨acc', σ'', k, j⟩
    exact ⟨l.length + 1 - (i + 1), by lia, i + 1, acc', σ'', rfl, hl, k, j⟩
  · have e : i = l.length := Nat.le_antisymm hi hl
    subst e
    exact I.stop _ _ (hG _ _ _ j) (fin acc σ' j)
theorem loopO_sb {it : V} {σ₀ : Led} (k : Sb σ₀ σ) (h : LoopO C A cenv elt t1 t2 i2 D Qn it σ₀) : LoopO C A cenv elt t1 t2 i2 D Qn it σ := by
  obtain ⟨J, n, j, turn⟩ := h
  refine ⟨fun n σ => ∃ σ₀, Sb σ₀ σ ∧ J n σ₀, n, ⟨σ₀, k, j⟩, fun n σ ⟨σ₁, k, j⟩ => nx_sb k fun s v H r => (turn n σ₁ j s v H r).mono fun o σ₃ q => ?_⟩
  cases o with
  | none => exact q
  | some y =>
    refine fun s a H r => (q s a H r).mono fun _ σ₄ q => Tr.mono q fun x σ₅ q => fun s v H r => (q s v H r).mono fun it2 σ₆ q => cloop_post ?_ q
    rintro σ₇ ⟨m, hm, j⟩
    exact ⟨m, hm, _, .refl, j⟩
theorem cloopO_iter {a : Addr} {Xo : Nat → AO} {l : List V} {G : Led → Prop} {σ' : Led} (sb : Sb ((D, AO.list []) :: (a, Xo 0) :: σ') σ) (I : Iter C A a Xo l G) (J : Nat → List V → Led → Prop) (h0 : J 0 [] σ') (hG : ∀ i acc σ, J i acc σ → G ((D, AO.list acc) :: σ))
    (turn : ∀ i y acc σ, l[i]? = some y → J i acc σ → Asg C A cenv ((a, Xo (i + 1)) :: (D, AO.list acc) :: σ) t1 y (fun σ₄ => Tr C VR A σ₄ (eval i2 cenv) (fun x σ₅ => It C A σ₅ x (fun it2 σ₆ =>
        CLoop C A cenv elt t2 [] D (fun σ₇ => ∃ acc' σ', Sb ((D, AO.list acc') :: (a, Xo (i + 1)) :: σ') σ₇ ∧ J (i + 1) acc' σ') it2 σ₆))))
    (fin : ∀ acc σ, J l.length acc σ → Qn ((D, AO.list acc) :: σ)) : CLoopO C A cenv elt t1 t2 i2 D Qn (.ref a) σ := by
  have main := loopO_seq (D := D) I J h0 hG turn fin
  refine ⟨loopO_sb sb main, fun s v H r => ?_⟩
  have := I.self ((D, AO.list []) :: σ') (fun it σ'' => LoopO C A cenv elt t1 t2 i2 D Qn it σ'') ?_
  · exact this s v ((HR.sb sb H).perm (List.Perm.swap ..)) r
  · exact loopO_sb (.take (.tail .head) (.take .head .refl)) main
end
end Mine
end
section
open PySem PySem.W PySem.Calls PyProof.Rows PySem.Spec
set_option Elab.async false
set_option maxRecDepth 100000
set_option linter.unusedVariables false
namespace Mine
section
variable {C : Cx} {A : Around} {σ : Led} {cenv : Env} {elt t1 t2 i2 : Expr} {D : Addr} {Qn : Led → Prop}
theorem cloop_fromR {a : Addr} {n : Nat} (hA : A.handled = none) (B : Nat) (acc0 : List V) (hB : acc0.length ≤ B) (J : Nat → List V → Led → Prop) (h0 : J 0 acc0 σ) (hz : B + n ≤ sizeLine)
    (turn : ∀ k X acc σ, k < n → acc.length ≤ B + k → J k acc σ → Asg C A cenv ((a, X) :: (D, AO.list acc) :: σ) t2 (.int (k : Nat)) (fun σ₂ =>
        Tr C VR A σ₂ (eval elt cenv) (fun v σ₃ => ∃ σ', Sb ((D, AO.list acc) :: (a, X) :: σ') σ₃ ∧ J (k + 1) (acc ++ [v]) σ')))
    (fin : ∀ acc σ, J n acc σ → Qn ((D, AO.list acc) :: σ)) : CLoop C A cenv elt t2 [] D Qn (.ref a) ((D, AO.list acc0) :: (a, AO.rit 0 (n : Nat)) :: σ) := by
  have main := cloop_from (C := C) (A := A) (cenv := cenv) (elt := elt) (t2 := t2) (D := D) (Qn := Qn) (σ := σ) B acc0 hB (iter_range (C := C) (a := a) (i := 0) hA (n := n)) J h0 (fun _ _ _ _ => trivial) (by rw [upto_len]; exact hz) ?_ ?_
  · rw [show AO.rit (0 + ((0 : Nat) : Int)) ((n : Int) - ((0 : Nat) : Int)) = AO.rit 0 (n : Nat) by simp] at main
    exact main
  · intro k y acc σ hy ha j
    obtain ⟨hk, rfl⟩ := upto_get hy
    rw [show (0 : Int) + (k : Nat) = (k : Nat) by lia]
    exact turn k _ acc σ hk ha j
  · intro acc σ _ j
    rw [upto_len] at j
    exact fin acc σ j
theorem cloop_R0 {a : Addr} {n : Nat} {σ' : Led} (sb : Sb ((D, AO.list []) :: (a, AO.rit 0 (n : Nat)) :: σ') σ) (hA : A.handled = none) (J : Nat → List V → Led → Prop) (h0 : J 0 [] σ') (hz : n ≤ sizeLine)
    (turn : ∀ k X acc σ, k < n → acc.length ≤ k → J k acc σ → Asg C A cenv ((a, X) :: (D, AO.list acc) :: σ) t2 (.int (k : Nat)) (fun σ₂ =>
        Tr C VR A σ₂ (eval elt cenv) (fun v σ₃ => ∃ σ', Sb ((D, AO.list acc) :: (a, X) :: σ') σ₃ ∧ J (k + 1) (acc ++ [v]) σ')))
    (fin : ∀ acc σ, J n acc σ → Qn ((D, AO.list acc) :: σ)) : CLoop C A cenv elt t2 [] D Qn (.ref a) σ :=
  cloop_sbC sb (cloop_fromR hA 0 [] (Nat.le_refl _) J h0 (by rw [Nat.zero_add]; exact hz) (fun k X acc σ hk ha j => turn k X acc σ hk (by rw [Nat.zero_add] at ha; exact ha) j) fin)
end
section
variable {C : Cx} {A : Around} {σ : Led} {env : Env} {pos : Pos} {Qn : Led → Prop} {Qr : V → Led → Prop} {Qb Qc : Led → Prop}
theorem x_whileS {t : Expr} {body : List Stmt} {σ₀ : Led} (sb : Sb σ₀ σ) (J : Nat → Led → Prop) (n : Nat) (h0 : J n σ₀)
    (turn : ∀ n σ, J n σ → Tr C RB A σ (isTrue t env (eval t env)) (fun c σ₁ => if c = true then Xs C A env σ₁ body (fun σ₂ => ∃ m, m < n ∧ ∃ σ₃, Sb σ₃ σ₂ ∧ J m σ₃) Qr Qn (fun σ₂ => ∃ m, m < n ∧ ∃ σ₃, Sb σ₃ σ₂ ∧ J m σ₃) else Qn σ₁)) :
    X C A env σ (.While t body [] pos) Qn Qr Qb Qc :=
  x_while (fun n σ => ∃ σ₃, Sb σ₃ σ ∧ J n σ₃) n ⟨σ₀, sb, h0⟩ fun n σ ⟨σ₃, k, j⟩ => fun s H => turn n σ₃ j s (HR.sb k H)
end
theorem Sb.pre : ∀ (P : Led) {s u : Led}, Sb s u → Sb (P ++ s) (P ++ u)
  | [], _, _, h => h
  | x :: P, _, _, h => .take .head (Sb.pre P h)
theorem Sb.drop : ∀ (R : Led) {s : Led}, Sb s (R ++ s)
  | [], _ => .refl
  | x :: R, _ => .skip (Sb.drop R)
noncomputable def nV (l : List Nat) : List V := (l.map fun (k : Nat) => (k : Int)).map V.int
theorem nV_len (l : List Nat) : (nV l).length = l.length := by rw [nV, List.length_map, List.length_map]
theorem nV_get {l : List Nat} {i k : Nat} (h : l[i]? = some k) : (nV l)[i]? = some (V.int (k : Nat)) := by rw [nV, List.getElem?_map, List.getElem?_map, h]; rfl
theorem nV_at {l : List Nat} {i : Nat} {y : V} (h : (nV l)[i]? = some y) : ∃ k, l[i]? = some k ∧ y = V.int (k : Nat) := by
  rw [nV, List.getElem?_map, List.getElem?_map] at h
  cases e : l[i]? with
  | none => rw [e] at h; cases h
  | some k => rw [e] at h; cases h; exact ⟨k, rfl, rfl⟩
theorem nV_any (l : List Nat) (k : Nat) : ((l.map fun (k : Nat) => (k : Int)).any (· == (k : Int))) = l.contains k := by
  induction l with
  | nil => rfl
  | cons a r ih =>
    rw [List.map_cons, List.any_cons, ih, List.contains_cons]
    congr 1
    rw [Bool.eq_iff_iff]
    simp only [beq_iff_eq]
    lia
theorem getD_of {l : List Nat} {i k : Nat} (h : l[i]? = some k) : l.getD i 0 = k := by rw [List.getD_eq_getElem?_getD, h]; rfl
theorem rng_getD (l : List Nat) : (List.range l.length).map (fun i => l.getD i 0) = l := by
  apply List.ext_getElem?
  intro i
  rw [List.getElem?_map]
  by_cases h : i < l.length
  · rw [List.getElem?_range h, List.getElem?_eq_getElem h, Option.map_some, List.getD_eq_getElem?_getD, List.getElem?_eq_getElem h]; rfl
  · rw [List.getElem?_eq_none (by simpa using h), List.getElem?_eq_none (by lia)]; rfl
theorem filt_get (l : List Nat) (q : Nat → Bool) : ((List.range l.length).filter fun i => q (l.getD i 0)).map (fun i => V.int (l.getD i 0 : Nat)) = nV (l.filter q) := by
  have e : l.filter q = ((List.range l.length).filter fun i => q (l.getD i 0)).map (fun i => l.getD i 0) := by
    conv => lhs; rw [← rng_getD l]
    rw [List.filter_map]
    rfl
  rw [e, nV, List.map_map, List.map_map]
  rfl
noncomputable def okRing (o : List Nat) (a : Nat) : Nat → Nat → Bool
  | 0, _ => false
  | f + 1, l => o.getD l 0 == a || okRing o a f (o.getD l 0)
noncomputable def okRings (o : List Nat) : Nat → List Nat → Bool
  | _, [] => true
  | 0, _ :: _ => false
  | f + 1, a :: l => okRing o a 4 a && okRings o f ((a :: l).filter fun k => !(ringF o a 4 [a] a).contains k)
theorem ord_ring : ∀ o ∈ ordsF 4, o.length = 4 ∧ (∀ k ∈ o, k < 4) ∧ okRings o 4 [0, 1, 2, 3] = true := by decide +kernel
noncomputable def plcF (h : Nat → Int) : List Nat → Int → Nat → List (Nat × Nat)
  | [], _, _ => []
  | k :: r, p, i => if 0 < h k + p then (i, k) :: plcF h r (h k + p) (i + 1) else plcF h r (h k + p) (i + 1)
theorem plcF_snd (h : Nat → Int) : ∀ l p i, (plcF h l p i).map Prod.snd = selZ h l p
  | [], _, _ => rfl
  | k :: r, p, i => by
    unfold plcF selZ
    by_cases c : 0 < h k + p
    · rw [if_pos c, if_pos c, List.map_cons, plcF_snd h r]
    · rw [if_neg c, if_neg c, plcF_snd h r]
theorem plcF_app (h : Nat → Int) (x : Nat) : ∀ l p i, plcF h (l ++ [x]) p i = plcF h l p i ++ (if 0 < h x + (p + (l.map h).sum) then [(i + l.length, x)] else [])
  | [], p, i => by
    show (if 0 < h x + p then [(i, x)] else []) = _
    rw [List.map_nil, List.sum_nil, Int.add_zero]; rfl
  | k :: r, p, i => by
    rw [List.cons_append, plcF, plcF, plcF_app h x r, List.map_cons, List.sum_cons, List.length_cons, show i + 1 + r.length = i + (r.length + 1) by lia, show h k + p + (r.map h).sum = p + (h k + (r.map h).sum) by lia]
    by_cases c : 0 < h k + p
    · rw [if_pos c, if_pos c, List.cons_append]
    · rw [if_neg c, if_neg c]
theorem selN_app (h : Nat → Int) (x : Nat) : ∀ l p, selN h (l ++ [x]) p = selN h l p ++ (if 0 < h x + (p + (l.map h).sum) then [] else [x])
  | [], p => by
    show (if 0 < h x + p then [] else [x]) = _
    rw [List.map_nil, List.sum_nil, Int.add_zero]; rfl
  | k :: r, p => by
    rw [List.cons_append, selN, selN, selN_app h x r, List.map_cons, List.sum_cons, show h k + p + (r.map h).sum = p + (h k + (r.map h).sum) by lia]
    by_cases c : 0 < h k + p
    · rw [if_pos c, if_pos c]
    · rw [if_neg c, if_neg c, List.cons_append]
theorem plcF_fst (h : Nat → Int) : ∀ l p i, (plcF h l p i).map Prod.fst = ((List.range l.length).filter fun k => decide (0 < p + ((l.map h).take (k + 1)).sum)).map (· + i)
  | [], _, _ => rfl
  | k :: r, p, i => by
    rw [List.length_cons, List.range_succ_eq_map, plcF]
    have e : (List.filter (fun j => decide (0 < p + (((k :: r).map h).take (j + 1)).sum)) (List.map Nat.succ (List.range r.length))).map (· + i) = (plcF h r (h k + p) (i + 1)).map Prod.fst := by
      rw [plcF_fst h r, List.filter_map, List.map_map]
      have q : ((fun j => decide (0 < p + (((k :: r).map h).take (j + 1)).sum)) ∘ Nat.succ) = fun j => decide (0 < h k + p + ((r.map h).take (j + 1)).sum) := by
        funext j
        show decide (0 < p + (((k :: r).map h).take (j + 1 + 1)).sum) = _
        rw [List.map_cons, List.take_succ_cons, List.sum_cons, show p + (h k + ((r.map h).take (j + 1)).sum) = h k + p + ((r.map h).take (j + 1)).sum by lia]
      rw [q]
      exact List.map_congr_left fun j _ => by show j + 1 + i = j + (i + 1); lia
    have c0 : p + (((k :: r).map h).take (0 + 1)).sum = h k + p := by
      rw [List.map_cons, Nat.zero_add, List.take_succ_cons, List.take_zero, List.sum_cons, List.sum_nil]; lia
    rw [List.filter_cons, c0]
    by_cases c : 0 < h k + p
    · rw [if_pos c, if_pos (by simpa using c), List.map_cons, List.map_cons, e, Nat.zero_add]
    · rw [if_neg c, if_neg (by simpa using c), e]
theorem plcF_cnt (h : Nat → Int) : ∀ l p i, (plcF h l p i).length + (selN h l p).length = l.length
  | [], _, _ => rfl
  | k :: r, p, i => by
    have e := plcF_cnt h r (h k + p) (i + 1)
    unfold plcF selN
    by_cases c : 0 < h k + p
    · rw [if_pos c, if_pos c, List.length_cons, List.length_cons]; lia
    · rw [if_neg c, if_neg c, List.length_cons, List.length_cons]; lia
theorem take_snoc {l : List Nat} {k : Nat} (h : k < l.length) : l.take (k + 1) = l.take k ++ [l.getD k 0] := by
  rw [List.take_add_one, List.getD_eq_getElem?_getD, List.getElem?_eq_getElem h]; rfl
theorem drop_head {l : List Nat} {k : Nat} (h : k < l.length) : l.drop k = l.getD k 0 :: l.drop (k + 1) := by
  rw [List.drop_eq_getElem_cons h, List.getD_eq_getElem?_getD, List.getElem?_eq_getElem h]; rfl
theorem h_sum (d : Nat → Nat) (m : Nat) : ∀ l : List Nat, (l.map fun k => ((d k : Nat) : Int) - (m : Nat)).sum = (((l.map d).sum : Nat) : Int) - ((m * l.length : Nat) : Int)
  | [] => by simp
  | k :: r => by
    rw [List.map_cons, List.sum_cons, h_sum d m r, List.map_cons, List.sum_cons, List.length_cons, Nat.mul_succ]
    lia
theorem d_sum (d : Nat → Nat) (B : Nat) (hd : ∀ k, d k ≤ B) : ∀ l : List Nat, (l.map d).sum ≤ l.length * B
  | [] => Nat.zero_le _
  | k :: r => by
    have := d_sum d B hd r
    have := hd k
    rw [List.map_cons, List.sum_cons, List.length_cons, Nat.succ_mul]
    lia
end Mine
end
section
open PySem PySem.W PySem.Calls PyProof.Rows PySem.Spec
set_option Elab.async false
set_option maxRecDepth 100000
set_option linter.unusedVariables false
namespace Mine
section
variable {C : Cx} {A : Around} {σ : Led} {a : Addr} {l : List V}
theorem m_index {Qm : V → List V → Led → Prop} (hm : (a, AO.list l) ∈ σ) (h : Qm (.bi "list.index") [.ref a] σ) : Mth C A σ (.ref a) "index" Qm := by
  rintro s _ pl H rfl
  obtain ⟨o, vs, n, g, c, d, dt, r⟩ := seqOf H hm
  exact getMethod_list_of (items := vs.toArray) PySem.F.slot_list_index rfl ⟨o, g, c, n, dt⟩ ⟨o, g, d⟩ ⟨(.bi "list.index", [.ref a]), σ, H, ⟨rfl, VRs.cons rfl VRs.nil⟩, TK.refl _, h⟩
end
section
variable {p a b c d : Addr × AO} {σ σ' : Led}
theorem Pick.h1 : Pick p (a :: p :: σ) (a :: σ) := .tail .head
theorem Pick.h2 : Pick p (a :: b :: p :: σ) (a :: b :: σ) := .tail .h1
theorem Pick.h3 : Pick p (a :: b :: c :: p :: σ) (a :: b :: c :: σ) := .tail .h2
theorem Pick.t4 (h : Pick p σ σ') : Pick p (a :: b :: c :: d :: σ) (a :: b :: c :: d :: σ') := .tail (.tail (.tail (.tail h)))
theorem Sb.s1 : Sb σ (a :: σ) := .skip .refl
theorem Sb.s2 : Sb σ (a :: b :: σ) := .skip .s1
theorem Sb.s3 : Sb σ (a :: b :: c :: σ) := .skip .s2
theorem Sb.s4 : Sb σ (a :: b :: c :: d :: σ) := .skip .s3
theorem mh1 : p ∈ a :: p :: σ := .tail _ (.head _)
theorem mh2 : p ∈ a :: b :: p :: σ := .tail _ mh1
theorem mh3 : p ∈ a :: b :: c :: p :: σ := .tail _ mh2
theorem mt4 (h : p ∈ σ) : p ∈ a :: b :: c :: d :: σ := .tail _ (.tail _ (.tail _ (.tail _ h)))
theorem LU.t4 {x : Addr} {X X' : AO} (h : LU x X X' σ σ') : LU x X X' (a :: b :: c :: d :: σ) (a :: b :: c :: d :: σ') := .tail (.tail (.tail (.tail h)))
theorem LU.h1 {x : Addr} {X X' : AO} : LU x X X' (a :: (x, X) :: σ) (a :: (x, X') :: σ) := .tail .head
theorem LU.h2 {x : Addr} {X X' : AO} : LU x X X' (a :: b :: (x, X) :: σ) (a :: b :: (x, X') :: σ) := .tail .h1
theorem LU.h3 {x : Addr} {X X' : AO} : LU x X X' (a :: b :: c :: (x, X) :: σ) (a :: b :: c :: (x, X') :: σ) := .tail .h2
end
theorem idx_eq (a : Int) : ∀ (l : List Int) (i : Nat), l[i]? = some a → (∀ j, j < i → l[j]? ≠ some a) → l.idxOf a = i
  | [], i, h, _ => by cases h
  | b :: l, 0, h, _ => by
    cases h
    rw [List.idxOf_cons_self]
  | b :: l, i + 1, h, n => by
    have hb : b ≠ a := fun e => n 0 (Nat.succ_pos i) (by rw [e]; rfl)
    rw [List.idxOf_cons, show (b == a) = false by simpa using hb, idx_eq a l i h fun j hj => n (j + 1) (Nat.succ_lt_succ hj)]
    rfl
theorem plcF_mem (h : Nat → Int) : ∀ l p i q, q ∈ plcF h l p i → q.2 ∈ l
  | [], _, _, _, m => nomatch m
  | k :: r, p, i, q, m => by
    unfold plcF at m
    by_cases c : 0 < h k + p
    · rw [if_pos c] at m
      rcases List.mem_cons.mp m with rfl | m
      · exact .head _
      · exact .tail _ (plcF_mem h r _ _ q m)
    · rw [if_neg c] at m
      exact .tail _ (plcF_mem h r _ _ q m)
theorem selN_mem (h : Nat → Int) : ∀ l p q, q ∈ selN h l p → q ∈ l
  | [], _, _, m => nomatch m
  | k :: r, p, q, m => by
    unfold selN at m
    by_cases c : 0 < h k + p
    · rw [if_pos c] at m
      exact .tail _ (selN_mem h r _ q m)
    · rw [if_neg c] at m
      rcases List.mem_cons.mp m with rfl | m
      · exact .head _
      · exact .tail _ (selN_mem h r _ q m)
theorem sums_top (h : Nat → Int) (o : List Nat) (hl : (selZ h o 0).length ≤ 4) (M : Int) (hm : M ∈ (List.range 5).map fun k => ((laidF h o).take k).sum) (hM : ∀ x ∈ (List.range 5).map fun k => ((laidF h o).take k).sum, x ≤ M) :
    M = ((selZ h o 0).map h).sum ∧ ((List.range 5).map fun k => ((laidF h o).take k).sum).idxOf M = (selZ h o 0).length := by
  have e : M = ((selZ h o 0).map h).sum := by
    obtain ⟨k, _, rfl⟩ := List.mem_map.mp hm
    have h1 := laid_le h o k
    have h2 := hM _ (List.mem_map.mpr ⟨(selZ h o 0).length, List.mem_range.mpr (by lia), rfl⟩)
    rw [laid_top] at h2
    lia
  subst e
  refine ⟨rfl, idx_eq _ _ _ ?_ fun j hj q => ?_⟩
  · rw [List.getElem?_map, List.getElem?_range (by lia), Option.map_some, laid_top]
  · rw [List.getElem?_map, List.getElem?_range (by lia), Option.map_some, Option.some.injEq] at q
    have := laid_low h o hj
    lia
noncomputable def tI (h : Nat → Int) (l : List Nat) : Int × Int := ((l.length : Nat), (l.map h).sum)
noncomputable def toldP (h : Nat → Int) (o : List Nat) : Int × Int := tI h (selZ h o 0)
noncomputable def dueP (h : Nat → Int) (o : List Nat) : Int × Int := tI h (selRZ h (ringsF o 4 [0, 1, 2, 3]))
theorem told_due (h : Nat → Int) : List.Perm ((ordsF 4).map (toldP h)) ((ordsF 4).map (dueP h)) := by
  have p := (orders_rings h).map fun t : Nat × Int => ((t.1 : Int), t.2)
  rw [List.map_map, List.map_map] at p
  exact p
theorem ord_24 : (ordsF 4).length = 24 ∧ ∀ t, t < 24 → (ordsF 4).getD t [] ∈ ordsF 4 := by decide +kernel
theorem take_snocL {α : Type} {l : List α} {k : Nat} {x : α} (h : l[k]? = some x) : l.take (k + 1) = l.take k ++ [x] := by rw [List.take_add_one, h]; rfl
theorem row_facts (h : Nat → Int) (o : List Nat) (hol : o.length = 4) (hok : ∀ k ∈ o, k < 4) : ∃ PL : List (Nat × Nat), (plcF h o 0 0).reverse = PL ∧ (∀ q ∈ PL, q.2 < 4 ∧ q.1 < 4) ∧ (∀ k ∈ selN h o 0, k < 4) ∧ PL.length + (selN h o 0).length = 4 ∧
    ((List.range 4).filter fun k => decide (0 < ((o.map h).take (k + 1)).sum)).reverse = PL.map Prod.fst ∧ ((PL.map Prod.snd) ++ selN h o 0).map h = laidF h o ∧ PL.length = (selZ h o 0).length := by
  have f := plcF_fst h o 0 0
  have e : (fun k => decide (0 < 0 + ((o.map h).take (k + 1)).sum)) = fun k => decide (0 < ((o.map h).take (k + 1)).sum) := by funext k; rw [Int.zero_add]
  rw [hol, e, show (fun x => x + 0) = (id : Nat → Nat) from rfl, List.map_id] at f
  have g := plcF_snd h o 0 0
  refine ⟨_, rfl, fun q hq => ?_, fun k hk => hok k (selN_mem h o 0 k hk), ?_, ?_, ?_, ?_⟩
  · have hq' := List.mem_reverse.mp hq
    refine ⟨hok _ (plcF_mem h o 0 0 q hq'), ?_⟩
    have m : q.1 ∈ (plcF h o 0 0).map Prod.fst := List.mem_map.mpr ⟨q, hq', rfl⟩
    rw [f] at m
    exact List.mem_range.mp (List.mem_filter.mp m).1
  · rw [List.length_reverse, plcF_cnt, hol]
  · rw [List.map_reverse, f]
  · rw [List.map_reverse, g, List.map_append, List.map_reverse]; rfl
  · rw [List.length_reverse, ← g, List.length_map]
end Mine
end
section
open PySem PySem.W PyProof.Rows
set_option Elab.async false
set_option maxRecDepth 100000
set_option maxHeartbeats 8000000
set_option compiler.extract_closed false
namespace Mine
noncomputable def vw : Program := { PySem.Challenge.pw_xl0005_04 with main := { PySem.Challenge.pw_xl0005_04.main with body := [0, 2, 3, 5, 7, 9, 10, 11, 12, 13, 14, 15, 16].filterMap fun i => PySem.Challenge.pw_xl0005_04.main.body[i]? } }
noncomputable abbrev xv (s : Shared) : Bool := xlAt vw [] s && recOk (RowW.records (OpenRow.toRowW (OpenLaw.row PySem.Challenge.rw_xl0005_04))) s
theorem ho {d : DefRec} {kwd : List (Str × Expr)} (H : Hook) (hl : LeftO (OpenLaw.row PySem.Challenge.rw_xl0005_04).prog vw [Str.ofString "_Accumulator"] xv H.obs H.val 2500)
    (hdef : defOf vw (OpenLaw.row PySem.Challenge.rw_xl0005_04).name = some (d, kwd)) (hp : (OpenLaw.row PySem.Challenge.rw_xl0005_04).prog.theDef (OpenLaw.row PySem.Challenge.rw_xl0005_04).name = some (d.params, d.body, d.scope)) (hk : kwWritten? d.params.kwonlyargs d.params.kw_defaults = some kwd)
    (hwr : (!(OpenLaw.row PySem.Challenge.rw_xl0005_04).writes || (OpenLaw.row PySem.Challenge.rw_xl0005_04).records.isEmpty) = true) (k1 : (OpenLaw.row PySem.Challenge.rw_xl0005_04).wellSaid = true)
    (ok : (chainsOk vw && opensWell (OpenLaw.row PySem.Challenge.rw_xl0005_04).prog && (frees (OpenLaw.row PySem.Challenge.rw_xl0005_04).toRowW && (OpenLaw.row PySem.Challenge.rw_xl0005_04).within.isEmpty)) = true) (hb : (OpenLaw.row PySem.Challenge.rw_xl0005_04).prog.bare) (hw : (OpenLaw.row PySem.Challenge.rw_xl0005_04).toRowW.promised)
    (call : WalkO vw [Str.ofString "_Accumulator"] (XL vw []) H.says (OpenLaw.row PySem.Challenge.rw_xl0005_04).toRowW d kwd fun f vs => PySem.call f vs) : (OpenLaw.row PySem.Challenge.rw_xl0005_04).Holds :=
  holds_open (Xt := xv) (XP := XL vw []) (Yf := H.obs) (Ya := H.val) (YP := H.says) hl H.of H.keeps (fun s e => xl_of s (Bool.and_eq_true_iff.mp e).1) XL.keeps hdef hp hk (fun s e => recFacts_of (Bool.and_eq_true_iff.mp e).2) hwr k1 ok hb hw call
local macro_rules | `(tactic| o_law) => `(tactic| refine holds_law (by kernel_rfl) fun said => ?_)
local macro_rules | `(tactic| o_head ($f:ident $k $a $e $ts)) => `(tactic| (refine ho ($f $k $a $e [175, 63, 70]) ?hl (by rfl) (by rfl) (by rfl) (by rfl) (by first | assumption | decide +kernel) (by decide +kernel) ⟨rfl, rfl, rfl, rfl, rfl, by decide +kernel⟩ ?hw ?hc; (case hl => exact fun w => by kernel_rfl)))
open_top hd for PySem.Challenge.rw_xl0005_04
end Mine
end
section
open PySem PySem.W PySem.Calls PyProof.Rows PySem.Spec
set_option Elab.async false
set_option maxRecDepth 100000
set_option linter.unusedVariables false
set_option linter.unusedSimpArgs false
set_option maxHeartbeats 4000000
namespace Mine
example : PySem.Challenge.rw_xl0005_04 = PySem.Challenge.rw_xl0005_04 ∧ Mine.hd.heap_1 = Mine.hd.heap_1 := by
  k_fill
  exact ⟨rfl, rfl⟩
local macro_rules | `(tactic| walk_at "M.mem") => `(tactic| first | exact List.Mem.head _ | exact mh1 | exact mh2 | exact mh3 | (apply mt4; walk_at "M.mem"))
local macro_rules | `(tactic| walk_at "M.at") => `(tactic| first | (with_reducible exact At.head) | (apply At.tail; walk_at "M.at"))
local macro_rules | `(tactic| walk_at "M.put") => `(tactic| first | (with_reducible exact Put.head) | (apply Put.tail; walk_at "M.put"))
local macro_rules | `(tactic| walk_at "M.lu") => `(tactic| first | exact LU.head | exact LU.h1 | exact LU.h2 | exact LU.h3 | (apply LU.t4; walk_at "M.lu"))
local macro_rules | `(tactic| walk_at "E.name") => `(tactic| first
  | (refine' n_loc ?m ?a ?_; (case m => walk_at "M.mem"); (case a => walk_at "M.at"))
  | (refine' n_cell ?c ?m ?_; (case c => rfl); (case m => walk_at "M.mem"))
  | (refine' n_free ?c ?m ?_; (case c => rfl); (case m => walk_at "M.mem"))
  | (refine' n_globK ?hc ?e ?f ?_; (case hc => assumption); (case e => k_is); (case f => rfl))
  | (refine' n_builtK ?hc ?e ?e' ?n ?f ?_; (case hc => assumption); (case e => k_is); (case e' => boot_by_name); (case n => decide); (case f => rfl)))
local macro_rules | `(tactic| walk_at "E.store") => `(tactic| first
  | (refine' st_loc ?u ?p ?_; rotate_left 1; (case u => walk_at "M.lu"); (case p => walk_at "M.put"))
  | (refine' st_cell ?c ?u ?_; (case c => rfl); (case u => walk_at "M.lu")))
local macro_rules | `(tactic| walk_at "E.eval") => `(tactic| first
  | ((with_reducible (show Tr _ _ _ _ (eval (.Constant _ _ _) _) _)); refine e_const rfl ?_)
  | ((with_reducible (show Tr _ _ _ _ (eval (.Name _ _) _) _)); walk_at "E.name")
  | with_reducible refine e_bin ?_
  | ((with_reducible refine e_cmp ?_ ?_); rotate_left; rfl)
  | ((with_reducible refine e_meth ?_ ?_ ?_ ?_ ?_); rotate_left; iterate 4 rfl)
  | ((with_reducible refine e_call ?_ ?_ ?_); rotate_left; iterate 2 rfl)
  | with_reducible refine e_una ?_
  | with_reducible refine e_tuple ?_
  | with_reducible refine e_list ?_
  | with_reducible refine e_if ?_
  | with_reducible refine e_sub ?_
  | ((with_reducible refine e_attr ?_ ?_); rotate_left; rfl)
  | with_reducible refine e_slice ?_)
local macro_rules | `(tactic| walk_at "E.true") => `(tactic| first
  | ((with_reducible refine t_cmp ?_ ?_); rotate_left; rfl)
  | with_reducible refine t_not ?_
  | with_reducible refine t_and ?_
  | with_reducible refine t_or ?_
  | ((with_reducible refine t_value ?_ ?_); rotate_left; rfl))
local macro_rules | `(tactic| walk_at "E.stmt") => `(tactic| first
  | ((with_reducible refine x_name ?_ ?_); rotate_left; rfl)
  | ((with_reducible refine x_asg ?_ ?_ ?_); rotate_left; iterate 2 rfl)
  | ((with_reducible refine x_attr ?_ ?_); rotate_left; rfl)
  | ((with_reducible refine x_sub ?_ ?_); rotate_left; rfl)
  | with_reducible refine x_if ?_
  | with_reducible refine x_ret ?_
  | ((with_reducible refine x_expr ?_ ?_ ?_); rotate_left; iterate 2 rfl)
  | with_reducible refine x_aug ?_
  | ((with_reducible refine x_augsub ?_ ?_); rotate_left; (intro _ _ _; rfl))
  | with_reducible refine x_augattr ?_
  | with_reducible refine x_cont ?_)
local macro_rules | `(tactic| walk_at "E.op") => `(tactic| first
  | refine bin_add ?_
  | refine bin_sub ?_
  | refine bin_mod ?_ (by decide)
  | refine bin_fdiv ?_ (by decide) (by decide)
  | refine inp_add ?_
  | refine una_neg ?_
  | refine cmp_eq ?_
  | refine cmp_ne ?_
  | refine cmp_lt ?_
  | refine cmp_gt ?_
  | refine tru_bool ?_
  | refine tru_int ?_
  | refine bin_pow (by decide) (by decide) ?_)
local macro_rules | `(tactic| walk_at "E.step") => `(tactic| first
  | walk_at "E.eval"
  | ((with_reducible (show Tr _ _ _ _ (loadName _ _) _)); refine l_loc (by walk_at "M.mem") (by walk_at "M.at") ?_)
  | ((with_reducible refine es_cons ?_ ?_); rotate_left; rfl)
  | with_reducible refine es_nil ?_
  | walk_at "E.true"
  | with_reducible refine xs_cons ?_
  | with_reducible refine xs_nil ?_
  | with_reducible refine asgs_cons ?_
  | with_reducible refine asgs_nil ?_
  | with_reducible refine any_cons ?_
  | with_reducible refine any_nil ?_
  | with_reducible refine all_cons ?_
  | with_reducible refine all_nil ?_
  | walk_at "E.stmt"
  | ((with_reducible (show St _ _ _ (storeName _ _) _ _)); walk_at "E.store")
  | with_reducible refine asg_name ?_
  | walk_at "E.op"
  | with_reducible refine p_some ?_
  | with_reducible refine p_none ?_
  | ((with_reducible refine ⟨(?_ : Has _ _ _), ?_⟩); first | exact has_str | exact has_tup | exact has_bytes | exact has_list (by walk_at "M.mem"))
  | ((with_reducible refine ⟨(?_ : Kp _ _ _), ?_⟩); first | exact kp_bi | exact kp_type | exact kp_fn (by walk_at "M.mem") | exact kp_K (by assumption) (by k_is)))
local macro_rules | `(tactic| walk_at "E.run") => `(tactic| repeat (walk_at "E.step"))
theorem er0 (n : Nat) : (((n : Nat) : Int) - 0).toNat = n := by rw [Int.sub_zero]; rfl
theorem er1 (n : Nat) : (((n : Nat) : Int) + 1 - 0).toNat = n + 1 := by rw [Int.sub_zero]; rfl
theorem erm (n : Nat) : (((n : Nat) : Int) - 1).toNat = n - 1 := Int.toNat_sub n 1
theorem fm3 (m : Nat) : ((m : Nat) : Int).fmod 3 = ((m % 3 : Nat) : Int) := by rw [Int.fmod_eq_emod_of_nonneg _ (by decide)]; rfl
theorem fd3 (m : Nat) : ((m : Nat) : Int).fdiv 3 = ((m / 3 : Nat) : Int) := by rw [Int.fdiv_eq_ediv_of_nonneg _ (by decide)]; rfl
theorem fm16 {j : Int} (h : 0 < j) : (65 : Int) + j.fmod 16 = ((65 + j.toNat % 16 : Nat) : Int) := by
  obtain ⟨n, rfl⟩ := Int.eq_ofNat_of_zero_le (Int.le_of_lt h)
  rw [Int.fmod_eq_emod_of_nonneg _ (by decide)]; rfl
theorem fd16 {j : Int} (h : 0 < j) : (j.fdiv 16).toNat = j.toNat / 16 := by
  obtain ⟨n, rfl⟩ := Int.eq_ofNat_of_zero_le (Int.le_of_lt h)
  rw [Int.fdiv_eq_ediv_of_nonneg _ (by decide)]; rfl
noncomputable def drawn (m : Nat) (l : List Int) (ns : List Int) : Nat → List Int
  | 0 => l
  | k + 1 => (drawn m l ns k).set (k % m) ((drawn m l ns k).getD (k % m) 0 + (ns.getD k 0).fmod 1000000)
theorem drawn_len (m : Nat) (l ns : List Int) : ∀ k, (drawn m l ns k).length = l.length
  | 0 => rfl
  | k + 1 => by simp [drawn, drawn_len m l ns k]
theorem get_ints {l : List Int} {i : Nat} (h : i < l.length) : (l.map V.int)[i]? = some (.int (l.getD i 0)) := by
  simp [List.getElem?_map, List.getElem?_eq_getElem h, List.getD_eq_getElem?_getD]
theorem map_set (l : List Int) (i : Nat) (x : Int) : (l.map V.int).set i (.int x) = (l.set i x).map V.int := by
  rw [List.map_set]
noncomputable def hw (n : Nat) : List Nat := if h : n = 0 then [] else hw (n / 16) ++ [65 + n % 16]
termination_by n
decreasing_by lia
theorem hw_zero : hw 0 = [] := by rw [hw]; simp
theorem hw_pos {n : Nat} (h : n ≠ 0) : hw n = hw (n / 16) ++ [65 + n % 16] := by rw [hw]; simp [h]
theorem hw_len : ∀ (k n : Nat), n < 16 ^ k → (hw n).length ≤ k
  | 0, n, h => by have : n = 0 := by simpa using h
                  subst this; simp [hw_zero]
  | k + 1, n, h => by
    by_cases h0 : n = 0
    · subst h0; simp [hw_zero]
    · rw [hw_pos h0, List.length_append]
      have := hw_len k (n / 16) (by rw [Nat.div_lt_iff_lt_mul (by decide)]; rw [Nat.pow_succ] at h; lia)
      simp; lia
theorem hw_mem : ∀ (k n : Nat), n < 16 ^ k → ∀ c ∈ hw n, 65 ≤ c ∧ c < 81
  | 0, n, h => by have : n = 0 := by simpa using h
                  subst this; simp [hw_zero]
  | k + 1, n, h => by
    by_cases h0 : n = 0
    · subst h0; simp [hw_zero]
    · rw [hw_pos h0]
      intro c hc
      rcases List.mem_append.mp hc with hc | hc
      · exact hw_mem k (n / 16) (by rw [Nat.div_lt_iff_lt_mul (by decide)]; rw [Nat.pow_succ] at h; lia) c hc
      · simp at hc; lia
noncomputable def wv (l : List Nat) (n : Int) : Int := l.foldl (fun (n : Int) (c : Nat) => 16 * n + (c : Int) - 65) n
theorem take1 (x : List Nat) (pos : Nat) : (x.drop pos).take 1 = (x[pos]?).toList := by
  rw [List.take_one, List.head?_drop]
theorem drop_some {x : List Nat} {p c : Nat} (h : x[p]? = some c) : x.drop p = c :: x.drop (p + 1) := by
  obtain ⟨hp, e⟩ := List.getElem?_eq_some_iff.mp h
  rw [List.drop_eq_getElem_cons hp, e]
theorem drop_none {x : List Nat} {p : Nat} (h : x[p]? = none) : x.drop p = [] := List.drop_eq_nil_of_le (List.getElem?_eq_none_iff.mp h)
theorem qd_none {x : List Nat} {p : Nat} (h : x[p]? = none) : qd (x.drop p) = ([], 1) := by rw [drop_none h, qd]
theorem qd_bs {x : List Nat} {p : Nat} (h : x[p]? = some 92) : qd (x.drop p) = ((x.drop (p + 1)).take 1 ++ (qd (x.drop (p + 2))).1, (qd (x.drop (p + 2))).2 + 2) := by
  rw [drop_some h]
  cases h1 : x[p + 1]? with
  | none =>
    have e2 : x.drop (p + 2) = [] := List.drop_eq_nil_of_le (by have := List.getElem?_eq_none_iff.mp h1; lia)
    rw [drop_none h1, e2]; rfl
  | some d => rw [drop_some h1]; rfl
theorem qd_q {x : List Nat} {p : Nat} (h : x[p]? = some 34) : qd (x.drop p) = ([], 1) := by rw [drop_some h]; rfl
theorem qd_c {x : List Nat} {p c : Nat} (h : x[p]? = some c) (h1 : c ≠ 92) (h2 : c ≠ 34) : qd (x.drop p) = (c :: (qd (x.drop (p + 1))).1, (qd (x.drop (p + 1))).2 + 1) := by
  rw [drop_some h]
  rw [qd]
  · rw [if_neg h2]
  · intro e _; exact h1 e
  · intro d r e _; exact h1 e
theorem bd_none {x : List Nat} {p : Nat} (h : x[p]? = none) : bd (x.drop p) = ([], 1) := by rw [drop_none h, bd]
theorem bd_bs {x : List Nat} {p : Nat} (h : x[p]? = some 92) : bd (x.drop p) = ((x.drop (p + 1)).take 1 ++ (bd (x.drop (p + 2))).1, (bd (x.drop (p + 2))).2 + 2) := by
  rw [drop_some h]
  cases h1 : x[p + 1]? with
  | none =>
    have e2 : x.drop (p + 2) = [] := List.drop_eq_nil_of_le (by have := List.getElem?_eq_none_iff.mp h1; lia)
    rw [drop_none h1, e2]; rfl
  | some d => rw [drop_some h1]; rfl
theorem bd_w {x : List Nat} {p c : Nat} (h : x[p]? = some c) (hw : isWs c = true) : bd (x.drop p) = ([], 1) := by
  rw [drop_some h, bd]
  · rw [if_pos hw]
  · intro e _; subst e; revert hw; decide
  · intro d r e _; subst e; revert hw; decide
theorem bd_c {x : List Nat} {p c : Nat} (h : x[p]? = some c) (h1 : c ≠ 92) (h2 : isWs c = false) : bd (x.drop p) = (c :: (bd (x.drop (p + 1))).1, (bd (x.drop (p + 1))).2 + 1) := by
  rw [drop_some h, bd]
  · rw [h2]; rfl
  · intro e _; exact h1 e
  · intro d r e _; exact h1 e
theorem tk_none {x : List Nat} {p : Nat} (h : x[p]? = none) : tk (x.drop p) = ([], 1) := by rw [drop_none h, tk]
theorem tk_bs {x : List Nat} {p : Nat} (h : x[p]? = some 92) : tk (x.drop p) = ((x.drop (p + 1)).take 1 ++ (bd (x.drop (p + 2))).1, (bd (x.drop (p + 2))).2 + 2) := by
  rw [drop_some h]
  cases h1 : x[p + 1]? with
  | none =>
    have e2 : x.drop (p + 2) = [] := List.drop_eq_nil_of_le (by have := List.getElem?_eq_none_iff.mp h1; lia)
    rw [drop_none h1, e2]; rfl
  | some d => rw [drop_some h1]; rfl
theorem tk_w {x : List Nat} {p c : Nat} (h : x[p]? = some c) (hw : isWs c = true) : tk (x.drop p) = ((tk (x.drop (p + 1))).1, (tk (x.drop (p + 1))).2 + 1) := by
  rw [drop_some h, tk]
  · rw [if_pos hw]
  · intro e _; subst e; revert hw; decide
  · intro d r e _; subst e; revert hw; decide
theorem tk_q {x : List Nat} {p : Nat} (h : x[p]? = some 34) : tk (x.drop p) = ((qd (x.drop (p + 1))).1, (qd (x.drop (p + 1))).2 + 1) := by
  rw [drop_some h]; rfl
theorem tk_c {x : List Nat} {p c : Nat} (h : x[p]? = some c) (h1 : c ≠ 92) (h2 : isWs c = false) (h3 : c ≠ 34) : tk (x.drop p) = (c :: (bd (x.drop (p + 1))).1, (bd (x.drop (p + 1))).2 + 1) := by
  rw [drop_some h, tk]
  · rw [h2, if_neg h3]; rfl
  · intro e _; exact h1 e
  · intro d r e _; exact h1 e
noncomputable def nls (x : List Nat) (p : Nat) : Nat → Int
  | 0 => 0
  | k + 1 => nls x p k + if x[p + k]? = some 10 then 1 else 0
theorem nls_add (x : List Nat) (p a : Nat) : ∀ b, nls x p (a + b) = nls x p a + nls x (p + a) b
  | 0 => by simp [nls]
  | b + 1 => by rw [← Nat.add_assoc]; simp only [nls]; rw [nls_add x p a b, Nat.add_assoc]; lia
theorem qd_len (r : List Nat) : (qd r).1.length ≤ r.length := by fun_induction qd r <;> simp_all <;> lia
theorem bd_len (r : List Nat) : (bd r).1.length ≤ r.length := by fun_induction bd r <;> simp_all <;> lia
theorem tk_len (r : List Nat) : (tk r).1.length ≤ r.length := by
  fun_induction tk r with
  | case1 => simp
  | case2 => simp
  | case3 d r => have := bd_len r; simp; lia
  | case4 c r h1 h2 h3 ih => simp; lia
  | case5 r h1 h2 h3 => have := qd_len r; simp; lia
  | case6 c r h1 h2 h3 h4 => have := bd_len r; simp; lia
noncomputable def Bs (l : List Nat) : Array UInt8 := (l.map UInt8.ofNat).toArray
theorem Bs_cat (a b : List Nat) : Bs a ++ Bs b = Bs (a ++ b) := by simp [Bs]
theorem Bs_size (a : List Nat) : (Bs a).size = a.length := by simp [Bs]
noncomputable def apB : Array UInt8 := Bs [65, 66, 67, 68, 69, 70, 71, 72, 73, 74, 75, 76, 77, 78, 79, 80]
theorem ap_pick : ∀ m : Fin 16, KBy.picked apB (some (m.val : Int)) (some (m.val + 1 : Int)) = Bs [65 + m.val] := by decide
noncomputable def rot : List Nat → List Nat
  | [] => []
  | a :: r => r ++ [a]
noncomputable def piece (wh : List Nat) (m : Nat) (w : List Nat) : List Nat :=
  if m % 3 = 0 ∨ w = [] then [wh.getD 0 0] ++ [34] ++ w ++ [34] else [wh.getD 0 0] ++ (w.map fun c => reps (m % 3 - 1) [92] ++ [c]).flatten ++ [wh.getD 3 0]
noncomputable def bodyT : List Nat → Nat → List (List Nat) → List Nat
  | _, _, [] => []
  | wh, m, w :: ws => piece wh m w ++ bodyT (rot wh) (m / 3) ws
noncomputable def mOf (m : Nat) (ws : List (List Nat)) : Nat := ws.foldl (fun m _ => m / 3) m
noncomputable def tabT : List Nat := [34, 92, 32, 10, 9, 13, 35, 97]
noncomputable def lastT (m : Nat) : List Nat := (List.range 3).map fun k => tabT.getD (m / 8 ^ k % 8) 0
noncomputable def esc1 (c : Nat) : List Nat := if c ∈ [34, 92] then [92, c] else [c]
noncomputable def esc2 (l : List Nat) (k : Nat) : List Nat := if k = 0 ∨ l.getD k 0 ∈ [92, 32, 10, 9, 13] then [92, l.getD k 0] else [l.getD k 0]
noncomputable def textT (ws : List (List Nat)) (m : Nat) : List Nat :=
  bodyT [10, 32, 13, 9] m ws ++ ([34] ++ ((lastT (mOf m ws)).map esc1).flatten ++ [34]) ++ ((List.range 3).map (esc2 (lastT (mOf m ws)))).flatten
theorem join_foldl (l : List (List Nat)) (acc : Array Nat) : ((l.map S).foldl (fun (acc : Array Nat) (p : Str) => acc ++ (S []).cps ++ p.cps) acc).toList = acc.toList ++ l.flatten := by
  induction l generalizing acc with
  | nil => simp
  | cons x r ih => rw [List.map_cons, List.foldl_cons, ih]; simp [S]
theorem join_S (l : List (List Nat)) : Txt.join (S []) (l.map S) = S l.flatten := by
  apply Str.ext'
  apply Array.toList_inj.mp
  rw [S_cps]
  cases l with
  | nil => rfl
  | cons x r =>
    show (((r.map S).foldl (fun (acc : Array Nat) (p : Str) => acc ++ (S []).cps ++ p.cps) (S x).cps)).toList = _
    rw [join_foldl]; simp [S]
theorem reps_len (n : Nat) (x : List Nat) : (reps n x).length = n * x.length := by simp [reps]
theorem piece_len (wh : List Nat) (m : Nat) (w : List Nat) : (piece wh m w).length ≤ 2 * w.length + 3 := by
  unfold piece
  split
  · simp; lia
  · have : ∀ l : List Nat, ((l.map fun c => reps (m % 3 - 1) [92] ++ [c]).flatten).length ≤ 2 * l.length := fun l => by
      induction l with
      | nil => simp
      | cons c r ih =>
        rw [List.map_cons, List.flatten_cons, List.length_append, List.length_append, reps_len]
        simp only [List.length_cons, List.length_nil]
        have : m % 3 < 3 := Nat.mod_lt _ (by decide)
        lia
    have := this w
    simp only [List.length_append, List.length_cons, List.length_nil]; lia
theorem bodyT_len : ∀ (ws : List (List Nat)) (wh : List Nat) (m : Nat), (∀ w ∈ ws, w.length ≤ 100) → (bodyT wh m ws).length ≤ 203 * ws.length
  | [], _, _, _ => by simp [bodyT]
  | w :: ws, wh, m, h => by
    have h1 := piece_len wh m w
    have h2 := h w (List.Mem.head _)
    have h3 := bodyT_len ws (rot wh) (m / 3) fun v hv => h v (.tail _ hv)
    simp only [bodyT, List.length_append, List.length_cons]; lia
theorem rot_eq {wh : List Nat} (h : 0 < wh.length) : rot wh = wh.drop 1 ++ [wh.getD 0 0] := by
  cases wh with
  | nil => simp at h
  | cons a r => simp [rot]
theorem rot_len (wh : List Nat) : (rot wh).length = wh.length := by cases wh <;> simp [rot]
theorem map_range_get {α β : Type} (x : List α) (f : α → β) (g : Nat → β) (h : ∀ i c, x[i]? = some c → g i = f c) : (List.range x.length).map g = x.map f := by
  apply List.ext_getElem?
  intro i
  rw [List.getElem?_map, List.getElem?_map]
  by_cases hi : i < x.length
  · rw [List.getElem?_range hi, List.getElem?_eq_getElem hi]; simp [h i _ (List.getElem?_eq_getElem hi)]
  · rw [List.getElem?_eq_none (by simpa using hi), List.getElem?_eq_none (by lia)]; rfl
theorem flat_len (l : List (List Nat)) (B : Nat) (h : ∀ x ∈ l, x.length ≤ B) : l.flatten.length ≤ B * l.length := by
  induction l with
  | nil => simp
  | cons a r ih =>
    have h1 := h a (List.Mem.head _)
    have h2 := ih fun x hx => h x (.tail _ hx)
    rw [List.flatten_cons, List.length_append, List.length_cons, Nat.mul_succ]; lia
theorem strsV_S (l : List (List Nat)) : strsV l = (l.map S).map V.str := by simp [strsV]
theorem sum_len (l : List (List Nat)) : ((l.map S).map (·.length)).sum = l.flatten.length := by induction l with
  | nil => rfl
  | cons a r ih => simp only [List.map_cons, List.sum_cons, List.flatten_cons, List.length_append, S_len, ih]
theorem c_joinS {C : Cx} {A : Around} {σ : Led} {Q : V → Led → Prop} {l : List (List Nat)} {a : Addr} (hm : (a, AO.list (strsV l)) ∈ σ) (hz : l.flatten.length ≤ 1000000) (h : Q (.str (S l.flatten)) σ) : Call C A σ (.bi "str.join") [.str (S []), .ref a] Q := by
  rw [strsV_S] at hm
  refine c_join_list hm (by rw [sum_len, S_len]; simp only [List.length_map, List.length_nil, Nat.mul_zero, Nat.add_zero]; show _ ≤ _; lia) ?_
  rw [join_S]; exact h
theorem strsV_len (l : List (List Nat)) : (strsV l).length = l.length := by simp [strsV]
theorem pow8b {k : Nat} (h : k < 3) : Builtin.Int.intBits 8 * ((0 : Int) + (k : Nat)) ≤ 2 ^ 27 := by
  obtain rfl | rfl | rfl : k = 0 ∨ k = 1 ∨ k = 2 := by lia
  all_goals decide
theorem pow8n {k : Nat} (h : k < 3) : (8 : Int) ^ ((0 : Int) + (k : Nat)).toNat ≠ 0 := by
  obtain rfl | rfl | rfl : k = 0 ∨ k = 1 ∨ k = 2 := by lia
  all_goals decide
theorem pow8l {k : Nat} (h : k < 3) : ((8 : Int) ^ ((0 : Int) + (k : Nat)).toNat).natAbs.log2 < 9000 := by
  obtain rfl | rfl | rfl : k = 0 ∨ k = 1 ∨ k = 2 := by lia
  all_goals decide
theorem dig8 (m k : Nat) : (((m : Nat) : Int).fdiv ((8 : Int) ^ ((0 : Int) + (k : Nat)).toNat)).fmod 8 = ((m / 8 ^ k % 8 : Nat) : Int) := by
  rw [Int.zero_add, Int.toNat_natCast, show (8 : Int) ^ k = ((8 ^ k : Nat) : Int) by simp, Int.fdiv_eq_ediv_of_nonneg _ (Int.natCast_nonneg _), Int.fmod_eq_emod_of_nonneg _ (by decide), ← Int.natCast_ediv]
  exact (Int.natCast_emod _ 8).symm
theorem tab_get (n : Nat) : tabT[n % 8]? = some (tabT.getD (n % 8) 0) := by
  have : n % 8 < 8 := Nat.mod_lt _ (by decide)
  rw [List.getD_eq_getElem?_getD, List.getElem?_eq_getElem (show n % 8 < tabT.length from this)]; rfl
theorem lastT_len (m : Nat) : (lastT m).length = 3 := by simp [lastT]
theorem lastT_get (m k : Nat) (h : k < 3) : (lastT m)[k]? = some ((lastT m).getD k 0) := by
  rw [List.getD_eq_getElem?_getD, List.getElem?_eq_getElem (show k < (lastT m).length by rw [lastT_len]; exact h)]; rfl
theorem single_flat (l : List Nat) : (l.map fun c => [c]).flatten = l := by induction l with
  | nil => rfl
  | cons a r ih => rw [List.map_cons, List.flatten_cons, ih]; rfl
theorem esc1_len (l : List Nat) : ((l.map esc1).flatten).length ≤ 2 * l.length := by
  have := flat_len (l.map esc1) 2 fun x hx => by
    obtain ⟨c, _, rfl⟩ := List.mem_map.mp hx
    unfold esc1; split <;> simp
  rw [List.length_map] at this; exact this
theorem esc2_len (l : List Nat) (n : Nat) : (((List.range n).map (esc2 l)).flatten).length ≤ 2 * n := by
  have := flat_len ((List.range n).map (esc2 l)) 2 fun x hx => by
    obtain ⟨c, _, rfl⟩ := List.mem_map.mp hx
    unfold esc2; split <;> simp
  rw [List.length_map, List.length_range] at this; exact this
theorem last_join (m : Nat) : (List.range 3).map (fun i => V.str (S [tabT.getD (m / 8 ^ i % 8) 0])) = strsV ((lastT m).map fun c => [c]) := by
  simp only [strsV, lastT, List.map_map]; rfl
theorem part_count_ {C : Cx} {A : Around} {σ : Led} {Q : V → Led → Prop} (hC : C.Is (Mine.hd.heap_1 C.w.params)) (hM : C.Main (Str.ofString "/claim/cut.py")) (hA : Fit 1 A) {x d : Addr} {items : List V} (hz : items.length ≤ 1000000) (hx : (x, AO.seq (.ref 101) (some d) items) ∈ σ)
    (h : Q (.int items.length) σ) : Call C A σ (.ref 98) [.ref x] Q := by
  refine CallC.call ?_
  refine' call_defA (n := 0) (ks := ["self"]) (vs := [some (.ref x)]) ?hC ?ho ?hcd ?hA ?nd ?hcell ?hbind ?h ?c1 ?c2 ?c3
  (((case hC => assumption); (case ho => k_is); (case hcd => k_is); (case nd => decide); (case hcell => decide); (case c1 => rfl); (case c2 => rfl); (case c3 => rfl); (case hA => assumption)))
  case hbind => ((intro s as hk r; (repeat (obtain ⟨_, _, e, _, r⟩ := r; subst e)); subst r; refine ⟨_, BindsTo.of_eq rfl, locs rfl, ?_⟩; (repeat (first | exact FrOk.nil | refine FrOk.some ?_ rfl (by assumption) | refine FrOk.none ?_))))
  case h =>
    intro L A' hA'
    refine xsA_cons ?_
    refine xA_ret ?_
    refine eA_m0 ?_
    refine super_base hC hM (isI_seq (.tail _ hx)) (by k_is) (by rfl) (List.Mem.head _) At.head (by k_is) (by rfl) (by k_is) (by k_is) (by k_is) (by k_is) (by decide) (by rfl) (by rfl) (by rfl) (by rfl) (by first | boot_by_name | rfl | kernel_rfl) (fun so => ?_)
    refine m_sup hC (List.Mem.head _) (.tail _ (.tail _ hx)) (by k_is) (by k_is) (by ks_is) type_len slot_wd entry_wd args_wd (by decide) (fun IL q => run_len IL q) (fun q => ?_)
    refine ⟨kp_bbi (List.Mem.head _) rfl rfl, c_bbi (List.Mem.head _) rfl rfl (Code.quiet_builtin _ (by decide +kernel)) PySem.F.entry_list_len (fun _ q => ck_slot ck_len _ q) (b_len (.tail _ (.tail _ (.tail _ hx))) (by rw [sizeLine_eq]; lia) ?_)⟩
    exact ⟨_, by ((repeat (first | exact Sb.refl | exact Sb.nil | exact Sb.s1 | exact Sb.s2 | exact Sb.s3 | exact Sb.s4 | (apply Sb.take; focus ((repeat (first | exact Pick.head | exact Pick.h1 | exact Pick.h2 | exact Pick.h3 | apply Pick.t4)); done)) | apply Sb.skip))), h⟩
theorem appush_ {C : Cx} {A : Around} {σ σ' : Led} {Q : V → Led → Prop} (hC : C.Is (Mine.hd.heap_1 C.w.params)) (hA : Fit 1 A) {x d : Addr} {items : List V} {u v : List Nat} {ks : List Str} {vs : List (Option V)} (hz : items.length ≤ 1000000) (hd : (d, AO.attrs ks vs) ∈ σ) (hn : ("append" : Str) ∉ ks)
    (U : LU x (AO.seq (.ref 101) (some d) items) (AO.seq (.ref 101) (some d) (items ++ [.tup [.str (S u), .str (S v)]])) σ σ') (h : Q .none σ') : Call C A σ (.ref 45) [.ref x, .str (S u), .str (S v)] Q := by
  refine' call_defK (n := 0) (ks := ["self", "fws", "string"]) (vs := [some (.ref x), some (.str (S u)), some (.str (S v))]) ?hC ?ho ?hcd ?hA ?nd ?hcell ?hbind ?h ?c1 ?c2 ?c3
  (((case hC => assumption); (case ho => k_is); (case hcd => k_is); (case nd => decide); (case hcell => decide); (case c1 => rfl); (case c2 => rfl); (case c3 => rfl); (case hA => assumption)))
  case hbind => ((intro s as hk r; (repeat (obtain ⟨_, _, e, _, r⟩ := r; subst e)); subst r; refine ⟨_, BindsTo.of_eq rfl, locs rfl, ?_⟩; (repeat (first | exact FrOk.nil | refine FrOk.some ?_ rfl (by assumption) | refine FrOk.none ?_))))
  case h =>
    intro L A' hA'
    walk_at "E.run"
    refine m_any (D := 101) (ga := "list.__getattribute__") (ty := "method_descriptor") (f := .builtin "list.append") (fV := .bi "list.append") hC (isI_seq (.tail _ U.mem)) (.tail _ hd) hn (by kernel_rfl) (by decide +kernel) (by kernel_rfl) (by kernel_rfl) (by kernel_rfl) (by decide) (fun _ => vr_bi.mpr rfl) ?_
    walk_at "E.run"
    refine ⟨by rw [sizeLine_eq]; show 2 ≤ _; lia, ?_⟩
    walk_at "E.run"
    refine c_append' (listTy_cls hC (by k_is)) (.tail U) (by rw [sizeLine_eq]; lia) ?_
    walk_at "E.run"
    exact ⟨_, by ((repeat (first | exact Sb.refl | exact Sb.nil | exact Sb.s1 | exact Sb.s2 | exact Sb.s3 | exact Sb.s4 | (apply Sb.take; focus ((repeat (first | exact Pick.head | exact Pick.h1 | exact Pick.h2 | exact Pick.h3 | apply Pick.t4)); done)) | apply Sb.skip))), h⟩
theorem accpop_ {C : Cx} {A : Around} {σ σ' : Led} {Q : V → Led → Prop} (hC : C.Is (Mine.hd.heap_1 C.w.params)) (hM : C.Main (Str.ofString "/claim/cut.py")) (hA : Fit 2 A) {x d : Addr} {items : List V} {y : V} {ks : List Str} {vs : List (Option V)} (hz : items.length < 1000000) (hd : (d, AO.attrs ks vs) ∈ σ) (hn : ("part_count" : Str) ∉ ks)
    (U : LU x (AO.seq (.ref 101) (some d) (items ++ [y])) (AO.seq (.ref 101) (some d) items) σ σ') (h : Q y σ') : Call C A σ (.ref 61) [.ref x] Q := by
  refine CallC.call ?_
  refine' call_defA (n := 1) (ks := ["self"]) (vs := [some (.ref x)]) ?hC ?ho ?hcd ?hA ?nd ?hcell ?hbind ?h ?c1 ?c2 ?c3
  (((case hC => assumption); (case ho => k_is); (case hcd => k_is); (case nd => decide); (case hcell => decide); (case c1 => rfl); (case c2 => rfl); (case c3 => rfl); (case hA => assumption)))
  case hbind => ((intro s as hk r; (repeat (obtain ⟨_, _, e, _, r⟩ := r; subst e)); subst r; refine ⟨_, BindsTo.of_eq rfl, locs rfl, ?_⟩; (repeat (first | exact FrOk.nil | refine FrOk.some ?_ rfl (by assumption) | refine FrOk.none ?_))))
  case h =>
    intro L A' hA'
    refine xsA_cons ?_
    refine XA.of ?_
    walk_at "E.run"
    refine m_any (D := 101) (ga := "list.__getattribute__") (ty := "function") (f := .ref 98) (fV := .ref 98) hC (isI_seq (.tail _ U.mem)) (.tail _ hd) hn (by kernel_rfl) (by decide +kernel) (by kernel_rfl) (by kernel_rfl) (by kernel_rfl) (by decide) (fun _ => rfl) ?_
    walk_at "E.run"
    refine part_count_ hC hM hA' (by rw [List.length_append]; show items.length + 1 ≤ _; lia) (.tail _ U.mem) ?_
    walk_at "E.run"
    rw [if_neg (by rw [List.length_append]; simp; lia)]
    walk_at "E.run"
    refine xsA_cons ?_
    refine xA_ret ?_
    refine eA_m0 ?_
    refine super_base hC hM (isI_seq (.tail _ U.mem)) (by k_is) (by rfl) (List.Mem.head _) At.head (by k_is) (by rfl) (by k_is) (by k_is) (by k_is) (by k_is) (by decide) (by rfl) (by rfl) (by rfl) (by rfl) (by first | boot_by_name | rfl | kernel_rfl) (fun so => ?_)
    refine m_sup hC (List.Mem.head _) (.tail _ (.tail _ U.mem)) (by k_is) (by k_is) (by ks_is) type_pop slot_md entry_md args_md (by decide) (fun IL q => run_pop IL q) (fun q => ?_)
    refine ⟨kp_bbi (List.Mem.head _) rfl rfl, c_bbi (List.Mem.head _) rfl rfl (Code.quiet_builtin _ (by decide +kernel)) PySem.F.entry_list_pop (fun H q => ck_pop hC (.tail _ (.tail _ (.tail _ U.mem))) (by k_is) (by k_is) (by k_is) (by first | rfl | kernel_rfl) H q) (b_pop (listTy_cls hC (by k_is)) (.tail (.tail (.tail U))) (by rw [sizeLine_eq, List.length_append]; show items.length + 1 ≤ _; lia) ?_)⟩
    exact ⟨_, by ((repeat (first | exact Sb.refl | exact Sb.nil | exact Sb.s1 | exact Sb.s2 | exact Sb.s3 | exact Sb.s4 | (apply Sb.take; focus ((repeat (first | exact Pick.head | exact Pick.h1 | exact Pick.h2 | exact Pick.h3 | apply Pick.t4)); done)) | apply Sb.skip))), h⟩
example (p : _) : codeHdIn (Mine.hd.heap_1 p) 67 63 = true := by kernel_rfl
example (p : _) : codeHdIn (Mine.hd.heap_1 p) 74 70 = true := by kernel_rfl
theorem getp_ {C : Cx} {A : Around} {σ : Led} {Q : V → Led → Prop} (hC : C.Is (Mine.hd.heap_1 C.w.params)) (hA : Fit 2 A) {L : LxA} {ln : Int} {x t : List Nat} {toks : List (List Nat)} {pos : Nat} (hz : toks.length ≤ 1000000)
    (h : Q (.str (S t)) (Lx 150 L ln toks x pos σ)) : Call C A (Lx 150 L ln (t :: toks) x pos σ) (.ref 140) [.ref L.lx] Q := by
  refine' call_defK (n := 1) (ks := ["self", "token", "fiter", "ch"]) (vs := [some (.ref L.lx), none, none, none]) ?hC ?ho ?hcd ?hA ?nd ?hcell ?hbind ?h ?c1 ?c2 ?c3
  (((case hC => assumption); (case ho => k_is); (case hcd => k_is); (case nd => decide); (case hcell => decide); (case c1 => rfl); (case c2 => rfl); (case c3 => rfl); (case hA => assumption)))
  case hbind => ((intro s as hk r; (repeat (obtain ⟨_, _, e, _, r⟩ := r; subst e)); subst r; refine ⟨_, BindsTo.of_eq rfl, locs rfl, ?_⟩; (repeat (first | exact FrOk.nil | refine FrOk.some ?_ rfl (by assumption) | refine FrOk.none ?_))))
  case h =>
    intro F A' hA'
    walk_at "E.run"
    (((refine' a_own (by assumption) ?hix12 ?dx12 ?vx12 ?gx12 ?hhx12 ?hax12 ?nbx12 ?_); (case hix12 => exact isI_inst (by walk_at "M.mem")); (case dx12 => walk_at "M.mem"); (case vx12 => walk_at "M.at"); (case gx12 => kernel_rfl); (case hhx12 => kernel_rfl); (case hax12 => kernel_rfl); (case nbx12 => rfl)))
    refine tru_list (by walk_at "M.mem") (by rw [strsV_len, sizeLine_eq]; show _ + 1 ≤ _; lia) ?_
    rw [if_pos (show (!(strsV (t :: toks)).isEmpty) = true from rfl)]
    walk_at "E.run"
    (((refine' a_own (by assumption) ?hix13 ?dx13 ?vx13 ?gx13 ?hhx13 ?hax13 ?nbx13 ?_); (case hix13 => exact isI_inst (by walk_at "M.mem")); (case dx13 => walk_at "M.mem"); (case vx13 => walk_at "M.at"); (case gx13 => kernel_rfl); (case hhx13 => kernel_rfl); (case hax13 => kernel_rfl); (case nbx13 => rfl)))
    refine m_pop (by walk_at "M.mem") ?_
    walk_at "E.run"
    refine c_pop0 (l := strsV toks) (y := .str (S t)) listTy (by walk_at "M.lu") (by rw [sizeLine_eq]; show (strsV toks).length + 1 ≤ _; rw [strsV_len]; lia) ?_
    exact ⟨_, by ((repeat (first | exact Sb.refl | exact Sb.nil | exact Sb.s1 | exact Sb.s2 | exact Sb.s3 | exact Sb.s4 | (apply Sb.take; focus ((repeat (first | exact Pick.head | exact Pick.h1 | exact Pick.h2 | exact Pick.h3 | apply Pick.t4)); done)) | apply Sb.skip))), h⟩
theorem draws_ {C : Cx} {A : Around} {σ : Led} {Q : V → Led → Prop} {sc : Addr} {ns : List Int} (hC : C.Is (Mine.hd.heap_1 C.w.params)) (hA : Fit 3 A) (hs : OldL C sc ns) (hn : ns.length ≤ 63)
    (h : ∀ a, Q (.ref a) ((a, AO.list ((drawn 6 [23, 19, 18, 21, 20, 5729] ns ns.length).map V.int)) :: σ)) : Call C A σ (.ref 161) [.ref sc] Q := by
  refine' call_defK (n := 2) (ks := ["script", "draws", "k"]) (vs := [some (.ref sc), none, none]) ?hC ?ho ?hcd ?hA ?nd ?hcell ?hbind ?h ?c1 ?c2 ?c3
  (((case hC => assumption); (case ho => k_is); (case hcd => k_is); (case nd => decide); (case hcell => decide); (case c1 => rfl); (case c2 => rfl); (case c3 => rfl); (case hA => assumption)))
  case hbind => ((intro s as hk r; (repeat (obtain ⟨_, _, e, _, r⟩ := r; subst e)); subst r; refine ⟨_, BindsTo.of_eq rfl, locs rfl, ?_⟩; (repeat (first | exact FrOk.nil | refine FrOk.some ?_ rfl (by assumption) | refine FrOk.none ?_))))
  case h =>
    intro L A' hA'
    walk_at "E.run"
    refine ⟨by rw [sizeLine_eq]; decide, fun a => ?_⟩
    walk_at "E.run"
    refine x_for' ?_
    walk_at "E.run"
    refine c_len_listH hs.has (by rw [sizeLine_eq]; simp; lia) ?_
    walk_at "E.run"
    refine c_range1 fun a1 => ?_
    refine it_range (by walk_at "M.mem") (by lia) (by lia) (by lia) (by simp; lia) fun a2 => ?_
    have en : ((((ns.map V.int).length : Int) - 0).toNat : Int) = ns.length := by simp
    refine' loop_range (i := 0) (σ' := (a, AO.list ((drawn 6 [23, 19, 18, 21, 20, 5729] ns 0).map V.int)) :: (L, AO.fr ["script", "draws", "k"] [some (.ref sc), some (.ref a), none]) :: σ) ?sb en hA'.1 (fun k σ' => ∃ u, σ' = (a, AO.list ((drawn 6 [23, 19, 18, 21, 20, 5729] ns k).map V.int)) :: (L, AO.fr ["script", "draws", "k"] [some (.ref sc), some (.ref a), u]) :: σ) ⟨_, rfl⟩ ?_ ?_
    case sb => ((repeat (first | exact Sb.refl | exact Sb.nil | exact Sb.s1 | exact Sb.s2 | exact Sb.s3 | exact Sb.s4 | (apply Sb.take; focus ((repeat (first | exact Pick.head | exact Pick.h1 | exact Pick.h2 | exact Pick.h3 | apply Pick.t4)); done)) | apply Sb.skip)))
    · rintro k σ' hk ⟨u, rfl⟩
      walk_at "E.run"
      have e7 : ((0 : Int) + k).fmod 6 = ((k % 6 : Nat) : Int) := by rw [Int.zero_add, Int.fmod_eq_emod_of_nonneg _ (by decide)]; rfl
      have hl := drawn_len 6 [23, 19, 18, 21, 20, 5729] ns k
      have h7 : k % 6 < 6 := Nat.mod_lt _ (by decide)
      rw [e7]
      refine g_list (by walk_at "M.mem") (by lia) (by lia) (get_ints (by rw [hl, Int.toNat_natCast]; exact h7)) ?_
      walk_at "E.run"
      refine ⟨has_listH hs.has, ?_⟩
      have e0 : (0 : Int) + k = k := Int.zero_add _
      rw [e0]
      refine g_listH hs.has (by lia) (by lia) (get_ints (by rw [Int.toNat_natCast]; exact hk)) ?_
      walk_at "E.run"
      refine s_list (by walk_at "M.lu") (by lia) (by simp [hl]; lia) (by lia) ?_
      walk_at "E.run"
      rw [map_set, Int.toNat_natCast, Int.toNat_natCast]
      exact ⟨_, by ((repeat (first | exact Sb.refl | exact Sb.nil | exact Sb.s1 | exact Sb.s2 | exact Sb.s3 | exact Sb.s4 | (apply Sb.take; focus ((repeat (first | exact Pick.head | exact Pick.h1 | exact Pick.h2 | exact Pick.h3 | apply Pick.t4)); done)) | apply Sb.skip))), _, rfl⟩
    · rintro σ' ⟨u, rfl⟩
      walk_at "E.run"
      exact ⟨_, by ((repeat (first | exact Sb.refl | exact Sb.nil | exact Sb.s1 | exact Sb.s2 | exact Sb.s3 | exact Sb.s4 | (apply Sb.take; focus ((repeat (first | exact Pick.head | exact Pick.h1 | exact Pick.h2 | exact Pick.h3 | apply Pick.t4)); done)) | apply Sb.skip))), h a⟩
theorem word_ {C : Cx} {A : Around} {σ : Led} {Q : V → Led → Prop} (hC : C.Is (Mine.hd.heap_1 C.w.params)) (hA : Fit 3 A) (i : Int) (hi : i.toNat < 16 ^ 100) (h : Q (.str (S (hw i.toNat))) σ) : Call C A σ (.ref 168) [.int i] Q := by
  refine' call_defK (n := 2) (ks := ["number", "word"]) (vs := [some (.int i), none]) ?hC ?ho ?hcd ?hA ?nd ?hcell ?hbind ?h ?c1 ?c2 ?c3
  (((case hC => assumption); (case ho => k_is); (case hcd => k_is); (case nd => decide); (case hcell => decide); (case c1 => rfl); (case c2 => rfl); (case c3 => rfl); (case hA => assumption)))
  case hbind => ((intro s as hk r; (repeat (obtain ⟨_, _, e, _, r⟩ := r; subst e)); subst r; refine ⟨_, BindsTo.of_eq rfl, locs rfl, ?_⟩; (repeat (first | exact FrOk.nil | refine FrOk.some ?_ rfl (by assumption) | refine FrOk.none ?_))))
  case h =>
    intro L A' hA'
    walk_at "E.run"
    refine x_while (fun n σ' => ∃ (j : Int) (w : List Nat), n = j.toNat ∧ j.toNat < 16 ^ 100 ∧ hw j.toNat ++ w = hw i.toNat ∧ σ' = (L, AO.fr ["number", "word"] [some (.int j), some (.str (S w))]) :: σ) i.toNat ⟨i, [], rfl, hi, by simp, rfl⟩ ?_
    rintro n σ' ⟨j, w, rfl, hj, e, rfl⟩
    have hlen : (hw j.toNat ++ w).length ≤ 100 := by rw [e]; exact hw_len 100 _ hi
    rw [List.length_append] at hlen
    walk_at "E.run"
    by_cases h0 : 0 < j
    · rw [if_pos (by simpa using h0)]
      have ej : j.toNat ≠ 0 := by lia
      walk_at "E.run"
      rw [fm16 h0]
      refine c_chr (by lia) (by lia) ?_
      walk_at "E.run"
      rw [Int.toNat_natCast]
      show Bin _ _ _ _ (.str (S [65 + j.toNat % 16])) _ _
      refine bin_cat (by rw [S_cat, S_len, sizeLine_eq]; simp; lia) ?_
      rw [S_cat]
      walk_at "E.run"
      refine ⟨j.toNat / 16, Nat.div_lt_self (Nat.pos_of_ne_zero ej) (by decide), j.fdiv 16, _, (fd16 h0).symm, by rw [fd16 h0]; exact Nat.lt_of_le_of_lt (Nat.div_le_self _ _) hj, ?_, rfl⟩
      rw [fd16 h0, ← e, hw_pos ej]; simp
    · rw [if_neg (by simpa using h0)]
      have ej : j.toNat = 0 := by lia
      rw [ej, hw_zero, List.nil_append] at e
      subst e
      walk_at "E.run"
      exact ⟨_, by ((repeat (first | exact Sb.refl | exact Sb.nil | exact Sb.s1 | exact Sb.s2 | exact Sb.s3 | exact Sb.s4 | (apply Sb.take; focus ((repeat (first | exact Pick.head | exact Pick.h1 | exact Pick.h2 | exact Pick.h3 | apply Pick.t4)); done)) | apply Sb.skip))), h⟩
theorem lexer_ {C : Cx} {A : Around} {σ : Led} {Q : V → Led → Prop} (hC : C.Is (Mine.hd.heap_1 C.w.params)) (hA : Fit 6 A) (x : List Nat) (h : ∀ (L : LxA) ps, RL Mine.hd.heap_1 L.fdR L.cR L.cA L.cT → Q (.ref L.lx) (Lx 150 L 1 [] x 0 ((175, AO.table ps) :: σ))) : Call C A ((175, AO.table #[]) :: σ) (.ref 180) [.str (S x)] Q := by
  refine' call_fn (n := 5) (ks := ["read", "stream"]) (ps := ["text"]) (bxs := [.str (S x)]) (cn := ["at", "text"]) rfl ?ho hA ?nd ?hcn rfl ?hbind ?h ?c1 ?c2
  case ho =>
    intro s H
    refine ⟨_, H.bg.kin _ _ (show C.K.lookup 180 = some _ from (by rw [hC.isK]; k_is)), rfl, ?_⟩
    refine codeRec_of (K := Mine.hd.heap_1 C.w.params) (hC.isK ▸ H.bg.kin) ?_
    k_is
  (((case nd => decide); (case hcn => rfl); (case c1 => rfl); (case c2 => rfl)))
  case hbind => ((intro s as hk r; refine ⟨as, ?_, r⟩; (repeat (obtain ⟨_, _, e, _, r⟩ := r; subst e)); (first | subst r | skip); exact BindsTo.of_eq rfl))
  case h =>
    intro A₁ L cs hcs
    obtain ⟨cA, cT, rfl⟩ := cs_2 hcs
    ((simp only [celled, List.map_cons, List.map_nil, List.cons_append, List.nil_append]))
    show St _ _ _ (storeName _ _) _ _
    walk_at "E.run"
    intro A' hA'
    walk_at "E.run"
    refine ⟨by rw [sizeLine_eq]; decide, fun atl => ?_⟩
    walk_at "E.run"
    refine' x_def (c := 179) (P := 175) (ps := #[]) (σ₀ := (atl, AO.list [.int 0]) :: (L, AO.fr ["read", "stream"] [none, none]) :: (cA, AO.cell (some (.ref atl))) :: (cT, AO.cell (some (.str (S x)))) :: σ) hC ?sb rfl rfl rfl ?k trivial rfl rfl rfl rfl ?_
    case sb => ((repeat (first | exact Sb.refl | exact Sb.nil | exact Sb.s1 | exact Sb.s2 | exact Sb.s3 | exact Sb.s4 | (apply Sb.take; focus ((repeat (first | exact Pick.head | exact Pick.h1 | exact Pick.h2 | exact Pick.h3 | apply Pick.t4)); done)) | apply Sb.skip)))
    case k => kernel_rfl
    intro rd cR ctv doc pm
    walk_at "E.run"
    refine' e_lambda (c := 179) (P := 175) (σ₀ := (rd, AO.fn none _) :: (cR, AO.code _) :: (atl, AO.list [.int 0]) :: (L, AO.fr ["read", "stream"] [some (.ref rd), none]) :: (cA, AO.cell (some (.ref atl))) :: (cT, AO.cell (some (.str (S x)))) :: σ) hC ?sb2 rfl rfl rfl ?k2 ?tr ?nf rfl ?_
    case sb2 => ((repeat (first | exact Sb.refl | exact Sb.nil | exact Sb.s1 | exact Sb.s2 | exact Sb.s3 | exact Sb.s4 | (apply Sb.take; focus ((repeat (first | exact Pick.head | exact Pick.h1 | exact Pick.h2 | exact Pick.h3 | apply Pick.t4)); done)) | apply Sb.skip)))
    case k2 => kernel_rfl
    case tr => simp [TriplesOk, rawInt]
    case nf => rfl
    intro st cL ctv2 pm2
    walk_at "E.run"
    refine a_setfn Sb.refl fn_read fun sd => ?_
    walk_at "E.run"
    refine (c_make hC (by kernel_rfl) (fI := 126) (by kernel_rfl) (by kernel_rfl) fun lx d vals => ?_).call
    refine' call_defKC (n := 3) (ks := ["self", "fp"]) (vs := [some (.ref lx), some (.ref st)]) ?hC ?ho ?hcd ?hA ?nd ?hcell ?hbind ?h ?c1 ?c2 ?c3
    case hA => exact hA'.under
    case hC => assumption
    case ho => k_is
    case hcd => k_is
    case nd => decide
    case hcell => decide
    case c1 => rfl
    case c2 => rfl
    case c3 => rfl
    case hbind => ((intro s as hk r; (repeat (obtain ⟨_, _, e, _, r⟩ := r; subst e)); subst r; refine ⟨_, BindsTo.of_eq rfl, locs rfl, ?_⟩; (repeat (first | exact FrOk.nil | refine FrOk.some ?_ rfl (by assumption) | refine FrOk.none ?_))))
    case h =>
      intro L2 A2 hA2
      walk_at "E.run"
      (((refine' a_new (by assumption) ?hix29 ?ux29 ?nx29 ?ndx29 ?zx29 ?sx29 ?px29 ?tx29 ?hhx29 ?_); rotate_left 1; (case hix29 => exact isI_inst (by walk_at "M.mem")); (case ux29 => walk_at "M.lu"); (case nx29 => decide); (case ndx29 => decide); (case zx29 => decide); (case sx29 => kernel_rfl); (case px29 => kernel_rfl); (case tx29 => kernel_rfl); (case hhx29 => kernel_rfl); (try simp only [List.nil_append, List.cons_append])))
      walk_at "E.run"
      (((refine' a_new (by assumption) ?hix30 ?ux30 ?nx30 ?ndx30 ?zx30 ?sx30 ?px30 ?tx30 ?hhx30 ?_); rotate_left 1; (case hix30 => exact isI_inst (by walk_at "M.mem")); (case ux30 => walk_at "M.lu"); (case nx30 => decide); (case ndx30 => decide); (case zx30 => decide); (case sx30 => kernel_rfl); (case px30 => kernel_rfl); (case tx30 => kernel_rfl); (case hhx30 => kernel_rfl); (try simp only [List.nil_append, List.cons_append])))
      walk_at "E.run"
      (((refine' a_new (by assumption) ?hix31 ?ux31 ?nx31 ?ndx31 ?zx31 ?sx31 ?px31 ?tx31 ?hhx31 ?_); rotate_left 1; (case hix31 => exact isI_inst (by walk_at "M.mem")); (case ux31 => walk_at "M.lu"); (case nx31 => decide); (case ndx31 => decide); (case zx31 => decide); (case sx31 => kernel_rfl); (case px31 => kernel_rfl); (case tx31 => kernel_rfl); (case hhx31 => kernel_rfl); (try simp only [List.nil_append, List.cons_append])))
      walk_at "E.run"
      refine ⟨by rw [sizeLine_eq]; decide, fun pb => ?_⟩
      walk_at "E.run"
      (((refine' a_new (by assumption) ?hix32 ?ux32 ?nx32 ?ndx32 ?zx32 ?sx32 ?px32 ?tx32 ?hhx32 ?_); rotate_left 1; (case hix32 => exact isI_inst (by walk_at "M.mem")); (case ux32 => walk_at "M.lu"); (case nx32 => decide); (case ndx32 => decide); (case zx32 => decide); (case sx32 => kernel_rfl); (case px32 => kernel_rfl); (case tx32 => kernel_rfl); (case hhx32 => kernel_rfl); (try simp only [List.nil_append, List.cons_append])))
      walk_at "E.run"
      refine ⟨_, Sb.refl, rfl, ?_⟩
      refine' ⟨_, ?sbE, h ⟨lx, d, st, sd, rd, cR, cA, cT, atl, pb, _, _⟩ _ ?rl⟩
      case sbE => ((repeat (first | exact Sb.refl | exact Sb.nil | exact Sb.s1 | exact Sb.s2 | exact Sb.s3 | exact Sb.s4 | (apply Sb.take; focus ((repeat (first | exact Pick.head | exact Pick.h1 | exact Pick.h2 | exact Pick.h3 | apply Pick.t4)); done)) | apply Sb.skip)))
      intro C A σ rd atl x pos Q hC hA hx h
      refine' call_fnC (n := 2) (ks := ["size"]) (ps := ["size"]) (bxs := [.int 1]) (cn := []) rfl ?ho hA ?nd ?hcn rfl ?hbind ?h ?c1 ?c2
      case ho =>
        intro s H
        obtain ⟨o, g, _, e⟩ := H.own _ (List.Mem.head _)
        exact ⟨o, g, by rw [show o = fnObj none _ from e]; rfl, codeRec_own H (List.Mem.tail _ (List.Mem.head _))⟩
      (((case nd => decide); (case hcn => rfl); (case c1 => rfl); (case c2 => rfl)))
      case hbind => ((intro s as hk r; refine ⟨as, ?_, r⟩; (repeat (obtain ⟨_, _, e, _, r⟩ := r; subst e)); (first | subst r | skip); exact BindsTo.of_eq rfl))
      case h =>
        intro A₁ L cs hcs
        cases cs_0 hcs
        ((simp only [celled, List.map_cons, List.map_nil, List.cons_append, List.nil_append]))
        show St _ _ _ (storeName _ _) _ _
        walk_at "E.run"
        intro A' hA'
        walk_at "E.run"
        refine g_list (by walk_at "M.mem") (by decide) (by decide) rfl ?_
        walk_at "E.run"
        refine s_list (by walk_at "M.lu") (by decide) (by simp) (by decide) ?_
        simp only [Int.toNat_zero, List.set_cons_zero]
        walk_at "E.run"
        refine g_list (by walk_at "M.mem") (by decide) (by decide) rfl ?_
        walk_at "E.run"
        refine g_list (by walk_at "M.mem") (by decide) (by decide) rfl ?_
        walk_at "E.run"
        refine ⟨_, _, .int, .int, fun a => ?_⟩
        walk_at "E.run"
        refine g_str_slice (by rw [S_len, sizeLine_eq]; lia) ?_
        have e1 : (pos : Int) + 1 - 1 = ((pos : Nat) : Int) := by lia
        have e2 : (pos : Int) + 1 = ((pos + 1 : Nat) : Int) := by lia
        rw [e1, e2, slice_S _ _ _ (by lia), Nat.add_sub_cancel_left]
        refine ⟨_, ?_, h⟩
        ((repeat (first | exact Sb.refl | exact Sb.nil | exact Sb.s1 | exact Sb.s2 | exact Sb.s3 | exact Sb.s4 | (apply Sb.take; focus ((repeat (first | exact Pick.head | exact Pick.h1 | exact Pick.h2 | exact Pick.h3 | apply Pick.t4)); done)) | apply Sb.skip)))
theorem rc_ {C : Cx} {A : Around} {σ : Led} {Q : V → Led → Prop} (hC : C.Is (Mine.hd.heap_1 C.w.params)) (hA : Fit 4 A) {L : LxA} (hr : RL Mine.hd.heap_1 L.fdR L.cR L.cA L.cT) {ln : Int} {toks : List (List Nat)} {x : List Nat} {pos : Nat} (hx : x.length ≤ 1000000)
    (h : Q (.str (S ((x.drop pos).take 1))) (Lx 150 L (ln + if x[pos]? = some 10 then 1 else 0) toks x (pos + 1) σ)) : CallC C A (Lx 150 L ln toks x pos σ) (.ref 133) [.ref L.lx] Q := by
  refine' call_defKC (n := 3) (ks := ["self", "ch"]) (vs := [some (.ref L.lx), none]) ?hC ?ho ?hcd ?hA ?nd ?hcell ?hbind ?h ?c1 ?c2 ?c3
  (((case hC => assumption); (case ho => k_is); (case hcd => k_is); (case nd => decide); (case hcell => decide); (case c1 => rfl); (case c2 => rfl); (case c3 => rfl); (case hA => assumption)))
  case hbind => ((intro s as hk r; (repeat (obtain ⟨_, _, e, _, r⟩ := r; subst e)); subst r; refine ⟨_, BindsTo.of_eq rfl, locs rfl, ?_⟩; (repeat (first | exact FrOk.nil | refine FrOk.some ?_ rfl (by assumption) | refine FrOk.none ?_))))
  case h =>
    intro F A' hA'
    walk_at "E.run"
    (((refine' a_own (by assumption) ?hix40 ?dx40 ?vx40 ?gx40 ?hhx40 ?hax40 ?nbx40 ?_); (case hix40 => exact isI_inst (by walk_at "M.mem")); (case dx40 => walk_at "M.mem"); (case vx40 => walk_at "M.at"); (case gx40 => kernel_rfl); (case hhx40 => kernel_rfl); (case hax40 => kernel_rfl); (case nbx40 => rfl)))
    refine m_fnattr (by walk_at "M.mem") (by walk_at "M.mem") (by walk_at "M.at") rfl fn_read ?_
    walk_at "E.run"
    refine (CallC.sb (σ' := (L.rd, AO.fn none L.fdR) :: (L.cR, AO.code L.fdR.qualname) :: (L.cA, AO.cell (some (.ref L.atl))) :: (L.cT, AO.cell (some (.str (S x)))) :: (L.atl, AO.list [.int (pos : Nat)]) ::
      (F, AO.fr ["self", "ch"] [some (.ref L.lx), none]) :: (L.lx, AO.inst 150 L.d) :: (L.d, AO.attrs ["lineno", "instream", "whitespace", "pushback"] [some (.int ln), some (.ref L.st), some (.str wsS), some (.ref L.pb)]) :: (L.pb, AO.list (strsV toks)) :: (L.st, AO.fn (some L.sd) L.fdL) :: (L.sd, AO.attrs ["read"] [some (.ref L.rd)]) :: σ) ?_ (hr C A' _ L.rd L.atl x pos _ hC hA' hx ?_)).call
    · ((repeat (first | exact Sb.refl | exact Sb.nil | exact Sb.s1 | exact Sb.s2 | exact Sb.s3 | exact Sb.s4 | (apply Sb.take; focus ((repeat (first | exact Pick.head | exact Pick.h1 | exact Pick.h2 | exact Pick.h3 | apply Pick.t4)); done)) | apply Sb.skip)))
    walk_at "E.run"
    refine cmp_seqS (y := [10]) ?_
    walk_at "E.run"
    have e10 : ((x.drop pos).take 1 == [10]) = decide (x[pos]? = some 10) := by
      rw [take1]
      cases x[pos]? with
      | none => rfl
      | some c => by_cases hc : c = 10 <;> simp [hc]
    rw [e10]
    by_cases hc : x[pos]? = some 10
    · rw [if_pos (by simpa using hc)]
      rw [if_pos hc] at h
      walk_at "E.run"
      (((refine' a_own (by assumption) ?hix42 ?dx42 ?vx42 ?gx42 ?hhx42 ?hax42 ?nbx42 ?_); (case hix42 => exact isI_inst (by walk_at "M.mem")); (case dx42 => walk_at "M.mem"); (case vx42 => walk_at "M.at"); (case gx42 => kernel_rfl); (case hhx42 => kernel_rfl); (case hax42 => kernel_rfl); (case nbx42 => rfl)))
      walk_at "E.run"
      (((refine' a_set (by assumption) ?hix43 ?ux43 ?vx43 ?sx43 ?px43 ?tx43 ?hhx43 ?_); rotate_left 1; (case hix43 => exact isI_inst (by walk_at "M.mem")); (case ux43 => walk_at "M.lu"); (case vx43 => walk_at "M.put"); (case sx43 => kernel_rfl); (case px43 => kernel_rfl); (case tx43 => kernel_rfl); (case hhx43 => kernel_rfl)))
      walk_at "E.run"
      exact ⟨_, by ((repeat (first | exact Sb.refl | exact Sb.nil | exact Sb.s1 | exact Sb.s2 | exact Sb.s3 | exact Sb.s4 | (apply Sb.take; focus ((repeat (first | exact Pick.head | exact Pick.h1 | exact Pick.h2 | exact Pick.h3 | apply Pick.t4)); done)) | apply Sb.skip))), h⟩
    · rw [if_neg (by simpa using hc)]
      rw [if_neg hc, Int.add_zero] at h
      walk_at "E.run"
      exact ⟨_, by ((repeat (first | exact Sb.refl | exact Sb.nil | exact Sb.s1 | exact Sb.s2 | exact Sb.s3 | exact Sb.s4 | (apply Sb.take; focus ((repeat (first | exact Pick.head | exact Pick.h1 | exact Pick.h2 | exact Pick.h3 | apply Pick.t4)); done)) | apply Sb.skip))), h⟩
theorem push_ {C : Cx} {A : Around} {σ : Led} {Q : V → Led → Prop} (hC : C.Is (Mine.hd.heap_1 C.w.params)) (hA : Fit 3 A) {L : LxA} {ln : Int} {toks : List (List Nat)} {x t : List Nat} {pos : Nat} (hz : toks.length ≤ 1000000)
    (h : Q .none (Lx 150 L ln (toks ++ [t]) x pos σ)) : Call C A (Lx 150 L ln toks x pos σ) (.ref 147) [.ref L.lx, .str (S t)] Q := by
  refine' call_defK (n := 2) (ks := ["self", "token"]) (vs := [some (.ref L.lx), some (.str (S t))]) ?hC ?ho ?hcd ?hA ?nd ?hcell ?hbind ?h ?c1 ?c2 ?c3
  (((case hC => assumption); (case ho => k_is); (case hcd => k_is); (case nd => decide); (case hcell => decide); (case c1 => rfl); (case c2 => rfl); (case c3 => rfl); (case hA => assumption)))
  case hbind => ((intro s as hk r; (repeat (obtain ⟨_, _, e, _, r⟩ := r; subst e)); subst r; refine ⟨_, BindsTo.of_eq rfl, locs rfl, ?_⟩; (repeat (first | exact FrOk.nil | refine FrOk.some ?_ rfl (by assumption) | refine FrOk.none ?_))))
  case h =>
    intro F A' hA'
    walk_at "E.run"
    (((refine' a_own (by assumption) ?hix48 ?dx48 ?vx48 ?gx48 ?hhx48 ?hax48 ?nbx48 ?_); (case hix48 => exact isI_inst (by walk_at "M.mem")); (case dx48 => walk_at "M.mem"); (case vx48 => walk_at "M.at"); (case gx48 => kernel_rfl); (case hhx48 => kernel_rfl); (case hax48 => kernel_rfl); (case nbx48 => rfl)))
    refine m_append (by walk_at "M.mem") ?_
    walk_at "E.run"
    refine c_append (by walk_at "M.lu") (by rw [List.length_map, sizeLine_eq]; lia) ?_
    walk_at "E.run"
    refine ⟨_, ?_, h⟩
    rw [show strsV toks ++ [V.str (S t)] = strsV (toks ++ [t]) by simp [strsV]]
    ((repeat (first | exact Sb.refl | exact Sb.nil | exact Sb.s1 | exact Sb.s2 | exact Sb.s3 | exact Sb.s4 | (apply Sb.take; focus ((repeat (first | exact Pick.head | exact Pick.h1 | exact Pick.h2 | exact Pick.h3 | apply Pick.t4)); done)) | apply Sb.skip)))
theorem nxrc_ {C : Cx} {A : Around} {σ : Led} {Q : Option V → Led → Prop} (hC : C.Is (Mine.hd.heap_1 C.w.params)) (hA : Fit 5 A) {L : LxA} (hr : RL Mine.hd.heap_1 L.fdR L.cR L.cA L.cT) {ln : Int} {toks : List (List Nat)} {x : List Nat} {pos : Nat} (hx : x.length ≤ 1000000) {it q : Addr}
    (h1 : ∀ c, x[pos]? = some c → Q (some (.str (S [c]))) (Lx 150 L (ln + if c = 10 then 1 else 0) toks x (pos + 1) ((it, AO.cit q) :: (q, AO.meth 133 L.lx) :: σ)))
    (h0 : x[pos]? = none → Q none (Lx 150 L ln toks x (pos + 1) ((it, AO.cdone) :: (q, AO.meth 133 L.lx) :: σ))) : Nx C A (Lx 150 L ln toks x pos ((it, AO.cit q) :: (q, AO.meth 133 L.lx) :: σ)) (.ref it) Q := by
  refine nx_cit (q := q) (f := 133) (x := L.lx) hC hA.1 (by kernel_rfl) (by walk_at "M.mem") (by walk_at "M.mem") ?_
  refine rc_ hC hA.in1 hr hx ?_
  refine ⟨_, rfl, by walk_at "M.mem", by walk_at "M.mem", fun hl => ?_, fun hl => ?_⟩
  · rw [take1] at hl ⊢
    cases hc : x[pos]? with
    | none => rw [hc] at hl; exact absurd rfl hl
    | some c =>
      have := h1 c hc
      simp only [Option.some.injEq]
      exact this
  · rw [take1] at hl
    cases hc : x[pos]? with
    | some c => rw [hc] at hl; cases hl
    | none =>
      refine ⟨_, by walk_at "M.lu", ?_⟩
      simp only [reduceCtorEq, if_false, Int.add_zero]
      exact h0 hc
noncomputable abbrev Gt (L : LxA) (F it q : Addr) (ln : Int) (x : List Nat) (p : Nat) (X : AO) (acc : List Nat) (u : Option V) (σ : Led) : Led :=
  Lx 150 L ln [] x p ((it, X) :: (q, AO.meth 133 L.lx) :: (F, AO.fr ["self", "token", "fiter", "ch"] [some (.ref L.lx), some (.str (S acc)), some (.ref it), u]) :: σ)
theorem sl1 {n p : Nat} (h : p < n) : n - (p + 1) < n - p := by lia
theorem sl2 {n p : Nat} (h : p < n) : n - (p + 2) < n - p := Nat.sub_lt_sub_left h (Nat.lt_add_of_pos_right (by decide))
theorem get_ {C : Cx} {A : Around} {σ : Led} {Q : V → Led → Prop} (hC : C.Is (Mine.hd.heap_1 C.w.params)) (hA : Fit 6 A) {L : LxA} (hr : RL Mine.hd.heap_1 L.fdR L.cR L.cA L.cT) {ln : Int} {x : List Nat} {pos : Nat} (hx : x.length ≤ 1000000)
    (h : Q (.str (S (tk (x.drop pos)).1)) (Lx 150 L (ln + nls x pos (tk (x.drop pos)).2) [] x (pos + (tk (x.drop pos)).2) σ)) : Call C A (Lx 150 L ln [] x pos σ) (.ref 140) [.ref L.lx] Q := by
  refine' call_defK (n := 5) (ks := ["self", "token", "fiter", "ch"]) (vs := [some (.ref L.lx), none, none, none]) ?hC ?ho ?hcd ?hA ?nd ?hcell ?hbind ?h ?c1 ?c2 ?c3
  (((case hC => assumption); (case ho => k_is); (case hcd => k_is); (case nd => decide); (case hcell => decide); (case c1 => rfl); (case c2 => rfl); (case c3 => rfl); (case hA => assumption)))
  case hbind => ((intro s as hk r; (repeat (obtain ⟨_, _, e, _, r⟩ := r; subst e)); subst r; refine ⟨_, BindsTo.of_eq rfl, locs rfl, ?_⟩; (repeat (first | exact FrOk.nil | refine FrOk.some ?_ rfl (by assumption) | refine FrOk.none ?_))))
  case h =>
    intro F A' hA'
    have hlen : (tk (x.drop pos)).1.length ≤ 1000000 := Nat.le_trans (tk_len _) (by rw [List.length_drop]; lia)
    generalize hT : tk (x.drop pos) = T at h hlen
    have n1 : ∀ p, pos ≤ p → nls x pos (p + 1 - pos) = nls x pos (p - pos) + if x[p]? = some 10 then 1 else 0 := fun p hp => by
      have e : p + 1 - pos = (p - pos) + 1 := Nat.sub_add_comm (by assumption)
      have e2 : pos + (p - pos) = p := by lia
      rw [e, nls, e2]
    have nlsome : ∀ p c, pos ≤ p → x[p]? = some c → ln + nls x pos (p - pos) + (if c = 10 then 1 else 0) = ln + nls x pos (p + 1 - pos) := fun p c hp hc => by
      rw [n1 p hp, hc]; simp only [Option.some.injEq]; lia
    have nlnone : ∀ p, pos ≤ p → x[p]? = none → ln + nls x pos (p - pos) = ln + nls x pos (p + 1 - pos) := fun p hp hc => by
      rw [n1 p hp, hc]; simp
    have nlrc : ∀ p, pos ≤ p → ln + nls x pos (p - pos) + (if x[p]? = some 10 then 1 else 0) = ln + nls x pos (p + 1 - pos) := fun p hp => by
      rw [n1 p hp]; lia
    walk_at "E.run"
    (((refine' a_own (by assumption) ?hix52 ?dx52 ?vx52 ?gx52 ?hhx52 ?hax52 ?nbx52 ?_); (case hix52 => exact isI_inst (by walk_at "M.mem")); (case dx52 => walk_at "M.mem"); (case vx52 => walk_at "M.at"); (case gx52 => kernel_rfl); (case hhx52 => kernel_rfl); (case hax52 => kernel_rfl); (case nbx52 => rfl)))
    refine tru_list (by walk_at "M.mem") (by simp) ?_
    rw [if_neg (by simp)]
    walk_at "E.run"
    refine a_bound hC (isI_inst (by walk_at "M.mem")) (by walk_at "M.mem") (by decide) (by kernel_rfl) (by kernel_rfl) (f := 133) (by kernel_rfl) (by kernel_rfl) (by kernel_rfl) (by kernel_rfl) (by decide) fun q => ?_
    walk_at "E.run"
    refine c_iter2 (by walk_at "M.mem") fun it => ?_
    walk_at "E.run"
    refine x_for' ?_
    walk_at "E.run"
    refine it_cit (.inl rfl) (by walk_at "M.mem") ?_
    refine ⟨fun n σ' => (∃ p u, n = x.length - p + 1 ∧ pos ≤ p ∧ (tk (x.drop p)).1 = T.1 ∧ p + (tk (x.drop p)).2 = pos + T.2 ∧ Sb (Gt L F it q (ln + nls x pos (p - pos)) x p (AO.cit q) [] u σ) σ') ∨
      (∃ u, n = 0 ∧ Sb (Gt L F it q (ln + nls x pos T.2) x (pos + T.2) AO.cdone T.1 u σ) σ'), x.length - pos + 1, .inl ⟨pos, none, rfl, Nat.le_refl _, by rw [hT], by rw [hT], ?_⟩, ?_⟩
    · rw [Nat.sub_self]
      simp only [nls, Int.add_zero]
      ((repeat (first | exact Sb.refl | exact Sb.nil | exact Sb.s1 | exact Sb.s2 | exact Sb.s3 | exact Sb.s4 | (apply Sb.take; focus ((repeat (first | exact Pick.head | exact Pick.h1 | exact Pick.h2 | exact Pick.h3 | apply Pick.t4)); done)) | apply Sb.skip)))
    rintro n σ' (⟨p, u, rfl, hp, e1, e2, sb⟩ | ⟨u, rfl, sb⟩)
    · refine nx_sb sb ?_
      refine nxrc_ hC hA' hr hx (fun c hc => ?_) (fun hc => ?_)
      · rw [nlsome p c hp hc]
        have hlt : p < x.length := (List.getElem?_eq_some_iff.mp hc).1
        walk_at "E.run"
        (((refine' a_own (by assumption) ?hix54 ?dx54 ?vx54 ?gx54 ?hhx54 ?hax54 ?nbx54 ?_); (case hix54 => exact isI_inst (by walk_at "M.mem")); (case dx54 => walk_at "M.mem"); (case vx54 => walk_at "M.at"); (case gx54 => kernel_rfl); (case hhx54 => kernel_rfl); (case hax54 => kernel_rfl); (case nbx54 => rfl)))
        walk_at "E.run"
        refine cmp_inW ?_
        walk_at "E.run"
        by_cases hw : isWs c = true
        · rw [if_pos hw]
          rw [tk_w hc hw] at e1 e2
          walk_at "E.run"
          exact ⟨x.length - (p + 1) + 1, Nat.succ_lt_succ (sl1 (by assumption)), .inl ⟨p + 1, _, rfl, by lia, e1, by dsimp only at e2; lia, Sb.refl⟩⟩
        rw [if_neg hw]
        have hw' : isWs c = false := by simpa using hw
        walk_at "E.run"
        refine cmp_seqS (y := [34]) ?_
        walk_at "E.run"
        by_cases hq : c = 34
        · subst hq
          rw [if_pos (by decide)]
          rw [tk_q hc] at e1 e2
          dsimp only at e1 e2
          walk_at "E.run"
          refine x_for' ?_
          walk_at "E.run"
          refine it_cit (.inl rfl) (by walk_at "M.mem") ?_
          refine ⟨fun n σ' => ∃ p acc u, n = x.length - p ∧ pos ≤ p ∧ acc ++ (qd (x.drop p)).1 = T.1 ∧ p + (qd (x.drop p)).2 = pos + T.2 ∧ Sb (Gt L F it q (ln + nls x pos (p - pos)) x p (AO.cit q) acc u σ) σ', x.length - (p + 1), ⟨p + 1, [], _, rfl, by lia, e1, by lia, Sb.refl⟩, ?_⟩
          clear e1 e2 hc hlt sb hw hw' hp
          rintro n σ' ⟨p, acc, u, rfl, hp, e1, e2, sb⟩
          have hacc : acc.length ≤ 1000000 := Nat.le_trans (by rw [← e1, List.length_append]; lia) hlen
          refine nx_sb sb ?_
          refine nxrc_ hC hA' hr hx (fun c hc => ?_) (fun hc => ?_)
          · rw [nlsome p c hp hc]
            have hlt : p < x.length := (List.getElem?_eq_some_iff.mp hc).1
            walk_at "E.run"
            refine cmp_seqS (y := [34]) ?_
            walk_at "E.run"
            by_cases hq : c = 34
            · subst hq
              rw [if_pos (by decide)]
              rw [qd_q hc] at e1 e2
              dsimp only at e1 e2
              rw [List.append_nil] at e1
              subst e1
              have e3 : p + 1 - pos = T.2 := by lia
              have e4 : p + 1 = pos + T.2 := by lia
              rw [e3, e4]
              walk_at "E.run"
              exact ⟨_, by ((repeat (first | exact Sb.refl | exact Sb.nil | exact Sb.s1 | exact Sb.s2 | exact Sb.s3 | exact Sb.s4 | (apply Sb.take; focus ((repeat (first | exact Pick.head | exact Pick.h1 | exact Pick.h2 | exact Pick.h3 | apply Pick.t4)); done)) | apply Sb.skip))), h⟩
            rw [if_neg (by simpa using hq)]
            walk_at "E.run"
            refine cmp_seqS (y := [92]) ?_
            walk_at "E.run"
            by_cases hb : c = 92
            · subst hb
              rw [if_pos (by decide)]
              rw [qd_bs hc] at e1 e2
              dsimp only at e1 e2
              walk_at "E.run"
              refine m_fn hC (isI_inst (by walk_at "M.mem")) (by walk_at "M.mem") (by decide) (by kernel_rfl) (f := 133) (by kernel_rfl) (by kernel_rfl) ?_
              walk_at "E.run"
              refine (rc_ hC (hA'.le (by decide)) hr hx ?_).call
              rw [nlrc (p + 1) (by lia)]
              walk_at "E.run"
              have ht1 : ((x.drop (p + 1)).take 1).length ≤ 1 := by rw [List.length_take]; lia
              refine inp_catS (x := acc) (y := (x.drop (p + 1)).take 1) (by rw [sizeLine_eq]; lia) ?_
              walk_at "E.run"
              exact ⟨x.length - (p + 2), sl2 (by assumption), p + 2, acc ++ (x.drop (p + 1)).take 1, _, rfl, by lia, by rw [List.append_assoc]; exact e1, by lia, Sb.refl⟩
            · rw [if_neg (by simpa using hb)]
              rw [qd_c hc hb hq] at e1 e2
              dsimp only at e1 e2
              walk_at "E.run"
              refine inp_catS (x := acc) (y := [c]) (by rw [sizeLine_eq]; show acc.length + 1 ≤ _; lia) ?_
              walk_at "E.run"
              exact ⟨x.length - (p + 1), sl1 (by assumption), p + 1, acc ++ [c], _, rfl, by lia, by simpa using e1, by lia, Sb.refl⟩
          · rw [qd_none hc] at e1 e2
            dsimp only at e1 e2
            rw [List.append_nil] at e1
            subst e1
            have e3 : p + 1 - pos = T.2 := by lia
            have e4 : p + 1 = pos + T.2 := by lia
            rw [nlnone p hp hc, e3, e4]
            walk_at "E.run"
            exact ⟨0, by lia, .inr ⟨_, rfl, Sb.refl⟩⟩
        rw [if_neg (by simpa using hq)]
        walk_at "E.run"
        refine cmp_seqS (y := [92]) ?_
        walk_at "E.run"
        by_cases hb : c = 92
        · subst hb
          rw [if_pos (by decide)]
          rw [tk_bs hc] at e1 e2
          dsimp only at e1 e2
          walk_at "E.run"
          refine m_fn hC (isI_inst (by walk_at "M.mem")) (by walk_at "M.mem") (by decide) (by kernel_rfl) (f := 133) (by kernel_rfl) (by kernel_rfl) ?_
          walk_at "E.run"
          refine (rc_ hC (hA'.le (by decide)) hr hx ?_).call
          rw [nlrc (p + 1) (by lia)]
          walk_at "E.run"
          have ht1 : ((x.drop (p + 1)).take 1).length ≤ 1 := by rw [List.length_take]; lia
          refine inp_catS (x := []) (y := (x.drop (p + 1)).take 1) (by rw [sizeLine_eq]; simp; lia) ?_
          rw [List.nil_append]
          walk_at "E.run"
          refine x_for' ?_
          walk_at "E.run"
          refine it_cit (.inl rfl) (by walk_at "M.mem") ?_
          refine ⟨fun n σ' => ∃ p acc u, n = x.length - p ∧ pos ≤ p ∧ acc ++ (bd (x.drop p)).1 = T.1 ∧ p + (bd (x.drop p)).2 = pos + T.2 ∧ Sb (Gt L F it q (ln + nls x pos (p - pos)) x p (AO.cit q) acc u σ) σ', x.length - (p + 2), ⟨p + 2, (x.drop (p + 1)).take 1, _, rfl, by lia, e1, by lia, Sb.refl⟩, ?_⟩
          clear e1 e2 hc hlt sb hw hw' hp hq
          rintro n σ' ⟨p, acc, u, rfl, hp, e1, e2, sb⟩
          have hacc : acc.length ≤ 1000000 := Nat.le_trans (by rw [← e1, List.length_append]; lia) hlen
          refine nx_sb sb ?_
          refine nxrc_ hC hA' hr hx (fun c hc => ?_) (fun hc => ?_)
          · rw [nlsome p c hp hc]
            have hlt : p < x.length := (List.getElem?_eq_some_iff.mp hc).1
            walk_at "E.run"
            (((refine' a_own (by assumption) ?hix56 ?dx56 ?vx56 ?gx56 ?hhx56 ?hax56 ?nbx56 ?_); (case hix56 => exact isI_inst (by walk_at "M.mem")); (case dx56 => walk_at "M.mem"); (case vx56 => walk_at "M.at"); (case gx56 => kernel_rfl); (case hhx56 => kernel_rfl); (case hax56 => kernel_rfl); (case nbx56 => rfl)))
            walk_at "E.run"
            refine cmp_inW ?_
            walk_at "E.run"
            by_cases hw : isWs c = true
            · rw [if_pos hw]
              rw [bd_w hc hw] at e1 e2
              dsimp only at e1 e2
              rw [List.append_nil] at e1
              subst e1
              have e3 : p + 1 - pos = T.2 := by lia
              have e4 : p + 1 = pos + T.2 := by lia
              rw [e3, e4]
              walk_at "E.run"
              exact ⟨_, by ((repeat (first | exact Sb.refl | exact Sb.nil | exact Sb.s1 | exact Sb.s2 | exact Sb.s3 | exact Sb.s4 | (apply Sb.take; focus ((repeat (first | exact Pick.head | exact Pick.h1 | exact Pick.h2 | exact Pick.h3 | apply Pick.t4)); done)) | apply Sb.skip))), h⟩
            rw [if_neg hw]
            have hw' : isWs c = false := by simpa using hw
            walk_at "E.run"
            refine cmp_seqS (y := [92]) ?_
            walk_at "E.run"
            by_cases hb : c = 92
            · subst hb
              rw [if_pos (by decide)]
              rw [bd_bs hc] at e1 e2
              dsimp only at e1 e2
              walk_at "E.run"
              refine m_fn hC (isI_inst (by walk_at "M.mem")) (by walk_at "M.mem") (by decide) (by kernel_rfl) (f := 133) (by kernel_rfl) (by kernel_rfl) ?_
              walk_at "E.run"
              refine (rc_ hC (hA'.le (by decide)) hr hx ?_).call
              rw [nlrc (p + 1) (by lia)]
              walk_at "E.run"
              have ht1 : ((x.drop (p + 1)).take 1).length ≤ 1 := by rw [List.length_take]; lia
              refine inp_catS (x := acc) (y := (x.drop (p + 1)).take 1) (by rw [sizeLine_eq]; lia) ?_
              walk_at "E.run"
              exact ⟨x.length - (p + 2), sl2 (by assumption), p + 2, acc ++ (x.drop (p + 1)).take 1, _, rfl, by lia, by rw [List.append_assoc]; exact e1, by lia, Sb.refl⟩
            · rw [if_neg (by simpa using hb)]
              rw [bd_c hc hb hw'] at e1 e2
              dsimp only at e1 e2
              walk_at "E.run"
              refine inp_catS (x := acc) (y := [c]) (by rw [sizeLine_eq]; show acc.length + 1 ≤ _; lia) ?_
              walk_at "E.run"
              exact ⟨x.length - (p + 1), sl1 (by assumption), p + 1, acc ++ [c], _, rfl, by lia, by simpa using e1, by lia, Sb.refl⟩
          · rw [bd_none hc] at e1 e2
            dsimp only at e1 e2
            rw [List.append_nil] at e1
            subst e1
            have e3 : p + 1 - pos = T.2 := by lia
            have e4 : p + 1 = pos + T.2 := by lia
            rw [nlnone p hp hc, e3, e4]
            walk_at "E.run"
            exact ⟨0, by lia, .inr ⟨_, rfl, Sb.refl⟩⟩
        · rw [if_neg (by simpa using hb)]
          rw [tk_c hc hb hw' hq] at e1 e2
          dsimp only at e1 e2
          walk_at "E.run"
          refine inp_catS (x := []) (y := [c]) (by rw [sizeLine_eq]; simp) ?_
          rw [List.nil_append]
          walk_at "E.run"
          refine x_for' ?_
          walk_at "E.run"
          refine it_cit (.inl rfl) (by walk_at "M.mem") ?_
          refine ⟨fun n σ' => ∃ p acc u, n = x.length - p ∧ pos ≤ p ∧ acc ++ (bd (x.drop p)).1 = T.1 ∧ p + (bd (x.drop p)).2 = pos + T.2 ∧ Sb (Gt L F it q (ln + nls x pos (p - pos)) x p (AO.cit q) acc u σ) σ', x.length - (p + 1), ⟨p + 1, [c], _, rfl, by lia, e1, by lia, Sb.refl⟩, ?_⟩
          clear e1 e2 hc hlt sb hw hw' hp hq
          rintro n σ' ⟨p, acc, u, rfl, hp, e1, e2, sb⟩
          have hacc : acc.length ≤ 1000000 := Nat.le_trans (by rw [← e1, List.length_append]; lia) hlen
          refine nx_sb sb ?_
          refine nxrc_ hC hA' hr hx (fun c hc => ?_) (fun hc => ?_)
          · rw [nlsome p c hp hc]
            have hlt : p < x.length := (List.getElem?_eq_some_iff.mp hc).1
            walk_at "E.run"
            (((refine' a_own (by assumption) ?hix58 ?dx58 ?vx58 ?gx58 ?hhx58 ?hax58 ?nbx58 ?_); (case hix58 => exact isI_inst (by walk_at "M.mem")); (case dx58 => walk_at "M.mem"); (case vx58 => walk_at "M.at"); (case gx58 => kernel_rfl); (case hhx58 => kernel_rfl); (case hax58 => kernel_rfl); (case nbx58 => rfl)))
            walk_at "E.run"
            refine cmp_inW ?_
            walk_at "E.run"
            by_cases hw : isWs c = true
            · rw [if_pos hw]
              rw [bd_w hc hw] at e1 e2
              dsimp only at e1 e2
              rw [List.append_nil] at e1
              subst e1
              have e3 : p + 1 - pos = T.2 := by lia
              have e4 : p + 1 = pos + T.2 := by lia
              rw [e3, e4]
              walk_at "E.run"
              exact ⟨_, by ((repeat (first | exact Sb.refl | exact Sb.nil | exact Sb.s1 | exact Sb.s2 | exact Sb.s3 | exact Sb.s4 | (apply Sb.take; focus ((repeat (first | exact Pick.head | exact Pick.h1 | exact Pick.h2 | exact Pick.h3 | apply Pick.t4)); done)) | apply Sb.skip))), h⟩
            rw [if_neg hw]
            have hw' : isWs c = false := by simpa using hw
            walk_at "E.run"
            refine cmp_seqS (y := [92]) ?_
            walk_at "E.run"
            by_cases hb : c = 92
            · subst hb
              rw [if_pos (by decide)]
              rw [bd_bs hc] at e1 e2
              dsimp only at e1 e2
              walk_at "E.run"
              refine m_fn hC (isI_inst (by walk_at "M.mem")) (by walk_at "M.mem") (by decide) (by kernel_rfl) (f := 133) (by kernel_rfl) (by kernel_rfl) ?_
              walk_at "E.run"
              refine (rc_ hC (hA'.le (by decide)) hr hx ?_).call
              rw [nlrc (p + 1) (by lia)]
              walk_at "E.run"
              have ht1 : ((x.drop (p + 1)).take 1).length ≤ 1 := by rw [List.length_take]; lia
              refine inp_catS (x := acc) (y := (x.drop (p + 1)).take 1) (by rw [sizeLine_eq]; lia) ?_
              walk_at "E.run"
              exact ⟨x.length - (p + 2), sl2 (by assumption), p + 2, acc ++ (x.drop (p + 1)).take 1, _, rfl, by lia, by rw [List.append_assoc]; exact e1, by lia, Sb.refl⟩
            · rw [if_neg (by simpa using hb)]
              rw [bd_c hc hb hw'] at e1 e2
              dsimp only at e1 e2
              walk_at "E.run"
              refine inp_catS (x := acc) (y := [c]) (by rw [sizeLine_eq]; show acc.length + 1 ≤ _; lia) ?_
              walk_at "E.run"
              exact ⟨x.length - (p + 1), sl1 (by assumption), p + 1, acc ++ [c], _, rfl, by lia, by simpa using e1, by lia, Sb.refl⟩
          · rw [bd_none hc] at e1 e2
            dsimp only at e1 e2
            rw [List.append_nil] at e1
            subst e1
            have e3 : p + 1 - pos = T.2 := by lia
            have e4 : p + 1 = pos + T.2 := by lia
            rw [nlnone p hp hc, e3, e4]
            walk_at "E.run"
            exact ⟨0, by lia, .inr ⟨_, rfl, Sb.refl⟩⟩
      · rw [tk_none hc] at e1 e2
        rw [nlnone p hp hc]
        have e3 : p + 1 - pos = T.2 := by lia
        have e4 : p + 1 = pos + T.2 := by lia
        rw [e3, e4]
        walk_at "E.run"
        rw [show (S []) = S T.1 from congrArg S e1]
        exact ⟨_, by ((repeat (first | exact Sb.refl | exact Sb.nil | exact Sb.s1 | exact Sb.s2 | exact Sb.s3 | exact Sb.s4 | (apply Sb.take; focus ((repeat (first | exact Pick.head | exact Pick.h1 | exact Pick.h2 | exact Pick.h3 | apply Pick.t4)); done)) | apply Sb.skip))), h⟩
    · refine nx_sb sb ?_
      refine nx_cdone hA'.1 (by walk_at "M.mem") ?_
      walk_at "E.run"
      exact ⟨_, by ((repeat (first | exact Sb.refl | exact Sb.nil | exact Sb.s1 | exact Sb.s2 | exact Sb.s3 | exact Sb.s4 | (apply Sb.take; focus ((repeat (first | exact Pick.head | exact Pick.h1 | exact Pick.h2 | exact Pick.h3 | apply Pick.t4)); done)) | apply Sb.skip))), h⟩
theorem int2ap_ {C : Cx} {A : Around} {σ : Led} {Q : V → Led → Prop} (hC : C.Is (Mine.hd.heap_1 C.w.params)) (hA : Fit 3 A) (i : Int) (hi : i.natAbs < 16 ^ 100) (h : Q (.bytes (Bs (hw i.natAbs))) σ) : Call C A σ (.ref 112) [.int i] Q := by
  refine' call_defK (n := 2) (ks := ["num", "val", "AP", "mod"]) (vs := [some (.int i), none, none, none]) ?hC ?ho ?hcd ?hA ?nd ?hcell ?hbind ?h ?c1 ?c2 ?c3
  (((case hC => assumption); (case ho => k_is); (case hcd => k_is); (case nd => decide); (case hcell => decide); (case c1 => rfl); (case c2 => rfl); (case c3 => rfl); (case hA => assumption)))
  case hbind => ((intro s as hk r; (repeat (obtain ⟨_, _, e, _, r⟩ := r; subst e)); subst r; refine ⟨_, BindsTo.of_eq rfl, locs rfl, ?_⟩; (repeat (first | exact FrOk.nil | refine FrOk.some ?_ rfl (by assumption) | refine FrOk.none ?_))))
  case h =>
    intro L A' hA'
    walk_at "E.run"
    refine c_abs ?_
    walk_at "E.run"
    refine c_int ?_
    walk_at "E.run"
    refine x_while (fun n σ' => ∃ (j : Nat) (w : List Nat) (u : Option V), n = j ∧ j < 16 ^ 100 ∧ hw j ++ w = hw i.natAbs ∧ σ' = (L, AO.fr ["num", "val", "AP", "mod"] [some (.int (j : Int)), some (.bytes (Bs w)), some (.bytes apB), u]) :: σ) i.natAbs ⟨i.natAbs, [], none, rfl, hi, by simp, ?_⟩ ?_
    · rfl
    rintro n σ' ⟨j, w, u, rfl, hj, e, rfl⟩
    have hlen : (hw n ++ w).length ≤ 100 := by rw [e]; exact hw_len 100 _ hi
    rw [List.length_append] at hlen
    walk_at "E.run"
    by_cases h0 : n = 0
    · subst h0
      rw [if_neg (by decide)]
      rw [hw_zero, List.nil_append] at e
      subst e
      walk_at "E.run"
      exact ⟨_, by ((repeat (first | exact Sb.refl | exact Sb.nil | exact Sb.s1 | exact Sb.s2 | exact Sb.s3 | exact Sb.s4 | (apply Sb.take; focus ((repeat (first | exact Pick.head | exact Pick.h1 | exact Pick.h2 | exact Pick.h3 | apply Pick.t4)); done)) | apply Sb.skip))), h⟩
    · rw [if_pos (by simpa using h0)]
      walk_at "E.run"
      refine c_divmod (by decide) (by decide) ?_
      have e1 : ((n : Nat) : Int).fdiv 16 = ((n / 16 : Nat) : Int) := by rw [Int.fdiv_eq_ediv_of_nonneg _ (by decide)]; lia
      have e2 : ((n : Nat) : Int).fmod 16 = ((n % 16 : Nat) : Int) := by rw [Int.fmod_eq_emod_of_nonneg _ (by decide)]; lia
      rw [e1, e2]
      refine asg_tup hA'.1 ?_ (by simp) rfl rfl
      walk_at "E.run"
      refine ⟨_, _, .int, .int, fun a => ?_⟩
      walk_at "E.run"
      refine g_bytes_slice (by rw [sizeLine_eq]; decide) ?_
      have e3 := ap_pick ⟨n % 16, Nat.mod_lt _ (by decide)⟩
      dsimp only at e3
      rw [e3]
      walk_at "E.run"
      refine bin_bcat (by rw [Bs_size, Bs_size]; simp; lia) ?_
      rw [Bs_cat]
      walk_at "E.run"
      exact ⟨n / 16, by lia, n / 16, [65 + n % 16] ++ w, _, rfl, by lia, by rw [← e, hw_pos h0]; simp, rfl⟩
theorem x_if2 {C : Cx} {A : Around} {σ : Led} {env : Env} {pos : Pos} {Qn : Led → Prop} {Qr : V → Led → Prop} {Qb Qc : Led → Prop} {t : Expr} {b o : List Stmt} {p : Bool} (ht : Tr C RB A σ (isTrue t env (eval t env)) (fun c σ₁ => c = p ∧ Sb σ σ₁)) (hT : p = true → Xs C A env σ b Qn Qr Qb Qc) (hF : p = false → Xs C A env σ o Qn Qr Qb Qc) : X C A env σ (.If t b o pos) Qn Qr Qb Qc := by
  refine x_if (Tr.mono ht fun c σ₁ q => ?_)
  obtain ⟨rfl, sb⟩ := q
  cases c with
  | true => exact Xs.sb sb (hT rfl)
  | false => exact Xs.sb sb (hF rfl)
theorem text_ {C : Cx} {A : Around} {σ : Led} {Q : V → Led → Prop} (hC : C.Is (Mine.hd.heap_1 C.w.params)) (hA : Fit 4 A) {a : Addr} {ws : List (List Nat)} (m : Nat) (hm : m < 2 ^ 60) (hz : ws.length ≤ 100) (hw : ∀ w ∈ ws, w.length ≤ 100) (hne : ∀ w ∈ ws, w ≠ [])
    (h : Q (.tup [.str (S (textT ws m)), .str (S (lastT (mOf m ws)))]) ((a, AO.list (strsV ws)) :: σ)) : Call C A ((a, AO.list (strsV ws)) :: σ) (.ref 173) [.ref a, .int (m : Nat)] Q := by
  refine' call_fn (n := 3) (ks := ["words", "white", "text", "word"]) (ps := ["words", "manner"]) (bxs := [.ref a, .int (m : Nat)]) (cn := ["last", "mark", "manner"]) rfl ?ho hA ?nd ?hcn rfl ?hbind ?h ?c1 ?c2
  case ho =>
    intro s H
    refine ⟨_, H.bg.kin _ _ (show C.K.lookup 173 = some _ from (by rw [hC.isK]; k_is)), rfl, ?_⟩
    refine codeRec_of (K := Mine.hd.heap_1 C.w.params) (hC.isK ▸ H.bg.kin) ?_
    k_is
  (((case nd => decide); (case hcn => rfl); (case c1 => rfl); (case c2 => rfl)))
  case hbind => ((intro s as hk r; refine ⟨as, ?_, r⟩; (repeat (obtain ⟨_, _, e, _, r⟩ := r; subst e)); (first | subst r | skip); exact BindsTo.of_eq rfl))
  case h =>
    intro A₁ L cs hcs
    obtain ⟨cL, cM, cN, rfl⟩ := cs_3 hcs
    ((simp only [celled, List.map_cons, List.map_nil, List.cons_append, List.nil_append]))
    show St _ _ _ (storeName _ _) _ _
    walk_at "E.run"
    show St _ _ _ (storeName _ _) _ _
    walk_at "E.run"
    intro A' hA'
    walk_at "E.run"
    refine x_for' ?_
    walk_at "E.run"
    refine it_list (by walk_at "M.mem") fun it => ?_
    have hB : (bodyT [10, 32, 13, 9] m ws).length ≤ 203 * 100 := Nat.le_trans (bodyT_len _ _ _ hw) (Nat.mul_le_mul_left _ hz)
    refine loop_it (l := strsV ws) (σ' := (a, AO.list (strsV ws)) :: (L, AO.fr ["words", "white", "text", "word"] [some (.ref a), some (.str (S [10, 32, 13, 9])), some (.str (S [])), none]) :: (cL, AO.cell none) :: (cM, AO.cell none) :: (cN, AO.cell (some (.int (m : Nat)))) :: σ) ?_ (iter_list (b := a) hA'.1)
      (fun k σ' => ∃ (wh t : List Nat) (mk : Nat) (u um : Option V), wh.length = 4 ∧ t ++ bodyT wh mk (ws.drop k) = bodyT [10, 32, 13, 9] m ws ∧ mOf mk (ws.drop k) = mOf m ws ∧ mk ≤ m ∧
        σ' = (a, AO.list (strsV ws)) :: (L, AO.fr ["words", "white", "text", "word"] [some (.ref a), some (.str (S wh)), some (.str (S t)), u]) :: (cL, AO.cell none) :: (cM, AO.cell um) :: (cN, AO.cell (some (.int (mk : Nat)))) :: σ)
      ⟨[10, 32, 13, 9], [], m, none, none, rfl, rfl, rfl, Nat.le_refl _, rfl⟩ ?_ ?_ ?_
    · ((repeat (first | exact Sb.refl | exact Sb.nil | exact Sb.s1 | exact Sb.s2 | exact Sb.s3 | exact Sb.s4 | (apply Sb.take; focus ((repeat (first | exact Pick.head | exact Pick.h1 | exact Pick.h2 | exact Pick.h3 | apply Pick.t4)); done)) | apply Sb.skip)))
    · rintro k σ' ⟨wh, t, mk, u, um, _, _, _, _, rfl⟩; exact List.Mem.head _
    · rintro k y σ' hy ⟨wh, t, mk, u, um, hwh, e1, e2, hmk, rfl⟩
      rw [List.getElem?_map] at hy
      obtain ⟨w, hk, rfl⟩ := Option.map_eq_some_iff.mp hy
      have ed : ws.drop k = w :: ws.drop (k + 1) := by
        obtain ⟨hp, e⟩ := List.getElem?_eq_some_iff.mp hk
        rw [List.drop_eq_getElem_cons hp, e]
      have hwl : w.length ≤ 100 := hw w (List.mem_of_getElem? hk)
      rw [ed] at e1 e2
      have ht : t.length ≤ 203 * 100 := Nat.le_trans (by rw [← e1, List.length_append]; lia) hB
      have ew0 : ∀ {i : Nat}, i < 4 → wh[i]? = some (wh.getD i 0) := fun {i} hi => by rw [List.getElem?_eq_getElem (by lia), List.getD_eq_getElem?_getD, List.getElem?_eq_getElem (by lia)]; rfl
      walk_at "E.step"
      walk_at "E.step"
      walk_at "E.step"
      have hw0 : w ≠ [] := hne w (List.mem_of_getElem? hk)
      refine x_if2 (p := decide (mk % 3 = 0 ∨ w = [])) ?tt ?tT ?tF
      case tt =>
        walk_at "E.run"
        rw [fm3 mk]
        exact ⟨by rw [Bool.eq_iff_iff]; simp [hw0]; lia, .refl⟩
      case tT =>
        intro hp
        have hpc := of_decide_eq_true hp
        have ep : piece wh mk w = [wh.getD 0 0] ++ [34] ++ w ++ [34] := by unfold piece; rw [if_pos hpc]
        walk_at "E.run"
        refine g_strS (n := 0) rfl (ew0 (by decide)) (by lia) ?_
        refine bin_catS (by rw [sizeLine_eq]; show _ + 1 ≤ _; lia) ?_
        walk_at "E.run"
        refine bin_catS (y := [34]) (by rw [sizeLine_eq]; simp; lia) ?_
        walk_at "E.run"
        refine bin_catS (by rw [sizeLine_eq]; simp; lia) ?_
        walk_at "E.run"
        refine bin_catS (y := [34]) (by rw [sizeLine_eq]; simp; lia) ?_
        walk_at "E.run"
        refine ⟨_, _, .int, .none, fun sl => ?_⟩
        walk_at "E.run"
        refine g_fromS (n := 1) rfl (by lia) (by lia) ?_
        walk_at "E.run"
        refine g_strS (n := 0) rfl (ew0 (by decide)) (by lia) ?_
        refine bin_catS (by rw [sizeLine_eq, List.length_drop]; show _ + 1 ≤ _; lia) ?_
        rw [← rot_eq (by lia)]
        walk_at "E.run"
        rw [fd3 mk]
        refine ⟨_, ?_, rot wh, t ++ piece wh mk w, mk / 3, some (.str (S w)), um, by rw [rot_len]; exact hwh, by rw [List.append_assoc]; exact e1, e2, by lia, rfl⟩
        rw [ep]
        simp only [← List.append_assoc]
        ((repeat (first | exact Sb.refl | exact Sb.nil | exact Sb.s1 | exact Sb.s2 | exact Sb.s3 | exact Sb.s4 | (apply Sb.take; focus ((repeat (first | exact Pick.head | exact Pick.h1 | exact Pick.h2 | exact Pick.h3 | apply Pick.t4)); done)) | apply Sb.skip)))
      case tF =>
        intro hp
        have hpc := of_decide_eq_false hp
        have ep : piece wh mk w = [wh.getD 0 0] ++ (w.map fun c => reps (mk % 3 - 1) [92] ++ [c]).flatten ++ [wh.getD 3 0] := by unfold piece; rw [if_neg hpc]
        walk_at "E.run"
        rw [fm3 mk]
        refine bin_smul (a := [92]) (by lia) (by lia) (by decide) ?_
        rw [erm (mk % 3)]
        have hrl : (reps (mk % 3 - 1) [92]).length ≤ 1 := by rw [reps_len]; simp; lia
        walk_at "E.run"
        refine g_strS (n := 0) rfl (ew0 (by decide)) (by lia) ?_
        refine bin_catS (by rw [sizeLine_eq]; show _ + 1 ≤ _; lia) ?_
        walk_at "E.run"
        refine m_join ?_
        walk_at "E.run"
        refine' e_lc (ks := ["letter"]) (cn := []) ?nd ?hcn ?hclos ?hk ?hn ?_ ?ht ?hs
        (((case nd => decide); (case hcn => rfl); (case hclos => rfl); (case hk => rfl); (case hn => decide); (case ht => intro _ _; rfl); (case hs => intro _; rfl)))
        walk_at "E.run"
        refine it_str fun ci => ?_
        intro D LC cs hcs
        cases cs_0 hcs
        ((simp only [celled, List.map_cons, List.map_nil, List.cons_append, List.nil_append]))
        have hcl : (chars (S w)).length = w.length := by simp [chars]
        refine' cloop_map (τ := (it, AO.lit a (k + 1)) :: (a, AO.list (strsV ws)) :: (L, AO.fr ["words", "white", "text", "word"] [some (.ref a), some (.str (S wh)), some (.str (S t)), some (.str (S w))]) :: (cL, AO.cell none) :: (cM, AO.cell (some (.str (S (reps (mk % 3 - 1) [92]))))) :: (cN, AO.cell (some (.int (mk : Nat)))) :: σ)
          (fun i => V.str (S (reps (mk % 3 - 1) [92] ++ [w.getD i 0]))) ?sbc (iter_str hA'.1) (fun _ _ => trivial) (by rw [hcl, sizeLine_eq]; lia) rfl rfl ?_ ?_
        case sbc => ((repeat (first | exact Sb.refl | exact Sb.nil | exact Sb.s1 | exact Sb.s2 | exact Sb.s3 | exact Sb.s4 | (apply Sb.take; focus ((repeat (first | exact Pick.head | exact Pick.h1 | exact Pick.h2 | exact Pick.h3 | apply Pick.t4)); done)) | apply Sb.skip)))
        · intro i y acc hy ha
          unfold chars at hy
          rw [S_cps, List.getElem?_map] at hy
          obtain ⟨c, hc, rfl⟩ := Option.map_eq_some_iff.mp hy
          walk_at "E.run"
          refine bin_catS (y := [c]) (by rw [sizeLine_eq]; show _ + 1 ≤ _; lia) ?_
          refine ⟨by rw [List.getD_eq_getElem?_getD, hc]; rfl, ?_⟩
          ((repeat (first | exact Sb.refl | exact Sb.nil | exact Sb.s1 | exact Sb.s2 | exact Sb.s3 | exact Sb.s4 | (apply Sb.take; focus ((repeat (first | exact Pick.head | exact Pick.h1 | exact Pick.h2 | exact Pick.h3 | apply Pick.t4)); done)) | apply Sb.skip)))
        intro uc
        refine ⟨[uc], (D, AO.list (strsV (w.map fun c => reps (mk % 3 - 1) [92] ++ [c]))) :: (it, AO.lit a (k + 1)) :: (a, AO.list (strsV ws)) :: (L, AO.fr ["words", "white", "text", "word"] [some (.ref a), some (.str (S wh)), some (.str (S t)), some (.str (S w))]) :: (cL, AO.cell none) :: (cM, AO.cell (some (.str (S (reps (mk % 3 - 1) [92]))))) :: (cN, AO.cell (some (.int (mk : Nat)))) :: σ, ?_, ?_⟩
        · rw [hcl, show (List.range w.length).map (fun i => V.str (S (reps (mk % 3 - 1) [92] ++ [w.getD i 0]))) = strsV (w.map fun c => reps (mk % 3 - 1) [92] ++ [c]) from by
            rw [strsV, List.map_map]; exact map_range_get w _ _ fun i c hc => by rw [List.getD_eq_getElem?_getD, hc]; rfl]
          ((repeat (first | exact Sb.refl | exact Sb.nil | exact Sb.s1 | exact Sb.s2 | exact Sb.s3 | exact Sb.s4 | (apply Sb.take; focus ((repeat (first | exact Pick.head | exact Pick.h1 | exact Pick.h2 | exact Pick.h3 | apply Pick.t4)); done)) | apply Sb.skip)))
        have hfl : ((w.map fun c => reps (mk % 3 - 1) [92] ++ [c]).flatten).length ≤ 2 * 100 + 1 := by
          have := piece_len wh mk w
          rw [ep] at this
          simp only [List.length_append, List.length_cons, List.length_nil] at this
          lia
        walk_at "E.run"
        refine c_joinS (by walk_at "M.mem") (by lia) ?_
        refine bin_catS (by rw [sizeLine_eq, List.length_append]; show t.length + 1 + _ ≤ _; lia) ?_
        walk_at "E.run"
        refine g_strS (n := 3) rfl (ew0 (by decide)) (by lia) ?_
        refine bin_catS (by rw [sizeLine_eq, List.length_append, List.length_append]; show t.length + 1 + _ + 1 ≤ _; lia) ?_
        walk_at "E.run"
        refine ⟨_, _, .int, .none, fun sl => ?_⟩
        walk_at "E.run"
        refine g_fromS (n := 1) rfl (by lia) (by lia) ?_
        walk_at "E.run"
        refine g_strS (n := 0) rfl (ew0 (by decide)) (by lia) ?_
        refine bin_catS (by rw [sizeLine_eq, List.length_drop]; show _ + 1 ≤ _; lia) ?_
        rw [← rot_eq (by lia)]
        walk_at "E.run"
        rw [fd3 mk]
        refine ⟨_, ?_, rot wh, t ++ piece wh mk w, mk / 3, some (.str (S w)), some (.str (S (reps (mk % 3 - 1) [92]))), by rw [rot_len]; exact hwh, by rw [List.append_assoc]; exact e1, e2, by lia, rfl⟩
        rw [ep]
        simp only [← List.append_assoc]
        ((repeat (first | exact Sb.refl | exact Sb.nil | exact Sb.s1 | exact Sb.s2 | exact Sb.s3 | exact Sb.s4 | (apply Sb.take; focus ((repeat (first | exact Pick.head | exact Pick.h1 | exact Pick.h2 | exact Pick.h3 | apply Pick.t4)); done)) | apply Sb.skip)))
    · rintro σ' ⟨wh, t, mk, u, um, hwh, e1, e2, hmk, rfl⟩
      rw [strsV_len, List.drop_length] at e1 e2
      have e2' : mk = mOf m ws := e2
      have e1' : t = bodyT [10, 32, 13, 9] m ws := by rw [← e1]; show _ = _ ++ []; rw [List.append_nil]
      subst e2'
      have hmk' : mOf m ws < 2 ^ 60 := by lia
      walk_at "E.run"
      refine m_join ?_
      walk_at "E.run"
      refine' e_lc (ks := ["k"]) (cn := []) ?nd ?hcn ?hclos ?hk ?hn ?_ ?ht ?hs
      (((case nd => decide); (case hcn => rfl); (case hclos => rfl); (case hk => rfl); (case hn => decide); (case ht => intro _ _; rfl); (case hs => intro _; rfl)))
      walk_at "E.run"
      refine c_range1 fun rg => ?_
      refine it_range (by walk_at "M.mem") (by decide) (by decide) (by decide) (by decide) fun it2 => ?_
      intro D LC cs hcs
      cases cs_0 hcs
      ((simp only [celled, List.map_cons, List.map_nil, List.cons_append, List.nil_append]))
      refine' cloop_rmap (τ := (a, AO.list (strsV ws)) :: (L, AO.fr ["words", "white", "text", "word"] [some (.ref a), some (.str (S wh)), some (.str (S t)), u]) :: (cL, AO.cell none) :: (cM, AO.cell um) :: (cN, AO.cell (some (.int (mOf m ws : Nat)))) :: σ) (n := 3)
        (fun i => V.str (S [tabT.getD (mOf m ws / 8 ^ i % 8) 0])) rfl hA'.1 ?sbc (by decide) rfl rfl ?_ ?_
      case sbc => ((repeat (first | exact Sb.refl | exact Sb.nil | exact Sb.s1 | exact Sb.s2 | exact Sb.s3 | exact Sb.s4 | (apply Sb.take; focus ((repeat (first | exact Pick.head | exact Pick.h1 | exact Pick.h2 | exact Pick.h3 | apply Pick.t4)); done)) | apply Sb.skip)))
      · intro k acc X hk ha
        walk_at "E.run"
        refine bin_pow (by lia) (pow8b hk) ?_
        walk_at "E.run"
        refine bin_fdiv ?_ (pow8n hk) (pow8l hk)
        walk_at "E.run"
        rw [dig8]
        refine g_strS (n := mOf m ws / 8 ^ k % 8) (x := tabT) rfl (tab_get _) (by decide) ?_
        refine ⟨rfl, ?_⟩
        ((repeat (first | exact Sb.refl | exact Sb.nil | exact Sb.s1 | exact Sb.s2 | exact Sb.s3 | exact Sb.s4 | (apply Sb.take; focus ((repeat (first | exact Pick.head | exact Pick.h1 | exact Pick.h2 | exact Pick.h3 | apply Pick.t4)); done)) | apply Sb.skip)))
      intro uc
      refine ⟨[uc], (D, AO.list (strsV ((lastT (mOf m ws)).map fun c => [c]))) :: (a, AO.list (strsV ws)) :: (L, AO.fr ["words", "white", "text", "word"] [some (.ref a), some (.str (S wh)), some (.str (S t)), u]) :: (cL, AO.cell none) :: (cM, AO.cell um) :: (cN, AO.cell (some (.int (mOf m ws : Nat)))) :: σ, ?_, ?_⟩
      · rw [last_join]; ((repeat (first | exact Sb.refl | exact Sb.nil | exact Sb.s1 | exact Sb.s2 | exact Sb.s3 | exact Sb.s4 | (apply Sb.take; focus ((repeat (first | exact Pick.head | exact Pick.h1 | exact Pick.h2 | exact Pick.h3 | apply Pick.t4)); done)) | apply Sb.skip)))
      walk_at "E.run"
      refine c_joinS (by walk_at "M.mem") (by rw [single_flat, lastT_len]; decide) ?_
      rw [single_flat]
      walk_at "E.run"
      have htl : t.length ≤ 203 * 100 := by rw [e1']; exact hB
      have hl3 := lastT_len (mOf m ws)
      refine bin_catS (y := [34]) (by rw [sizeLine_eq]; show _ + 1 ≤ _; lia) ?_
      walk_at "E.run"
      refine m_join ?_
      walk_at "E.run"
      refine' e_lc (ks := ["sign"]) (cn := []) ?nd ?hcn ?hclos ?hk ?hn ?_ ?ht ?hs
      (((case nd => decide); (case hcn => rfl); (case hclos => rfl); (case hk => rfl); (case hn => decide); (case ht => intro _ _; rfl); (case hs => intro _; rfl)))
      walk_at "E.run"
      refine it_str fun ci => ?_
      intro D2 LC2 cs2 hcs2
      cases cs_0 hcs2
      ((simp only [celled, List.map_cons, List.map_nil, List.cons_append, List.nil_append]))
      have hcl : (chars (S (lastT (mOf m ws)))).length = 3 := by rw [← hl3]; simp [chars]
      refine' cloop_map (τ := (D, AO.list (strsV ((lastT (mOf m ws)).map fun c => [c]))) :: (a, AO.list (strsV ws)) :: (L, AO.fr ["words", "white", "text", "word"] [some (.ref a), some (.str (S wh)), some (.str (S t)), u]) :: (cL, AO.cell (some (.str (S (lastT (mOf m ws)))))) :: (cM, AO.cell um) :: (cN, AO.cell (some (.int (mOf m ws : Nat)))) :: σ)
        (fun i => V.str (S (esc1 ((lastT (mOf m ws)).getD i 0)))) ?sbc (iter_str hA'.1) (fun _ _ => trivial) (by rw [hcl]; decide) rfl rfl ?_ ?_
      case sbc => ((repeat (first | exact Sb.refl | exact Sb.nil | exact Sb.s1 | exact Sb.s2 | exact Sb.s3 | exact Sb.s4 | (apply Sb.take; focus ((repeat (first | exact Pick.head | exact Pick.h1 | exact Pick.h2 | exact Pick.h3 | apply Pick.t4)); done)) | apply Sb.skip)))
      · intro i y acc hy ha
        unfold chars at hy
        rw [S_cps, List.getElem?_map] at hy
        obtain ⟨c, hc, rfl⟩ := Option.map_eq_some_iff.mp hy
        have hgd : (lastT (mOf m ws)).getD i 0 = c := by rw [List.getD_eq_getElem?_getD, hc]; rfl
        rw [hgd]
        walk_at "E.run"
        refine cmp_in1 (x := [34, 92]) ?_
        walk_at "E.run"
        by_cases h2 : c ∈ [34, 92]
        · rw [if_pos (by simpa using h2)]
          walk_at "E.run"
          refine bin_catS (x := [92]) (y := [c]) (by rw [sizeLine_eq]; show 1 + 1 ≤ _; lia) ?_
          refine ⟨by unfold esc1; rw [if_pos h2]; rfl, ?_⟩
          ((repeat (first | exact Sb.refl | exact Sb.nil | exact Sb.s1 | exact Sb.s2 | exact Sb.s3 | exact Sb.s4 | (apply Sb.take; focus ((repeat (first | exact Pick.head | exact Pick.h1 | exact Pick.h2 | exact Pick.h3 | apply Pick.t4)); done)) | apply Sb.skip)))
        · rw [if_neg (by simpa using h2)]
          walk_at "E.run"
          refine ⟨by unfold esc1; rw [if_neg h2]; rfl, ?_⟩
          ((repeat (first | exact Sb.refl | exact Sb.nil | exact Sb.s1 | exact Sb.s2 | exact Sb.s3 | exact Sb.s4 | (apply Sb.take; focus ((repeat (first | exact Pick.head | exact Pick.h1 | exact Pick.h2 | exact Pick.h3 | apply Pick.t4)); done)) | apply Sb.skip)))
      intro uc2
      refine ⟨[uc2], (D2, AO.list (strsV ((lastT (mOf m ws)).map esc1))) :: (a, AO.list (strsV ws)) :: (L, AO.fr ["words", "white", "text", "word"] [some (.ref a), some (.str (S wh)), some (.str (S t)), u]) :: (cL, AO.cell (some (.str (S (lastT (mOf m ws)))))) :: (cM, AO.cell um) :: (cN, AO.cell (some (.int (mOf m ws : Nat)))) :: σ, ?_, ?_⟩
      · rw [hcl, show (List.range 3).map (fun i => V.str (S (esc1 ((lastT (mOf m ws)).getD i 0)))) = strsV ((lastT (mOf m ws)).map esc1) from by
          rw [strsV, List.map_map, ← hl3]; exact map_range_get (lastT (mOf m ws)) _ _ fun i c hc => by rw [List.getD_eq_getElem?_getD, hc]; rfl]
        ((repeat (first | exact Sb.refl | exact Sb.nil | exact Sb.s1 | exact Sb.s2 | exact Sb.s3 | exact Sb.s4 | (apply Sb.take; focus ((repeat (first | exact Pick.head | exact Pick.h1 | exact Pick.h2 | exact Pick.h3 | apply Pick.t4)); done)) | apply Sb.skip)))
      have he1 := esc1_len (lastT (mOf m ws))
      rw [hl3] at he1
      walk_at "E.run"
      refine c_joinS (by walk_at "M.mem") (by lia) ?_
      refine bin_catS (by rw [sizeLine_eq, List.length_append]; show t.length + 1 + _ ≤ _; lia) ?_
      walk_at "E.run"
      refine bin_catS (y := [34]) (by rw [sizeLine_eq, List.length_append, List.length_append]; show t.length + 1 + _ + 1 ≤ _; lia) ?_
      walk_at "E.run"
      refine m_join ?_
      walk_at "E.run"
      refine' e_lc (ks := ["k"]) (cn := []) ?nd ?hcn ?hclos ?hk ?hn ?_ ?ht ?hs
      (((case nd => decide); (case hcn => rfl); (case hclos => rfl); (case hk => rfl); (case hn => decide); (case ht => intro _ _; rfl); (case hs => intro _; rfl)))
      walk_at "E.run"
      refine c_range1 fun rg2 => ?_
      refine it_range (by walk_at "M.mem") (by decide) (by decide) (by decide) (by decide) fun it3 => ?_
      intro D3 LC3 cs3 hcs3
      cases cs_0 hcs3
      ((simp only [celled, List.map_cons, List.map_nil, List.cons_append, List.nil_append]))
      refine' cloop_rmap (τ := (a, AO.list (strsV ws)) :: (L, AO.fr ["words", "white", "text", "word"] [some (.ref a), some (.str (S wh)), some (.str (S (t ++ [34] ++ ((lastT (mOf m ws)).map esc1).flatten ++ [34]))), u]) :: (cL, AO.cell (some (.str (S (lastT (mOf m ws)))))) :: (cM, AO.cell um) :: (cN, AO.cell (some (.int (mOf m ws : Nat)))) :: σ) (n := 3)
        (fun i => V.str (S (esc2 (lastT (mOf m ws)) i))) rfl hA'.1 ?sbc (by decide) rfl rfl ?_ ?_
      case sbc => ((repeat (first | exact Sb.refl | exact Sb.nil | exact Sb.s1 | exact Sb.s2 | exact Sb.s3 | exact Sb.s4 | (apply Sb.take; focus ((repeat (first | exact Pick.head | exact Pick.h1 | exact Pick.h2 | exact Pick.h3 | apply Pick.t4)); done)) | apply Sb.skip)))
      · intro k acc X hk ha
        walk_at "E.run"
        have hgk := lastT_get (mOf m ws) k hk
        have e0 : (0 : Int) + (k : Nat) = (k : Nat) := by lia
        rw [e0]
        by_cases k0 : k = 0
        · subst k0
          rw [if_pos (by decide)]
          rw [if_pos rfl]
          walk_at "E.run"
          refine g_strS (n := 0) (by rfl) hgk (by rw [hl3]; decide) ?_
          refine bin_catS (x := [92]) (by rw [sizeLine_eq]; show 1 + 1 ≤ _; lia) ?_
          refine ⟨by unfold esc2; rw [if_pos (.inl rfl)]; rfl, ?_⟩
          ((repeat (first | exact Sb.refl | exact Sb.nil | exact Sb.s1 | exact Sb.s2 | exact Sb.s3 | exact Sb.s4 | (apply Sb.take; focus ((repeat (first | exact Pick.head | exact Pick.h1 | exact Pick.h2 | exact Pick.h3 | apply Pick.t4)); done)) | apply Sb.skip)))
        · rw [if_neg (by simp; lia)]
          walk_at "E.run"
          refine g_strS (n := k) (by lia) hgk (by rw [hl3]; decide) ?_
          walk_at "E.run"
          refine cmp_in1 (x := [92, 32, 10, 9, 13]) ?_
          walk_at "E.run"
          by_cases h2 : (lastT (mOf m ws)).getD k 0 ∈ [92, 32, 10, 9, 13]
          · rw [if_pos (by simpa using h2)]
            rw [if_pos rfl]
            walk_at "E.run"
            refine g_strS (n := k) (by lia) hgk (by rw [hl3]; decide) ?_
            refine bin_catS (x := [92]) (by rw [sizeLine_eq]; show 1 + 1 ≤ _; lia) ?_
            refine ⟨by unfold esc2; rw [if_pos (.inr h2)]; rfl, ?_⟩
            ((repeat (first | exact Sb.refl | exact Sb.nil | exact Sb.s1 | exact Sb.s2 | exact Sb.s3 | exact Sb.s4 | (apply Sb.take; focus ((repeat (first | exact Pick.head | exact Pick.h1 | exact Pick.h2 | exact Pick.h3 | apply Pick.t4)); done)) | apply Sb.skip)))
          · rw [if_neg (by simpa using h2)]
            walk_at "E.run"
            rw [if_neg (by decide)]
            walk_at "E.run"
            refine g_strS (n := k) (by lia) hgk (by rw [hl3]; decide) ?_
            refine ⟨by unfold esc2; rw [if_neg (fun h => h.elim k0 h2)], ?_⟩
            ((repeat (first | exact Sb.refl | exact Sb.nil | exact Sb.s1 | exact Sb.s2 | exact Sb.s3 | exact Sb.s4 | (apply Sb.take; focus ((repeat (first | exact Pick.head | exact Pick.h1 | exact Pick.h2 | exact Pick.h3 | apply Pick.t4)); done)) | apply Sb.skip)))
      intro uc3
      refine ⟨[uc3], (D3, AO.list (strsV ((List.range 3).map (esc2 (lastT (mOf m ws)))))) :: (a, AO.list (strsV ws)) :: (L, AO.fr ["words", "white", "text", "word"] [some (.ref a), some (.str (S wh)), some (.str (S (t ++ [34] ++ ((lastT (mOf m ws)).map esc1).flatten ++ [34]))), u]) :: (cL, AO.cell (some (.str (S (lastT (mOf m ws)))))) :: (cM, AO.cell um) :: (cN, AO.cell (some (.int (mOf m ws : Nat)))) :: σ, ?_, ?_⟩
      · rw [show (List.range 3).map (fun i => V.str (S (esc2 (lastT (mOf m ws)) i))) = strsV ((List.range 3).map (esc2 (lastT (mOf m ws)))) from by rw [strsV, List.map_map]; rfl]
        ((repeat (first | exact Sb.refl | exact Sb.nil | exact Sb.s1 | exact Sb.s2 | exact Sb.s3 | exact Sb.s4 | (apply Sb.take; focus ((repeat (first | exact Pick.head | exact Pick.h1 | exact Pick.h2 | exact Pick.h3 | apply Pick.t4)); done)) | apply Sb.skip)))
      have he2 := esc2_len (lastT (mOf m ws)) 3
      walk_at "E.run"
      refine c_joinS (by walk_at "M.mem") (by lia) ?_
      refine bin_catS (by rw [sizeLine_eq]; simp only [List.length_append, List.length_cons, List.length_nil]; lia) ?_
      walk_at "E.run"
      refine ⟨by rw [sizeLine_eq]; show 2 ≤ _; lia, ?_⟩
      have et : t ++ [34] ++ ((lastT (mOf m ws)).map esc1).flatten ++ [34] ++ ((List.range 3).map (esc2 (lastT (mOf m ws)))).flatten = textT ws m := by
        rw [e1']; unfold textT; simp only [List.append_assoc]
      rw [et]
      exact ⟨_, by ((repeat (first | exact Sb.refl | exact Sb.nil | exact Sb.s1 | exact Sb.s2 | exact Sb.s3 | exact Sb.s4 | (apply Sb.take; focus ((repeat (first | exact Pick.head | exact Pick.h1 | exact Pick.h2 | exact Pick.h3 | apply Pick.t4)); done)) | apply Sb.skip))), h⟩
theorem octets_get {l : List Nat} {i : Nat} {y : V} (h : (octets (Bs l))[i]? = some y) : ∃ c, l[i]? = some c ∧ y = .int ((c % 256 : Nat) : Int) := by
  unfold octets Bs at h
  rw [List.map_map, List.getElem?_map] at h
  obtain ⟨c, hc, rfl⟩ := Option.map_eq_some_iff.mp h
  refine ⟨c, hc, ?_⟩
  simp
theorem octets_len (l : List Nat) : (octets (Bs l)).length = l.length := by simp [octets, Bs]
theorem accpop0_ {C : Cx} {A : Around} {σ : Led} {Q : V → Led → Prop} (hC : C.Is (Mine.hd.heap_1 C.w.params)) (hM : C.Main (Str.ofString "/claim/cut.py")) (hA : Fit 2 A) {x d : Addr} {ks : List Str} {vs : List (Option V)} (hx : (x, AO.seq (.ref 101) (some d) []) ∈ σ) (hd : (d, AO.attrs ks vs) ∈ σ) (hn : ("part_count" : Str) ∉ ks)
    (h : Q (.tup [.str (Str.ofString ""), .str (Str.ofString "")]) σ) : Call C A σ (.ref 61) [.ref x] Q := by
  refine CallC.call ?_
  refine' call_defA (n := 1) (ks := ["self"]) (vs := [some (.ref x)]) ?hC ?ho ?hcd ?hA ?nd ?hcell ?hbind ?h ?c1 ?c2 ?c3
  (((case hC => assumption); (case ho => k_is); (case hcd => k_is); (case nd => decide); (case hcell => decide); (case c1 => rfl); (case c2 => rfl); (case c3 => rfl); (case hA => assumption)))
  case hbind => ((intro s as hk r; (repeat (obtain ⟨_, _, e, _, r⟩ := r; subst e)); subst r; refine ⟨_, BindsTo.of_eq rfl, locs rfl, ?_⟩; (repeat (first | exact FrOk.nil | refine FrOk.some ?_ rfl (by assumption) | refine FrOk.none ?_))))
  case h =>
    intro L A' hA'
    refine xsA_cons ?_
    refine XA.of ?_
    walk_at "E.run"
    refine m_any (D := 101) (ga := "list.__getattribute__") (ty := "function") (f := .ref 98) (fV := .ref 98) hC (isI_seq (.tail _ hx)) (.tail _ hd) hn (by kernel_rfl) (by decide +kernel) (by kernel_rfl) (by kernel_rfl) (by kernel_rfl) (by decide) (fun _ => rfl) ?_
    walk_at "E.run"
    refine part_count_ hC hM hA' (by simp) (.tail _ hx) ?_
    walk_at "E.run"
    rw [if_pos (by simp)]
    walk_at "E.run"
    refine ⟨by rw [sizeLine_eq]; decide, ?_⟩
    walk_at "E.run"
    exact ⟨_, by ((repeat (first | exact Sb.refl | exact Sb.nil | exact Sb.s1 | exact Sb.s2 | exact Sb.s3 | exact Sb.s4 | (apply Sb.take; focus ((repeat (first | exact Pick.head | exact Pick.h1 | exact Pick.h2 | exact Pick.h3 | apply Pick.t4)); done)) | apply Sb.skip))), h⟩
theorem accinit0_ {C : Cx} {A : Around} {σ σ' : Led} {Q : V → Led → Prop} (hC : C.Is (Mine.hd.heap_1 C.w.params)) (hM : C.Main (Str.ofString "/claim/cut.py")) (hA : Fit 2 A) {x d : Addr} (hx : (x, AO.seq (.ref 101) (some d) []) ∈ σ) (hx' : (x, AO.seq (.ref 101) (some d) []) ∈ σ')
    (U : LU d (AO.attrs [] []) (AO.attrs ["_initial_size"] [some (.int 0)]) σ σ') (h : Q .none σ') : CallC C A σ (.ref 38) [.ref x] Q := by
  refine' call_defA (n := 1) (ks := ["self", "initial_size"]) (vs := [some (.ref x), some (.int 0)]) ?hC ?ho ?hcd ?hA ?nd ?hcell ?hbind ?h ?c1 ?c2 ?c3
  (((case hC => assumption); (case ho => k_is); (case hcd => k_is); (case nd => decide); (case hcell => decide); (case c1 => rfl); (case c2 => rfl); (case c3 => rfl); (case hA => assumption)))
  case hbind =>
    intro s as hk r
    simp only [VRs] at r
    obtain ⟨v1, w1, e1, r1, e3⟩ := r
    subst e3; subst e1
    refine ⟨_, BindsTo.of_defaults rfl (hk _ _ (show (Mine.hd.heap_1 C.w.params).lookup 30 = some _ from by k_is)) rfl rfl rfl, locs rfl, ?_⟩
    exact FrOk.some (FrOk.some FrOk.nil rfl ⟨_, rfl⟩) rfl r1
  case h =>
    intro L A' hA'
    refine xsA_cons ?_
    refine XA.of ?_
    walk_at "E.run"
    refine a_newL (ks := []) (vs := []) (name := "_initial_size") hC (isI_seq (.tail _ hx)) (.tail U) (by decide) (by decide) (by decide) (by kernel_rfl) (by kernel_rfl) (by kernel_rfl) (by kernel_rfl) ?_
    refine xsA_cons ?_
    refine xA_expr ?_
    refine eA_m0 ?_
    refine super_base hC hM (isI_seq (.tail _ hx')) (by k_is) (by rfl) (List.Mem.head _) At.head (by k_is) (by rfl) (by k_is) (by k_is) (by k_is) (by k_is) (by decide) (by rfl) (by rfl) (by rfl) (by rfl) (by first | boot_by_name | rfl | kernel_rfl) (fun so => ?_)
    refine m_sup hC (List.Mem.head _) (.tail _ (.tail _ hx')) (by k_is) (by k_is) (by ks_is) type_init slot_wd entry_wd args_wd (by decide) (fun IL q => run_init IL q) (fun q => ?_)
    refine ⟨kp_bbi (List.Mem.head _) rfl rfl, c_bbi (List.Mem.head _) rfl rfl (Code.quiet_builtin _ (by decide +kernel)) PySem.F.entry_list_init (fun _ q => ck_slot ck_init _ q) (b_init (listTy_cls hC (by k_is)) (.tail _ (.tail _ (.tail _ hx'))) ?_)⟩
    refine xsA_nil ?_
    exact ⟨_, by ((repeat (first | exact Sb.refl | exact Sb.nil | exact Sb.s1 | exact Sb.s2 | exact Sb.s3 | exact Sb.s4 | (apply Sb.take; focus ((repeat (first | exact Pick.head | exact Pick.h1 | exact Pick.h2 | exact Pick.h3 | apply Pick.t4)); done)) | apply Sb.skip))), h⟩
theorem accmake0_ {C : Cx} {A : Around} {σ : Led} {Q : V → Led → Prop} (hC : C.Is (Mine.hd.heap_1 C.w.params)) (hM : C.Main (Str.ofString "/claim/cut.py")) (hA : Fit 3 A) (h : ∀ x d, Q (.ref x) ((x, AO.seq (.ref 101) (some d) []) :: (d, AO.attrs ["_initial_size"] [some (.int 0)]) :: σ)) : Call C A σ (.ref 101) [] Q :=
  (c_makeL0 hC (by kernel_rfl) (fI := 38) (by kernel_rfl) (by kernel_rfl) fun x d => accinit0_ hC hM hA.under0 (.head _) (.head _) (.tail .head) ⟨rfl, h x d⟩).call
theorem ord_step : ∀ t, t < 4 → ∀ i, i < (ordsF t).length → ((ordsF t).getD i []).length = t ∧ ∀ j, j < t + 1 → (ordsF (t + 1)).getD (i * (t + 1) + j) [] = ((ordsF t).getD i []).take j ++ t :: ((ordsF t).getD i []).drop j := by decide +kernel
theorem ord_cnt : ∀ t, t < 4 → (ordsF t).length ≤ 24 ∧ (ordsF t).length * (t + 1) = (ordsF (t + 1)).length := by decide +kernel
noncomputable def ordR (t i : Nat) : List V := ((ordsF t).getD i []).map fun k => V.int (k : Nat)
theorem ordR_len {t i : Nat} (ht : t < 4) (hi : i < (ordsF t).length) : (ordR t i).length = t := by
  rw [ordR, List.length_map]; exact (ord_step t ht i hi).1
theorem ordR_step {t i j : Nat} (ht : t < 4) (hi : i < (ordsF t).length) (hj : j < t + 1) : ordR (t + 1) (i * (t + 1) + j) = (ordR t i).take j ++ [V.int (t : Nat)] ++ (ordR t i).drop j := by
  rw [ordR, (ord_step t ht i hi).2 j hj, ordR, List.map_append, List.map_cons, List.map_take, List.map_drop, List.append_assoc]
  rfl
theorem rng_new (na : Nat → Addr) (x : Addr) (n : Nat) : ((List.range n).map fun p => V.ref (na p)) ++ [V.ref x] = (List.range (n + 1)).map fun p => V.ref (if p = n then x else na p) := by
  rw [List.range_succ, List.map_append]
  congr 1
  · exact List.map_congr_left fun p hp => by rw [if_neg (Nat.ne_of_lt (List.mem_range.mp hp))]
  · rw [List.map_cons, if_pos rfl]; rfl
theorem orders_ {C : Cx} {A : Around} {σ : Led} {Q : V → Led → Prop} (hC : C.Is (Mine.hd.heap_1 C.w.params)) (hA : Fit 8 A)
    (h : ∀ r ra, Q (.ref r) ((r, AO.list ((List.range 24).map fun i => V.ref (ra i))) :: (RwL ra (ordR 4) 24 ++ σ))) : Call C A σ (.ref 190) [.int 4] Q := by
  refine' call_fn (n := 7) (ks := ["count", "orders"]) (ps := ["count"]) (bxs := [.int 4]) (cn := ["k"]) rfl ?ho hA ?nd ?hcn rfl ?hbind ?h ?c1 ?c2
  case ho =>
    intro s H
    refine ⟨_, H.bg.kin _ _ (show C.K.lookup 190 = some _ from (by rw [hC.isK]; k_is)), rfl, ?_⟩
    refine codeRec_of (K := Mine.hd.heap_1 C.w.params) (hC.isK ▸ H.bg.kin) ?_
    k_is
  (((case nd => decide); (case hcn => rfl); (case c1 => rfl); (case c2 => rfl)))
  case hbind => ((intro s as hk r; refine ⟨as, ?_, r⟩; (repeat (obtain ⟨_, _, e, _, r⟩ := r; subst e)); (first | subst r | skip); exact BindsTo.of_eq rfl))
  case h =>
    intro A₁ F cs hcs
    obtain ⟨cK, rfl⟩ := cs_1 hcs
    ((simp only [celled, List.map_cons, List.map_nil, List.cons_append, List.nil_append]))
    show St _ _ _ (storeName _ _) _ _
    walk_at "E.run"
    intro A' hA'
    walk_at "E.run"
    refine ⟨by rw [sizeLine_eq]; decide, fun r0 => ?_⟩
    walk_at "E.run"
    refine ⟨by rw [sizeLine_eq]; simp, fun a0 => ?_⟩
    walk_at "E.run"
    refine x_for' ?_
    walk_at "E.run"
    refine c_range1 fun r1 => ?_
    refine it_range (by walk_at "M.mem") (by decide) (by decide) (by lia) (by lia) fun r2 => ?_
    refine' loop_rangeX (n := 4) (σ' := (F, AO.fr ["count", "orders"] [some (.int 4), some (.ref a0)]) :: (cK, AO.cell none) :: (a0, AO.list [V.ref r0]) :: (r0, AO.list []) :: σ) ?sb rfl hA'.1
      (fun t σ' => ∃ d ra u, σ' = (F, AO.fr ["count", "orders"] [some (.int 4), some (.ref d)]) :: (cK, AO.cell u) :: (d, AO.list ((List.range (ordsF t).length).map fun i => V.ref (ra i))) :: (RwL ra (ordR t) (ordsF t).length ++ σ)) ?z0 ?_ ?_
    case sb => ((repeat (first | exact Sb.refl | exact Sb.nil | exact Sb.s1 | exact Sb.s2 | exact Sb.s3 | exact Sb.s4 | (apply Sb.take; focus ((repeat (first | exact Pick.head | exact Pick.h1 | exact Pick.h2 | exact Pick.h3 | apply Pick.t4)); done)) | apply Sb.skip)))
    case z0 => exact ⟨a0, fun _ => r0, none, rfl⟩
    · rintro t X σ' ht ⟨d, ra, u, rfl⟩
      walk_at "E.run"
      refine' x_lc2 (ks := ["order", "j"]) (cn := []) ?nd ?hcn ?hclos ?hk ?hn ?_ ?ht ?ht2 ?hf2 ?hs ?hsw
      (((case nd => decide); (case hcn => rfl); (case hclos => rfl); (case hk => rfl); (case hn => decide); (case ht => intro _ _; rfl); (case hs => intro _; rfl)))
      case ht2 => intro _ _; rfl
      case hf2 => intro _ _; rfl
      case hsw => rfl
      walk_at "E.run"
      refine it_list (by walk_at "M.mem") fun i0 => ?_
      intro D L2 cs2 hcs2
      cases cs_0 hcs2
      ((simp only [celled, List.map_cons, List.map_nil, List.cons_append, List.nil_append]))
      refine' cloopO_iter (l := (List.range (ordsF t).length).map fun i => V.ref (ra i)) (σ' := (L2, AO.fr ["order", "j"] [none, none]) :: (r2, X) :: (F, AO.fr ["count", "orders"] [some (V.int 4), some (V.ref d)]) :: (cK, AO.cell (some (V.int (t : Nat)))) :: (d, AO.list ((List.range (ordsF t).length).map fun i => V.ref (ra i))) :: (RwL ra (ordR t) (ordsF t).length ++ σ)) ?sb2 (iter_list hA'.1)
        (fun i acc σ' => ∃ na u1 u2, acc = ((List.range (i * (t + 1))).map fun p => V.ref (na p)) ∧ σ' = (L2, AO.fr ["order", "j"] [u1, u2]) :: (r2, X) :: (F, AO.fr ["count", "orders"] [some (V.int 4), some (V.ref d)]) :: (cK, AO.cell (some (V.int (t : Nat)))) :: (d, AO.list ((List.range (ordsF t).length).map fun i => V.ref (ra i))) :: (RwL na (ordR (t + 1)) (i * (t + 1)) ++ (RwL ra (ordR t) (ordsF t).length ++ σ))) ?z1 ?g1 ?_ ?_
      case sb2 => ((repeat (first | exact Sb.refl | exact Sb.nil | exact Sb.s1 | exact Sb.s2 | exact Sb.s3 | exact Sb.s4 | (apply Sb.take; focus ((repeat (first | exact Pick.head | exact Pick.h1 | exact Pick.h2 | exact Pick.h3 | apply Pick.t4)); done)) | apply Sb.skip)))
      case z1 => exact ⟨ra, none, none, by rw [Nat.zero_mul]; rfl, by rw [Nat.zero_mul]; rfl⟩
      case g1 => rintro i acc σ' ⟨na, u1, u2, rfl, rfl⟩; walk_at "M.mem"
      · rintro i y acc σ' hy ⟨na, u1, u2, rfl, rfl⟩
        walk_at "E.run"
        refine c_range1 fun r3 => ?_
        refine it_range (by walk_at "M.mem") (by decide) (by decide) (by lia) (by lia) fun r4 => ?_
        rw [show (((t : Nat) : Int) + 1 - 0).toNat = t + 1 from er1 t]
        refine cloop_sbC (σ₀ := (D, AO.list ((List.range (i * (t + 1))).map fun p => V.ref (na p))) :: (r4, AO.rit 0 (t + 1 : Nat)) :: (i0, AO.lit d (i + 1)) :: (L2, AO.fr ["order", "j"] [some y, u2]) :: (r2, X) :: (F, AO.fr ["count", "orders"] [some (V.int 4), some (V.ref d)]) :: (cK, AO.cell (some (V.int (t : Nat)))) :: (d, AO.list ((List.range (ordsF t).length).map fun i => V.ref (ra i))) :: (RwL na (ordR (t + 1)) (i * (t + 1)) ++ (RwL ra (ordR t) (ordsF t).length ++ σ))) (by ((repeat (first | exact Sb.refl | exact Sb.nil | exact Sb.s1 | exact Sb.s2 | exact Sb.s3 | exact Sb.s4 | (apply Sb.take; focus ((repeat (first | exact Pick.head | exact Pick.h1 | exact Pick.h2 | exact Pick.h3 | apply Pick.t4)); done)) | apply Sb.skip)))) ?_
        have hcnt := ord_cnt t ht
        obtain ⟨hi, rfl⟩ : i < (ordsF t).length ∧ y = V.ref (ra i) := by
          have hi : i < (ordsF t).length := by simpa using (List.getElem?_eq_some_iff.mp hy).1
          rw [List.getElem?_map, List.getElem?_range hi] at hy
          exact ⟨hi, (Option.some.inj hy).symm⟩
        have hsz : (i + 1) * (t + 1) ≤ 100 := Nat.le_trans (Nat.mul_le_mul (show i + 1 ≤ 24 by lia) (show t + 1 ≤ 4 by lia)) (by decide)
        rw [Nat.add_mul, Nat.one_mul] at hsz
        refine cloop_fromR hA'.1 (i * (t + 1)) _ (by rw [List.length_map, List.length_range]; exact Nat.le_refl _)
          (fun j acc σ' => ∃ na u2, acc = ((List.range (i * (t + 1) + j)).map fun p => V.ref (na p)) ∧ σ' = (i0, AO.lit d (i + 1)) :: (L2, AO.fr ["order", "j"] [some (V.ref (ra i)), u2]) :: (r2, X) :: (F, AO.fr ["count", "orders"] [some (V.int 4), some (V.ref d)]) :: (cK, AO.cell (some (V.int (t : Nat)))) :: (d, AO.list ((List.range (ordsF t).length).map fun i => V.ref (ra i))) :: (RwL na (ordR (t + 1)) (i * (t + 1) + j) ++ (RwL ra (ordR t) (ordsF t).length ++ σ))) ⟨na, u2, rfl, rfl⟩ (by rw [sizeLine_eq]; lia) ?_ ?_
        · rintro j X' acc σ' hj hal ⟨na, u2, rfl, rfl⟩
          have hmem : (ra i, AO.list (ordR t i)) ∈ RwL na (ordR (t + 1)) (i * (t + 1) + j) ++ (RwL ra (ordR t) (ordsF t).length ++ σ) := List.mem_append_right _ (RwL_mem hi)
          have hol := ordR_len ht hi
          walk_at "E.run"
          refine ⟨_, _, .none, .int, fun sl => ?_⟩
          refine ⟨has_list (by ((repeat (first | exact List.Mem.head _ | assumption | apply List.Mem.tail)))), ?_⟩
          refine g_list_slice (by ((repeat (first | exact List.Mem.head _ | assumption | apply List.Mem.tail)))) (by rw [hol, sizeLine_eq]; lia) fun d1 => ?_
          rw [cut_to]
          walk_at "E.run"
          refine ⟨by rw [sizeLine_eq]; show 1 ≤ _; lia, fun d2 => ?_⟩
          walk_at "E.run"
          refine bin_ladd (a := d1) (b := d2) (by walk_at "M.mem") (by walk_at "M.mem") (by rw [List.length_take, hol, sizeLine_eq]; simp only [List.length_cons, List.length_nil]; lia) fun d3 => ?_
          walk_at "E.run"
          refine ⟨_, _, .int, .none, fun sl2 => ?_⟩
          refine ⟨has_list (by ((repeat (first | exact List.Mem.head _ | assumption | apply List.Mem.tail)))), ?_⟩
          refine g_list_slice (by ((repeat (first | exact List.Mem.head _ | assumption | apply List.Mem.tail)))) (by rw [hol, sizeLine_eq]; lia) fun d4 => ?_
          rw [cut_from]
          walk_at "E.run"
          refine bin_ladd (a := d3) (b := d4) (by walk_at "M.mem") (by walk_at "M.mem") (by rw [List.length_append, List.length_take, List.length_drop, hol, sizeLine_eq]; simp only [List.length_cons, List.length_nil]; lia) fun d5 => ?_
          rw [← ordR_step ht hi hj]
          refine ⟨(i0, AO.lit d (i + 1)) :: (L2, AO.fr ["order", "j"] [some (V.ref (ra i)), some (V.int (j : Nat))]) :: (r2, X) :: (F, AO.fr ["count", "orders"] [some (V.int 4), some (V.ref d)]) :: (cK, AO.cell (some (V.int (t : Nat)))) :: (d, AO.list ((List.range (ordsF t).length).map fun i => V.ref (ra i))) :: (RwL (fun p => if p = i * (t + 1) + j then d5 else na p) (ordR (t + 1)) (i * (t + 1) + j + 1) ++ (RwL ra (ordR t) (ordsF t).length ++ σ)), ?_, _, _, rng_new na d5 _, rfl⟩
          rw [RwL_new d5 _ rfl]
          ((repeat (first | exact Sb.refl | exact Sb.nil | exact Sb.s1 | exact Sb.s2 | exact Sb.s3 | exact Sb.s4 | (apply Sb.take; focus ((repeat (first | exact Pick.head | exact Pick.h1 | exact Pick.h2 | exact Pick.h3 | apply Pick.t4)); done)) | apply Sb.skip)))
        · rintro acc σ' ⟨na, u2, rfl, rfl⟩
          rw [← Nat.succ_mul]
          exact ⟨_, _, .refl, na, _, _, rfl, rfl⟩
      · rintro acc σ' ⟨na, u1, u2, rfl, rfl⟩
        walk_at "E.run"
        have eL : ((List.range (ordsF t).length).map fun i => V.ref (ra i)).length * (t + 1) = (ordsF (t + 1)).length := by
          rw [List.length_map, List.length_range]
          exact (ord_cnt t ht).2
        rw [eL]
        refine ⟨_, (r2, X) :: (F, AO.fr ["count", "orders"] [some (V.int 4), some (V.ref D)]) :: (cK, AO.cell (some (V.int (t : Nat)))) :: (D, AO.list ((List.range (ordsF (t + 1)).length).map fun p => V.ref (na p))) :: (RwL na (ordR (t + 1)) (ordsF (t + 1)).length ++ σ), by (repeat (first | exact Sb.refl | exact Sb.nil | exact Sb.pre _ (Sb.drop _) | (apply Sb.take; focus ((repeat (first | exact Pick.head | apply Pick.tail)); done)) | apply Sb.skip)), ?_⟩
        walk_at "E.run"
        exact ⟨_, .refl, D, na, some (V.int (t : Nat)), rfl⟩
    · rintro _ ⟨d, ra, u, rfl⟩
      have h' := h d ra
      rw [show (ordsF 4).length = 24 by decide +kernel]
      walk_at "E.run"
      exact ⟨_, by ((repeat (first | exact Sb.refl | exact Sb.nil | exact Sb.s1 | exact Sb.s2 | exact Sb.s3 | exact Sb.s4 | (apply Sb.take; focus ((repeat (first | exact Pick.head | exact Pick.h1 | exact Pick.h2 | exact Pick.h3 | apply Pick.t4)); done)) | apply Sb.skip))), h'⟩
theorem rings_ {C : Cx} {A : Around} {σ : Led} {Q : V → Led → Prop} {oa ha : Addr} (o : List Nat) (hh : Nat → Int) (hC : C.Is (Mine.hd.heap_1 C.w.params)) (hA : Fit 8 A) (ho : o ∈ ordsF 4) (h1 : (oa, AO.list (nV o)) ∈ σ) (h2 : (ha, AO.list ((List.range 4).map fun k => V.int (hh k))) ∈ σ)
    (h : Q (.tup [.int ((selRZ hh (ringsF o 4 [0, 1, 2, 3])).length : Nat), .int ((selRZ hh (ringsF o 4 [0, 1, 2, 3])).map hh).sum]) σ) : Call C A σ (.ref 195) [.ref oa, .ref ha] Q := by
  obtain ⟨hlen, hok, hrk⟩ := ord_ring o ho
  have hget : ∀ l, l < 4 → o[l]? = some (o.getD l 0) ∧ o.getD l 0 < 4 := fun l hl => by
    have hl' : l < o.length := by rw [hlen]; exact hl
    rw [List.getD_eq_getElem?_getD, List.getElem?_eq_getElem hl']
    exact ⟨rfl, hok _ (List.getElem_mem hl')⟩
  refine' call_fn (n := 7) (ks := ["order", "left", "places", "above", "total"]) (ps := ["order", "heights"]) (bxs := [.ref oa, .ref ha]) (cn := ["ring", "heights"]) rfl ?ho hA ?nd ?hcn rfl ?hbind ?h ?c1 ?c2
  case ho =>
    intro s H
    refine ⟨_, H.bg.kin _ _ (show C.K.lookup 195 = some _ from (by rw [hC.isK]; k_is)), rfl, ?_⟩
    refine codeRec_of (K := Mine.hd.heap_1 C.w.params) (hC.isK ▸ H.bg.kin) ?_
    k_is
  (((case nd => decide); (case hcn => rfl); (case c1 => rfl); (case c2 => rfl)))
  case hbind => ((intro s as hk r; refine ⟨as, ?_, r⟩; (repeat (obtain ⟨_, _, e, _, r⟩ := r; subst e)); (first | subst r | skip); exact BindsTo.of_eq rfl))
  case h =>
    intro A₁ F cs hcs
    obtain ⟨cR, t1, rfl, g1⟩ := cs_c hcs
    obtain ⟨cH, t2, rfl, g2⟩ := cs_c g1
    cases cs_0 g2
    ((simp only [celled, List.map_cons, List.map_nil, List.cons_append, List.nil_append]))
    show St _ _ _ (storeName _ _) _ _
    walk_at "E.run"
    show St _ _ _ (storeName _ _) _ _
    walk_at "E.run"
    intro A' hA'
    walk_at "E.run"
    refine c_len_list (by ((repeat (first | exact List.Mem.head _ | assumption | apply List.Mem.tail)))) (by rw [nV_len, hlen, sizeLine_eq]; decide) ?_
    rw [nV_len, hlen]
    walk_at "E.run"
    refine c_range1 fun r1 => ?_
    walk_at "E.run"
    refine c_lrange hA'.1 (by walk_at "M.mem") (by decide) (by decide) (by decide) (by decide) (by decide) fun lf => ?_
    walk_at "E.run"
    refine x_whileS (σ₀ := (lf, AO.list (nV [0, 1, 2, 3])) :: (F, AO.fr ["order", "left", "places", "above", "total"] [some (.ref oa), some (.ref lf), some (.int ((0 : Nat) : Int)), some (.int 0), none]) :: (cR, AO.cell none) :: (cH, AO.cell (some (.ref ha))) :: σ) (by ((repeat (first | exact Sb.refl | exact Sb.nil | exact Sb.s1 | exact Sb.s2 | exact Sb.s3 | exact Sb.s4 | (apply Sb.take; focus ((repeat (first | exact Pick.head | exact Pick.h1 | exact Pick.h2 | exact Pick.h3 | apply Pick.t4)); done)) | apply Sb.skip))))
      (fun n σ' => ∃ lf l p s u v, okRings o n l = true ∧ p + (selRZ hh (ringsF o n l)).length = (selRZ hh (ringsF o 4 [0, 1, 2, 3])).length ∧ s + ((selRZ hh (ringsF o n l)).map hh).sum = ((selRZ hh (ringsF o 4 [0, 1, 2, 3])).map hh).sum ∧ (∀ k ∈ l, k < 4) ∧ l.length ≤ 4 ∧ σ' = (lf, AO.list (nV l)) :: (F, AO.fr ["order", "left", "places", "above", "total"] [some (.ref oa), some (.ref lf), some (.int ((p : Nat) : Int)), some (.int s), u]) :: (cR, AO.cell v) :: (cH, AO.cell (some (.ref ha))) :: σ) 4
      ⟨lf, [0, 1, 2, 3], 0, 0, none, none, hrk, Nat.zero_add _, Int.zero_add _, by decide, by decide, rfl⟩ ?_
    rintro n σ' ⟨lf, l, p, s, u, v, hr, hp, hs, hl4, hll, rfl⟩
    walk_at "E.run"
    refine ⟨by rw [sizeLine_eq]; decide, fun l0 => ?_⟩
    refine cmp_lnnil (hA'.le (by decide)) (a := lf) (b := l0) (by walk_at "M.mem") (by walk_at "M.mem") ?_
    walk_at "E.run"
    cases l with
    | nil =>
      rw [if_neg (by decide)]
      have e0 : ringsF o n [] = [] := by cases n <;> rfl
      rw [e0] at hp hs
      have hp : p = (selRZ hh (ringsF o 4 [0, 1, 2, 3])).length := hp
      have hs : s = ((selRZ hh (ringsF o 4 [0, 1, 2, 3])).map hh).sum := by rw [← hs]; exact (Int.add_zero s).symm
      rw [← hp, ← hs] at h
      walk_at "E.run"
      refine ⟨by rw [sizeLine_eq]; show 2 ≤ _; lia, ?_⟩
      walk_at "E.run"
      exact ⟨_, by ((repeat (first | exact Sb.refl | exact Sb.nil | exact Sb.s1 | exact Sb.s2 | exact Sb.s3 | exact Sb.s4 | (apply Sb.take; focus ((repeat (first | exact Pick.head | exact Pick.h1 | exact Pick.h2 | exact Pick.h3 | apply Pick.t4)); done)) | apply Sb.skip))), h⟩
    | cons a l =>
      rw [if_pos (show (!(nV (a :: l)).isEmpty) = true from rfl)]
      cases n with
      | zero => cases hr
      | succ n =>
      have ha4 : a < 4 := hl4 a (.head _)
      obtain ⟨hr1, hr2⟩ := Bool.and_eq_true_iff.mp (show (okRing o a 4 a && okRings o n ((a :: l).filter fun k => !(ringF o a 4 [a] a).contains k)) = true from hr)
      walk_at "E.run"
      refine g_list (by walk_at "M.mem") (by decide) (by decide) rfl ?_
      walk_at "E.run"
      refine ⟨by rw [sizeLine_eq]; show 1 ≤ _; lia, fun rg => ?_⟩
      walk_at "E.run"
      refine x_whileS (σ₀ := (rg, AO.list (nV ([a]))) :: (lf, AO.list (nV (a :: l))) :: (F, AO.fr ["order", "left", "places", "above", "total"] [some (.ref oa), some (.ref lf), some (.int ((p : Nat) : Int)), some (.int s), u]) :: (cR, AO.cell (some (.ref rg))) :: (cH, AO.cell (some (.ref ha))) :: σ) (by ((repeat (first | exact Sb.refl | exact Sb.nil | exact Sb.s1 | exact Sb.s2 | exact Sb.s3 | exact Sb.s4 | (apply Sb.take; focus ((repeat (first | exact Pick.head | exact Pick.h1 | exact Pick.h2 | exact Pick.h3 | apply Pick.t4)); done)) | apply Sb.skip))))
        (fun f σ' => ∃ pre k, okRing o a f k = true ∧ ringF o a f (pre ++ [k]) k = ringF o a 4 [a] a ∧ (pre ++ [k])[0]? = some a ∧ (∀ x ∈ pre ++ [k], x < 4) ∧ pre.length + f ≤ 4 ∧ σ' = (rg, AO.list (nV (pre ++ [k]))) :: (lf, AO.list (nV (a :: l))) :: (F, AO.fr ["order", "left", "places", "above", "total"] [some (.ref oa), some (.ref lf), some (.int ((p : Nat) : Int)), some (.int s), u]) :: (cR, AO.cell (some (.ref rg))) :: (cH, AO.cell (some (.ref ha))) :: σ) 4
        ⟨[], a, hr1, rfl, rfl, by simpa using ha4, Nat.le_refl _, rfl⟩ ?_
      rintro f σ' ⟨pre, k, hf, hR, h0, hx, hpl, rfl⟩
      have hk : k < 4 := hx k (by simp)
      have hpl' : pre.length ≤ 4 := by lia
      have hneg : -((nV (pre ++ [k])).length : Int) ≤ -1 := by rw [nV_len, List.length_append]; simp only [List.length_cons, List.length_nil]; lia
      have hlast : (nV (pre ++ [k]))[((-1 : Int) + ((nV (pre ++ [k])).length : Nat)).toNat]? = some (V.int (k : Nat)) := by
        rw [nV_len, List.length_append, show ((-1 : Int) + ((pre.length + [k].length : Nat) : Int)).toNat = pre.length by simp only [List.length_cons, List.length_nil]; lia]
        exact nV_get (by simp)
      walk_at "E.run"
      refine g_list_neg (by ((repeat (first | exact List.Mem.head _ | assumption | apply List.Mem.tail)))) (by decide) hneg (by decide) hlast ?_
      walk_at "E.run"
      refine ⟨has_list (by ((repeat (first | exact List.Mem.head _ | assumption | apply List.Mem.tail)))), ?_⟩
      refine g_list (by ((repeat (first | exact List.Mem.head _ | assumption | apply List.Mem.tail)))) (by lia) (by lia) (nV_get (by rw [Int.toNat_natCast]; exact (hget k hk).1)) ?_
      walk_at "E.run"
      refine g_list (by ((repeat (first | exact List.Mem.head _ | assumption | apply List.Mem.tail)))) (by decide) (by decide) (nV_get h0) ?_
      walk_at "E.run"
      cases f with
      | zero => cases hf
      | succ f =>
      have hf : (o.getD k 0 == a || okRing o a f (o.getD k 0)) = true := hf
      have hR : (if o.getD k 0 = a then pre ++ [k] else ringF o a f ((pre ++ [k]) ++ [o.getD k 0]) (o.getD k 0)) = ringF o a 4 [a] a := hR
      by_cases e : o.getD k 0 = a
      · rw [if_neg (by rw [e]; simp)]
        rw [if_pos e] at hR
        have hRl : (pre ++ [k]).length ≤ 4 := by rw [List.length_append]; simp only [List.length_cons, List.length_nil]; lia
        clear hlast hneg h0 hf
        generalize pre ++ [k] = R at *
        walk_at "E.run"
        refine' e_lc (ks := ["k"]) (cn := []) ?nd ?hcn ?hclos ?hk ?hn ?_ ?ht ?hs
        (((case nd => decide); (case hcn => rfl); (case hclos => rfl); (case hk => rfl); (case hn => decide); (case ht => intro _ _; rfl); (case hs => intro _; rfl)))
        walk_at "E.run"
        refine it_list (by walk_at "M.mem") fun i3 => ?_
        intro D3 L3 cs3 hcs3
        cases cs_0 hcs3
        ((simp only [celled, List.map_cons, List.map_nil, List.cons_append, List.nil_append]))
        refine' cloop_map (l := nV R) (G := fun σ => (rg, AO.list (nV R)) ∈ σ) (τ := (rg, AO.list (nV R)) :: (lf, AO.list (nV (a :: l))) :: (F, AO.fr ["order", "left", "places", "above", "total"] [some (.ref oa), some (.ref lf), some (.int ((p : Nat) : Int)), some (.int s), u]) :: (cR, AO.cell (some (.ref rg))) :: (cH, AO.cell (some (.ref ha))) :: σ) (fun i => V.int (hh (R.getD i 0))) ?sb3 (iter_list (b := rg) hA'.1) ?hG3 (by rw [nV_len, sizeLine_eq]; lia) rfl rfl ?_ ?_
        case sb3 => ((repeat (first | exact Sb.refl | exact Sb.nil | exact Sb.s1 | exact Sb.s2 | exact Sb.s3 | exact Sb.s4 | (apply Sb.take; focus ((repeat (first | exact Pick.head | exact Pick.h1 | exact Pick.h2 | exact Pick.h3 | apply Pick.t4)); done)) | apply Sb.skip)))
        case hG3 => intro acc u'; walk_at "M.mem"
        · intro i y acc hy hal
          obtain ⟨kk, hkk, rfl⟩ := nV_at hy
          have hk4 := hx kk (List.mem_of_getElem? hkk)
          walk_at "E.run"
          refine ⟨has_list (by ((repeat (first | exact List.Mem.head _ | assumption | apply List.Mem.tail)))), ?_⟩
          refine g_list (by ((repeat (first | exact List.Mem.head _ | assumption | apply List.Mem.tail)))) (by lia) (by lia) (by rw [Int.toNat_natCast, List.getElem?_map, List.getElem?_range hk4]; rfl) ?_
          exact ⟨by rw [getD_of hkk], by ((repeat (first | exact Sb.refl | exact Sb.nil | exact Sb.s1 | exact Sb.s2 | exact Sb.s3 | exact Sb.s4 | (apply Sb.take; focus ((repeat (first | exact Pick.head | exact Pick.h1 | exact Pick.h2 | exact Pick.h3 | apply Pick.t4)); done)) | apply Sb.skip)))⟩
        intro u3
        rw [nV_len, show (List.range R.length).map (fun i => V.int (hh (R.getD i 0))) = (R.map hh).map V.int by rw [List.map_map]; exact map_range_get R _ _ fun i c hc => by rw [getD_of hc]; rfl]
        refine ⟨[u3], (D3, AO.list ((R.map hh).map V.int)) :: (rg, AO.list (nV R)) :: (lf, AO.list (nV (a :: l))) :: (F, AO.fr ["order", "left", "places", "above", "total"] [some (.ref oa), some (.ref lf), some (.int ((p : Nat) : Int)), some (.int s), u]) :: (cR, AO.cell (some (.ref rg))) :: (cH, AO.cell (some (.ref ha))) :: σ, by ((repeat (first | exact Sb.refl | exact Sb.nil | exact Sb.s1 | exact Sb.s2 | exact Sb.s3 | exact Sb.s4 | (apply Sb.take; focus ((repeat (first | exact Pick.head | exact Pick.h1 | exact Pick.h2 | exact Pick.h3 | apply Pick.t4)); done)) | apply Sb.skip))), ?_⟩
        walk_at "E.run"
        refine c_sum (ns := R.map hh) hA'.1 (by walk_at "M.mem") ?_
        (repeat ((fail_if_success (with_reducible (show Mine.X _ _ _ _ (Stmt.If _ _ _ _) _ _ _ _))); walk_at "E.step"))
        refine x_ifJ (fun σ' => ∃ (p' : Nat) (s' : Int), p' = (if 0 < (R.map hh).sum then p + R.length else p) ∧ s' = (if 0 < (R.map hh).sum then s + (R.map hh).sum else s) ∧ Sb ((rg, AO.list (nV R)) :: (lf, AO.list (nV (a :: l))) :: (F, AO.fr ["order", "left", "places", "above", "total"] [some (.ref oa), some (.ref lf), some (.int ((p' : Nat) : Int)), some (.int s'), some (.int (R.map hh).sum)]) :: (cR, AO.cell (some (.ref rg))) :: (cH, AO.cell (some (.ref ha))) :: σ) σ') ?_ ?_
        · walk_at "E.run"
          by_cases hT : 0 < (R.map hh).sum
          · rw [if_pos (by simpa using hT)]
            walk_at "E.run"
            refine c_len_list (by walk_at "M.mem") (by rw [nV_len, sizeLine_eq]; lia) ?_
            rw [nV_len]
            walk_at "E.run"
            refine ⟨p + R.length, s + (R.map hh).sum, (if_pos hT).symm, (if_pos hT).symm, ?_⟩
            rw [Int.natCast_add]
            ((repeat (first | exact Sb.refl | exact Sb.nil | exact Sb.s1 | exact Sb.s2 | exact Sb.s3 | exact Sb.s4 | (apply Sb.take; focus ((repeat (first | exact Pick.head | exact Pick.h1 | exact Pick.h2 | exact Pick.h3 | apply Pick.t4)); done)) | apply Sb.skip)))
          · rw [if_neg (by simpa using hT)]
            walk_at "E.run"
            exact ⟨p, s, (if_neg hT).symm, (if_neg hT).symm, by ((repeat (first | exact Sb.refl | exact Sb.nil | exact Sb.s1 | exact Sb.s2 | exact Sb.s3 | exact Sb.s4 | (apply Sb.take; focus ((repeat (first | exact Pick.head | exact Pick.h1 | exact Pick.h2 | exact Pick.h3 | apply Pick.t4)); done)) | apply Sb.skip)))⟩
        rintro σ' ⟨p', s', ep, es, sb⟩
        refine Xs.sb sb ?_
        walk_at "E.run"
        refine' x_lc (ks := ["k"]) (cn := []) ?nd ?hcn ?hclos ?hk ?hn ?_ ?ht ?hs ?hsw
        (((case nd => decide); (case hcn => rfl); (case hclos => rfl); (case hk => rfl); (case hn => decide); (case ht => intro _ _; rfl); (case hs => intro _; rfl)))
        case hsw => rfl
        walk_at "E.run"
        refine it_list (by walk_at "M.mem") fun i4 => ?_
        intro D4 L4 cs4 hcs4
        cases cs_0 hcs4
        ((simp only [celled, List.map_cons, List.map_nil, List.cons_append, List.nil_append]))
        refine' cloop_fmap (l := nV (a :: l)) (G := fun σ => (lf, AO.list (nV (a :: l))) ∈ σ) (τ := (rg, AO.list (nV R)) :: (lf, AO.list (nV (a :: l))) :: (F, AO.fr ["order", "left", "places", "above", "total"] [some (.ref oa), some (.ref lf), some (.int ((p' : Nat) : Int)), some (.int s'), some (.int (R.map hh).sum)]) :: (cR, AO.cell (some (.ref rg))) :: (cH, AO.cell (some (.ref ha))) :: σ) (fun i => !(R.contains ((a :: l).getD i 0))) (fun i => V.int ((a :: l).getD i 0 : Nat)) ?sb4 (iter_list (b := lf) hA'.1) ?hG4 (by rw [nV_len, sizeLine_eq]; lia) rfl rfl ?_ ?_ ?_
        case sb4 => ((repeat (first | exact Sb.refl | exact Sb.nil | exact Sb.s1 | exact Sb.s2 | exact Sb.s3 | exact Sb.s4 | (apply Sb.take; focus ((repeat (first | exact Pick.head | exact Pick.h1 | exact Pick.h2 | exact Pick.h3 | apply Pick.t4)); done)) | apply Sb.skip)))
        case hG4 => intro acc u'; walk_at "M.mem"
        · intro i y acc X hy
          obtain ⟨kk, hkk, rfl⟩ := nV_at hy
          walk_at "E.run"
          refine cmp_ninI (ns := R.map fun (k : Nat) => (k : Int)) (by ((repeat (first | exact List.Mem.head _ | assumption | apply List.Mem.tail)))) ?_
          rw [nV_any]
          walk_at "E.run"
          exact ⟨by rw [getD_of hkk], by ((repeat (first | exact Sb.refl | exact Sb.nil | exact Sb.s1 | exact Sb.s2 | exact Sb.s3 | exact Sb.s4 | (apply Sb.take; focus ((repeat (first | exact Pick.head | exact Pick.h1 | exact Pick.h2 | exact Pick.h3 | apply Pick.t4)); done)) | apply Sb.skip)))⟩
        · intro i y acc X hy hp' hal
          obtain ⟨kk, hkk, rfl⟩ := nV_at hy
          walk_at "E.run"
          exact ⟨by rw [getD_of hkk], by ((repeat (first | exact Sb.refl | exact Sb.nil | exact Sb.s1 | exact Sb.s2 | exact Sb.s3 | exact Sb.s4 | (apply Sb.take; focus ((repeat (first | exact Pick.head | exact Pick.h1 | exact Pick.h2 | exact Pick.h3 | apply Pick.t4)); done)) | apply Sb.skip)))⟩
        intro u4
        rw [nV_len, filt_get (a :: l) fun k => !(R.contains k)]
        walk_at "E.run"
        refine ⟨[u4], (D4, AO.list (nV ((a :: l).filter fun k => !(R.contains k)))) :: (F, AO.fr ["order", "left", "places", "above", "total"] [some (.ref oa), some (.ref D4), some (.int ((p' : Nat) : Int)), some (.int s'), some (.int (R.map hh).sum)]) :: (cR, AO.cell (some (.ref rg))) :: (cH, AO.cell (some (.ref ha))) :: σ, by ((repeat (first | exact Sb.refl | exact Sb.nil | exact Sb.s1 | exact Sb.s2 | exact Sb.s3 | exact Sb.s4 | (apply Sb.take; focus ((repeat (first | exact Pick.head | exact Pick.h1 | exact Pick.h2 | exact Pick.h3 | apply Pick.t4)); done)) | apply Sb.skip))), ?_⟩
        have hp : p + (selRZ hh (R :: ringsF o n ((a :: l).filter fun k => !(R.contains k)))).length = (selRZ hh (ringsF o 4 [0, 1, 2, 3])).length := by rw [hR]; exact hp
        have hs : s + ((selRZ hh (R :: ringsF o n ((a :: l).filter fun k => !(R.contains k)))).map hh).sum = ((selRZ hh (ringsF o 4 [0, 1, 2, 3])).map hh).sum := by rw [hR]; exact hs
        rw [← hR] at hr2
        have hfl := List.length_filter_le (fun k => !(R.contains k)) (a :: l)
        walk_at "E.run"
        refine ⟨n, Nat.lt_succ_self n, _, .refl, D4, _, p', s', _, _, hr2, ?_, ?_, fun k hk => hl4 k (List.mem_filter.mp hk).1, Nat.le_trans hfl hll, rfl⟩
        · rw [ep, ← hp, selRZ]
          by_cases hT : 0 < (R.map hh).sum
          · rw [if_pos hT, if_pos hT, List.length_append, Nat.add_assoc]
          · rw [if_neg hT, if_neg hT]
        · rw [es, ← hs, selRZ]
          by_cases hT : 0 < (R.map hh).sum
          · rw [if_pos hT, if_pos hT, List.map_append, List.sum_append, Int.add_assoc]
          · rw [if_neg hT, if_neg hT]
      · have q : ((o.getD k 0 : Nat) : Int) ≠ ((a : Nat) : Int) := fun q => e (Int.ofNat.inj q)
        rw [if_pos (by simpa using q)]
        rw [if_neg e] at hR
        rw [show (o.getD k 0 == a) = false by simpa using e, Bool.false_or] at hf
        walk_at "E.run"
        refine m_append (by walk_at "M.mem") ?_
        walk_at "E.run"
        refine g_list_neg (by ((repeat (first | exact List.Mem.head _ | assumption | apply List.Mem.tail)))) (by decide) hneg (by decide) hlast ?_
        walk_at "E.run"
        refine ⟨has_list (by ((repeat (first | exact List.Mem.head _ | assumption | apply List.Mem.tail)))), ?_⟩
        refine g_list (by ((repeat (first | exact List.Mem.head _ | assumption | apply List.Mem.tail)))) (by lia) (by lia) (nV_get (by rw [Int.toNat_natCast]; exact (hget k hk).1)) ?_
        walk_at "E.run"
        refine c_append (by walk_at "M.lu") (by rw [nV_len, List.length_append, sizeLine_eq]; simp only [List.length_cons, List.length_nil]; lia) ?_
        rw [show nV (pre ++ [k]) ++ [V.int (o.getD k 0 : Nat)] = nV ((pre ++ [k]) ++ [o.getD k 0]) by simp only [nV, List.map_append]; rfl]
        walk_at "E.run"
        refine ⟨f, Nat.lt_succ_self f, _, .refl, pre ++ [k], o.getD k 0, hf, hR, ?_, ?_, ?_, rfl⟩
        · rw [List.getElem?_append_left (by simp)]; exact h0
        · intro x hxx
          rcases List.mem_append.mp hxx with q | q
          · exact hx x q
          · rw [List.mem_singleton.mp q]; exact (hget k hk).2
        · rw [List.length_append]; simp only [List.length_cons, List.length_nil]; lia
theorem app_lt : ∀ {l m : List Nat} {x y : Nat}, l.length = m.length → (l ++ [x] < m ++ [y] ↔ l < m ∨ (l = m ∧ x < y))
  | [], [], x, y, _ => by simp [List.cons_lt_cons_iff]
  | [], _ :: _, _, _, h => by cases h
  | _ :: _, [], _, _, h => by cases h
  | a :: l, b :: m, x, y, h => by
    have i := app_lt (x := x) (y := y) (Nat.succ.inj h)
    rw [List.cons_append, List.cons_append, List.cons_lt_cons_iff, List.cons_lt_cons_iff, i]
    constructor
    · rintro (p | ⟨rfl, p | ⟨rfl, p⟩⟩)
      · exact .inl (.inl p)
      · exact .inl (.inr ⟨rfl, p⟩)
      · exact .inr ⟨rfl, p⟩
    · rintro ((p | ⟨rfl, p⟩) | ⟨e, p⟩)
      · exact .inl p
      · exact .inr ⟨rfl, .inl p⟩
      · cases e
        exact .inr ⟨rfl, .inr ⟨rfl, p⟩⟩
noncomputable def ShL (l m : List Nat) : Prop := l.length < m.length ∨ (l.length = m.length ∧ l < m)
theorem ShL.irr (l : List Nat) : ¬ ShL l l := by
  rintro (h | ⟨_, h⟩)
  · exact Nat.lt_irrefl _ h
  · exact List.lt_irrefl _ h
theorem hw_sh : ∀ (a b : Nat), ShL (hw a) (hw b) ↔ a < b := by
  intro a
  induction a using Nat.strongRecOn with
  | ind a ih =>
    intro b
    by_cases ha : a = 0
    · subst ha
      by_cases hb : b = 0
      · subst hb; exact ⟨fun h => absurd h (ShL.irr _), fun h => absurd h (Nat.lt_irrefl _)⟩
      · refine ⟨fun _ => Nat.pos_of_ne_zero hb, fun _ => .inl ?_⟩
        rw [hw_zero, hw_pos hb, List.length_append]; exact Nat.succ_pos _
    · by_cases hb : b = 0
      · subst hb
        refine ⟨fun h => ?_, fun h => absurd h (Nat.not_lt_zero _)⟩
        rw [hw_zero] at h
        rcases h with h | ⟨h, _⟩
        · exact absurd h (Nat.not_lt_zero _)
        · rw [hw_pos ha, List.length_append] at h; cases h
      · have d : a / 16 < a := Nat.div_lt_self (Nat.pos_of_ne_zero ha) (by decide)
        have i := ih (a / 16) d (b / 16)
        have inj : hw (a / 16) = hw (b / 16) → a / 16 = b / 16 := by
          intro e
          rcases Nat.lt_trichotomy (a / 16) (b / 16) with h | h | h
          · have := i.mpr h; rw [e] at this; exact absurd this (ShL.irr _)
          · exact h
          · have := (ih (b / 16) (Nat.lt_trans h d) (a / 16)).mpr h
            rw [e] at this; exact absurd this (ShL.irr _)
        have q : a < b ↔ a / 16 < b / 16 ∨ (a / 16 = b / 16 ∧ a % 16 < b % 16) := by clear inj i ih; omega
        rw [q, hw_pos ha, hw_pos hb, ← i]
        unfold ShL
        rw [List.length_append, List.length_append]
        constructor
        · rintro (h | ⟨h, p⟩)
          · exact .inl (.inl (Nat.lt_of_add_lt_add_right h))
          · have h' := Nat.add_right_cancel h
            rcases (app_lt h').mp p with p | ⟨e, p⟩
            · exact .inl (.inr ⟨h', p⟩)
            · exact .inr ⟨inj e, by omega⟩
        · rintro ((h | ⟨h, p⟩) | ⟨e, p⟩)
          · exact .inl (Nat.add_lt_add_right h 1)
          · exact .inr ⟨congrArg (· + 1) h, (app_lt h).mpr (.inl p)⟩
          · rw [e]
            exact .inr ⟨rfl, (app_lt rfl).mpr (.inr ⟨rfl, by omega⟩)⟩
theorem chars_list (w : List Nat) : (List.range w.length).map (fun i => V.str (S [w.getD i 0])) = strsV (w.map fun c => [c]) := by
  rw [strsV, List.map_map]
  exact map_range_get w _ _ fun i c hc => by simp [List.getD_eq_getElem?_getD, hc]
theorem m1bits (k : Nat) : Builtin.Int.intBits ((-1) ^ k) ≤ 64 := intBits_le_iff.mpr (by rw [Int.natAbs_pow]; simp)
theorem pow1b' {k : Nat} (h : k < 100) : Builtin.Int.intBits (-1) * ((k : Nat) : Int) ≤ 2 ^ 27 := by
  rw [show Builtin.Int.intBits (-1) = 1 by decide]; lia
theorem abs_alt' (n k : Nat) : ((n : Int) * (-1) ^ k).natAbs = n := by
  rw [Int.natAbs_mul, Int.natAbs_pow]; simp
theorem strsV_at {l : List (List Nat)} {k : Nat} {y : V} (h : (strsV l)[k]? = some y) : ∃ w, l[k]? = some w ∧ y = .str (S w) := by
  rw [strsV, List.getElem?_map] at h
  obtain ⟨w, hw, rfl⟩ := Option.map_eq_some_iff.mp h
  exact ⟨w, hw, rfl⟩
theorem gt_sh (a b : Nat) : (decide (((hw b).length : Int) < ((hw a).length : Int)) || (((hw a).length : Int) == ((hw b).length : Int) && decide ((S (hw b)).cps.toList < (S (hw a)).cps.toList))) = decide (b < a) := by
  rw [Bool.eq_iff_iff, S_cps, S_cps, decide_eq_true_iff, ← hw_sh]
  unfold ShL
  simp only [Bool.or_eq_true, Bool.and_eq_true, decide_eq_true_iff, beq_iff_eq]
  constructor
  · rintro (h | ⟨h, g⟩)
    · exact .inl (by lia)
    · exact .inr ⟨by lia, g⟩
  · rintro (h | ⟨h, g⟩)
    · exact .inl (by lia)
    · exact .inr ⟨by lia, g⟩
noncomputable def Kn (F : Int → Option V) : Prop := ∀ i v, F i = some v → v = .str (S (hw i.natAbs))
theorem Kn.put {F : Int → Option V} (h : Kn F) (n : Nat) : Kn (fun i => if i = (n : Int) then some (.str (S (hw n))) else F i) := by
  intro i v e
  dsimp only at e
  by_cases c : i = (n : Int)
  · rw [if_pos c] at e
    cases e
    rw [c, Int.natAbs_natCast]
  · rw [if_neg c] at e
    exact h i v e
theorem sel_test (d : Nat → Nat) (m x : Nat) (l : List Nat) : (0 < (((d x : Nat) : Int) - (m : Nat)) + (0 + (l.map (fun k => ((d k : Nat) : Int) - (m : Nat))).sum)) ↔ (m * (l.length + 1) < ((l ++ [x]).map d).sum) := by
  rw [h_sum, List.map_append, List.sum_append, Nat.mul_succ, List.map_cons, List.map_nil, List.sum_cons, List.sum_nil]
  refine ⟨fun h => ?_, fun h => ?_⟩ <;> lia
theorem ite_iff {α : Type} {p q : Prop} [Decidable p] [Decidable q] (h : p ↔ q) (a b : α) : (if p then a else b) = if q then a else b := by
  by_cases c : p
  · rw [if_pos c, if_pos (h.mp c)]
  · rw [if_neg c, if_neg fun x => c (h.mpr x)]
theorem rev_take {α : Type} (l : List α) {i : Nat} (h : i < l.length) : ∃ y, l.take (l.length - i) = l.take (l.length - (i + 1)) ++ [y] ∧ l.reverse.take (i + 1) = l.reverse.take i ++ [y] := by
  refine ⟨l[l.length - 1 - i]'(by lia), ?_, ?_⟩
  · rw [show l.length - i = (l.length - 1 - i) + 1 by lia, show l.length - (i + 1) = l.length - 1 - i by lia, List.take_add_one, List.getElem?_eq_getElem (by lia)]; rfl
  · rw [List.take_add_one, List.getElem?_reverse h, List.getElem?_eq_getElem (by lia)]; rfl
theorem parted_ {C : Cx} {A : Around} {σ : Led} {Q : V → Led → Prop} {L : LxA} {wa wd ba kd : Addr} {nw : Nat} {Fw : Str → Option V} (o : List Nat) (d : Nat → Nat) (m : Nat) (hC : C.Is (Mine.hd.heap_1 C.w.params)) (hM : C.Main (Str.ofString "/claim/cut.py")) (hA : Fit 20 A)
    (hol : o.length = 4) (hok : ∀ k ∈ o, k < 4) (hd : ∀ k, d k ≤ 2 ^ 40) (hm : m ≤ 2 ^ 40) (hW : ∀ k, k < 4 → Fw (S (hw (d k))) = some (.int (d k : Nat))) {ln : Int} {x : List Nat} {pos nk : Nat} {Fk : Int → Option V} (hn : nk ≤ 1000) (hds : (kd == sysModules) = false) (hk : Kn Fk)
    (h1 : (wa, AO.list (strsV (o.map fun k => hw (d k)))) ∈ σ) (h2 : (wd, AO.dct (strKind C.prog C.w) nw Fw) ∈ σ) (h3 : (ba, AO.list (strsV ((List.range 4).map fun k => hw (m * (k + 1))))) ∈ σ)
    (h : ∀ ta la n' F', n' ≤ nk + 4 → Kn F' → Q (.tup [.ref ta, .ref la]) ((ta, AO.list (((plcF (fun k => ((d k : Nat) : Int) - (m : Nat)) (o) 0 0).map fun q => pairV (reps q.1 [32], hw (d q.2)))).reverse) :: (la, AO.list (strsV ((selN (fun k => ((d k : Nat) : Int) - (m : Nat)) o 0).map fun k => hw (d k)))) :: (kd, AO.dct (intKind C.prog C.w) (n') (F')) :: Lx 150 L ln ([]) x pos σ)) :
    Call C A ((kd, AO.dct (intKind C.prog C.w) (nk) (Fk)) :: Lx 150 L ln ([]) x pos σ) (.ref 185) [.ref L.lx, .ref wa, .ref wd, .ref ba, .ref kd] Q := by
  have hbig : ∀ l : List Nat, l.length ≤ 4 → (l.map d).sum < 16 ^ 100 := fun l hl => Nat.lt_of_le_of_lt (Nat.le_trans (d_sum d (2 ^ 40) hd l) (Nat.mul_le_mul_right _ hl)) (by decide)
  refine' call_fn (n := 19) (ks := ["words", "worth", "bars", "known", "word", "total", "k", "taken"]) (ps := ["lexer", "words", "worth", "bars", "known"]) (bxs := [.ref L.lx, .ref wa, .ref wd, .ref ba, .ref kd]) (cn := ["pile", "lexer"]) rfl ?ho hA ?nd ?hcn rfl ?hbind ?h ?c1 ?c2
  case ho =>
    intro s H
    refine ⟨_, H.bg.kin _ _ (show C.K.lookup 185 = some _ from (by rw [hC.isK]; k_is)), rfl, ?_⟩
    refine codeRec_of (K := Mine.hd.heap_1 C.w.params) (hC.isK ▸ H.bg.kin) ?_
    k_is
  (((case nd => decide); (case hcn => rfl); (case c1 => rfl); (case c2 => rfl)))
  case hbind => ((intro s as hk r; refine ⟨as, ?_, r⟩; (repeat (obtain ⟨_, _, e, _, r⟩ := r; subst e)); (first | subst r | skip); exact BindsTo.of_eq rfl))
  case h =>
    intro A₁ F cs hcs
    obtain ⟨cP, t1, rfl, g1⟩ := cs_c hcs
    obtain ⟨cL, t2, rfl, g2⟩ := cs_c g1
    cases cs_0 g2
    ((simp only [celled, List.map_cons, List.map_nil, List.cons_append, List.nil_append]))
    show St _ _ _ (storeName _ _) _ _
    walk_at "E.run"
    show St _ _ _ (storeName _ _) _ _
    walk_at "E.run"
    show St _ _ _ (storeName _ _) _ _
    walk_at "E.run"
    show St _ _ _ (storeName _ _) _ _
    walk_at "E.run"
    show St _ _ _ (storeName _ _) _ _
    walk_at "E.run"
    intro A' hA'
    walk_at "E.run"
    refine accmake0_ hC hM (hA'.le (by decide)) fun xa da => ?_
    walk_at "E.run"
    refine x_for' ?_
    walk_at "E.run"
    refine it_list (by ((repeat (first | exact List.Mem.head _ | assumption | apply List.Mem.tail)))) fun i0 => ?_
    refine loop_it (σ' := (xa, AO.seq (.ref 101) (some da) ([])) :: (da, AO.attrs ["_initial_size"] [some (.int 0)]) :: (F, AO.fr ["words", "worth", "bars", "known", "word", "total", "k", "taken"] [some (.ref wa), some (.ref wd), some (.ref ba), some (.ref kd), none, none, none, none]) :: (cP, AO.cell (some (.ref xa))) :: (cL, AO.cell (some (.ref L.lx))) :: (kd, AO.dct (intKind C.prog C.w) (nk) (Fk)) :: Lx 150 L ln ((o.take 0).map fun k => hw (d k)) x pos σ) (by ((repeat (first | exact Sb.refl | exact Sb.nil | exact Sb.s1 | exact Sb.s2 | exact Sb.s3 | exact Sb.s4 | (apply Sb.take; focus ((repeat (first | exact Pick.head | exact Pick.h1 | exact Pick.h2 | exact Pick.h3 | apply Pick.t4)); done)) | apply Sb.skip)))) (iter_list (b := wa) (l := strsV (o.map fun k => hw (d k))) hA'.1)
      (fun t σ' => ∃ u, σ' = (xa, AO.seq (.ref 101) (some da) ([])) :: (da, AO.attrs ["_initial_size"] [some (.int 0)]) :: (F, AO.fr ["words", "worth", "bars", "known", "word", "total", "k", "taken"] [some (.ref wa), some (.ref wd), some (.ref ba), some (.ref kd), u, none, none, none]) :: (cP, AO.cell (some (.ref xa))) :: (cL, AO.cell (some (.ref L.lx))) :: (kd, AO.dct (intKind C.prog C.w) (nk) (Fk)) :: Lx 150 L ln ((o.take t).map fun k => hw (d k)) x pos σ) ⟨none, rfl⟩ (by rintro t _ ⟨u, rfl⟩; ((repeat (first | exact List.Mem.head _ | assumption | apply List.Mem.tail)))) ?_ ?_
    · rintro t y σ' hy ⟨u, rfl⟩
      obtain ⟨w, hw', rfl⟩ := strsV_at hy
      have ht : t < o.length := by have := (List.getElem?_eq_some_iff.mp hw').1; rwa [List.length_map] at this
      walk_at "E.run"
      (refine m_fn (by assumption) (isI_inst (by walk_at "M.mem")) (by walk_at "M.mem") (by decide) (by kernel_rfl) (f := 147) (by kernel_rfl) (by kernel_rfl) ?_)
      walk_at "E.run"
      refine Call.sb (σ' := Lx 150 L ln ((o.take t).map fun k => hw (d k)) x pos ((i0, AO.lit wa (t + 1)) :: (xa, AO.seq (.ref 101) (some da) ([])) :: (da, AO.attrs ["_initial_size"] [some (.int 0)]) :: (F, AO.fr ["words", "worth", "bars", "known", "word", "total", "k", "taken"] [some (.ref wa), some (.ref wd), some (.ref ba), some (.ref kd), some (.str (S w)), none, none, none]) :: (cP, AO.cell (some (.ref xa))) :: (cL, AO.cell (some (.ref L.lx))) :: (kd, AO.dct (intKind C.prog C.w) (nk) (Fk)) :: σ)) (by ((repeat (first | exact Sb.refl | exact Sb.nil | exact Sb.s1 | exact Sb.s2 | exact Sb.s3 | exact Sb.s4 | (apply Sb.take; focus ((repeat (first | exact Pick.head | exact Pick.h1 | exact Pick.h2 | exact Pick.h3 | apply Pick.t4)); done)) | apply Sb.skip)))) (push_ hC (hA'.le (by decide)) (by rw [List.length_map, List.length_take]; lia) ?_)
      walk_at "E.run"
      rw [show (o.take t).map (fun k => hw (d k)) ++ [w] = (o.take (t + 1)).map fun k => hw (d k) by
        rw [take_snoc ht, List.map_append]
        rw [List.getElem?_map, List.getElem?_eq_getElem ht] at hw'
        cases hw'
        rw [List.getD_eq_getElem?_getD, List.getElem?_eq_getElem ht]; rfl]
      exact ⟨_, by ((repeat (first | exact Sb.refl | exact Sb.nil | exact Sb.s1 | exact Sb.s2 | exact Sb.s3 | exact Sb.s4 | (apply Sb.take; focus ((repeat (first | exact Pick.head | exact Pick.h1 | exact Pick.h2 | exact Pick.h3 | apply Pick.t4)); done)) | apply Sb.skip))), some (.str (S w)), rfl⟩
    rintro σ' ⟨u, rfl⟩
    rw [strsV_len, List.length_map, List.take_length]
    walk_at "E.run"
    refine x_for' ?_
    walk_at "E.run"
    refine c_range1 fun r1 => ?_
    refine it_range (by walk_at "M.mem") (by decide) (by decide) (by lia) (by lia) fun r2 => ?_
    refine' loop_rangeX (n := 4) (σ' := (xa, AO.seq (.ref 101) (some da) ([])) :: (da, AO.attrs ["_initial_size"] [some (.int 0)]) :: (F, AO.fr ["words", "worth", "bars", "known", "word", "total", "k", "taken"] [some (.ref wa), some (.ref wd), some (.ref ba), some (.ref kd), u, (some (.int ((0 : Nat) : Int))), none, none]) :: (cP, AO.cell (some (.ref xa))) :: (cL, AO.cell (some (.ref L.lx))) :: (kd, AO.dct (intKind C.prog C.w) (nk) (Fk)) :: Lx 150 L ln (((o.drop 0) ++ selN (fun k => ((d k : Nat) : Int) - (m : Nat)) (o.take 0) 0).map fun k => hw (d k)) x pos σ) ?sb rfl hA'.1
      (fun k σ' => ∃ n' F' u1 u2, n' ≤ nk + k ∧ Kn F' ∧ σ' = (xa, AO.seq (.ref 101) (some da) ((plcF (fun k => ((d k : Nat) : Int) - (m : Nat)) (o.take k) 0 0).map fun q => pairV (reps q.1 [32], hw (d q.2)))) :: (da, AO.attrs ["_initial_size"] [some (.int 0)]) :: (F, AO.fr ["words", "worth", "bars", "known", "word", "total", "k", "taken"] [some (.ref wa), some (.ref wd), some (.ref ba), some (.ref kd), u1, (some (.int ((((o.take k).map d).sum : Nat) : Int))), u2, none]) :: (cP, AO.cell (some (.ref xa))) :: (cL, AO.cell (some (.ref L.lx))) :: (kd, AO.dct (intKind C.prog C.w) (n') (F')) :: Lx 150 L ln (((o.drop k) ++ selN (fun k => ((d k : Nat) : Int) - (m : Nat)) (o.take k) 0).map fun k => hw (d k)) x pos σ) ?z0 ?_ ?_
    case sb =>
      rw [show (o.drop 0) ++ selN (fun k => ((d k : Nat) : Int) - (m : Nat)) (o.take 0) 0 = o by rw [List.drop_zero, List.take_zero]; exact List.append_nil o]
      ((repeat (first | exact Sb.refl | exact Sb.nil | exact Sb.s1 | exact Sb.s2 | exact Sb.s3 | exact Sb.s4 | (apply Sb.take; focus ((repeat (first | exact Pick.head | exact Pick.h1 | exact Pick.h2 | exact Pick.h3 | apply Pick.t4)); done)) | apply Sb.skip)))
    case z0 => exact ⟨nk, Fk, u, none, Nat.le_refl _, hk, rfl⟩
    · rintro k X σ' hk4 ⟨n', F', u1, u2, hn', hF', rfl⟩
      have hko : k < o.length := by lia
      have hx4 := hok (o.getD k 0) (by rw [List.getD_eq_getElem?_getD, List.getElem?_eq_getElem hko]; exact List.getElem_mem hko)
      have hlk : (o.take (k + 1)).length = k + 1 := by rw [List.length_take]; lia
      have hlk0 : (o.take k).length = k := by rw [List.length_take]; lia
      have hTb := hbig (o.take (k + 1)) (by lia)
      have hcnt := plcF_cnt (fun k => ((d k : Nat) : Int) - (m : Nat)) (o.take k) 0 0
      rw [hlk0] at hcnt
      have hsn := take_snoc hko
      have eT : (((o.take k).map d).sum : Int) + ((d (o.getD k 0) : Nat) : Int) = (((o.take (k + 1)).map d).sum : Nat) := by
        rw [hsn, List.map_append, List.sum_append]
        rw [List.map_cons, List.map_nil, List.sum_cons, List.sum_nil]; lia
      have tst := sel_test d m (o.getD k 0) (o.take k)
      rw [hlk0, ← hsn] at tst
      have pa := plcF_app (fun k => ((d k : Nat) : Int) - (m : Nat)) (o.getD k 0) (o.take k) 0 0
      have sa := selN_app (fun k => ((d k : Nat) : Int) - (m : Nat)) (o.getD k 0) (o.take k) 0
      rw [← hsn, ite_iff tst] at pa sa
      rw [hlk0, Nat.zero_add] at pa
      rw [drop_head hko, List.cons_append, List.map_cons]
      walk_at "E.run"
      (refine m_fn (by assumption) (isI_inst (by walk_at "M.mem")) (by walk_at "M.mem") (by decide) (by kernel_rfl) (f := 140) (by kernel_rfl) (by kernel_rfl) ?_)
      walk_at "E.run"
      refine Call.sb (σ' := Lx 150 L ln (hw (d (o.getD k 0)) :: ((o.drop (k + 1)) ++ selN (fun k => ((d k : Nat) : Int) - (m : Nat)) (o.take k) 0).map fun k => hw (d k)) x pos ((r2, X) :: (xa, AO.seq (.ref 101) (some da) ((plcF (fun k => ((d k : Nat) : Int) - (m : Nat)) (o.take k) 0 0).map fun q => pairV (reps q.1 [32], hw (d q.2)))) :: (da, AO.attrs ["_initial_size"] [some (.int 0)]) :: (F, AO.fr ["words", "worth", "bars", "known", "word", "total", "k", "taken"] [some (.ref wa), some (.ref wd), some (.ref ba), some (.ref kd), u1, (some (.int ((((o.take k).map d).sum : Nat) : Int))), (some (.int ((k : Nat) : Int))), none]) :: (cP, AO.cell (some (.ref xa))) :: (cL, AO.cell (some (.ref L.lx))) :: (kd, AO.dct (intKind C.prog C.w) (n') (F')) :: σ)) (by ((repeat (first | exact Sb.refl | exact Sb.nil | exact Sb.s1 | exact Sb.s2 | exact Sb.s3 | exact Sb.s4 | (apply Sb.take; focus ((repeat (first | exact Pick.head | exact Pick.h1 | exact Pick.h2 | exact Pick.h3 | apply Pick.t4)); done)) | apply Sb.skip)))) (getp_ hC (hA'.le (by decide)) (by rw [List.length_map, List.length_append, List.length_drop]; lia) ?_)
      walk_at "E.run"
      refine ⟨has_dct (knd := strKind C.prog C.w) (by ((repeat (first | exact List.Mem.head _ | assumption | apply List.Mem.tail)))), ?_⟩
      refine g_dct (knd := strKind C.prog C.w) (by ((repeat (first | exact List.Mem.head _ | assumption | apply List.Mem.tail)))) (key_str _) (hW _ hx4) ?_
      (repeat ((fail_if_success (with_reducible (show Mine.X _ _ _ _ (Stmt.If _ _ _ _) _ _ _ _))); walk_at "E.step"))
      rw [eT]
      generalize hT : ((o.take (k + 1)).map d).sum = T at *
      have hwl := hw_len 100 T hTb
      refine x_ifJ (fun σ' => ∃ n' F', n' ≤ nk + (k + 1) ∧ Kn F' ∧ F' (T : Nat) = some (.str (S (hw T))) ∧ Sb ((r2, X) :: (xa, AO.seq (.ref 101) (some da) ((plcF (fun k => ((d k : Nat) : Int) - (m : Nat)) (o.take k) 0 0).map fun q => pairV (reps q.1 [32], hw (d q.2)))) :: (da, AO.attrs ["_initial_size"] [some (.int 0)]) :: (F, AO.fr ["words", "worth", "bars", "known", "word", "total", "k", "taken"] [some (.ref wa), some (.ref wd), some (.ref ba), some (.ref kd), (some (.str (S (hw (d (o.getD k 0)))))), (some (.int ((T : Nat) : Int))), (some (.int ((k : Nat) : Int))), none]) :: (cP, AO.cell (some (.ref xa))) :: (cL, AO.cell (some (.ref L.lx))) :: (kd, AO.dct (intKind C.prog C.w) (n') (F')) :: Lx 150 L ln (((o.drop (k + 1)) ++ selN (fun k => ((d k : Nat) : Int) - (m : Nat)) (o.take k) 0).map fun k => hw (d k)) x pos σ) σ') ?_ ?_
      · walk_at "E.run"
        refine cmp_nindct (knd := intKind C.prog C.w) (by ((repeat (first | exact List.Mem.head _ | assumption | apply List.Mem.tail)))) hds (key_int _) ?_
        walk_at "E.run"
        cases hFT : F' (T : Nat) with
        | some v =>
          rw [if_neg (by simp)]
          walk_at "E.run"
          have ev := hF' _ _ hFT
          rw [Int.natAbs_natCast] at ev
          exact ⟨n', F', by lia, hF', by rw [hFT, ev], by ((repeat (first | exact Sb.refl | exact Sb.nil | exact Sb.s1 | exact Sb.s2 | exact Sb.s3 | exact Sb.s4 | (apply Sb.take; focus ((repeat (first | exact Pick.head | exact Pick.h1 | exact Pick.h2 | exact Pick.h3 | apply Pick.t4)); done)) | apply Sb.skip)))⟩
        | none =>
          rw [if_pos (by simp)]
          walk_at "E.run"
          refine m_join ?_
          walk_at "E.run"
          refine' e_lc (ks := ["octet"]) (cn := []) ?nd ?hcn ?hclos ?hk ?hn ?_ ?ht ?hs
          (((case nd => decide); (case hcn => rfl); (case hclos => rfl); (case hk => rfl); (case hn => decide); (case ht => intro _ _; rfl); (case hs => intro _; rfl)))
          walk_at "E.run"
          refine bin_pow (by lia) (pow1b' (by lia)) ?_
          rw [Int.toNat_natCast]
          refine bin_mul ?_ (IntMulOk.of_right (m1bits k))
          walk_at "E.run"
          refine int2ap_ hC (hA'.le (by decide)) _ (by rw [abs_alt']; exact hTb) ?_
          rw [abs_alt']
          refine it_bytes fun bi => ?_
          intro D LC cs hcs
          cases cs_0 hcs
          ((simp only [celled, List.map_cons, List.map_nil, List.cons_append, List.nil_append]))
          refine' cloop_map (l := octets (Bs (hw T))) (τ := (r2, X) :: (xa, AO.seq (.ref 101) (some da) ((plcF (fun k => ((d k : Nat) : Int) - (m : Nat)) (o.take k) 0 0).map fun q => pairV (reps q.1 [32], hw (d q.2)))) :: (da, AO.attrs ["_initial_size"] [some (.int 0)]) :: (F, AO.fr ["words", "worth", "bars", "known", "word", "total", "k", "taken"] [some (.ref wa), some (.ref wd), some (.ref ba), some (.ref kd), (some (.str (S (hw (d (o.getD k 0)))))), (some (.int ((T : Nat) : Int))), (some (.int ((k : Nat) : Int))), none]) :: (cP, AO.cell (some (.ref xa))) :: (cL, AO.cell (some (.ref L.lx))) :: (kd, AO.dct (intKind C.prog C.w) (n') (F')) :: Lx 150 L ln (((o.drop (k + 1)) ++ selN (fun k => ((d k : Nat) : Int) - (m : Nat)) (o.take k) 0).map fun k => hw (d k)) x pos σ)
            (fun i => V.str (S [(hw T).getD i 0])) ?sbc (iter_bytes hA'.1) (fun _ _ => trivial) (by rw [octets_len, sizeLine_eq]; lia) rfl rfl ?_ ?_
          case sbc => ((repeat (first | exact Sb.refl | exact Sb.nil | exact Sb.s1 | exact Sb.s2 | exact Sb.s3 | exact Sb.s4 | (apply Sb.take; focus ((repeat (first | exact Pick.head | exact Pick.h1 | exact Pick.h2 | exact Pick.h3 | apply Pick.t4)); done)) | apply Sb.skip)))
          · intro i y acc hy ha
            obtain ⟨c, hc, rfl⟩ := octets_get hy
            have hc2 := hw_mem 100 _ hTb c (List.mem_of_getElem? hc)
            rw [Nat.mod_eq_of_lt (by lia)]
            walk_at "E.run"
            refine c_chr (by lia) (by lia) ?_
            refine ⟨by rw [List.getD_eq_getElem?_getD, hc, Int.toNat_natCast]; rfl, ?_⟩
            ((repeat (first | exact Sb.refl | exact Sb.nil | exact Sb.s1 | exact Sb.s2 | exact Sb.s3 | exact Sb.s4 | (apply Sb.take; focus ((repeat (first | exact Pick.head | exact Pick.h1 | exact Pick.h2 | exact Pick.h3 | apply Pick.t4)); done)) | apply Sb.skip)))
          intro uc
          refine ⟨[uc], (D, AO.list (strsV ((hw T).map fun c => [c]))) :: (r2, X) :: (xa, AO.seq (.ref 101) (some da) ((plcF (fun k => ((d k : Nat) : Int) - (m : Nat)) (o.take k) 0 0).map fun q => pairV (reps q.1 [32], hw (d q.2)))) :: (da, AO.attrs ["_initial_size"] [some (.int 0)]) :: (F, AO.fr ["words", "worth", "bars", "known", "word", "total", "k", "taken"] [some (.ref wa), some (.ref wd), some (.ref ba), some (.ref kd), (some (.str (S (hw (d (o.getD k 0)))))), (some (.int ((T : Nat) : Int))), (some (.int ((k : Nat) : Int))), none]) :: (cP, AO.cell (some (.ref xa))) :: (cL, AO.cell (some (.ref L.lx))) :: (kd, AO.dct (intKind C.prog C.w) (n') (F')) :: Lx 150 L ln (((o.drop (k + 1)) ++ selN (fun k => ((d k : Nat) : Int) - (m : Nat)) (o.take k) 0).map fun k => hw (d k)) x pos σ, ?_, ?_⟩
          · rw [octets_len, chars_list]
            ((repeat (first | exact Sb.refl | exact Sb.nil | exact Sb.s1 | exact Sb.s2 | exact Sb.s3 | exact Sb.s4 | (apply Sb.take; focus ((repeat (first | exact Pick.head | exact Pick.h1 | exact Pick.h2 | exact Pick.h3 | apply Pick.t4)); done)) | apply Sb.skip)))
          walk_at "E.run"
          refine c_joinS (by walk_at "M.mem") (by rw [single_flat]; lia) ?_
          rw [single_flat]
          walk_at "E.run"
          refine s_dct (v := .str (S (hw T))) (by walk_at "M.lu") (key_int _) (by lia) ?_
          walk_at "E.run"
          exact ⟨n' + 1, fun i => if i = (T : Int) then some (.str (S (hw T))) else F' i, by lia, hF'.put T, if_pos rfl, by ((repeat (first | exact Sb.refl | exact Sb.nil | exact Sb.s1 | exact Sb.s2 | exact Sb.s3 | exact Sb.s4 | (apply Sb.take; focus ((repeat (first | exact Pick.head | exact Pick.h1 | exact Pick.h2 | exact Pick.h3 | apply Pick.t4)); done)) | apply Sb.skip)))⟩
      clear hn' hF'
      rintro σ' ⟨n', F', hn', hF', hFT, sb⟩
      refine Xs.sb sb ?_
      walk_at "E.run"
      refine ⟨has_dct (knd := intKind C.prog C.w) (by ((repeat (first | exact List.Mem.head _ | assumption | apply List.Mem.tail)))), ?_⟩
      refine g_dct (knd := intKind C.prog C.w) (by ((repeat (first | exact List.Mem.head _ | assumption | apply List.Mem.tail)))) (key_int _) hFT ?_
      walk_at "E.run"
      refine c_len_str (by rw [S_len, sizeLine_eq]; lia) ?_
      rw [S_len]
      walk_at "E.run"
      refine ⟨has_dct (knd := intKind C.prog C.w) (by ((repeat (first | exact List.Mem.head _ | assumption | apply List.Mem.tail)))), ?_⟩
      refine g_dct (knd := intKind C.prog C.w) (by ((repeat (first | exact List.Mem.head _ | assumption | apply List.Mem.tail)))) (key_int _) hFT ?_
      walk_at "E.run"
      have hMb : m * (k + 1) < 16 ^ 100 := Nat.lt_of_le_of_lt (Nat.mul_le_mul hm (show k + 1 ≤ 4 by lia)) (by decide)
      have hwm := hw_len 100 _ hMb
      have hbar : (strsV ((List.range 4).map fun k => hw (m * (k + 1))))[((k : Nat) : Int).toNat]? = some (.str (S (hw (m * (k + 1))))) := by
        rw [Int.toNat_natCast, strsV, List.getElem?_map, List.getElem?_map, List.getElem?_range hk4]; rfl
      refine ⟨by rw [sizeLine_eq]; show 2 ≤ _; lia, ?_⟩
      walk_at "E.run"
      refine ⟨has_list (by ((repeat (first | exact List.Mem.head _ | assumption | apply List.Mem.tail)))), ?_⟩
      refine g_list (by ((repeat (first | exact List.Mem.head _ | assumption | apply List.Mem.tail)))) (by lia) (by lia) hbar ?_
      walk_at "E.run"
      refine c_len_str (by rw [S_len, sizeLine_eq]; lia) ?_
      rw [S_len]
      walk_at "E.run"
      refine ⟨has_list (by ((repeat (first | exact List.Mem.head _ | assumption | apply List.Mem.tail)))), ?_⟩
      refine g_list (by ((repeat (first | exact List.Mem.head _ | assumption | apply List.Mem.tail)))) (by lia) (by lia) hbar ?_
      walk_at "E.run"
      refine ⟨by rw [sizeLine_eq]; show 2 ≤ _; lia, ?_⟩
      refine cmp_gt_is (hA'.le (by decide)) ?_
      rw [gt_sh]
      walk_at "E.run"
      by_cases c : m * (k + 1) < T
      · rw [if_pos (by simpa using c)]
        rw [if_pos c] at pa
        rw [if_pos c, List.append_nil] at sa
        walk_at "E.run"
        (refine m_any (D := 101) (ga := "list.__getattribute__") (ty := "function") (f := .ref 45) (fV := .ref 45) (by assumption) (isI_seq (by walk_at "M.mem")) (by walk_at "M.mem") (by decide) (by kernel_rfl) (by decide +kernel) (by kernel_rfl) (by kernel_rfl) (by kernel_rfl) (by decide) (fun _ => rfl) ?_)
        walk_at "E.run"
        refine bin_smul (a := [32]) (by lia) (by lia) (by decide) ?_
        rw [Int.toNat_natCast]
        walk_at "E.run"
        refine appush_ (items := (plcF (fun k => ((d k : Nat) : Int) - (m : Nat)) (o.take k) 0 0).map fun q => pairV (reps q.1 [32], hw (d q.2))) (u := reps k [32]) (v := hw (d (o.getD k 0))) hC (hA'.le (by decide)) (by rw [List.length_map]; lia) (by ((repeat (first | exact List.Mem.head _ | assumption | apply List.Mem.tail)))) (by decide) (by walk_at "M.lu") ?_
        walk_at "E.run"
        refine ⟨(xa, AO.seq (.ref 101) (some da) ((plcF (fun k => ((d k : Nat) : Int) - (m : Nat)) (o.take (k + 1)) 0 0).map fun q => pairV (reps q.1 [32], hw (d q.2)))) :: (da, AO.attrs ["_initial_size"] [some (.int 0)]) :: (F, AO.fr ["words", "worth", "bars", "known", "word", "total", "k", "taken"] [some (.ref wa), some (.ref wd), some (.ref ba), some (.ref kd), (some (.str (S (hw (d (o.getD k 0)))))), (some (.int ((T : Nat) : Int))), (some (.int ((k : Nat) : Int))), none]) :: (cP, AO.cell (some (.ref xa))) :: (cL, AO.cell (some (.ref L.lx))) :: (kd, AO.dct (intKind C.prog C.w) (n') (F')) :: Lx 150 L ln (((o.drop (k + 1)) ++ selN (fun k => ((d k : Nat) : Int) - (m : Nat)) (o.take (k + 1)) 0).map fun k => hw (d k)) x pos σ, ?_, n', F', _, _, hn', hF', rfl⟩
        rw [pa, sa, List.map_append]
        ((repeat (first | exact Sb.refl | exact Sb.nil | exact Sb.s1 | exact Sb.s2 | exact Sb.s3 | exact Sb.s4 | (apply Sb.take; focus ((repeat (first | exact Pick.head | exact Pick.h1 | exact Pick.h2 | exact Pick.h3 | apply Pick.t4)); done)) | apply Sb.skip)))
      · rw [if_neg (by simpa using c)]
        rw [if_neg c, List.append_nil] at pa
        rw [if_neg c] at sa
        walk_at "E.run"
        (refine m_fn (by assumption) (isI_inst (by walk_at "M.mem")) (by walk_at "M.mem") (by decide) (by kernel_rfl) (f := 147) (by kernel_rfl) (by kernel_rfl) ?_)
        walk_at "E.run"
        refine Call.sb (σ' := Lx 150 L ln (((o.drop (k + 1)) ++ selN (fun k => ((d k : Nat) : Int) - (m : Nat)) (o.take k) 0).map fun k => hw (d k)) x pos ((r2, X) :: (xa, AO.seq (.ref 101) (some da) ((plcF (fun k => ((d k : Nat) : Int) - (m : Nat)) (o.take k) 0 0).map fun q => pairV (reps q.1 [32], hw (d q.2)))) :: (da, AO.attrs ["_initial_size"] [some (.int 0)]) :: (F, AO.fr ["words", "worth", "bars", "known", "word", "total", "k", "taken"] [some (.ref wa), some (.ref wd), some (.ref ba), some (.ref kd), (some (.str (S (hw (d (o.getD k 0)))))), (some (.int ((T : Nat) : Int))), (some (.int ((k : Nat) : Int))), none]) :: (cP, AO.cell (some (.ref xa))) :: (cL, AO.cell (some (.ref L.lx))) :: (kd, AO.dct (intKind C.prog C.w) (n') (F')) :: σ)) (by ((repeat (first | exact Sb.refl | exact Sb.nil | exact Sb.s1 | exact Sb.s2 | exact Sb.s3 | exact Sb.s4 | (apply Sb.take; focus ((repeat (first | exact Pick.head | exact Pick.h1 | exact Pick.h2 | exact Pick.h3 | apply Pick.t4)); done)) | apply Sb.skip)))) (push_ hC (hA'.le (by decide)) (by rw [List.length_map, List.length_append, List.length_drop]; lia) ?_)
        walk_at "E.run"
        refine ⟨(xa, AO.seq (.ref 101) (some da) ((plcF (fun k => ((d k : Nat) : Int) - (m : Nat)) (o.take (k + 1)) 0 0).map fun q => pairV (reps q.1 [32], hw (d q.2)))) :: (da, AO.attrs ["_initial_size"] [some (.int 0)]) :: (F, AO.fr ["words", "worth", "bars", "known", "word", "total", "k", "taken"] [some (.ref wa), some (.ref wd), some (.ref ba), some (.ref kd), (some (.str (S (hw (d (o.getD k 0)))))), (some (.int ((T : Nat) : Int))), (some (.int ((k : Nat) : Int))), none]) :: (cP, AO.cell (some (.ref xa))) :: (cL, AO.cell (some (.ref L.lx))) :: (kd, AO.dct (intKind C.prog C.w) (n') (F')) :: Lx 150 L ln (((o.drop (k + 1)) ++ selN (fun k => ((d k : Nat) : Int) - (m : Nat)) (o.take (k + 1)) 0).map fun k => hw (d k)) x pos σ, ?_, n', F', _, _, hn', hF', rfl⟩
        rw [pa, sa, ← List.append_assoc, List.map_append (l₁ := o.drop (k + 1) ++ _)]
        ((repeat (first | exact Sb.refl | exact Sb.nil | exact Sb.s1 | exact Sb.s2 | exact Sb.s3 | exact Sb.s4 | (apply Sb.take; focus ((repeat (first | exact Pick.head | exact Pick.h1 | exact Pick.h2 | exact Pick.h3 | apply Pick.t4)); done)) | apply Sb.skip)))
    · rintro σ' ⟨n', F', u1, u2, hn', hF', rfl⟩
      have hcnt := plcF_cnt (fun k => ((d k : Nat) : Int) - (m : Nat)) o 0 0
      rw [show o.take 4 = o from List.take_of_length_le (by lia), show o.drop 4 = [] from List.drop_eq_nil_of_le (by lia), List.nil_append]
      have hIl : (((plcF (fun k => ((d k : Nat) : Int) - (m : Nat)) (o) 0 0).map fun q => pairV (reps q.1 [32], hw (d q.2)))).length = (plcF (fun k => ((d k : Nat) : Int) - (m : Nat)) o 0 0).length := List.length_map ..
      rw [hol, ← hIl] at hcnt
      clear hIl
      generalize ((plcF (fun k => ((d k : Nat) : Int) - (m : Nat)) (o) 0 0).map fun q => pairV (reps q.1 [32], hw (d q.2))) = IT at *
      generalize selN (fun k => ((d k : Nat) : Int) - (m : Nat)) o 0 = SN at *
      walk_at "E.run"
      refine' x_lc (ks := ["k"]) (cn := []) ?nd ?hcn ?hclos ?hk ?hn ?_ ?ht ?hs ?hsw
      (((case nd => decide); (case hcn => rfl); (case hclos => rfl); (case hk => rfl); (case hn => decide); (case ht => intro _ _; rfl); (case hs => intro _; rfl)))
      case hsw => rfl
      walk_at "E.run"
      (refine m_any (D := 101) (ga := "list.__getattribute__") (ty := "function") (f := .ref 98) (fV := .ref 98) (by assumption) (isI_seq (by walk_at "M.mem")) (by walk_at "M.mem") (by decide) (by kernel_rfl) (by decide +kernel) (by kernel_rfl) (by kernel_rfl) (by kernel_rfl) (by decide) (fun _ => rfl) ?_)
      walk_at "E.run"
      refine part_count_ (items := IT) hC hM (hA'.le (by decide)) (by lia) (by ((repeat (first | exact List.Mem.head _ | assumption | apply List.Mem.tail)))) ?_
      walk_at "E.run"
      refine c_range1 fun r3 => ?_
      refine it_range (by walk_at "M.mem") (by decide) (by decide) (by lia) (by lia) fun r4 => ?_
      rw [er0 IT.length]
      intro D3 L3 cs3 hcs3
      cases cs_0 hcs3
      ((simp only [celled, List.map_cons, List.map_nil, List.cons_append, List.nil_append]))
      refine cloop_R0 (n := IT.length) (σ' := (L3, AO.fr ["k"] [none]) :: (xa, AO.seq (.ref 101) (some da) (IT.take (IT.length - 0))) :: (da, AO.attrs ["_initial_size"] [some (.int 0)]) :: (F, AO.fr ["words", "worth", "bars", "known", "word", "total", "k", "taken"] [some (.ref wa), some (.ref wd), some (.ref ba), some (.ref kd), u1, (some (.int (((o.map d).sum : Nat) : Int))), u2, none]) :: (cP, AO.cell (some (.ref xa))) :: (cL, AO.cell (some (.ref L.lx))) :: (kd, AO.dct (intKind C.prog C.w) (n') (F')) :: Lx 150 L ln (SN.map fun k => hw (d k)) x pos σ) (by rw [Nat.sub_zero, List.take_length]; ((repeat (first | exact Sb.refl | exact Sb.nil | exact Sb.s1 | exact Sb.s2 | exact Sb.s3 | exact Sb.s4 | (apply Sb.take; focus ((repeat (first | exact Pick.head | exact Pick.h1 | exact Pick.h2 | exact Pick.h3 | apply Pick.t4)); done)) | apply Sb.skip)))) hA'.1
        (fun i acc σ' => ∃ u, acc = IT.reverse.take i ∧ σ' = (L3, AO.fr ["k"] [u]) :: (xa, AO.seq (.ref 101) (some da) (IT.take (IT.length - i))) :: (da, AO.attrs ["_initial_size"] [some (.int 0)]) :: (F, AO.fr ["words", "worth", "bars", "known", "word", "total", "k", "taken"] [some (.ref wa), some (.ref wd), some (.ref ba), some (.ref kd), u1, (some (.int (((o.map d).sum : Nat) : Int))), u2, none]) :: (cP, AO.cell (some (.ref xa))) :: (cL, AO.cell (some (.ref L.lx))) :: (kd, AO.dct (intKind C.prog C.w) (n') (F')) :: Lx 150 L ln (SN.map fun k => hw (d k)) x pos σ) ⟨none, rfl, rfl⟩ (by rw [sizeLine_eq]; lia) ?_ ?_
      · rintro i X acc σ' hi hal ⟨u, rfl, rfl⟩
        obtain ⟨y, e1, e2⟩ := rev_take IT hi
        rw [e1]
        walk_at "E.run"
        (refine m_any (D := 101) (ga := "list.__getattribute__") (ty := "function") (f := .ref 61) (fV := .ref 61) (by assumption) (isI_seq (by walk_at "M.mem")) (by walk_at "M.mem") (by decide) (by kernel_rfl) (by decide +kernel) (by kernel_rfl) (by kernel_rfl) (by kernel_rfl) (by decide) (fun _ => rfl) ?_)
        walk_at "E.run"
        refine accpop_ (items := IT.take (IT.length - (i + 1))) (y := y) hC hM (hA'.le (by decide)) (by rw [List.length_take]; lia) (by ((repeat (first | exact List.Mem.head _ | assumption | apply List.Mem.tail)))) (by decide) (by walk_at "M.lu") ?_
        exact ⟨(L3, AO.fr ["k"] [some (.int ((i : Nat) : Int))]) :: (xa, AO.seq (.ref 101) (some da) (IT.take (IT.length - (i + 1)))) :: (da, AO.attrs ["_initial_size"] [some (.int 0)]) :: (F, AO.fr ["words", "worth", "bars", "known", "word", "total", "k", "taken"] [some (.ref wa), some (.ref wd), some (.ref ba), some (.ref kd), u1, (some (.int (((o.map d).sum : Nat) : Int))), u2, none]) :: (cP, AO.cell (some (.ref xa))) :: (cL, AO.cell (some (.ref L.lx))) :: (kd, AO.dct (intKind C.prog C.w) (n') (F')) :: Lx 150 L ln (SN.map fun k => hw (d k)) x pos σ, by ((repeat (first | exact Sb.refl | exact Sb.nil | exact Sb.s1 | exact Sb.s2 | exact Sb.s3 | exact Sb.s4 | (apply Sb.take; focus ((repeat (first | exact Pick.head | exact Pick.h1 | exact Pick.h2 | exact Pick.h3 | apply Pick.t4)); done)) | apply Sb.skip))), _, e2.symm, rfl⟩
      rintro acc σ' ⟨u, rfl, rfl⟩
      rw [List.take_of_length_le (Nat.le_of_eq (List.length_reverse ..))]
      walk_at "E.run"
      refine ⟨[u], (D3, AO.list IT.reverse) :: (xa, AO.seq (.ref 101) (some da) (IT.take (IT.length - IT.length))) :: (da, AO.attrs ["_initial_size"] [some (.int 0)]) :: (F, AO.fr ["words", "worth", "bars", "known", "word", "total", "k", "taken"] [some (.ref wa), some (.ref wd), some (.ref ba), some (.ref kd), u1, (some (.int (((o.map d).sum : Nat) : Int))), u2, (some (.ref D3))]) :: (cP, AO.cell (some (.ref xa))) :: (cL, AO.cell (some (.ref L.lx))) :: (kd, AO.dct (intKind C.prog C.w) (n') (F')) :: Lx 150 L ln (SN.map fun k => hw (d k)) x pos σ, by ((repeat (first | exact Sb.refl | exact Sb.nil | exact Sb.s1 | exact Sb.s2 | exact Sb.s3 | exact Sb.s4 | (apply Sb.take; focus ((repeat (first | exact Pick.head | exact Pick.h1 | exact Pick.h2 | exact Pick.h3 | apply Pick.t4)); done)) | apply Sb.skip))), ?_⟩
      walk_at "E.run"
      refine' e_lc (ks := ["k"]) (cn := []) ?nd ?hcn ?hclos ?hk ?hn ?_ ?ht ?hs
      (((case nd => decide); (case hcn => rfl); (case hclos => rfl); (case hk => rfl); (case hn => decide); (case ht => intro _ _; rfl); (case hs => intro _; rfl)))
      walk_at "E.run"
      refine c_len_list (by ((repeat (first | exact List.Mem.head _ | assumption | apply List.Mem.tail)))) (by rw [List.length_reverse, sizeLine_eq]; lia) ?_
      rw [List.length_reverse]
      walk_at "E.run"
      refine c_range1 fun r5 => ?_
      refine it_range (by walk_at "M.mem") (by decide) (by decide) (by lia) (by lia) fun r6 => ?_
      rw [show ((4 : Int) - (IT.length : Nat) - 0).toNat = SN.length by lia]
      intro D4 L4 cs4 hcs4
      cases cs_0 hcs4
      ((simp only [celled, List.map_cons, List.map_nil, List.cons_append, List.nil_append]))
      refine cloop_R0 (n := SN.length) (σ' := (L4, AO.fr ["k"] [none]) :: (D3, AO.list IT.reverse) :: (xa, AO.seq (.ref 101) (some da) (IT.take (IT.length - IT.length))) :: (da, AO.attrs ["_initial_size"] [some (.int 0)]) :: (F, AO.fr ["words", "worth", "bars", "known", "word", "total", "k", "taken"] [some (.ref wa), some (.ref wd), some (.ref ba), some (.ref kd), u1, (some (.int (((o.map d).sum : Nat) : Int))), u2, (some (.ref D3))]) :: (cP, AO.cell (some (.ref xa))) :: (cL, AO.cell (some (.ref L.lx))) :: (kd, AO.dct (intKind C.prog C.w) (n') (F')) :: Lx 150 L ln (SN.map fun k => hw (d k)) x pos σ) (by ((repeat (first | exact Sb.refl | exact Sb.nil | exact Sb.s1 | exact Sb.s2 | exact Sb.s3 | exact Sb.s4 | (apply Sb.take; focus ((repeat (first | exact Pick.head | exact Pick.h1 | exact Pick.h2 | exact Pick.h3 | apply Pick.t4)); done)) | apply Sb.skip)))) hA'.1
        (fun i acc σ' => ∃ u, acc = strsV ((SN.take i).map fun k => hw (d k)) ∧ σ' = (L4, AO.fr ["k"] [u]) :: (D3, AO.list IT.reverse) :: (xa, AO.seq (.ref 101) (some da) (IT.take (IT.length - IT.length))) :: (da, AO.attrs ["_initial_size"] [some (.int 0)]) :: (F, AO.fr ["words", "worth", "bars", "known", "word", "total", "k", "taken"] [some (.ref wa), some (.ref wd), some (.ref ba), some (.ref kd), u1, (some (.int (((o.map d).sum : Nat) : Int))), u2, (some (.ref D3))]) :: (cP, AO.cell (some (.ref xa))) :: (cL, AO.cell (some (.ref L.lx))) :: (kd, AO.dct (intKind C.prog C.w) (n') (F')) :: Lx 150 L ln ((SN.drop i).map fun k => hw (d k)) x pos σ) ⟨none, rfl, rfl⟩ (by rw [sizeLine_eq]; lia) ?_ ?_
      · rintro i X acc σ' hi hal ⟨u, rfl, rfl⟩
        rw [drop_head hi, List.map_cons]
        walk_at "E.run"
        (refine m_fn (by assumption) (isI_inst (by walk_at "M.mem")) (by walk_at "M.mem") (by decide) (by kernel_rfl) (f := 140) (by kernel_rfl) (by kernel_rfl) ?_)
        walk_at "E.run"
        refine Call.sb (σ' := Lx 150 L ln (hw (d (SN.getD i 0)) :: (SN.drop (i + 1)).map fun k => hw (d k)) x pos ((D4, AO.list (strsV ((SN.take i).map fun k => hw (d k)))) :: (r6, X) :: (L4, AO.fr ["k"] [some (.int ((i : Nat) : Int))]) :: (D3, AO.list IT.reverse) :: (xa, AO.seq (.ref 101) (some da) (IT.take (IT.length - IT.length))) :: (da, AO.attrs ["_initial_size"] [some (.int 0)]) :: (F, AO.fr ["words", "worth", "bars", "known", "word", "total", "k", "taken"] [some (.ref wa), some (.ref wd), some (.ref ba), some (.ref kd), u1, (some (.int (((o.map d).sum : Nat) : Int))), u2, (some (.ref D3))]) :: (cP, AO.cell (some (.ref xa))) :: (cL, AO.cell (some (.ref L.lx))) :: (kd, AO.dct (intKind C.prog C.w) (n') (F')) :: σ)) (by ((repeat (first | exact Sb.refl | exact Sb.nil | exact Sb.s1 | exact Sb.s2 | exact Sb.s3 | exact Sb.s4 | (apply Sb.take; focus ((repeat (first | exact Pick.head | exact Pick.h1 | exact Pick.h2 | exact Pick.h3 | apply Pick.t4)); done)) | apply Sb.skip)))) (getp_ hC (hA'.le (by decide)) (by rw [List.length_map, List.length_drop]; lia) ?_)
        refine ⟨(L4, AO.fr ["k"] [some (.int ((i : Nat) : Int))]) :: (D3, AO.list IT.reverse) :: (xa, AO.seq (.ref 101) (some da) (IT.take (IT.length - IT.length))) :: (da, AO.attrs ["_initial_size"] [some (.int 0)]) :: (F, AO.fr ["words", "worth", "bars", "known", "word", "total", "k", "taken"] [some (.ref wa), some (.ref wd), some (.ref ba), some (.ref kd), u1, (some (.int (((o.map d).sum : Nat) : Int))), u2, (some (.ref D3))]) :: (cP, AO.cell (some (.ref xa))) :: (cL, AO.cell (some (.ref L.lx))) :: (kd, AO.dct (intKind C.prog C.w) (n') (F')) :: Lx 150 L ln ((SN.drop (i + 1)).map fun k => hw (d k)) x pos σ, by ((repeat (first | exact Sb.refl | exact Sb.nil | exact Sb.s1 | exact Sb.s2 | exact Sb.s3 | exact Sb.s4 | (apply Sb.take; focus ((repeat (first | exact Pick.head | exact Pick.h1 | exact Pick.h2 | exact Pick.h3 | apply Pick.t4)); done)) | apply Sb.skip))), _, ?_, rfl⟩
        rw [take_snoc hi, List.map_append, strsV, strsV, List.map_append]
        rfl
      rintro acc σ' ⟨u, rfl, rfl⟩
      rw [List.take_length, List.drop_length]
      refine ⟨[u], (D4, AO.list (strsV (SN.map fun k => hw (d k)))) :: (D3, AO.list IT.reverse) :: (xa, AO.seq (.ref 101) (some da) (IT.take (IT.length - IT.length))) :: (da, AO.attrs ["_initial_size"] [some (.int 0)]) :: (F, AO.fr ["words", "worth", "bars", "known", "word", "total", "k", "taken"] [some (.ref wa), some (.ref wd), some (.ref ba), some (.ref kd), u1, (some (.int (((o.map d).sum : Nat) : Int))), u2, (some (.ref D3))]) :: (cP, AO.cell (some (.ref xa))) :: (cL, AO.cell (some (.ref L.lx))) :: (kd, AO.dct (intKind C.prog C.w) (n') (F')) :: Lx 150 L ln ([]) x pos σ, by ((repeat (first | exact Sb.refl | exact Sb.nil | exact Sb.s1 | exact Sb.s2 | exact Sb.s3 | exact Sb.s4 | (apply Sb.take; focus ((repeat (first | exact Pick.head | exact Pick.h1 | exact Pick.h2 | exact Pick.h3 | apply Pick.t4)); done)) | apply Sb.skip))), ?_⟩
      walk_at "E.run"
      refine ⟨by rw [sizeLine_eq]; show 2 ≤ _; lia, ?_⟩
      walk_at "E.run"
      exact ⟨_, by ((repeat (first | exact Sb.refl | exact Sb.nil | exact Sb.s1 | exact Sb.s2 | exact Sb.s3 | exact Sb.s4 | (apply Sb.take; focus ((repeat (first | exact Pick.head | exact Pick.h1 | exact Pick.h2 | exact Pick.h3 | apply Pick.t4)); done)) | apply Sb.skip))), h D3 D4 n' F' hn' hF'⟩
theorem occ_go (x : List Nat) (c : Nat) : ∀ (m i : Nat) (st : Array Nat × Nat), i + m = x.length + 1 → st.2 ≤ i → st.1.size ≤ i →
    (forIn (List.range' i m) st (PySem.StrLaws.occBody (S x) ⟨#[c]⟩ (S x).length ((S x).length + 1))).run.fst.size = st.1.size + (x.drop i).count c
  | 0, i, st, h, _, _ => by
    have : x.drop i = [] := List.drop_eq_nil_of_le (by lia)
    rw [this]; rfl
  | m + 1, i, st, h, h1, h2 => by
    rw [List.range'_succ, List.forIn_cons]
    unfold PySem.StrLaws.occBody
    have key := PySem.StrLaws.subAt_one (S x) c i
    rw [S_cps] at key
    by_cases hx : x[i]? = some c
    · have k := key.mpr hx
      have hi : i < x.length := (List.getElem?_eq_some_iff.mp hx).1
      rw [if_pos ⟨⟨⟨by rw [S_len]; lia, h1⟩, k.1⟩, k.2⟩]
      have := occ_go x c m (i + 1) (st.1.push i, i + 1) (by lia) (Nat.le_refl _) (by rw [Array.size_push]; lia)
      show (forIn (List.range' (i + 1) m) (st.1.push i, i + (⟨#[c]⟩ : Str).length) (PySem.StrLaws.occBody (S x) ⟨#[c]⟩ (S x).length ((S x).length + 1))).run.fst.size = _
      rw [show i + (⟨#[c]⟩ : Str).length = i + 1 from rfl, this, Array.size_push, drop_some hx, List.count_cons_self]; lia
    · rw [if_neg fun q => hx (key.mp ⟨q.1.2, q.2⟩)]
      have := occ_go x c m (i + 1) st (by lia) (by lia) (by lia)
      show (forIn (List.range' (i + 1) m) (st.1, st.2) (PySem.StrLaws.occBody (S x) ⟨#[c]⟩ (S x).length ((S x).length + 1))).run.fst.size = _
      rw [this]
      cases e : x[i]? with
      | none => rw [drop_none e, List.drop_eq_nil_of_le (by have := List.getElem?_eq_none_iff.mp e; lia)]
      | some d =>
        rw [drop_some e, List.count_cons]
        have : (d == c) = false := by rw [beq_eq_false_iff_ne]; intro q; exact hx (by rw [e, q])
        rw [this]; simp
theorem occ_count (x : List Nat) (c : Nat) : (Builtin.Str.occurrences (S x) (S [c]) 0 (S x).length ((S x).length + 1)).length = x.count c := by
  rw [PySem.StrLaws.occ_eq, Array.length_toList]
  have := occ_go x c (x.length + 1) 0 (#[], 0) (by lia) (Nat.le_refl _) (Nat.le_refl _)
  rw [S_len] at this ⊢
  rw [show S [c] = ⟨#[c]⟩ from rfl]
  simpa using this
theorem nls_count (x : List Nat) : ∀ k, nls x 0 k = ((x.take k).count 10 : Nat)
  | 0 => by simp [nls]
  | k + 1 => by
    rw [nls, nls_count x k, Nat.zero_add, List.take_add_one, List.count_append]
    cases e : x[k]? with
    | none => simp
    | some c =>
      by_cases h : c = 10
      · subst h; simp
      · simp [h]
theorem nls_all (x : List Nat) (k : Nat) (h : x.length ≤ k) : nls x 0 k = (x.count 10 : Nat) := by
  rw [nls_count, List.take_of_length_le h]
noncomputable def Ltr (w : List Nat) : Prop := ∀ c ∈ w, 65 ≤ c ∧ c < 81
theorem ltr_ws {c : Nat} (h : 65 ≤ c ∧ c < 81) : isWs c = false := by
  unfold isWs; rw [decide_eq_false_iff_not]; simp; lia
theorem qd_plain : ∀ (w r : List Nat), Ltr w → qd (w ++ 34 :: r) = (w, w.length + 1)
  | [], r, _ => by simp [qd]
  | c :: w, r, h => by
    have hc := h c (.head _)
    have ih := qd_plain w r fun d hd => h d (.tail _ hd)
    rw [List.cons_append, qd]
    · rw [if_neg (by lia), ih]; rfl
    · intro e _; lia
    · intro d r' e _; lia
theorem bd_bare (k : Nat) (hk : k = 0 ∨ k = 1) (e : Nat) (he : isWs e = true) : ∀ (w r : List Nat), Ltr w → bd ((w.map fun c => reps k [92] ++ [c]).flatten ++ e :: r) = (w, ((w.map fun c => reps k [92] ++ [c]).flatten).length + 1)
  | [], r, _ => by
    simp only [List.map_nil, List.flatten_nil, List.nil_append]
    rw [bd]
    · rw [if_pos he]; rfl
    · intro q _; subst q; revert he; decide
    · intro d r' q _; subst q; revert he; decide
  | c :: w, r, h => by
    have hc := h c (.head _)
    have ih := bd_bare k hk e he w r fun d hd => h d (.tail _ hd)
    rw [List.map_cons, List.flatten_cons, List.append_assoc]
    rcases hk with rfl | rfl
    · show bd (c :: ((w.map fun c => reps 0 [92] ++ [c]).flatten ++ e :: r)) = _
      rw [bd]
      · rw [ltr_ws hc, ih]; simp [reps]
      · intro q _; lia
      · intro d r' q _; lia
    · show bd (92 :: c :: ((w.map fun c => reps 1 [92] ++ [c]).flatten ++ e :: r)) = _
      rw [bd, ih]
      simp [reps]
theorem tk_piece {wh : List Nat} {m : Nat} {w : List Nat} (h4 : wh.length = 4) (hwh : ∀ c ∈ wh, isWs c = true) (hw : Ltr w) (r : List Nat) : tk (piece wh m w ++ r) = (w, (piece wh m w).length) := by
  have g0 : wh.getD 0 0 ∈ wh := by rw [List.getD_eq_getElem?_getD, List.getElem?_eq_getElem (by lia)]; exact List.getElem_mem _
  have g3 : wh.getD 3 0 ∈ wh := by rw [List.getD_eq_getElem?_getD, List.getElem?_eq_getElem (by lia)]; exact List.getElem_mem _
  have w0 := hwh _ g0
  have w3 := hwh _ g3
  have skip : ∀ (s : List Nat), tk (wh.getD 0 0 :: s) = ((tk s).1, (tk s).2 + 1) := fun s => by
    rw [tk]
    · rw [if_pos w0]
    · intro q _; rw [q] at w0; revert w0; decide
    · intro d r' q _; rw [q] at w0; revert w0; decide
  unfold piece
  by_cases hc : m % 3 = 0 ∨ w = []
  · rw [if_pos hc]
    show tk (wh.getD 0 0 :: 34 :: (w ++ [34]) ++ r) = _
    rw [List.cons_append, skip]
    have e : tk (34 :: (w ++ [34]) ++ r) = (w, w.length + 1 + 1) := by
      rw [List.cons_append, tk]
      · rw [if_neg (by decide), if_pos rfl, List.append_assoc]
        rw [show ([34] : List Nat) ++ r = 34 :: r from rfl, qd_plain w r hw]
      · intro q _; cases q
      · intro d r' q _; cases q
    rw [e]; simp
  · rw [if_neg hc]
    have hm0 : m % 3 ≠ 0 := fun q => hc (.inl q)
    have hm : m % 3 - 1 = 0 ∨ m % 3 - 1 = 1 := by lia
    obtain ⟨c, w', rfl⟩ : ∃ c w', w = c :: w' := by cases w with | nil => exact absurd (.inr rfl) hc | cons c w' => exact ⟨c, w', rfl⟩
    have hcc := hw c (.head _)
    have hB := bd_bare (m % 3 - 1) hm (wh.getD 3 0) w3 w' r fun d hd => hw d (.tail _ hd)
    generalize m % 3 - 1 = k at hm hB ⊢
    rw [List.map_cons, List.flatten_cons]
    show tk (wh.getD 0 0 :: ((reps k [92] ++ [c]) ++ (w'.map fun c => reps k [92] ++ [c]).flatten ++ [wh.getD 3 0] ++ r)) = _
    rw [skip]
    have e : tk ((reps k [92] ++ [c]) ++ (w'.map fun c => reps k [92] ++ [c]).flatten ++ [wh.getD 3 0] ++ r) = (c :: w', (reps k [92] ++ [c]).length + ((w'.map fun c => reps k [92] ++ [c]).flatten).length + 1) := by
      rcases hm with rfl | rfl
      · show tk (c :: ((w'.map fun c => reps 0 [92] ++ [c]).flatten ++ [wh.getD 3 0] ++ r)) = _
        rw [List.append_assoc, show ([wh.getD 3 0] : List Nat) ++ r = wh.getD 3 0 :: r from rfl, tk]
        · rw [if_neg (by rw [ltr_ws hcc]; decide), if_neg (show ¬ c = 34 by lia), hB]; simp [reps]; lia
        · intro q _; lia
        · intro d r' q _; lia
      · show tk (92 :: c :: ((w'.map fun c => reps 1 [92] ++ [c]).flatten ++ [wh.getD 3 0] ++ r)) = _
        rw [List.append_assoc, show ([wh.getD 3 0] : List Nat) ++ r = wh.getD 3 0 :: r from rfl, tk, hB]; simp [reps]; lia
    rw [e]
    simp [List.length_append]; lia
noncomputable def posAt (x : List Nat) (p : Nat) : Nat → Nat
  | 0 => p
  | r + 1 => posAt x p r + (tk (x.drop (posAt x p r))).2
theorem posAt_shift (x : List Nat) (p : Nat) : ∀ r, posAt x p (r + 1) = posAt x (p + (tk (x.drop p)).2) r
  | 0 => rfl
  | r + 1 => by rw [posAt, posAt_shift x p r]; rfl
theorem rot_ws {wh : List Nat} (hwh : ∀ c ∈ wh, isWs c = true) : ∀ c ∈ rot wh, isWs c = true := by
  cases wh with
  | nil => exact hwh
  | cons a r =>
    intro c hc
    rcases List.mem_append.mp hc with h | h
    · exact hwh c (.tail _ h)
    · rw [List.mem_singleton] at h; rw [h]; exact hwh a (.head _)
theorem body_toks : ∀ (ws : List (List Nat)) (pre post wh : List Nat) (m : Nat), wh.length = 4 → (∀ c ∈ wh, isWs c = true) → (∀ w ∈ ws, Ltr w) →
    (∀ r w, ws[r]? = some w → (tk ((pre ++ bodyT wh m ws ++ post).drop (posAt (pre ++ bodyT wh m ws ++ post) pre.length r))).1 = w) ∧ posAt (pre ++ bodyT wh m ws ++ post) pre.length ws.length = (pre ++ bodyT wh m ws).length
  | [], pre, post, wh, m, _, _, _ => ⟨fun r w h => by simp at h, by simp [posAt, bodyT]⟩
  | w :: ws, pre, post, wh, m, h4, hwh, hw => by
    have ih := body_toks ws (pre ++ piece wh m w) post (rot wh) (m / 3) (by rw [rot_len]; exact h4) (rot_ws hwh) fun v hv => hw v (.tail _ hv)
    have e : pre ++ bodyT wh m (w :: ws) ++ post = pre ++ piece wh m w ++ bodyT (rot wh) (m / 3) ws ++ post := by simp [bodyT]
    have e0 : (pre ++ piece wh m w ++ bodyT (rot wh) (m / 3) ws ++ post).drop pre.length = piece wh m w ++ (bodyT (rot wh) (m / 3) ws ++ post) := by simp
    have t0 := tk_piece (wh := wh) (m := m) (w := w) h4 hwh (hw w (.head _)) (bodyT (rot wh) (m / 3) ws ++ post)
    rw [e]
    have es : ∀ r, posAt (pre ++ piece wh m w ++ bodyT (rot wh) (m / 3) ws ++ post) pre.length (r + 1) = posAt (pre ++ piece wh m w ++ bodyT (rot wh) (m / 3) ws ++ post) (pre ++ piece wh m w).length r := fun r => by
      rw [posAt_shift, e0, t0, List.length_append]
    refine ⟨fun r v hv => ?_, ?_⟩
    · cases r with
      | zero =>
        simp only [List.getElem?_cons_zero, Option.some.injEq] at hv
        subst hv
        rw [posAt, e0, t0]
      | succ r =>
        rw [es]
        exact ih.1 r v (by simpa using hv)
    · rw [List.length_cons, es, ih.2]
      simp [bodyT]
theorem qd_esc : ∀ (l r : List Nat), qd ((l.map esc1).flatten ++ 34 :: r) = (l, ((l.map esc1).flatten).length + 1)
  | [], r => by simp [qd]
  | c :: l, r => by
    have ih := qd_esc l r
    rw [List.map_cons, List.flatten_cons, List.append_assoc]
    by_cases h : c ∈ [34, 92]
    · have e : esc1 c = [92, c] := by unfold esc1; rw [if_pos h]
      rw [e]
      show qd (92 :: c :: ((l.map esc1).flatten ++ 34 :: r)) = _
      rw [qd, ih]; simp
    · have e : esc1 c = [c] := by unfold esc1; rw [if_neg h]
      have h1 : c ≠ 34 := fun q => h (by rw [q]; simp)
      have h2 : c ≠ 92 := fun q => h (by rw [q]; simp)
      rw [e]
      show qd (c :: ((l.map esc1).flatten ++ 34 :: r)) = _
      rw [qd]
      · rw [if_neg h1, ih]; simp
      · intro q _; exact h2 q
      · intro d r' q _; exact h2 q
theorem tk_quoted (l r : List Nat) : tk ([34] ++ (l.map esc1).flatten ++ [34] ++ r) = (l, ([34] ++ (l.map esc1).flatten ++ [34]).length) := by
  show tk (34 :: ((l.map esc1).flatten ++ [34] ++ r)) = _
  rw [tk]
  · rw [if_neg (by decide), if_pos rfl, List.append_assoc, show ([34] : List Nat) ++ r = 34 :: r from rfl, qd_esc]
    simp
  · intro q _; cases q
  · intro d r' q _; cases q
noncomputable def escb (c : Nat) : List Nat := if c ∈ [92, 32, 10, 9, 13] then [92, c] else [c]
theorem bd_escb : ∀ (l : List Nat), bd ((l.map escb).flatten) = (l, ((l.map escb).flatten).length + 1)
  | [] => by simp [bd]
  | c :: l => by
    have ih := bd_escb l
    rw [List.map_cons, List.flatten_cons]
    by_cases h : c ∈ [92, 32, 10, 9, 13]
    · have e : escb c = [92, c] := by unfold escb; rw [if_pos h]
      rw [e]
      show bd (92 :: c :: ((l.map escb).flatten)) = _
      rw [bd, ih]; simp
    · have e : escb c = [c] := by unfold escb; rw [if_neg h]
      have h2 : c ≠ 92 := fun q => h (by rw [q]; simp)
      have h3 : isWs c = false := by
        unfold isWs; rw [decide_eq_false_iff_not]; intro q; apply h; simp at q; rcases q with rfl | rfl | rfl | rfl <;> decide
      rw [e]
      show bd (c :: ((l.map escb).flatten)) = _
      rw [bd]
      · rw [h3, ih]; simp
      · intro q _; exact h2 q
      · intro d r' q _; exact h2 q
theorem tk_bare3 (l : List Nat) (h : l.length = 3) : tk (((List.range 3).map (esc2 l)).flatten) = (l, (((List.range 3).map (esc2 l)).flatten).length + 1) := by
  match l, h with
  | [a, b, c], _ =>
    have e : ((List.range 3).map (esc2 [a, b, c])).flatten = 92 :: a :: (([b, c].map escb).flatten) := by
      simp [List.range_succ, esc2, escb]
    rw [e, tk, bd_escb]
    simp
theorem tk_nil : tk [] = ([], 1) := by rw [tk]
theorem textT_eq (ws : List (List Nat)) (m : Nat) : textT ws m = bodyT [10, 32, 13, 9] m ws ++ (([34] ++ ((lastT (mOf m ws)).map esc1).flatten ++ [34]) ++ ((List.range 3).map (esc2 (lastT (mOf m ws)))).flatten) := by
  unfold textT; simp only [List.append_assoc]
theorem posAt_end (x : List Nat) (p : Nat) (k : Nat) (h : x.length ≤ posAt x p k) : ∀ j, (tk (x.drop (posAt x p (k + j)))).1 = [] ∧ x.length ≤ posAt x p (k + j)
  | 0 => ⟨by rw [Nat.add_zero, List.drop_eq_nil_of_le h, tk_nil], h⟩
  | j + 1 => by
    have ih := posAt_end x p k h j
    have : x.length ≤ posAt x p (k + (j + 1)) := by
      show x.length ≤ posAt x p (k + j) + _
      lia
    exact ⟨by rw [List.drop_eq_nil_of_le this, tk_nil], this⟩
theorem text_toks (ws : List (List Nat)) (m : Nat) (hw : ∀ w ∈ ws, Ltr w) :
    (∀ r w, ws[r]? = some w → (tk ((textT ws m).drop (posAt (textT ws m) 0 r))).1 = w) ∧ (tk ((textT ws m).drop (posAt (textT ws m) 0 ws.length))).1 = lastT (mOf m ws) ∧
    (tk ((textT ws m).drop (posAt (textT ws m) 0 (ws.length + 1)))).1 = lastT (mOf m ws) ∧ (textT ws m).length ≤ posAt (textT ws m) 0 (ws.length + 2) := by
  have B := body_toks ws [] (([34] ++ ((lastT (mOf m ws)).map esc1).flatten ++ [34]) ++ ((List.range 3).map (esc2 (lastT (mOf m ws)))).flatten) [10, 32, 13, 9] m rfl (by decide) hw
  rw [List.nil_append, ← textT_eq, List.length_nil] at B
  have e6 : (textT ws m).drop (posAt (textT ws m) 0 ws.length) = ([34] ++ ((lastT (mOf m ws)).map esc1).flatten ++ [34]) ++ ((List.range 3).map (esc2 (lastT (mOf m ws)))).flatten := by
    rw [B.2, textT_eq, List.drop_left]
  have t6 := tk_quoted (lastT (mOf m ws)) ((List.range 3).map (esc2 (lastT (mOf m ws)))).flatten
  have e7 : (textT ws m).drop (posAt (textT ws m) 0 (ws.length + 1)) = ((List.range 3).map (esc2 (lastT (mOf m ws)))).flatten := by
    rw [posAt, e6, t6, ← List.drop_drop, e6, List.drop_left]
  have t7 := tk_bare3 (lastT (mOf m ws)) (lastT_len _)
  refine ⟨B.1, by rw [e6, t6], by rw [e7, t7], ?_⟩
  rw [posAt, e7, t7, posAt, e6, t6, B.2]
  rw [textT_eq]
  simp only [List.length_append]
  lia
theorem nls_step (x : List Nat) (k : Nat) : nls x 0 (posAt x 0 k) + nls x (posAt x 0 k) (tk (x.drop (posAt x 0 k))).2 = nls x 0 (posAt x 0 (k + 1)) := by
  rw [posAt, nls_add, Nat.zero_add]
theorem hw_ltr {n : Nat} (h : n < 2 ^ 60) : Ltr (hw n) := fun c hc => hw_mem 100 n (Nat.lt_of_lt_of_le h (by decide)) c hc
theorem fmod_nat (i : Int) : ∃ n : Nat, i.fmod 1000000 = (n : Nat) ∧ n < 1000000 := by
  rw [Int.fmod_eq_emod_of_nonneg _ (by decide)]
  exact ⟨(i % 1000000).toNat, by lia, by lia⟩
theorem drawn_pos (m : Nat) (l0 : List Nat) (ns : List Int) (B : Nat) (h0 : ∀ x ∈ l0, 1 ≤ x ∧ x ≤ B) : ∀ k, ∃ l : List Nat, drawn m (l0.map fun (x : Nat) => (x : Int)) ns k = l.map (fun (x : Nat) => (x : Int)) ∧ l.length = l0.length ∧ ∀ x ∈ l, 1 ≤ x ∧ x ≤ B + k * 1000000
  | 0 => ⟨l0, rfl, rfl, fun x hx => by have := h0 x hx; lia⟩
  | k + 1 => by
    obtain ⟨l, e, hl, hb⟩ := drawn_pos m l0 ns B h0 k
    obtain ⟨n, en, hn⟩ := fmod_nat (ns.getD k 0)
    have hg : (l.map fun (x : Nat) => (x : Int)).getD (k % m) 0 = ((l.getD (k % m) 0 : Nat) : Int) := by
      simp only [List.getD_eq_getElem?_getD, List.getElem?_map]
      cases l[k % m]? <;> rfl
    refine ⟨l.set (k % m) (l.getD (k % m) 0 + n), ?_, by rw [List.length_set, hl], ?_⟩
    · rw [drawn, e, hg, en, ← Int.natCast_add, List.map_set]
    · rw [Nat.succ_mul]
      intro x hx
      rcases Nat.lt_or_ge (k % m) l.length with hk | q
      · rcases List.mem_or_eq_of_mem_set hx with h | h
        · have := hb x h
          generalize k * 1000000 = t at *; lia
        · subst h
          have := hb _ (show l.getD (k % m) 0 ∈ l by rw [List.getD_eq_getElem?_getD, List.getElem?_eq_getElem hk]; exact List.getElem_mem hk)
          generalize k * 1000000 = t at *; lia
      · rw [List.set_eq_of_length_le q] at hx
        have := hb x hx
        generalize k * 1000000 = t at *; lia
theorem drawn_ex (ns : List Int) (n : Nat) (hn : n ≤ 63) : ∃ d : Nat → Nat, drawn 6 [23, 19, 18, 21, 20, 5729] ns n = ((List.range 6).map d).map (fun (x : Nat) => (x : Int)) ∧ (∀ k, d k ≤ 2 ^ 30) ∧ ∀ k, k < 6 → 1 ≤ d k := by
  obtain ⟨l, e, hl, hb⟩ := drawn_pos 6 [23, 19, 18, 21, 20, 5729] ns 10000 (by decide) n
  have hl : l.length = 6 := hl
  refine ⟨fun k => l.getD k 0, ?_, fun k => ?_, fun k hk => ?_⟩
  · have q := rng_getD l
    rw [hl] at q
    rw [q]
    exact e
  · show l.getD k 0 ≤ _
    rw [List.getD_eq_getElem?_getD]
    cases c : l[k]? with
    | none => exact Nat.zero_le _
    | some y => have := hb y (List.mem_of_getElem? c); show y ≤ _; lia
  · show 1 ≤ l.getD k 0
    rw [List.getD_eq_getElem?_getD, List.getElem?_eq_getElem (by lia)]
    exact (hb _ (List.getElem_mem _)).1
theorem nbits {n : Nat} (h : n < 2 ^ 64) : Builtin.Int.intBits (n : Int) ≤ 64 := intBits_le_iff.mpr (by rw [Int.natAbs_natCast]; exact h)
theorem hw_inj {n m : Nat} (e : hw n = hw m) : n = m := by
  rcases Nat.lt_trichotomy n m with h | h | h
  · have := (hw_sh n m).mpr h; rw [e] at this; exact absurd this (ShL.irr _)
  · exact h
  · have := (hw_sh m n).mpr h; rw [e] at this; exact absurd this (ShL.irr _)
theorem rangeS (n : Nat) (f : Nat → List Nat) : (List.range n).map (fun i => V.str (S (f i))) = strsV ((List.range n).map f) := by rw [strsV, List.map_map]; rfl
theorem strs_flat (l : List (List Nat)) : (strsV l).all flatD = true := by
  rw [List.all_eq_true]; intro x hx
  obtain ⟨n, _, rfl⟩ := List.mem_map.mp hx
  rfl
theorem strs_rng {f : Nat → List Nat} {n i : Nat} (h : i < n) : (strsV ((List.range n).map f))[((i : Nat) : Int).toNat]? = some (.str (S (f i))) := by
  rw [Int.toNat_natCast, strsV, List.getElem?_map, List.getElem?_map, List.getElem?_range h]; rfl
theorem nat_rng {d : Nat → Nat} {n i : Nat} (h : i < n) : (nV ((List.range n).map d))[((i : Nat) : Int).toNat]? = some (.int (d i : Nat)) :=
  nV_get (by rw [Int.toNat_natCast, List.getElem?_map, List.getElem?_range h]; rfl)
theorem int_rng {f : Nat → Int} {n i : Nat} (h : i < n) : ((List.range n).map fun k => V.int (f k))[((i : Nat) : Int).toNat]? = some (.int (f i)) := by
  rw [Int.toNat_natCast, List.getElem?_map, List.getElem?_range h]; rfl
theorem parted2_ {C : Cx} {A : Around} {σ : Led} {Q : V → Led → Prop} {L : LxA} {wa wd ba kd : Addr} {nw : Nat} {Fw : Str → Option V} (o : List Nat) (d : Nat → Nat) (m : Nat) (hh : Nat → Int) (ehh : hh = fun k => ((d k : Nat) : Int) - (m : Nat)) (hC : C.Is (Mine.hd.heap_1 C.w.params)) (hM : C.Main (Str.ofString "/claim/cut.py")) (hA : Fit 20 A)
    (hol : o.length = 4) (hok : ∀ k ∈ o, k < 4) (hd : ∀ k, d k ≤ 2 ^ 40) (hm : m ≤ 2 ^ 40) (hW : ∀ k, k < 4 → Fw (S (hw (d k))) = some (.int (d k : Nat))) {ln : Int} {x : List Nat} {pos nk : Nat} {Fk : Int → Option V} (hn : nk ≤ 1000) (hds : (kd == sysModules) = false) (hk : Kn Fk)
    (h1 : (wa, AO.list (strsV (o.map fun k => hw (d k)))) ∈ σ) (h2 : (wd, AO.dct (strKind C.prog C.w) nw Fw) ∈ σ) (h3 : (ba, AO.list (strsV ((List.range 4).map fun k => hw (m * (k + 1))))) ∈ σ)
    (h : ∀ ta la n' F', n' ≤ nk + 4 → Kn F' → Q (.tup [.ref ta, .ref la]) ((ta, AO.list ((plcF hh o 0 0).reverse.map fun q => pairV (reps q.1 [32], hw (d q.2)))) :: (la, AO.list (strsV ((selN hh o 0).map fun k => hw (d k)))) :: (kd, AO.dct (intKind C.prog C.w) n' F') :: Lx 150 L ln [] x pos σ)) :
    Call C A ((kd, AO.dct (intKind C.prog C.w) nk Fk) :: Lx 150 L ln [] x pos σ) (.ref 185) [.ref L.lx, .ref wa, .ref wd, .ref ba, .ref kd] Q := by
  subst ehh
  refine parted_ o d m hC hM hA hol hok hd hm hW hn hds hk h1 h2 h3 fun ta la n' F' hn' hF' => ?_
  rw [← List.map_reverse]
  exact h ta la n' F' hn' hF'
theorem row_facts2 (h : Nat → Int) (o : List Nat) (hol : o.length = 4) (hok : ∀ k ∈ o, k < 4) (PL : List (Nat × Nat)) (SN : List Nat) (e1 : (plcF h o 0 0).reverse = PL) (e2 : selN h o 0 = SN) : (∀ q ∈ PL, q.2 < 4 ∧ q.1 < 4) ∧ (∀ k ∈ SN, k < 4) ∧ PL.length + SN.length = 4 ∧
    ((List.range 4).filter fun k => decide (0 < ((o.map h).take (k + 1)).sum)).reverse = PL.map Prod.fst ∧ ((PL.map Prod.snd) ++ SN).map h = laidF h o ∧ PL.length = (selZ h o 0).length := by
  obtain ⟨PL', e, r⟩ := row_facts h o hol hok
  rw [e1] at e
  subst e
  rw [e2] at r
  exact r
theorem pr_flat (l : List (Int × Int)) : (l.map prV).all flatD = true := by
  rw [List.all_eq_true]; intro x hx
  obtain ⟨n, _, rfl⟩ := List.mem_map.mp hx
  rfl
theorem pair_at {PL : List (Nat × Nat)} {d : Nat → Nat} {i : Nat} {y : V} (h : (PL.map fun q => pairV (reps q.1 [32], hw (d q.2)))[i]? = some y) : ∃ q, PL[i]? = some q ∧ y = .tup [.str (S (reps q.1 [32])), .str (S (hw (d q.2)))] := by
  rw [List.getElem?_map] at h
  obtain ⟨q, hq, rfl⟩ := Option.map_eq_some_iff.mp h
  exact ⟨q, hq, rfl⟩
theorem getDp_of {PL : List (Nat × Nat)} {i : Nat} {q : Nat × Nat} (h : PL[i]? = some q) : PL.getD i (0, 0) = q := by rw [List.getD_eq_getElem?_getD, h]; rfl
noncomputable abbrev LawS (F cA cB cW cX cO cE cR sc : Addr) (bars text last known told due order taken left above sums pile laid drawn worth lexer words heights draws : Option V) (σ : Led) : Led :=
  (F, AO.fr ["script", "bars", "text", "last", "known", "told", "due", "order", "taken", "left", "above", "sums", "pile"] [some (.ref sc), bars, text, last, known, told, due, order, taken, left, above, sums, pile]) :: (cA, AO.cell laid) :: (cB, AO.cell drawn) :: (cW, AO.cell worth) :: (cX, AO.cell lexer) :: (cO, AO.cell words) :: (cE, AO.cell heights) :: (cR, AO.cell draws) :: σ
theorem law_ {C : Cx} {A : Around} {σ : Led} {Q : V → Led → Prop} {sc : Addr} {ns : List Int} (hC : C.Is (Mine.hd.heap_1 C.w.params)) (hM : C.Main (Str.ofString "/claim/cut.py")) (hA : Fit 40 A)
    (hs : OldL C sc ns) (hn : ns.length ≤ 63) (h : ∀ ps, Q (.bool true) [(175, AO.table ps)]) : Call C A ((175, AO.table #[]) :: σ) (.ref 200) [.ref sc] Q := by
  obtain ⟨d, ed, hd, hd1⟩ := drawn_ex ns ns.length hn
  obtain ⟨hh, ehh⟩ : ∃ hh : Nat → Int, hh = fun k => ((d k : Nat) : Int) - (d 4 : Nat) := ⟨_, rfl⟩
  have hdb : ∀ k, d k < 16 ^ 100 := fun k => Nat.lt_of_le_of_lt (hd k) (by decide)
  have hdl : ∀ k, (hw (d k)).length ≤ 100 := fun k => hw_len 100 _ (hdb k)
  refine' call_fn (n := 39) (ks := ["script", "bars", "text", "last", "known", "told", "due", "order", "taken", "left", "above", "sums", "pile"]) (ps := ["script"]) (bxs := [.ref sc]) (cn := ["laid", "drawn", "worth", "lexer", "words", "heights", "draws"]) rfl ?ho hA ?nd ?hcn rfl ?hbind ?h ?c1 ?c2
  case ho =>
    intro s H
    refine ⟨_, H.bg.kin _ _ (show C.K.lookup 200 = some _ from (by rw [hC.isK]; k_is)), rfl, ?_⟩
    refine codeRec_of (K := Mine.hd.heap_1 C.w.params) (hC.isK ▸ H.bg.kin) ?_
    k_is
  (((case nd => decide); (case hcn => rfl); (case c1 => rfl); (case c2 => rfl)))
  case hbind => ((intro s as hk r; refine ⟨as, ?_, r⟩; (repeat (obtain ⟨_, _, e, _, r⟩ := r; subst e)); (first | subst r | skip); exact BindsTo.of_eq rfl))
  case h =>
    intro A₁ F cs hcs
    obtain ⟨cA, t1, rfl, g1⟩ := cs_c hcs
    obtain ⟨cB, t2, rfl, g2⟩ := cs_c g1
    obtain ⟨cW, t3, rfl, g3⟩ := cs_c g2
    obtain ⟨cX, t4, rfl, g4⟩ := cs_c g3
    obtain ⟨cO, t5, rfl, g5⟩ := cs_c g4
    obtain ⟨cE, t6, rfl, g6⟩ := cs_c g5
    obtain ⟨cR, t7, rfl, g7⟩ := cs_c g6
    cases cs_0 g7
    clear g1 g2 g3 g4 g5 g6 g7 hcs
    ((simp only [celled, List.map_cons, List.map_nil, List.cons_append, List.nil_append]))
    show St _ _ _ (storeName _ _) _ _
    walk_at "E.run"
    intro A' hA'
    walk_at "E.run"
    refine draws_ hC (hA'.le (by decide)) hs hn fun dr => ?_
    rw [ed, show (((List.range 6).map d).map fun (x : Nat) => (x : Int)).map V.int = nV ((List.range 6).map d) from rfl]
    clear ed
    walk_at "E.run"
    refine' e_lc (ks := ["k"]) (cn := []) ?nd ?hcn ?hclos ?hk ?hn ?_ ?ht ?hs
    (((case nd => decide); (case hcn => rfl); (case hclos => rfl); (case hk => rfl); (case hn => decide); (case ht => intro _ _; rfl); (case hs => intro _; rfl)))
    walk_at "E.run"
    refine c_range1 fun r1 => ?_
    refine it_range (by walk_at "M.mem") (by decide) (by decide) (by decide) (by decide) fun r2 => ?_
    intro hl L1 cs1 hcs1
    cases cs_0 hcs1
    ((simp only [celled, List.map_cons, List.map_nil, List.cons_append, List.nil_append]))
    refine' cloop_rmap (n := 4) (τ := (dr, AO.list (nV ((List.range 6).map d))) :: (175, AO.table #[]) :: LawS F cA cB cW cX cO cE cR sc none none none none none none none none none none none none none none none none none none (some (.ref dr)) (σ)) (fun i => V.int (hh i)) rfl hA'.1 ?sb1 (by rw [sizeLine_eq]; decide) rfl rfl ?_ ?_
    case sb1 => ((repeat (first | exact Sb.refl | exact Sb.nil | exact Sb.s1 | exact Sb.s2 | exact Sb.s3 | exact Sb.s4 | (apply Sb.take; focus ((repeat (first | exact Pick.head | exact Pick.h1 | exact Pick.h2 | exact Pick.h3 | apply Pick.t4)); done)) | apply Sb.skip)))
    · intro i acc Y hi hacc
      rw [Int.zero_add]
      walk_at "E.run"
      refine g_list (by walk_at "M.mem") (by lia) (by lia) (nat_rng (show i < 6 by lia)) ?_
      walk_at "E.run"
      refine g_list (by walk_at "M.mem") (by decide) (by decide) (nV_get (k := d 4) rfl) ?_
      walk_at "E.run"
      exact ⟨by rw [ehh], by ((repeat (first | exact Sb.refl | exact Sb.nil | exact Sb.s1 | exact Sb.s2 | exact Sb.s3 | exact Sb.s4 | (apply Sb.take; focus ((repeat (first | exact Pick.head | exact Pick.h1 | exact Pick.h2 | exact Pick.h3 | apply Pick.t4)); done)) | apply Sb.skip)))⟩
    intro u1
    refine ⟨[u1], (hl, AO.list ((List.range 4).map fun k => V.int (hh k))) :: (dr, AO.list (nV ((List.range 6).map d))) :: (175, AO.table #[]) :: LawS F cA cB cW cX cO cE cR sc none none none none none none none none none none none none none none none none none none (some (.ref dr)) (σ), by ((repeat (first | exact Sb.refl | exact Sb.nil | exact Sb.s1 | exact Sb.s2 | exact Sb.s3 | exact Sb.s4 | (apply Sb.take; focus ((repeat (first | exact Pick.head | exact Pick.h1 | exact Pick.h2 | exact Pick.h3 | apply Pick.t4)); done)) | apply Sb.skip))), ?_⟩
    walk_at "E.run"
    refine' e_lc (ks := ["number"]) (cn := []) ?nd ?hcn ?hclos ?hk ?hn ?_ ?ht ?hs
    (((case nd => decide); (case hcn => rfl); (case hclos => rfl); (case hk => rfl); (case hn => decide); (case ht => intro _ _; rfl); (case hs => intro _; rfl)))
    walk_at "E.run"
    refine ⟨_, _, .none, .int, fun sl => ?_⟩
    walk_at "E.run"
    refine g_list_slice (by walk_at "M.mem") (by rw [sizeLine_eq]; show 6 ≤ _; decide) fun s4 => ?_
    rw [show cut (nV ((List.range 6).map d)) none (some 4) = nV ((List.range 4).map d) from rfl]
    refine it_list (by walk_at "M.mem") fun i2 => ?_
    intro wl L2 cs2 hcs2
    cases cs_0 hcs2
    ((simp only [celled, List.map_cons, List.map_nil, List.cons_append, List.nil_append]))
    refine' cloop_map (l := nV ((List.range 4).map d)) (G := fun σ => (s4, AO.list (nV ((List.range 4).map d))) ∈ σ) (τ := (s4, AO.list (nV ((List.range 4).map d))) :: (hl, AO.list ((List.range 4).map fun k => V.int (hh k))) :: (dr, AO.list (nV ((List.range 6).map d))) :: (175, AO.table #[]) :: LawS F cA cB cW cX cO cE cR sc none none none none none none none none none none none none none none none none none (some (.ref hl)) (some (.ref dr)) (σ)) (fun i => V.str (S (hw (d i)))) ?sb2 (iter_list (b := s4) hA'.1) ?hG2 (by rw [sizeLine_eq]; show 4 ≤ _; decide) rfl rfl ?_ ?_
    case sb2 => ((repeat (first | exact Sb.refl | exact Sb.nil | exact Sb.s1 | exact Sb.s2 | exact Sb.s3 | exact Sb.s4 | (apply Sb.take; focus ((repeat (first | exact Pick.head | exact Pick.h1 | exact Pick.h2 | exact Pick.h3 | apply Pick.t4)); done)) | apply Sb.skip)))
    case hG2 => intro acc u'; walk_at "M.mem"
    · intro i y acc hy hal
      obtain ⟨kk, hkk, rfl⟩ := nV_at hy
      have hi : i < 4 := by have := (List.getElem?_eq_some_iff.mp hkk).1; rwa [List.length_map, List.length_range] at this
      rw [List.getElem?_map, List.getElem?_range hi] at hkk
      cases hkk
      walk_at "E.run"
      refine word_ hC (hA'.le (by decide)) _ (by rw [Int.toNat_natCast]; exact hdb i) ?_
      rw [Int.toNat_natCast]
      exact ⟨rfl, by ((repeat (first | exact Sb.refl | exact Sb.nil | exact Sb.s1 | exact Sb.s2 | exact Sb.s3 | exact Sb.s4 | (apply Sb.take; focus ((repeat (first | exact Pick.head | exact Pick.h1 | exact Pick.h2 | exact Pick.h3 | apply Pick.t4)); done)) | apply Sb.skip)))⟩
    intro u2
    rw [show (nV ((List.range 4).map d)).length = 4 from rfl, rangeS 4 fun i => hw (d i)]
    refine ⟨[u2], (wl, AO.list (strsV ((List.range 4).map fun k => hw (d k)))) :: (hl, AO.list ((List.range 4).map fun k => V.int (hh k))) :: (dr, AO.list (nV ((List.range 6).map d))) :: (175, AO.table #[]) :: LawS F cA cB cW cX cO cE cR sc none none none none none none none none none none none none none none none none none (some (.ref hl)) (some (.ref dr)) (σ), by ((repeat (first | exact Sb.refl | exact Sb.nil | exact Sb.s1 | exact Sb.s2 | exact Sb.s3 | exact Sb.s4 | (apply Sb.take; focus ((repeat (first | exact Pick.head | exact Pick.h1 | exact Pick.h2 | exact Pick.h3 | apply Pick.t4)); done)) | apply Sb.skip))), ?_⟩
    walk_at "E.run"
    refine' x_lc (ks := ["k"]) (cn := []) ?nd ?hcn ?hclos ?hk ?hn ?_ ?ht ?hs ?hsw
    (((case nd => decide); (case hcn => rfl); (case hclos => rfl); (case hk => rfl); (case hn => decide); (case ht => intro _ _; rfl); (case hs => intro _; rfl)))
    case hsw => rfl
    walk_at "E.run"
    refine c_range2 fun r3 => ?_
    refine it_range (by walk_at "M.mem") (by decide) (by decide) (by decide) (by decide) fun r4 => ?_
    intro bl L3 cs3 hcs3
    cases cs_0 hcs3
    ((simp only [celled, List.map_cons, List.map_nil, List.cons_append, List.nil_append]))
    refine' cloop_rmap (n := 4) (τ := (wl, AO.list (strsV ((List.range 4).map fun k => hw (d k)))) :: (hl, AO.list ((List.range 4).map fun k => V.int (hh k))) :: (dr, AO.list (nV ((List.range 6).map d))) :: (175, AO.table #[]) :: LawS F cA cB cW cX cO cE cR sc none none none none none none none none none none none none none none none none (some (.ref wl)) (some (.ref hl)) (some (.ref dr)) (σ)) (fun i => V.str (S (hw (d 4 * (i + 1))))) rfl hA'.1 ?sb3 (by rw [sizeLine_eq]; decide) rfl rfl ?_ ?_
    case sb3 => ((repeat (first | exact Sb.refl | exact Sb.nil | exact Sb.s1 | exact Sb.s2 | exact Sb.s3 | exact Sb.s4 | (apply Sb.take; focus ((repeat (first | exact Pick.head | exact Pick.h1 | exact Pick.h2 | exact Pick.h3 | apply Pick.t4)); done)) | apply Sb.skip)))
    · intro i acc Y hi hacc
      walk_at "E.run"
      refine g_list (by walk_at "M.mem") (by decide) (by decide) (nV_get (k := d 4) rfl) ?_
      walk_at "E.run"
      refine bin_mul ?_ (IntMulOk.of_left (nbits (Nat.lt_of_le_of_lt (hd 4) (by decide))))
      rw [show ((d 4 : Nat) : Int) * (1 + (i : Nat)) = ((d 4 * (i + 1) : Nat) : Int) by rw [Int.natCast_mul, Int.add_comm]; rfl]
      walk_at "E.run"
      refine word_ hC (hA'.le (by decide)) _ (by rw [Int.toNat_natCast]; exact Nat.lt_of_le_of_lt (Nat.mul_le_mul (hd 4) (show i + 1 ≤ 4 by lia)) (by decide)) ?_
      rw [Int.toNat_natCast]
      exact ⟨rfl, by ((repeat (first | exact Sb.refl | exact Sb.nil | exact Sb.s1 | exact Sb.s2 | exact Sb.s3 | exact Sb.s4 | (apply Sb.take; focus ((repeat (first | exact Pick.head | exact Pick.h1 | exact Pick.h2 | exact Pick.h3 | apply Pick.t4)); done)) | apply Sb.skip)))⟩
    intro u3
    rw [rangeS 4 fun i => hw (d 4 * (i + 1))]
    walk_at "E.run"
    refine ⟨[u3], (bl, AO.list (strsV ((List.range 4).map fun k => hw (d 4 * (k + 1))))) :: (wl, AO.list (strsV ((List.range 4).map fun k => hw (d k)))) :: (hl, AO.list ((List.range 4).map fun k => V.int (hh k))) :: (dr, AO.list (nV ((List.range 6).map d))) :: (175, AO.table #[]) :: LawS F cA cB cW cX cO cE cR sc (some (.ref bl)) none none none none none none none none none none none none none none none (some (.ref wl)) (some (.ref hl)) (some (.ref dr)) (σ), by ((repeat (first | exact Sb.refl | exact Sb.nil | exact Sb.s1 | exact Sb.s2 | exact Sb.s3 | exact Sb.s4 | (apply Sb.take; focus ((repeat (first | exact Pick.head | exact Pick.h1 | exact Pick.h2 | exact Pick.h3 | apply Pick.t4)); done)) | apply Sb.skip))), ?_⟩
    walk_at "E.run"
    refine g_list (by walk_at "M.mem") (by decide) (by decide) (nV_get (k := d 5) rfl) ?_
    walk_at "E.run"
    have hmem : ∀ w ∈ (List.range 4).map fun k => hw (d k), ∃ n, n < 4 ∧ w = hw (d n) := fun w hw' => by
      obtain ⟨n, h1, rfl⟩ := List.mem_map.mp hw'
      exact ⟨n, List.mem_range.mp h1, rfl⟩
    have hl4 : ∀ w ∈ (List.range 4).map fun k => hw (d k), w.length ≤ 100 := fun w hw' => by obtain ⟨n, _, rfl⟩ := hmem w hw'; exact hdl n
    have hL4 : ∀ w ∈ (List.range 4).map fun k => hw (d k), Ltr w := fun w hw' => by obtain ⟨n, _, rfl⟩ := hmem w hw'; exact hw_ltr (Nat.lt_of_le_of_lt (hd n) (by decide))
    have hne4 : ∀ w ∈ (List.range 4).map fun k => hw (d k), w ≠ [] := fun w hw' => by
      obtain ⟨n, h1, rfl⟩ := hmem w hw'
      rw [hw_pos (show d n ≠ 0 by have := hd1 n (by lia); lia)]
      simp
    refine Call.sb (σ' := (wl, AO.list (strsV ((List.range 4).map fun k => hw (d k)))) :: (bl, AO.list (strsV ((List.range 4).map fun k => hw (d 4 * (k + 1))))) :: (hl, AO.list ((List.range 4).map fun k => V.int (hh k))) :: (dr, AO.list (nV ((List.range 6).map d))) :: (175, AO.table #[]) :: LawS F cA cB cW cX cO cE cR sc (some (.ref bl)) none none none none none none none none none none none none none none none (some (.ref wl)) (some (.ref hl)) (some (.ref dr)) (σ)) (by ((repeat (first | exact Sb.refl | exact Sb.nil | exact Sb.s1 | exact Sb.s2 | exact Sb.s3 | exact Sb.s4 | (apply Sb.take; focus ((repeat (first | exact Pick.head | exact Pick.h1 | exact Pick.h2 | exact Pick.h3 | apply Pick.t4)); done)) | apply Sb.skip)))) (text_ hC (hA'.le (by decide)) (d 5) (Nat.lt_of_le_of_lt (hd 5) (by decide)) (by rw [List.length_map, List.length_range]; decide) hl4 hne4 ?_)
    have TT := text_toks ((List.range 4).map fun k => hw (d k)) (d 5) hL4
    have hxl : (textT ((List.range 4).map fun k => hw (d k)) (d 5)).length ≤ 1000000 := by
      rw [textT_eq]
      have h1 := bodyT_len ((List.range 4).map fun k => hw (d k)) [10, 32, 13, 9] (d 5) hl4
      have h2 := esc1_len (lastT (mOf (d 5) ((List.range 4).map fun k => hw (d k))))
      have h3 := esc2_len (lastT (mOf (d 5) ((List.range 4).map fun k => hw (d k)))) 3
      rw [lastT_len] at h2
      simp only [List.length_append, List.length_cons, List.length_nil, List.length_map, List.length_range] at h1 h2 h3 ⊢
      lia
    generalize textT ((List.range 4).map fun k => hw (d k)) (d 5) = x at TT hxl ⊢
    generalize lastT (mOf (d 5) ((List.range 4).map fun k => hw (d k))) = l at TT ⊢
    clear hmem hl4 hL4 hne4
    rw [List.length_map, List.length_range] at TT
    obtain ⟨TT0, T1, T2, T3⟩ := TT
    have T4 := posAt_end x 0 6 T3
    have step : ∀ k, (1 : Int) + nls x 0 (posAt x 0 k) + nls x (posAt x 0 k) (tk (x.drop (posAt x 0 k))).2 = 1 + nls x 0 (posAt x 0 (k + 1)) := fun k => by rw [Int.add_assoc, nls_step]
    refine asg_tup hA'.1 ?_ (by simp) rfl rfl
    walk_at "E.run"
    refine Call.sb (σ' := (175, AO.table #[]) :: (wl, AO.list (strsV ((List.range 4).map fun k => hw (d k)))) :: (hl, AO.list ((List.range 4).map fun k => V.int (hh k))) :: (dr, AO.list (nV ((List.range 6).map d))) :: (bl, AO.list (strsV ((List.range 4).map fun k => hw (d 4 * (k + 1))))) :: LawS F cA cB cW cX cO cE cR sc (some (.ref bl)) (some (.str (S x))) (some (.str (S l))) none none none none none none none none none none none none none (some (.ref wl)) (some (.ref hl)) (some (.ref dr)) (σ)) (by ((repeat (first | exact Sb.refl | exact Sb.nil | exact Sb.s1 | exact Sb.s2 | exact Sb.s3 | exact Sb.s4 | (apply Sb.take; focus ((repeat (first | exact Pick.head | exact Pick.h1 | exact Pick.h2 | exact Pick.h3 | apply Pick.t4)); done)) | apply Sb.skip)))) (lexer_ hC (hA'.le (by decide)) x fun LX ps hRL => ?_)
    walk_at "E.run"
    refine' e_lc (ks := ["k"]) (cn := []) ?nd ?hcn ?hclos ?hk ?hn ?_ ?ht ?hs
    (((case nd => decide); (case hcn => rfl); (case hclos => rfl); (case hk => rfl); (case hn => decide); (case ht => intro _ _; rfl); (case hs => intro _; rfl)))
    walk_at "E.run"
    refine c_range1 fun r5 => ?_
    refine it_range (by walk_at "M.mem") (by decide) (by decide) (by decide) (by decide) fun r6 => ?_
    intro D4 L4 cs4 hcs4
    cases cs_0 hcs4
    ((simp only [celled, List.map_cons, List.map_nil, List.cons_append, List.nil_append]))
    refine cloop_R0 (n := 4) (σ' := (L4, AO.fr ["k"] [none]) :: Lx 150 LX (1 + nls x 0 (posAt x 0 0)) [] x (posAt x 0 0) ((175, AO.table ps) :: (wl, AO.list (strsV ((List.range 4).map fun k => hw (d k)))) :: (hl, AO.list ((List.range 4).map fun k => V.int (hh k))) :: (dr, AO.list (nV ((List.range 6).map d))) :: (bl, AO.list (strsV ((List.range 4).map fun k => hw (d 4 * (k + 1))))) :: LawS F cA cB cW cX cO cE cR sc (some (.ref bl)) (some (.str (S x))) (some (.str (S l))) none none none none none none none none none none none none (some (.ref LX.lx)) (some (.ref wl)) (some (.ref hl)) (some (.ref dr)) (σ))) (by ((repeat (first | exact Sb.refl | exact Sb.nil | exact Sb.s1 | exact Sb.s2 | exact Sb.s3 | exact Sb.s4 | (apply Sb.take; focus ((repeat (first | exact Pick.head | exact Pick.h1 | exact Pick.h2 | exact Pick.h3 | apply Pick.t4)); done)) | apply Sb.skip)))) hA'.1
      (fun i acc σ' => ∃ u, acc = strsV ((List.range i).map fun k => hw (d k)) ∧ σ' = (L4, AO.fr ["k"] [u]) :: Lx 150 LX (1 + nls x 0 (posAt x 0 i)) [] x (posAt x 0 i) ((175, AO.table ps) :: (wl, AO.list (strsV ((List.range 4).map fun k => hw (d k)))) :: (hl, AO.list ((List.range 4).map fun k => V.int (hh k))) :: (dr, AO.list (nV ((List.range 6).map d))) :: (bl, AO.list (strsV ((List.range 4).map fun k => hw (d 4 * (k + 1))))) :: LawS F cA cB cW cX cO cE cR sc (some (.ref bl)) (some (.str (S x))) (some (.str (S l))) none none none none none none none none none none none none (some (.ref LX.lx)) (some (.ref wl)) (some (.ref hl)) (some (.ref dr)) (σ))) ⟨none, rfl, rfl⟩ (by rw [sizeLine_eq]; decide) ?_ ?_
    · rintro i X acc σ' hi hal ⟨u, rfl, rfl⟩
      walk_at "E.run"
      (refine m_fn (by assumption) (isI_inst (by walk_at "M.mem")) (by walk_at "M.mem") (by decide) (by kernel_rfl) (f := 140) (by kernel_rfl) (by kernel_rfl) ?_)
      walk_at "E.run"
      refine Call.sb (σ' := Lx 150 LX (1 + nls x 0 (posAt x 0 i)) [] x (posAt x 0 i) ((r6, X) :: (D4, AO.list (strsV ((List.range i).map fun k => hw (d k)))) :: (L4, AO.fr ["k"] [some (.int ((i : Nat) : Int))]) :: (175, AO.table ps) :: (wl, AO.list (strsV ((List.range 4).map fun k => hw (d k)))) :: (hl, AO.list ((List.range 4).map fun k => V.int (hh k))) :: (dr, AO.list (nV ((List.range 6).map d))) :: (bl, AO.list (strsV ((List.range 4).map fun k => hw (d 4 * (k + 1))))) :: LawS F cA cB cW cX cO cE cR sc (some (.ref bl)) (some (.str (S x))) (some (.str (S l))) none none none none none none none none none none none none (some (.ref LX.lx)) (some (.ref wl)) (some (.ref hl)) (some (.ref dr)) (σ))) (by ((repeat (first | exact Sb.refl | exact Sb.nil | exact Sb.s1 | exact Sb.s2 | exact Sb.s3 | exact Sb.s4 | (apply Sb.take; focus ((repeat (first | exact Pick.head | exact Pick.h1 | exact Pick.h2 | exact Pick.h3 | apply Pick.t4)); done)) | apply Sb.skip)))) (get_ hC (hA'.le (by decide)) hRL hxl ?_)
      rw [step i, TT0 i (hw (d i)) (by rw [List.getElem?_map, List.getElem?_range hi]; rfl), show posAt x 0 i + (tk (x.drop (posAt x 0 i))).2 = posAt x 0 (i + 1) from rfl]
      refine ⟨(L4, AO.fr ["k"] [some (.int ((i : Nat) : Int))]) :: Lx 150 LX (1 + nls x 0 (posAt x 0 (i + 1))) [] x (posAt x 0 (i + 1)) ((175, AO.table ps) :: (wl, AO.list (strsV ((List.range 4).map fun k => hw (d k)))) :: (hl, AO.list ((List.range 4).map fun k => V.int (hh k))) :: (dr, AO.list (nV ((List.range 6).map d))) :: (bl, AO.list (strsV ((List.range 4).map fun k => hw (d 4 * (k + 1))))) :: LawS F cA cB cW cX cO cE cR sc (some (.ref bl)) (some (.str (S x))) (some (.str (S l))) none none none none none none none none none none none none (some (.ref LX.lx)) (some (.ref wl)) (some (.ref hl)) (some (.ref dr)) (σ)), by ((repeat (first | exact Sb.refl | exact Sb.nil | exact Sb.s1 | exact Sb.s2 | exact Sb.s3 | exact Sb.s4 | (apply Sb.take; focus ((repeat (first | exact Pick.head | exact Pick.h1 | exact Pick.h2 | exact Pick.h3 | apply Pick.t4)); done)) | apply Sb.skip))), _, ?_, rfl⟩
      rw [List.range_succ, List.map_append, strsV, strsV, List.map_append]
      rfl
    rintro acc σ' ⟨u, rfl, rfl⟩
    refine ⟨[u], (D4, AO.list (strsV ((List.range 4).map fun k => hw (d k)))) :: Lx 150 LX (1 + nls x 0 (posAt x 0 4)) [] x (posAt x 0 4) ((175, AO.table ps) :: (wl, AO.list (strsV ((List.range 4).map fun k => hw (d k)))) :: (hl, AO.list ((List.range 4).map fun k => V.int (hh k))) :: (dr, AO.list (nV ((List.range 6).map d))) :: (bl, AO.list (strsV ((List.range 4).map fun k => hw (d 4 * (k + 1))))) :: LawS F cA cB cW cX cO cE cR sc (some (.ref bl)) (some (.str (S x))) (some (.str (S l))) none none none none none none none none none none none none (some (.ref LX.lx)) (some (.ref wl)) (some (.ref hl)) (some (.ref dr)) (σ)), by ((repeat (first | exact Sb.refl | exact Sb.nil | exact Sb.s1 | exact Sb.s2 | exact Sb.s3 | exact Sb.s4 | (apply Sb.take; focus ((repeat (first | exact Pick.head | exact Pick.h1 | exact Pick.h2 | exact Pick.h3 | apply Pick.t4)); done)) | apply Sb.skip))), ?_⟩
    walk_at "E.run"
    refine cmp_lne (hA'.le (by decide)) (a := D4) (b := wl) (by walk_at "M.mem") (by walk_at "M.mem") (strs_flat _) ?_
    walk_at "E.run"
    rw [if_neg (by decide)]
    walk_at "E.run"
    refine' e_dc (strKind C.prog C.w) (ks := ["k"]) (cn := []) ?nd ?hcn ?hclos ?hk ?hn ?_ ?ht ?hs
    (((case nd => decide); (case hcn => rfl); (case hclos => rfl); (case hk => rfl); (case hn => decide); (case ht => intro _ _; rfl); (case hs => intro _; rfl)))
    walk_at "E.run"
    refine c_range1 fun r7 => ?_
    refine it_range (by walk_at "M.mem") (by decide) (by decide) (by decide) (by decide) fun r8 => ?_
    intro wd L5 cs5 hcs5
    cases cs_0 hcs5
    ((simp only [celled, List.map_cons, List.map_nil, List.cons_append, List.nil_append]))
    refine' dloop_iter (l := upto 0 4) (σ' := (L5, AO.fr ["k"] [none]) :: Lx 150 LX (1 + nls x 0 (posAt x 0 4)) [] x (posAt x 0 4) ((175, AO.table ps) :: (wl, AO.list (strsV ((List.range 4).map fun k => hw (d k)))) :: (hl, AO.list ((List.range 4).map fun k => V.int (hh k))) :: (dr, AO.list (nV ((List.range 6).map d))) :: (bl, AO.list (strsV ((List.range 4).map fun k => hw (d 4 * (k + 1))))) :: LawS F cA cB cW cX cO cE cR sc (some (.ref bl)) (some (.str (S x))) (some (.str (S l))) none none none none none none none none none none none none (some (.ref LX.lx)) (some (.ref wl)) (some (.ref hl)) (some (.ref dr)) (σ))) ?sb5 (iter_range hA'.1 (i := 0) (n := 4)) (by rw [upto_len]; decide) (fd (fun k => S (hw (d k))) (fun k => V.int (d k : Nat)))
      (fun i σ' => ∃ u, σ' = (L5, AO.fr ["k"] [u]) :: Lx 150 LX (1 + nls x 0 (posAt x 0 4)) [] x (posAt x 0 4) ((175, AO.table ps) :: (wl, AO.list (strsV ((List.range 4).map fun k => hw (d k)))) :: (hl, AO.list ((List.range 4).map fun k => V.int (hh k))) :: (dr, AO.list (nV ((List.range 6).map d))) :: (bl, AO.list (strsV ((List.range 4).map fun k => hw (d 4 * (k + 1))))) :: LawS F cA cB cW cX cO cE cR sc (some (.ref bl)) (some (.str (S x))) (some (.str (S l))) none none none none none none none none none none none none (some (.ref LX.lx)) (some (.ref wl)) (some (.ref hl)) (some (.ref dr)) (σ))) ⟨none, rfl⟩ rfl (fun _ _ _ => trivial) ?_ ?_
    case sb5 => ((repeat (first | exact Sb.refl | exact Sb.nil | exact Sb.s1 | exact Sb.s2 | exact Sb.s3 | exact Sb.s4 | (apply Sb.take; focus ((repeat (first | exact Pick.head | exact Pick.h1 | exact Pick.h2 | exact Pick.h3 | apply Pick.t4)); done)) | apply Sb.skip)))
    · rintro i y σ' hy ⟨u, rfl⟩
      obtain ⟨hi, rfl⟩ := upto_get hy
      rw [show (0 : Int) + (i : Nat) = (i : Nat) from Int.zero_add _]
      walk_at "E.run"
      refine g_list (by walk_at "M.mem") (by lia) (by lia) (strs_rng hi) ?_
      walk_at "E.run"
      refine g_list (by walk_at "M.mem") (by lia) (by lia) (nat_rng (show i < 6 by lia)) ?_
      exact ⟨_, _, key_str _, fd_succ _ _ _, by ((repeat (first | exact Sb.refl | exact Sb.nil | exact Sb.s1 | exact Sb.s2 | exact Sb.s3 | exact Sb.s4 | (apply Sb.take; focus ((repeat (first | exact Pick.head | exact Pick.h1 | exact Pick.h2 | exact Pick.h3 | apply Pick.t4)); done)) | apply Sb.skip))), _, rfl⟩
    rintro σ' ⟨u, rfl⟩
    rw [upto_len]
    refine ⟨[u], Lx 150 LX (1 + nls x 0 (posAt x 0 4)) [] x (posAt x 0 4) ((wd, AO.dct (strKind C.prog C.w) 4 (fd (fun k => S (hw (d k))) (fun k => V.int (d k : Nat)) 4)) :: (175, AO.table ps) :: (wl, AO.list (strsV ((List.range 4).map fun k => hw (d k)))) :: (hl, AO.list ((List.range 4).map fun k => V.int (hh k))) :: (dr, AO.list (nV ((List.range 6).map d))) :: (bl, AO.list (strsV ((List.range 4).map fun k => hw (d 4 * (k + 1))))) :: LawS F cA cB cW cX cO cE cR sc (some (.ref bl)) (some (.str (S x))) (some (.str (S l))) none none none none none none none none none none none none (some (.ref LX.lx)) (some (.ref wl)) (some (.ref hl)) (some (.ref dr)) (σ)), by ((repeat (first | exact Sb.refl | exact Sb.nil | exact Sb.s1 | exact Sb.s2 | exact Sb.s3 | exact Sb.s4 | (apply Sb.take; focus ((repeat (first | exact Pick.head | exact Pick.h1 | exact Pick.h2 | exact Pick.h3 | apply Pick.t4)); done)) | apply Sb.skip))), ?_⟩
    walk_at "E.run"
    refine e_dict0 (intKind C.prog C.w) fun kd hds => ?_
    walk_at "E.run"
    refine ⟨by rw [sizeLine_eq]; decide, fun tl => ?_⟩
    walk_at "E.run"
    refine ⟨by rw [sizeLine_eq]; decide, fun ul => ?_⟩
    walk_at "E.run"
    refine x_for' ?_
    walk_at "E.run"
    refine Call.sb (σ' := (tl, AO.list []) :: (ul, AO.list []) :: (kd, AO.dct (intKind C.prog C.w) (0) (fun _ => none)) :: Lx 150 LX (1 + nls x 0 (posAt x 0 4)) [] x (posAt x 0 4) ((175, AO.table ps) :: (wl, AO.list (strsV ((List.range 4).map fun k => hw (d k)))) :: (hl, AO.list ((List.range 4).map fun k => V.int (hh k))) :: (dr, AO.list (nV ((List.range 6).map d))) :: (bl, AO.list (strsV ((List.range 4).map fun k => hw (d 4 * (k + 1))))) :: (wd, AO.dct (strKind C.prog C.w) 4 (fd (fun k => S (hw (d k))) (fun k => V.int (d k : Nat)) 4)) :: LawS F cA cB cW cX cO cE cR sc (some (.ref bl)) (some (.str (S x))) (some (.str (S l))) (some (.ref kd)) (some (.ref tl)) (some (.ref ul)) none none none none none none none none (some (.ref wd)) (some (.ref LX.lx)) (some (.ref wl)) (some (.ref hl)) (some (.ref dr)) (σ))) (by ((repeat (first | exact Sb.refl | exact Sb.nil | exact Sb.s1 | exact Sb.s2 | exact Sb.s3 | exact Sb.s4 | (apply Sb.take; focus ((repeat (first | exact Pick.head | exact Pick.h1 | exact Pick.h2 | exact Pick.h3 | apply Pick.t4)); done)) | apply Sb.skip)))) ?_
    refine Call.drop (orders_ hC (hA'.le (by decide)) fun og ra => ⟨_, Sb.take .head (sb_rot (RwL ra (ordR 4) 24) _ σ : Sb (((tl, AO.list []) :: (ul, AO.list []) :: (kd, AO.dct (intKind C.prog C.w) (0) (fun _ => none)) :: Lx 150 LX (1 + nls x 0 (posAt x 0 4)) [] x (posAt x 0 4) ((175, AO.table ps) :: (wl, AO.list (strsV ((List.range 4).map fun k => hw (d k)))) :: (hl, AO.list ((List.range 4).map fun k => V.int (hh k))) :: (dr, AO.list (nV ((List.range 6).map d))) :: (bl, AO.list (strsV ((List.range 4).map fun k => hw (d 4 * (k + 1))))) :: (wd, AO.dct (strKind C.prog C.w) 4 (fd (fun k => S (hw (d k))) (fun k => V.int (d k : Nat)) 4)) :: LawS F cA cB cW cX cO cE cR sc (some (.ref bl)) (some (.str (S x))) (some (.str (S l))) (some (.ref kd)) (some (.ref tl)) (some (.ref ul)) none none none none none none none none (some (.ref wd)) (some (.ref LX.lx)) (some (.ref wl)) (some (.ref hl)) (some (.ref dr)) ([]))) ++ (RwL ra (ordR 4) 24 ++ σ)) _), ?_⟩)
    simp only [List.cons_append, List.nil_append]
    refine it_list (by walk_at "M.mem") fun io => ?_
    have hW : ∀ k, k < 4 → fd (fun k => S (hw (d k))) (fun k => V.int (d k : Nat)) 4 (S (hw (d k))) = some (.int (d k : Nat)) := fun k hk => fd_at (fun k => S (hw (d k))) (fun k => V.int (d k : Nat)) 4 (fun i j _ _ e => by rw [hw_inj (S_inj e)]) k hk
    obtain ⟨J, hJ⟩ : ∃ J : Nat → Led → Prop, ∀ t σ', J t σ' ↔ ∃ ts us n' F' u1 u2 u3 u4 u5 u6 u7, ts = ((ordsF 4).take t).map (toldP hh) ∧ us = ((ordsF 4).take t).map (dueP hh) ∧ n' ≤ 4 * t ∧ Kn F' ∧ σ' = (tl, AO.list (ts.map prV)) :: (ul, AO.list (us.map prV)) :: (kd, AO.dct (intKind C.prog C.w) (n') (F')) :: Lx 150 LX (1 + nls x 0 (posAt x 0 4)) [] x (posAt x 0 4) (LawS F cA cB cW cX cO cE cR sc (some (.ref bl)) (some (.str (S x))) (some (.str (S l))) (some (.ref kd)) (some (.ref tl)) (some (.ref ul)) (u1) (u2) (u3) (u4) (u5) none (u6) (u7) (some (.ref wd)) (some (.ref LX.lx)) (some (.ref wl)) (some (.ref hl)) (some (.ref dr)) ((og, AO.list ((List.range 24).map fun i => V.ref (ra i))) :: (175, AO.table ps) :: (wl, AO.list (strsV ((List.range 4).map fun k => hw (d k)))) :: (hl, AO.list ((List.range 4).map fun k => V.int (hh k))) :: (dr, AO.list (nV ((List.range 6).map d))) :: (bl, AO.list (strsV ((List.range 4).map fun k => hw (d 4 * (k + 1))))) :: (wd, AO.dct (strKind C.prog C.w) 4 (fd (fun k => S (hw (d k))) (fun k => V.int (d k : Nat)) 4)) :: RwL ra (ordR 4) 24 ++ σ)) := ⟨_, fun _ _ => Iff.rfl⟩
    refine loop_it (σ' := (tl, AO.list (([] : List (Int × Int)).map prV)) :: (ul, AO.list (([] : List (Int × Int)).map prV)) :: (kd, AO.dct (intKind C.prog C.w) (0) (fun _ => none)) :: Lx 150 LX (1 + nls x 0 (posAt x 0 4)) [] x (posAt x 0 4) (LawS F cA cB cW cX cO cE cR sc (some (.ref bl)) (some (.str (S x))) (some (.str (S l))) (some (.ref kd)) (some (.ref tl)) (some (.ref ul)) (none) (none) (none) (none) (none) none (none) (none) (some (.ref wd)) (some (.ref LX.lx)) (some (.ref wl)) (some (.ref hl)) (some (.ref dr)) ((og, AO.list ((List.range 24).map fun i => V.ref (ra i))) :: (175, AO.table ps) :: (wl, AO.list (strsV ((List.range 4).map fun k => hw (d k)))) :: (hl, AO.list ((List.range 4).map fun k => V.int (hh k))) :: (dr, AO.list (nV ((List.range 6).map d))) :: (bl, AO.list (strsV ((List.range 4).map fun k => hw (d 4 * (k + 1))))) :: (wd, AO.dct (strKind C.prog C.w) 4 (fd (fun k => S (hw (d k))) (fun k => V.int (d k : Nat)) 4)) :: RwL ra (ordR 4) 24 ++ σ))) (by ((repeat (first | exact Sb.refl | exact Sb.nil | exact Sb.s1 | exact Sb.s2 | exact Sb.s3 | exact Sb.s4 | (apply Sb.take; focus ((repeat (first | exact Pick.head | exact Pick.h1 | exact Pick.h2 | exact Pick.h3 | apply Pick.t4)); done)) | apply Sb.skip)))) (iter_list (b := og) (l := (List.range 24).map fun i => V.ref (ra i)) hA'.1) J ((hJ _ _).mpr ⟨[], [], 0, fun _ => none, none, none, none, none, none, none, none, rfl, rfl, Nat.le_refl _, (fun i v e => nomatch e), rfl⟩)
      (by intro t σ' hj; obtain ⟨ts, us, n', F', u1, u2, u3, u4, u5, u6, u7, _, _, _, _, rfl⟩ := (hJ _ _).mp hj; walk_at "M.mem") ?_ ?_
    · intro t y σ' hy hj
      have key : ∀ P : Prop, (∀ o ts us n' F' u1 u2 u3 u4 u5 u6 u7, t < 24 → o ∈ ordsF 4 → ordR 4 t = nV o → (ordsF 4).take (t + 1) = (ordsF 4).take t ++ [o] → ts = ((ordsF 4).take t).map (toldP hh) → us = ((ordsF 4).take t).map (dueP hh) → n' ≤ 4 * t → Kn F' → o.length = 4 → (∀ k ∈ o, k < 4) → y = V.ref (ra t) → σ' = (tl, AO.list (ts.map prV)) :: (ul, AO.list (us.map prV)) :: (kd, AO.dct (intKind C.prog C.w) (n') (F')) :: Lx 150 LX (1 + nls x 0 (posAt x 0 4)) [] x (posAt x 0 4) (LawS F cA cB cW cX cO cE cR sc (some (.ref bl)) (some (.str (S x))) (some (.str (S l))) (some (.ref kd)) (some (.ref tl)) (some (.ref ul)) (u1) (u2) (u3) (u4) (u5) none (u6) (u7) (some (.ref wd)) (some (.ref LX.lx)) (some (.ref wl)) (some (.ref hl)) (some (.ref dr)) ((og, AO.list ((List.range 24).map fun i => V.ref (ra i))) :: (175, AO.table ps) :: (wl, AO.list (strsV ((List.range 4).map fun k => hw (d k)))) :: (hl, AO.list ((List.range 4).map fun k => V.int (hh k))) :: (dr, AO.list (nV ((List.range 6).map d))) :: (bl, AO.list (strsV ((List.range 4).map fun k => hw (d 4 * (k + 1))))) :: (wd, AO.dct (strKind C.prog C.w) 4 (fd (fun k => S (hw (d k))) (fun k => V.int (d k : Nat)) 4)) :: RwL ra (ordR 4) 24 ++ σ)) → P) → P := fun P kk => by
        obtain ⟨ts, us, n', F', u1, u2, u3, u4, u5, u6, u7, ets, eus, hn', hF', es⟩ := (hJ _ _).mp hj
        obtain ⟨ht, ey⟩ : t < 24 ∧ y = V.ref (ra t) := by
          have ht : t < 24 := by simpa using (List.getElem?_eq_some_iff.mp hy).1
          rw [List.getElem?_map, List.getElem?_range ht] at hy
          exact ⟨ht, (Option.some.inj hy).symm⟩
        have ho := ord_24.2 t ht
        obtain ⟨hol, hok, _⟩ := ord_ring _ ho
        exact kk ((ordsF 4).getD t []) ts us n' F' u1 u2 u3 u4 u5 u6 u7 ht ho (by rw [ordR, nV, List.map_map]; rfl) (take_snocL (by rw [List.getD_eq_getElem?_getD, List.getElem?_eq_getElem (by rw [ord_24.1]; exact ht)]; rfl)) ets eus hn' hF' hol hok ey es
      refine key _ fun o ts us n' F' u1 u2 u3 u4 u5 u6 u7 ht ho hor htk ets eus hn' hF' hol hok ey es => ?_
      clear key hj hy
      subst ey
      subst es
      have hmo : (ra t, AO.list (nV o)) ∈ (og, AO.list ((List.range 24).map fun i => V.ref (ra i))) :: (175, AO.table ps) :: (wl, AO.list (strsV ((List.range 4).map fun k => hw (d k)))) :: (hl, AO.list ((List.range 4).map fun k => V.int (hh k))) :: (dr, AO.list (nV ((List.range 6).map d))) :: (bl, AO.list (strsV ((List.range 4).map fun k => hw (d 4 * (k + 1))))) :: (wd, AO.dct (strKind C.prog C.w) 4 (fd (fun k => S (hw (d k))) (fun k => V.int (d k : Nat)) 4)) :: RwL ra (ordR 4) 24 ++ σ := by rw [← hor]; (iterate 7 apply List.Mem.tail); exact RwL_mem ht
      have mW : (wl, AO.list (strsV ((List.range 4).map fun k => hw (d k)))) ∈ (og, AO.list ((List.range 24).map fun i => V.ref (ra i))) :: (175, AO.table ps) :: (wl, AO.list (strsV ((List.range 4).map fun k => hw (d k)))) :: (hl, AO.list ((List.range 4).map fun k => V.int (hh k))) :: (dr, AO.list (nV ((List.range 6).map d))) :: (bl, AO.list (strsV ((List.range 4).map fun k => hw (d 4 * (k + 1))))) :: (wd, AO.dct (strKind C.prog C.w) 4 (fd (fun k => S (hw (d k))) (fun k => V.int (d k : Nat)) 4)) :: RwL ra (ordR 4) 24 ++ σ := by walk_at "M.mem"
      have mH : (hl, AO.list ((List.range 4).map fun k => V.int (hh k))) ∈ (og, AO.list ((List.range 24).map fun i => V.ref (ra i))) :: (175, AO.table ps) :: (wl, AO.list (strsV ((List.range 4).map fun k => hw (d k)))) :: (hl, AO.list ((List.range 4).map fun k => V.int (hh k))) :: (dr, AO.list (nV ((List.range 6).map d))) :: (bl, AO.list (strsV ((List.range 4).map fun k => hw (d 4 * (k + 1))))) :: (wd, AO.dct (strKind C.prog C.w) 4 (fd (fun k => S (hw (d k))) (fun k => V.int (d k : Nat)) 4)) :: RwL ra (ordR 4) 24 ++ σ := by walk_at "M.mem"
      have mD : (dr, AO.list (nV ((List.range 6).map d))) ∈ (og, AO.list ((List.range 24).map fun i => V.ref (ra i))) :: (175, AO.table ps) :: (wl, AO.list (strsV ((List.range 4).map fun k => hw (d k)))) :: (hl, AO.list ((List.range 4).map fun k => V.int (hh k))) :: (dr, AO.list (nV ((List.range 6).map d))) :: (bl, AO.list (strsV ((List.range 4).map fun k => hw (d 4 * (k + 1))))) :: (wd, AO.dct (strKind C.prog C.w) 4 (fd (fun k => S (hw (d k))) (fun k => V.int (d k : Nat)) 4)) :: RwL ra (ordR 4) 24 ++ σ := by walk_at "M.mem"
      have mB : (bl, AO.list (strsV ((List.range 4).map fun k => hw (d 4 * (k + 1))))) ∈ (og, AO.list ((List.range 24).map fun i => V.ref (ra i))) :: (175, AO.table ps) :: (wl, AO.list (strsV ((List.range 4).map fun k => hw (d k)))) :: (hl, AO.list ((List.range 4).map fun k => V.int (hh k))) :: (dr, AO.list (nV ((List.range 6).map d))) :: (bl, AO.list (strsV ((List.range 4).map fun k => hw (d 4 * (k + 1))))) :: (wd, AO.dct (strKind C.prog C.w) 4 (fd (fun k => S (hw (d k))) (fun k => V.int (d k : Nat)) 4)) :: RwL ra (ordR 4) 24 ++ σ := by walk_at "M.mem"
      have mK : (wd, AO.dct (strKind C.prog C.w) 4 (fd (fun k => S (hw (d k))) (fun k => V.int (d k : Nat)) 4)) ∈ (og, AO.list ((List.range 24).map fun i => V.ref (ra i))) :: (175, AO.table ps) :: (wl, AO.list (strsV ((List.range 4).map fun k => hw (d k)))) :: (hl, AO.list ((List.range 4).map fun k => V.int (hh k))) :: (dr, AO.list (nV ((List.range 6).map d))) :: (bl, AO.list (strsV ((List.range 4).map fun k => hw (d 4 * (k + 1))))) :: (wd, AO.dct (strKind C.prog C.w) 4 (fd (fun k => S (hw (d k))) (fun k => V.int (d k : Nat)) 4)) :: RwL ra (ordR 4) 24 ++ σ := by walk_at "M.mem"
      generalize (og, AO.list ((List.range 24).map fun i => V.ref (ra i))) :: (175, AO.table ps) :: (wl, AO.list (strsV ((List.range 4).map fun k => hw (d k)))) :: (hl, AO.list ((List.range 4).map fun k => V.int (hh k))) :: (dr, AO.list (nV ((List.range 6).map d))) :: (bl, AO.list (strsV ((List.range 4).map fun k => hw (d 4 * (k + 1))))) :: (wd, AO.dct (strKind C.prog C.w) 4 (fd (fun k => S (hw (d k))) (fun k => V.int (d k : Nat)) 4)) :: RwL ra (ordR 4) 24 ++ σ = τ at hmo mW mH mD mB mK hJ ⊢
      generalize 1 + nls x 0 (posAt x 0 4) = LN at hJ ⊢
      generalize posAt x 0 4 = PP at hJ ⊢
      have hts : ts.length ≤ 24 := by rw [ets, List.length_map, List.length_take]; lia
      have hus : us.length ≤ 24 := by rw [eus, List.length_map, List.length_take]; lia
      clear hor TT0 T1 T2 T3 T4 step hRL h
      walk_at "E.run"
      refine' e_lc (ks := ["k"]) (cn := []) ?nd ?hcn ?hclos ?hk ?hn ?_ ?ht ?hs
      (((case nd => decide); (case hcn => rfl); (case hclos => rfl); (case hk => rfl); (case hn => decide); (case ht => intro _ _; rfl); (case hs => intro _; rfl)))
      walk_at "E.run"
      refine it_list (by ((repeat (first | exact List.Mem.head _ | assumption | apply List.Mem.tail)))) fun i1 => ?_
      intro D1 L6 cs6 hcs6
      cases cs_0 hcs6
      ((simp only [celled, List.map_cons, List.map_nil, List.cons_append, List.nil_append]))
      refine' cloop_map (l := nV o) (G := fun σ' => (ra t, AO.list (nV o)) ∈ σ') (τ := (io, AO.lit og (t + 1)) :: (tl, AO.list (ts.map prV)) :: (ul, AO.list (us.map prV)) :: (kd, AO.dct (intKind C.prog C.w) (n') (F')) :: Lx 150 LX (LN) [] x (PP) (LawS F cA cB cW cX cO cE cR sc (some (.ref bl)) (some (.str (S x))) (some (.str (S l))) (some (.ref kd)) (some (.ref tl)) (some (.ref ul)) (some (.ref (ra t))) (u2) (u3) (u4) (u5) none (u6) (u7) (some (.ref wd)) (some (.ref LX.lx)) (some (.ref wl)) (some (.ref hl)) (some (.ref dr)) (τ))) (fun i => V.str (S (hw (d (o.getD i 0))))) ?sb6 (iter_list (b := ra t) hA'.1) ?hG6 (by rw [nV_len, hol, sizeLine_eq]; decide) rfl rfl ?_ ?_
      case sb6 => ((repeat (first | exact Sb.refl | exact Sb.nil | exact Sb.s1 | exact Sb.s2 | exact Sb.s3 | exact Sb.s4 | (apply Sb.take; focus ((repeat (first | exact Pick.head | exact Pick.h1 | exact Pick.h2 | exact Pick.h3 | apply Pick.t4)); done)) | apply Sb.skip)))
      case hG6 => intro acc u'; ((repeat (first | exact List.Mem.head _ | assumption | apply List.Mem.tail)))
      · intro i y acc hy hal
        obtain ⟨kk, hkk, rfl⟩ := nV_at hy
        have hk4 := hok kk (List.mem_of_getElem? hkk)
        walk_at "E.run"
        refine ⟨has_list (by ((repeat (first | exact List.Mem.head _ | assumption | apply List.Mem.tail)))), ?_⟩
        refine g_list (by ((repeat (first | exact List.Mem.head _ | assumption | apply List.Mem.tail)))) (by lia) (by lia) (strs_rng hk4) ?_
        exact ⟨by rw [getD_of hkk], by ((repeat (first | exact Sb.refl | exact Sb.nil | exact Sb.s1 | exact Sb.s2 | exact Sb.s3 | exact Sb.s4 | (apply Sb.take; focus ((repeat (first | exact Pick.head | exact Pick.h1 | exact Pick.h2 | exact Pick.h3 | apply Pick.t4)); done)) | apply Sb.skip)))⟩
      intro uu1
      rw [nV_len, show (List.range o.length).map (fun i => V.str (S (hw (d (o.getD i 0))))) = strsV (o.map fun k => hw (d k)) by rw [strsV, List.map_map]; exact map_range_get o _ _ fun i c hc => by rw [getD_of hc]; rfl]
      refine ⟨[uu1], (D1, AO.list (strsV (o.map fun k => hw (d k)))) :: (io, AO.lit og (t + 1)) :: (tl, AO.list (ts.map prV)) :: (ul, AO.list (us.map prV)) :: (kd, AO.dct (intKind C.prog C.w) (n') (F')) :: Lx 150 LX (LN) [] x (PP) (LawS F cA cB cW cX cO cE cR sc (some (.ref bl)) (some (.str (S x))) (some (.str (S l))) (some (.ref kd)) (some (.ref tl)) (some (.ref ul)) (some (.ref (ra t))) (u2) (u3) (u4) (u5) none (u6) (u7) (some (.ref wd)) (some (.ref LX.lx)) (some (.ref wl)) (some (.ref hl)) (some (.ref dr)) (τ)), by ((repeat (first | exact Sb.refl | exact Sb.nil | exact Sb.s1 | exact Sb.s2 | exact Sb.s3 | exact Sb.s4 | (apply Sb.take; focus ((repeat (first | exact Pick.head | exact Pick.h1 | exact Pick.h2 | exact Pick.h3 | apply Pick.t4)); done)) | apply Sb.skip))), ?_⟩
      walk_at "E.run"
      refine Call.sb (σ' := (kd, AO.dct (intKind C.prog C.w) (n') (F')) :: Lx 150 LX LN [] x PP ((D1, AO.list (strsV (o.map fun k => hw (d k)))) :: (io, AO.lit og (t + 1)) :: (tl, AO.list (ts.map prV)) :: (ul, AO.list (us.map prV)) :: LawS F cA cB cW cX cO cE cR sc (some (.ref bl)) (some (.str (S x))) (some (.str (S l))) (some (.ref kd)) (some (.ref tl)) (some (.ref ul)) (some (.ref (ra t))) (u2) (u3) (u4) (u5) none (u6) (u7) (some (.ref wd)) (some (.ref LX.lx)) (some (.ref wl)) (some (.ref hl)) (some (.ref dr)) (τ))) (by ((repeat (first | exact Sb.refl | exact Sb.nil | exact Sb.s1 | exact Sb.s2 | exact Sb.s3 | exact Sb.s4 | (apply Sb.take; focus ((repeat (first | exact Pick.head | exact Pick.h1 | exact Pick.h2 | exact Pick.h3 | apply Pick.t4)); done)) | apply Sb.skip)))) (parted2_ o d (d 4) hh ehh hC hM (hA'.le (by decide)) hol hok (fun k => Nat.le_trans (hd k) (by decide)) (Nat.le_trans (hd 4) (by decide)) hW (by lia) hds hF' (by ((repeat (first | exact List.Mem.head _ | assumption | apply List.Mem.tail)))) (by ((repeat (first | exact List.Mem.head _ | assumption | apply List.Mem.tail)))) (by ((repeat (first | exact List.Mem.head _ | assumption | apply List.Mem.tail)))) fun ta la n'' F'' hn'' hF'' => ?_)
      replace hn'' : n'' ≤ 4 * (t + 1) := by lia
      clear hn' hF'
      refine asg_tup hA'.1 ?_ (by simp) rfl rfl
      walk_at "E.run"
      generalize ePL : (plcF hh o 0 0).reverse = PL
      generalize eSN : selN hh o 0 = SN
      have rf := row_facts2 hh o hol hok PL SN ePL eSN
      clear ePL eSN
      generalize hABe : ((List.range 4).filter fun k => decide (0 < ((o.map hh).take (k + 1)).sum)) = AB at rf
      have hPL := rf.1
      have hSN := rf.2.1
      have hcnt := rf.2.2.1
      have hAB := rf.2.2.2.1
      have hLA := rf.2.2.2.2.1
      have hPz := rf.2.2.2.2.2
      clear rf
      have hABl : AB.length = PL.length := by have := congrArg List.length hAB; rwa [List.length_reverse, List.length_map] at this
      have hP4 : PL.length ≤ 4 := by lia
      refine' e_lc (ks := ["k"]) (cn := []) ?nd ?hcn ?hclos ?hk ?hn ?_ ?ht ?hs
      (((case nd => decide); (case hcn => rfl); (case hclos => rfl); (case hk => rfl); (case hn => decide); (case ht => intro _ _; rfl); (case hs => intro _; rfl)))
      walk_at "E.run"
      refine it_list (by ((repeat (first | exact List.Mem.head _ | assumption | apply List.Mem.tail)))) fun i2 => ?_
      intro D2 L7 cs7 hcs7
      cases cs_0 hcs7
      ((simp only [celled, List.map_cons, List.map_nil, List.cons_append, List.nil_append]))
      refine' cloop_map (l := nV o) (G := fun σ' => (ra t, AO.list (nV o)) ∈ σ') (τ := (ta, AO.list (PL.map (fun q => pairV (reps q.1 [32], hw (d q.2))))) :: (la, AO.list (strsV (SN.map fun k => hw (d k)))) :: (io, AO.lit og (t + 1)) :: (tl, AO.list (ts.map prV)) :: (ul, AO.list (us.map prV)) :: (kd, AO.dct (intKind C.prog C.w) (n'') (F'')) :: Lx 150 LX (LN) [] x (PP) (LawS F cA cB cW cX cO cE cR sc (some (.ref bl)) (some (.str (S x))) (some (.str (S l))) (some (.ref kd)) (some (.ref tl)) (some (.ref ul)) (some (.ref (ra t))) (some (.ref ta)) (some (.ref la)) (u4) (u5) none (u6) (u7) (some (.ref wd)) (some (.ref LX.lx)) (some (.ref wl)) (some (.ref hl)) (some (.ref dr)) (τ))) (fun i => V.int (hh (o.getD i 0))) ?sb7 (iter_list (b := ra t) hA'.1) ?hG7 (by rw [nV_len, hol, sizeLine_eq]; decide) rfl rfl ?_ ?_
      case sb7 => ((repeat (first | exact Sb.refl | exact Sb.nil | exact Sb.s1 | exact Sb.s2 | exact Sb.s3 | exact Sb.s4 | (apply Sb.take; focus ((repeat (first | exact Pick.head | exact Pick.h1 | exact Pick.h2 | exact Pick.h3 | apply Pick.t4)); done)) | apply Sb.skip)))
      case hG7 => intro acc u'; ((repeat (first | exact List.Mem.head _ | assumption | apply List.Mem.tail)))
      · intro i y acc hy hal
        obtain ⟨kk, hkk, rfl⟩ := nV_at hy
        have hk4 := hok kk (List.mem_of_getElem? hkk)
        walk_at "E.run"
        refine ⟨has_list (by ((repeat (first | exact List.Mem.head _ | assumption | apply List.Mem.tail)))), ?_⟩
        refine g_list (by ((repeat (first | exact List.Mem.head _ | assumption | apply List.Mem.tail)))) (by lia) (by lia) (int_rng hk4) ?_
        exact ⟨by rw [getD_of hkk], by ((repeat (first | exact Sb.refl | exact Sb.nil | exact Sb.s1 | exact Sb.s2 | exact Sb.s3 | exact Sb.s4 | (apply Sb.take; focus ((repeat (first | exact Pick.head | exact Pick.h1 | exact Pick.h2 | exact Pick.h3 | apply Pick.t4)); done)) | apply Sb.skip)))⟩
      intro uu2
      rw [nV_len, show (List.range o.length).map (fun i => V.int (hh (o.getD i 0))) = (o.map hh).map V.int by rw [List.map_map]; exact map_range_get o _ _ fun i c hc => by rw [getD_of hc]; rfl]
      refine ⟨[uu2], (D2, AO.list ((o.map hh).map V.int)) :: (ta, AO.list (PL.map (fun q => pairV (reps q.1 [32], hw (d q.2))))) :: (la, AO.list (strsV (SN.map fun k => hw (d k)))) :: (io, AO.lit og (t + 1)) :: (tl, AO.list (ts.map prV)) :: (ul, AO.list (us.map prV)) :: (kd, AO.dct (intKind C.prog C.w) (n'') (F'')) :: Lx 150 LX (LN) [] x (PP) (LawS F cA cB cW cX cO cE cR sc (some (.ref bl)) (some (.str (S x))) (some (.str (S l))) (some (.ref kd)) (some (.ref tl)) (some (.ref ul)) (some (.ref (ra t))) (some (.ref ta)) (some (.ref la)) (u4) (u5) none (u6) (u7) (some (.ref wd)) (some (.ref LX.lx)) (some (.ref wl)) (some (.ref hl)) (some (.ref dr)) (τ)), by ((repeat (first | exact Sb.refl | exact Sb.nil | exact Sb.s1 | exact Sb.s2 | exact Sb.s3 | exact Sb.s4 | (apply Sb.take; focus ((repeat (first | exact Pick.head | exact Pick.h1 | exact Pick.h2 | exact Pick.h3 | apply Pick.t4)); done)) | apply Sb.skip))), ?_⟩
      walk_at "E.run"
      refine' x_lc (ks := ["k"]) (cn := []) ?nd ?hcn ?hclos ?hk ?hn ?_ ?ht ?hs ?hsw
      (((case nd => decide); (case hcn => rfl); (case hclos => rfl); (case hk => rfl); (case hn => decide); (case ht => intro _ _; rfl); (case hs => intro _; rfl)))
      case hsw => rfl
      walk_at "E.run"
      refine c_range1 fun r9 => ?_
      refine it_range (by ((repeat (first | exact List.Mem.head _ | assumption | apply List.Mem.tail)))) (by decide) (by decide) (by decide) (by decide) fun r10 => ?_
      intro D3 L8 cs8 hcs8
      cases cs_0 hcs8
      ((simp only [celled, List.map_cons, List.map_nil, List.cons_append, List.nil_append]))
      refine' cloop_fmap (l := upto 0 4) (G := fun _ => True) (τ := (D2, AO.list ((o.map hh).map V.int)) :: (ta, AO.list (PL.map (fun q => pairV (reps q.1 [32], hw (d q.2))))) :: (la, AO.list (strsV (SN.map fun k => hw (d k)))) :: (io, AO.lit og (t + 1)) :: (tl, AO.list (ts.map prV)) :: (ul, AO.list (us.map prV)) :: (kd, AO.dct (intKind C.prog C.w) (n'') (F'')) :: Lx 150 LX (LN) [] x (PP) (LawS F cA cB cW cX cO cE cR sc (some (.ref bl)) (some (.str (S x))) (some (.str (S l))) (some (.ref kd)) (some (.ref tl)) (some (.ref ul)) (some (.ref (ra t))) (some (.ref ta)) (some (.ref la)) (u4) (u5) none (u6) (some (.ref D2)) (some (.ref wd)) (some (.ref LX.lx)) (some (.ref wl)) (some (.ref hl)) (some (.ref dr)) (τ))) (fun k => decide (0 < ((o.map hh).take (k + 1)).sum)) (fun k => V.int (k : Nat)) ?sb8 (iter_range hA'.1 (i := 0) (n := 4)) (fun _ _ => trivial) (by rw [upto_len, sizeLine_eq]; decide) rfl rfl ?_ ?_ ?_
      case sb8 => ((repeat (first | exact Sb.refl | exact Sb.nil | exact Sb.s1 | exact Sb.s2 | exact Sb.s3 | exact Sb.s4 | (apply Sb.take; focus ((repeat (first | exact Pick.head | exact Pick.h1 | exact Pick.h2 | exact Pick.h3 | apply Pick.t4)); done)) | apply Sb.skip)))
      · intro i y acc X hy
        obtain ⟨hi, rfl⟩ := upto_get hy
        rw [show (0 : Int) + (i : Nat) = (i : Nat) from Int.zero_add _]
        walk_at "E.run"
        refine ⟨_, _, .none, .int, fun sl => ?_⟩
        refine ⟨has_list (by ((repeat (first | exact List.Mem.head _ | assumption | apply List.Mem.tail)))), ?_⟩
        refine g_list_slice (by ((repeat (first | exact List.Mem.head _ | assumption | apply List.Mem.tail)))) (by rw [List.length_map, List.length_map, hol, sizeLine_eq]; decide) fun s5 => ?_
        rw [show ((i : Nat) : Int) + 1 = ((i + 1 : Nat) : Int) from rfl, cut_to, ← List.map_take]
        walk_at "E.run"
        refine c_sum (ns := (o.map hh).take (i + 1)) hA'.1 (by ((repeat (first | exact List.Mem.head _ | assumption | apply List.Mem.tail)))) ?_
        walk_at "E.run"
        exact ⟨rfl, by ((repeat (first | exact Sb.refl | exact Sb.nil | exact Sb.s1 | exact Sb.s2 | exact Sb.s3 | exact Sb.s4 | (apply Sb.take; focus ((repeat (first | exact Pick.head | exact Pick.h1 | exact Pick.h2 | exact Pick.h3 | apply Pick.t4)); done)) | apply Sb.skip)))⟩
      · intro i y acc X hy hp hal
        obtain ⟨hi, rfl⟩ := upto_get hy
        rw [show (0 : Int) + (i : Nat) = (i : Nat) from Int.zero_add _]
        walk_at "E.run"
        exact ⟨rfl, by ((repeat (first | exact Sb.refl | exact Sb.nil | exact Sb.s1 | exact Sb.s2 | exact Sb.s3 | exact Sb.s4 | (apply Sb.take; focus ((repeat (first | exact Pick.head | exact Pick.h1 | exact Pick.h2 | exact Pick.h3 | apply Pick.t4)); done)) | apply Sb.skip)))⟩
      intro uu3
      rw [upto_len, hABe, show AB.map (fun k => V.int (k : Nat)) = nV AB by rw [nV, List.map_map]; rfl]
      clear hABe
      walk_at "E.run"
      refine ⟨[uu3], (D3, AO.list (nV AB)) :: (D2, AO.list ((o.map hh).map V.int)) :: (ta, AO.list (PL.map (fun q => pairV (reps q.1 [32], hw (d q.2))))) :: (la, AO.list (strsV (SN.map fun k => hw (d k)))) :: (io, AO.lit og (t + 1)) :: (tl, AO.list (ts.map prV)) :: (ul, AO.list (us.map prV)) :: (kd, AO.dct (intKind C.prog C.w) (n'') (F'')) :: Lx 150 LX (LN) [] x (PP) (LawS F cA cB cW cX cO cE cR sc (some (.ref bl)) (some (.str (S x))) (some (.str (S l))) (some (.ref kd)) (some (.ref tl)) (some (.ref ul)) (some (.ref (ra t))) (some (.ref ta)) (some (.ref la)) (some (.ref D3)) (u5) none (u6) (some (.ref D2)) (some (.ref wd)) (some (.ref LX.lx)) (some (.ref wl)) (some (.ref hl)) (some (.ref dr)) (τ)), by ((repeat (first | exact Sb.refl | exact Sb.nil | exact Sb.s1 | exact Sb.s2 | exact Sb.s3 | exact Sb.s4 | (apply Sb.take; focus ((repeat (first | exact Pick.head | exact Pick.h1 | exact Pick.h2 | exact Pick.h3 | apply Pick.t4)); done)) | apply Sb.skip))), ?_⟩
      walk_at "E.run"
      refine' e_lcT (ks := ["fws", "part"]) (cn := []) ?nd ?hcn ?hclos ?hk ?hn ?_ ?hs
      (((case nd => decide); (case hcn => rfl); (case hclos => rfl); (case hk => rfl); (case hn => decide); (case hs => intro _; rfl)))
      walk_at "E.run"
      refine it_list (by ((repeat (first | exact List.Mem.head _ | assumption | apply List.Mem.tail)))) fun i3 => ?_
      intro D4 L9 cs9 hcs9
      cases cs_0 hcs9
      ((simp only [celled, List.map_cons, List.map_nil, List.cons_append, List.nil_append]))
      refine' cloopT_map (fun i => V.str (S (reps (PL.getD i (0, 0)).1 [32]))) (l := PL.map (fun q => pairV (reps q.1 [32], hw (d q.2)))) (G := fun σ => (ta, AO.list (PL.map (fun q => pairV (reps q.1 [32], hw (d q.2))))) ∈ σ) (σ' := (L9, AO.fr ["fws", "part"] [none, none]) :: (D3, AO.list (nV AB)) :: (D2, AO.list ((o.map hh).map V.int)) :: (ta, AO.list (PL.map (fun q => pairV (reps q.1 [32], hw (d q.2))))) :: (la, AO.list (strsV (SN.map fun k => hw (d k)))) :: (io, AO.lit og (t + 1)) :: (tl, AO.list (ts.map prV)) :: (ul, AO.list (us.map prV)) :: (kd, AO.dct (intKind C.prog C.w) (n'') (F'')) :: Lx 150 LX (LN) [] x (PP) (LawS F cA cB cW cX cO cE cR sc (some (.ref bl)) (some (.str (S x))) (some (.str (S l))) (some (.ref kd)) (some (.ref tl)) (some (.ref ul)) (some (.ref (ra t))) (some (.ref ta)) (some (.ref la)) (some (.ref D3)) (u5) none (u6) (some (.ref D2)) (some (.ref wd)) (some (.ref LX.lx)) (some (.ref wl)) (some (.ref hl)) (some (.ref dr)) (τ))) ?sb9 (iter_list hA'.1) (fun y hy => by obtain ⟨q, _, rfl⟩ := List.mem_map.mp hy; exact ⟨_, rfl⟩)
        (fun i σ' => ∃ v1 v2, σ' = (L9, AO.fr ["fws", "part"] [v1, v2]) :: (D3, AO.list (nV AB)) :: (D2, AO.list ((o.map hh).map V.int)) :: (ta, AO.list (PL.map (fun q => pairV (reps q.1 [32], hw (d q.2))))) :: (la, AO.list (strsV (SN.map fun k => hw (d k)))) :: (io, AO.lit og (t + 1)) :: (tl, AO.list (ts.map prV)) :: (ul, AO.list (us.map prV)) :: (kd, AO.dct (intKind C.prog C.w) (n'') (F'')) :: Lx 150 LX (LN) [] x (PP) (LawS F cA cB cW cX cO cE cR sc (some (.ref bl)) (some (.str (S x))) (some (.str (S l))) (some (.ref kd)) (some (.ref tl)) (some (.ref ul)) (some (.ref (ra t))) (some (.ref ta)) (some (.ref la)) (some (.ref D3)) (u5) none (u6) (some (.ref D2)) (some (.ref wd)) (some (.ref LX.lx)) (some (.ref wl)) (some (.ref hl)) (some (.ref dr)) (τ))) ⟨none, none, rfl⟩ (by rintro i acc _ ⟨v1, v2, rfl⟩; ((repeat (first | exact List.Mem.head _ | assumption | apply List.Mem.tail)))) (by rw [List.length_map, sizeLine_eq]; lia) ?_ ?_
      case sb9 => ((repeat (first | exact Sb.refl | exact Sb.nil | exact Sb.s1 | exact Sb.s2 | exact Sb.s3 | exact Sb.s4 | (apply Sb.take; focus ((repeat (first | exact Pick.head | exact Pick.h1 | exact Pick.h2 | exact Pick.h3 | apply Pick.t4)); done)) | apply Sb.skip)))
      · rintro i y acc σ' hy ⟨v1, v2, rfl⟩
        obtain ⟨q, hq, rfl⟩ := pair_at hy
        refine asg_tup hA'.1 ?_ (by simp) rfl rfl
        walk_at "E.run"
        exact ⟨by rw [getDp_of hq], _, by ((repeat (first | exact Sb.refl | exact Sb.nil | exact Sb.s1 | exact Sb.s2 | exact Sb.s3 | exact Sb.s4 | (apply Sb.take; focus ((repeat (first | exact Pick.head | exact Pick.h1 | exact Pick.h2 | exact Pick.h3 | apply Pick.t4)); done)) | apply Sb.skip))), _, _, rfl⟩
      rintro σ' ⟨v1, v2, rfl⟩
      rw [List.length_map, show (List.range PL.length).map (fun i => V.str (S (reps (PL.getD i (0, 0)).1 [32]))) = strsV ((PL.map Prod.fst).map fun k => reps k [32]) by rw [strsV, List.map_map, List.map_map]; exact map_range_get PL _ _ fun i c hc => by rw [getDp_of hc]; rfl]
      refine ⟨[v1, v2], (D4, AO.list (strsV ((PL.map Prod.fst).map fun k => reps k [32]))) :: (D3, AO.list (nV AB)) :: (D2, AO.list ((o.map hh).map V.int)) :: (ta, AO.list (PL.map (fun q => pairV (reps q.1 [32], hw (d q.2))))) :: (la, AO.list (strsV (SN.map fun k => hw (d k)))) :: (io, AO.lit og (t + 1)) :: (tl, AO.list (ts.map prV)) :: (ul, AO.list (us.map prV)) :: (kd, AO.dct (intKind C.prog C.w) (n'') (F'')) :: Lx 150 LX (LN) [] x (PP) (LawS F cA cB cW cX cO cE cR sc (some (.ref bl)) (some (.str (S x))) (some (.str (S l))) (some (.ref kd)) (some (.ref tl)) (some (.ref ul)) (some (.ref (ra t))) (some (.ref ta)) (some (.ref la)) (some (.ref D3)) (u5) none (u6) (some (.ref D2)) (some (.ref wd)) (some (.ref LX.lx)) (some (.ref wl)) (some (.ref hl)) (some (.ref dr)) (τ)), by ((repeat (first | exact Sb.refl | exact Sb.nil | exact Sb.s1 | exact Sb.s2 | exact Sb.s3 | exact Sb.s4 | (apply Sb.take; focus ((repeat (first | exact Pick.head | exact Pick.h1 | exact Pick.h2 | exact Pick.h3 | apply Pick.t4)); done)) | apply Sb.skip))), ?_⟩
      walk_at "E.run"
      refine' e_lc (ks := ["k"]) (cn := []) ?nd ?hcn ?hclos ?hk ?hn ?_ ?ht ?hs
      (((case nd => decide); (case hcn => rfl); (case hclos => rfl); (case hk => rfl); (case hn => decide); (case ht => intro _ _; rfl); (case hs => intro _; rfl)))
      walk_at "E.run"
      refine e_slicer ?_
      walk_at "E.run"
      refine ⟨rfl, fun sr => ?_⟩
      refine ⟨has_list (by ((repeat (first | exact List.Mem.head _ | assumption | apply List.Mem.tail)))), ?_⟩
      refine g_list_rev (by ((repeat (first | exact List.Mem.head _ | assumption | apply List.Mem.tail)))) (by rw [nV_len, sizeLine_eq]; lia) fun rv => ?_
      rw [show (nV AB).reverse = nV (PL.map Prod.fst) by rw [nV, ← List.map_reverse, ← List.map_reverse, hAB]; rfl]
      refine it_list (by ((repeat (first | exact List.Mem.head _ | assumption | apply List.Mem.tail)))) fun i4 => ?_
      intro D5 L10 cs10 hcs10
      cases cs_0 hcs10
      ((simp only [celled, List.map_cons, List.map_nil, List.cons_append, List.nil_append]))
      refine' cloop_map (l := nV (PL.map Prod.fst)) (G := fun σ' => (rv, AO.list (nV (PL.map Prod.fst))) ∈ σ') (τ := (rv, AO.list (nV (PL.map Prod.fst))) :: (D4, AO.list (strsV ((PL.map Prod.fst).map fun k => reps k [32]))) :: (D3, AO.list (nV AB)) :: (D2, AO.list ((o.map hh).map V.int)) :: (ta, AO.list (PL.map (fun q => pairV (reps q.1 [32], hw (d q.2))))) :: (la, AO.list (strsV (SN.map fun k => hw (d k)))) :: (io, AO.lit og (t + 1)) :: (tl, AO.list (ts.map prV)) :: (ul, AO.list (us.map prV)) :: (kd, AO.dct (intKind C.prog C.w) (n'') (F'')) :: Lx 150 LX (LN) [] x (PP) (LawS F cA cB cW cX cO cE cR sc (some (.ref bl)) (some (.str (S x))) (some (.str (S l))) (some (.ref kd)) (some (.ref tl)) (some (.ref ul)) (some (.ref (ra t))) (some (.ref ta)) (some (.ref la)) (some (.ref D3)) (u5) none (u6) (some (.ref D2)) (some (.ref wd)) (some (.ref LX.lx)) (some (.ref wl)) (some (.ref hl)) (some (.ref dr)) (τ))) (fun i => V.str (S (reps ((PL.map Prod.fst).getD i 0) [32]))) ?sb10 (iter_list (b := rv) hA'.1) ?hG10 (by rw [nV_len, List.length_map, sizeLine_eq]; lia) rfl rfl ?_ ?_
      case sb10 => ((repeat (first | exact Sb.refl | exact Sb.nil | exact Sb.s1 | exact Sb.s2 | exact Sb.s3 | exact Sb.s4 | (apply Sb.take; focus ((repeat (first | exact Pick.head | exact Pick.h1 | exact Pick.h2 | exact Pick.h3 | apply Pick.t4)); done)) | apply Sb.skip)))
      case hG10 => intro acc u'; ((repeat (first | exact List.Mem.head _ | assumption | apply List.Mem.tail)))
      · intro i y acc hy hal
        obtain ⟨kk, hkk, rfl⟩ := nV_at hy
        have hk4 : kk < 4 := by obtain ⟨q, hq, rfl⟩ := List.mem_map.mp (List.mem_of_getElem? hkk); exact (hPL q hq).2
        walk_at "E.run"
        refine bin_smul (a := [32]) (by lia) (by lia) (by decide) ?_
        rw [Int.toNat_natCast]
        exact ⟨by rw [getD_of hkk], by ((repeat (first | exact Sb.refl | exact Sb.nil | exact Sb.s1 | exact Sb.s2 | exact Sb.s3 | exact Sb.s4 | (apply Sb.take; focus ((repeat (first | exact Pick.head | exact Pick.h1 | exact Pick.h2 | exact Pick.h3 | apply Pick.t4)); done)) | apply Sb.skip)))⟩
      intro uu4
      rw [nV_len, show (List.range (PL.map Prod.fst).length).map (fun i => V.str (S (reps ((PL.map Prod.fst).getD i 0) [32]))) = strsV ((PL.map Prod.fst).map fun k => reps k [32]) by rw [strsV, List.map_map]; exact map_range_get (PL.map Prod.fst) _ _ fun i c hc => by rw [getD_of hc]; rfl]
      refine ⟨[uu4], (D5, AO.list (strsV ((PL.map Prod.fst).map fun k => reps k [32]))) :: (D4, AO.list (strsV ((PL.map Prod.fst).map fun k => reps k [32]))) :: (D3, AO.list (nV AB)) :: (D2, AO.list ((o.map hh).map V.int)) :: (ta, AO.list (PL.map (fun q => pairV (reps q.1 [32], hw (d q.2))))) :: (la, AO.list (strsV (SN.map fun k => hw (d k)))) :: (io, AO.lit og (t + 1)) :: (tl, AO.list (ts.map prV)) :: (ul, AO.list (us.map prV)) :: (kd, AO.dct (intKind C.prog C.w) (n'') (F'')) :: Lx 150 LX (LN) [] x (PP) (LawS F cA cB cW cX cO cE cR sc (some (.ref bl)) (some (.str (S x))) (some (.str (S l))) (some (.ref kd)) (some (.ref tl)) (some (.ref ul)) (some (.ref (ra t))) (some (.ref ta)) (some (.ref la)) (some (.ref D3)) (u5) none (u6) (some (.ref D2)) (some (.ref wd)) (some (.ref LX.lx)) (some (.ref wl)) (some (.ref hl)) (some (.ref dr)) (τ)), by ((repeat (first | exact Sb.refl | exact Sb.nil | exact Sb.s1 | exact Sb.s2 | exact Sb.s3 | exact Sb.s4 | (apply Sb.take; focus ((repeat (first | exact Pick.head | exact Pick.h1 | exact Pick.h2 | exact Pick.h3 | apply Pick.t4)); done)) | apply Sb.skip))), ?_⟩
      refine cmp_lne (hA'.le (by decide)) (a := D4) (b := D5) (by ((repeat (first | exact List.Mem.head _ | assumption | apply List.Mem.tail)))) (by ((repeat (first | exact List.Mem.head _ | assumption | apply List.Mem.tail)))) (strs_flat _) ?_
      walk_at "E.run"
      rw [if_neg (by decide)]
      walk_at "E.run"
      refine' e_lc (ks := ["word"]) (cn := []) ?nd ?hcn ?hclos ?hk ?hn ?_ ?ht ?hs
      (((case nd => decide); (case hcn => rfl); (case hclos => rfl); (case hk => rfl); (case hn => decide); (case ht => intro _ _; rfl); (case hs => intro _; rfl)))
      walk_at "E.run"
      refine' e_lcT (ks := ["fws", "part"]) (cn := []) ?nd ?hcn ?hclos ?hk ?hn ?_ ?hs
      (((case nd => decide); (case hcn => rfl); (case hclos => rfl); (case hk => rfl); (case hn => decide); (case hs => intro _; rfl)))
      walk_at "E.run"
      refine it_list (by ((repeat (first | exact List.Mem.head _ | assumption | apply List.Mem.tail)))) fun i5 => ?_
      intro D6 L11 cs11 hcs11
      cases cs_0 hcs11
      ((simp only [celled, List.map_cons, List.map_nil, List.cons_append, List.nil_append]))
      refine' cloopT_map (fun i => V.str (S (hw (d (PL.getD i (0, 0)).2)))) (l := PL.map (fun q => pairV (reps q.1 [32], hw (d q.2)))) (G := fun σ => (ta, AO.list (PL.map (fun q => pairV (reps q.1 [32], hw (d q.2))))) ∈ σ) (σ' := (L11, AO.fr ["fws", "part"] [none, none]) :: (D3, AO.list (nV AB)) :: (D2, AO.list ((o.map hh).map V.int)) :: (ta, AO.list (PL.map (fun q => pairV (reps q.1 [32], hw (d q.2))))) :: (la, AO.list (strsV (SN.map fun k => hw (d k)))) :: (io, AO.lit og (t + 1)) :: (tl, AO.list (ts.map prV)) :: (ul, AO.list (us.map prV)) :: (kd, AO.dct (intKind C.prog C.w) (n'') (F'')) :: Lx 150 LX (LN) [] x (PP) (LawS F cA cB cW cX cO cE cR sc (some (.ref bl)) (some (.str (S x))) (some (.str (S l))) (some (.ref kd)) (some (.ref tl)) (some (.ref ul)) (some (.ref (ra t))) (some (.ref ta)) (some (.ref la)) (some (.ref D3)) (u5) none (u6) (some (.ref D2)) (some (.ref wd)) (some (.ref LX.lx)) (some (.ref wl)) (some (.ref hl)) (some (.ref dr)) (τ))) ?sb11 (iter_list hA'.1) (fun y hy => by obtain ⟨q, _, rfl⟩ := List.mem_map.mp hy; exact ⟨_, rfl⟩)
        (fun i σ' => ∃ v1 v2, σ' = (L11, AO.fr ["fws", "part"] [v1, v2]) :: (D3, AO.list (nV AB)) :: (D2, AO.list ((o.map hh).map V.int)) :: (ta, AO.list (PL.map (fun q => pairV (reps q.1 [32], hw (d q.2))))) :: (la, AO.list (strsV (SN.map fun k => hw (d k)))) :: (io, AO.lit og (t + 1)) :: (tl, AO.list (ts.map prV)) :: (ul, AO.list (us.map prV)) :: (kd, AO.dct (intKind C.prog C.w) (n'') (F'')) :: Lx 150 LX (LN) [] x (PP) (LawS F cA cB cW cX cO cE cR sc (some (.ref bl)) (some (.str (S x))) (some (.str (S l))) (some (.ref kd)) (some (.ref tl)) (some (.ref ul)) (some (.ref (ra t))) (some (.ref ta)) (some (.ref la)) (some (.ref D3)) (u5) none (u6) (some (.ref D2)) (some (.ref wd)) (some (.ref LX.lx)) (some (.ref wl)) (some (.ref hl)) (some (.ref dr)) (τ))) ⟨none, none, rfl⟩ (by rintro i acc _ ⟨v1, v2, rfl⟩; ((repeat (first | exact List.Mem.head _ | assumption | apply List.Mem.tail)))) (by rw [List.length_map, sizeLine_eq]; lia) ?_ ?_
      case sb11 => ((repeat (first | exact Sb.refl | exact Sb.nil | exact Sb.s1 | exact Sb.s2 | exact Sb.s3 | exact Sb.s4 | (apply Sb.take; focus ((repeat (first | exact Pick.head | exact Pick.h1 | exact Pick.h2 | exact Pick.h3 | apply Pick.t4)); done)) | apply Sb.skip)))
      · rintro i y acc σ' hy ⟨v1, v2, rfl⟩
        obtain ⟨q, hq, rfl⟩ := pair_at hy
        refine asg_tup hA'.1 ?_ (by simp) rfl rfl
        walk_at "E.run"
        exact ⟨by rw [getDp_of hq], _, by ((repeat (first | exact Sb.refl | exact Sb.nil | exact Sb.s1 | exact Sb.s2 | exact Sb.s3 | exact Sb.s4 | (apply Sb.take; focus ((repeat (first | exact Pick.head | exact Pick.h1 | exact Pick.h2 | exact Pick.h3 | apply Pick.t4)); done)) | apply Sb.skip))), _, _, rfl⟩
      rintro σ' ⟨v3, v4, rfl⟩
      rw [List.length_map, show (List.range PL.length).map (fun i => V.str (S (hw (d (PL.getD i (0, 0)).2)))) = strsV ((PL.map Prod.snd).map fun k => hw (d k)) by rw [strsV, List.map_map, List.map_map]; exact map_range_get PL _ _ fun i c hc => by rw [getDp_of hc]; rfl]
      refine ⟨[v3, v4], (D6, AO.list (strsV ((PL.map Prod.snd).map fun k => hw (d k)))) :: (D3, AO.list (nV AB)) :: (D2, AO.list ((o.map hh).map V.int)) :: (ta, AO.list (PL.map (fun q => pairV (reps q.1 [32], hw (d q.2))))) :: (la, AO.list (strsV (SN.map fun k => hw (d k)))) :: (io, AO.lit og (t + 1)) :: (tl, AO.list (ts.map prV)) :: (ul, AO.list (us.map prV)) :: (kd, AO.dct (intKind C.prog C.w) (n'') (F'')) :: Lx 150 LX (LN) [] x (PP) (LawS F cA cB cW cX cO cE cR sc (some (.ref bl)) (some (.str (S x))) (some (.str (S l))) (some (.ref kd)) (some (.ref tl)) (some (.ref ul)) (some (.ref (ra t))) (some (.ref ta)) (some (.ref la)) (some (.ref D3)) (u5) none (u6) (some (.ref D2)) (some (.ref wd)) (some (.ref LX.lx)) (some (.ref wl)) (some (.ref hl)) (some (.ref dr)) (τ)), by ((repeat (first | exact Sb.refl | exact Sb.nil | exact Sb.s1 | exact Sb.s2 | exact Sb.s3 | exact Sb.s4 | (apply Sb.take; focus ((repeat (first | exact Pick.head | exact Pick.h1 | exact Pick.h2 | exact Pick.h3 | apply Pick.t4)); done)) | apply Sb.skip))), ?_⟩
      walk_at "E.run"
      have hLAk : ∀ k ∈ PL.map Prod.snd ++ SN, k < 4 := fun k hk => by
        rcases List.mem_append.mp hk with q | q
        · obtain ⟨p, hp, rfl⟩ := List.mem_map.mp q; exact (hPL p hp).1
        · exact hSN k q
      have hLAl : (PL.map Prod.snd ++ SN).length = 4 := by rw [List.length_append, List.length_map]; exact hcnt
      refine bin_ladd (a := D6) (b := la) (by ((repeat (first | exact List.Mem.head _ | assumption | apply List.Mem.tail)))) (by ((repeat (first | exact List.Mem.head _ | assumption | apply List.Mem.tail)))) (by rw [strsV_len, strsV_len, List.length_map, List.length_map, List.length_map, sizeLine_eq]; lia) fun lc => ?_
      rw [show strsV ((PL.map Prod.snd).map fun k => hw (d k)) ++ strsV (SN.map fun k => hw (d k)) = strsV ((PL.map Prod.snd ++ SN).map fun k => hw (d k)) by rw [strsV, strsV, strsV, List.map_append (l₁ := PL.map Prod.snd), List.map_append]]
      generalize PL.map Prod.snd ++ SN = LA at *
      refine it_list (by ((repeat (first | exact List.Mem.head _ | assumption | apply List.Mem.tail)))) fun i6 => ?_
      intro D7 L12 cs12 hcs12
      cases cs_0 hcs12
      ((simp only [celled, List.map_cons, List.map_nil, List.cons_append, List.nil_append]))
      refine' cloop_map (l := strsV (LA.map fun k => hw (d k))) (G := fun σ' => (lc, AO.list (strsV (LA.map fun k => hw (d k)))) ∈ σ') (τ := (lc, AO.list (strsV (LA.map fun k => hw (d k)))) :: (D3, AO.list (nV AB)) :: (D2, AO.list ((o.map hh).map V.int)) :: (ta, AO.list (PL.map (fun q => pairV (reps q.1 [32], hw (d q.2))))) :: (la, AO.list (strsV (SN.map fun k => hw (d k)))) :: (io, AO.lit og (t + 1)) :: (tl, AO.list (ts.map prV)) :: (ul, AO.list (us.map prV)) :: (kd, AO.dct (intKind C.prog C.w) (n'') (F'')) :: Lx 150 LX (LN) [] x (PP) (LawS F cA cB cW cX cO cE cR sc (some (.ref bl)) (some (.str (S x))) (some (.str (S l))) (some (.ref kd)) (some (.ref tl)) (some (.ref ul)) (some (.ref (ra t))) (some (.ref ta)) (some (.ref la)) (some (.ref D3)) (u5) none (u6) (some (.ref D2)) (some (.ref wd)) (some (.ref LX.lx)) (some (.ref wl)) (some (.ref hl)) (some (.ref dr)) (τ))) (fun i => V.int (hh (LA.getD i 0))) ?sb12 (iter_list (b := lc) hA'.1) ?hG12 (by rw [strsV_len, List.length_map, hLAl, sizeLine_eq]; decide) rfl rfl ?_ ?_
      case sb12 => ((repeat (first | exact Sb.refl | exact Sb.nil | exact Sb.s1 | exact Sb.s2 | exact Sb.s3 | exact Sb.s4 | (apply Sb.take; focus ((repeat (first | exact Pick.head | exact Pick.h1 | exact Pick.h2 | exact Pick.h3 | apply Pick.t4)); done)) | apply Sb.skip)))
      case hG12 => intro acc u'; ((repeat (first | exact List.Mem.head _ | assumption | apply List.Mem.tail)))
      · intro i y acc hy hal
        obtain ⟨w, hw', rfl⟩ := strsV_at hy
        rw [List.getElem?_map] at hw'
        obtain ⟨kk, hkk, rfl⟩ := Option.map_eq_some_iff.mp hw'
        walk_at "E.run"
        refine ⟨has_dct (knd := strKind C.prog C.w) (by ((repeat (first | exact List.Mem.head _ | assumption | apply List.Mem.tail)))), ?_⟩
        refine g_dct (knd := strKind C.prog C.w) (by ((repeat (first | exact List.Mem.head _ | assumption | apply List.Mem.tail)))) (key_str _) (hW kk (hLAk kk (List.mem_of_getElem? hkk))) ?_
        walk_at "E.run"
        refine ⟨has_list (by ((repeat (first | exact List.Mem.head _ | assumption | apply List.Mem.tail)))), ?_⟩
        refine g_list (by ((repeat (first | exact List.Mem.head _ | assumption | apply List.Mem.tail)))) (by decide) (by decide) (nV_get (k := d 4) rfl) ?_
        walk_at "E.run"
        exact ⟨by rw [getD_of hkk, ehh], by ((repeat (first | exact Sb.refl | exact Sb.nil | exact Sb.s1 | exact Sb.s2 | exact Sb.s3 | exact Sb.s4 | (apply Sb.take; focus ((repeat (first | exact Pick.head | exact Pick.h1 | exact Pick.h2 | exact Pick.h3 | apply Pick.t4)); done)) | apply Sb.skip)))⟩
      intro uu5
      rw [strsV_len, List.length_map, show (List.range LA.length).map (fun i => V.int (hh (LA.getD i 0))) = (laidF hh o).map V.int by rw [← hLA, List.map_map]; exact map_range_get LA _ _ fun i c hc => by rw [getD_of hc]; rfl]
      refine ⟨[uu5], (D7, AO.list ((laidF hh o).map V.int)) :: (D3, AO.list (nV AB)) :: (D2, AO.list ((o.map hh).map V.int)) :: (ta, AO.list (PL.map (fun q => pairV (reps q.1 [32], hw (d q.2))))) :: (la, AO.list (strsV (SN.map fun k => hw (d k)))) :: (io, AO.lit og (t + 1)) :: (tl, AO.list (ts.map prV)) :: (ul, AO.list (us.map prV)) :: (kd, AO.dct (intKind C.prog C.w) (n'') (F'')) :: Lx 150 LX (LN) [] x (PP) (LawS F cA cB cW cX cO cE cR sc (some (.ref bl)) (some (.str (S x))) (some (.str (S l))) (some (.ref kd)) (some (.ref tl)) (some (.ref ul)) (some (.ref (ra t))) (some (.ref ta)) (some (.ref la)) (some (.ref D3)) (u5) none (u6) (some (.ref D2)) (some (.ref wd)) (some (.ref LX.lx)) (some (.ref wl)) (some (.ref hl)) (some (.ref dr)) (τ)), by ((repeat (first | exact Sb.refl | exact Sb.nil | exact Sb.s1 | exact Sb.s2 | exact Sb.s3 | exact Sb.s4 | (apply Sb.take; focus ((repeat (first | exact Pick.head | exact Pick.h1 | exact Pick.h2 | exact Pick.h3 | apply Pick.t4)); done)) | apply Sb.skip))), ?_⟩
      have hlz : (laidF hh o).length = 4 := by rw [← hLA, List.length_map, hLAl]
      clear hLA hLAk hLAl hSN hPL hAB
      walk_at "E.run"
      refine' x_lc (ks := ["k"]) (cn := []) ?nd ?hcn ?hclos ?hk ?hn ?_ ?ht ?hs ?hsw
      (((case nd => decide); (case hcn => rfl); (case hclos => rfl); (case hk => rfl); (case hn => decide); (case ht => intro _ _; rfl); (case hs => intro _; rfl)))
      case hsw => rfl
      walk_at "E.run"
      refine c_range1 fun r11 => ?_
      refine it_range (by ((repeat (first | exact List.Mem.head _ | assumption | apply List.Mem.tail)))) (by decide) (by decide) (by decide) (by decide) fun r12 => ?_
      intro D8 L13 cs13 hcs13
      cases cs_0 hcs13
      ((simp only [celled, List.map_cons, List.map_nil, List.cons_append, List.nil_append]))
      refine' cloop_rmap (n := 5) (τ := (D7, AO.list ((laidF hh o).map V.int)) :: (D3, AO.list (nV AB)) :: (D2, AO.list ((o.map hh).map V.int)) :: (ta, AO.list (PL.map (fun q => pairV (reps q.1 [32], hw (d q.2))))) :: (la, AO.list (strsV (SN.map fun k => hw (d k)))) :: (io, AO.lit og (t + 1)) :: (tl, AO.list (ts.map prV)) :: (ul, AO.list (us.map prV)) :: (kd, AO.dct (intKind C.prog C.w) (n'') (F'')) :: Lx 150 LX (LN) [] x (PP) (LawS F cA cB cW cX cO cE cR sc (some (.ref bl)) (some (.str (S x))) (some (.str (S l))) (some (.ref kd)) (some (.ref tl)) (some (.ref ul)) (some (.ref (ra t))) (some (.ref ta)) (some (.ref la)) (some (.ref D3)) (u5) none (some (.ref D7)) (some (.ref D2)) (some (.ref wd)) (some (.ref LX.lx)) (some (.ref wl)) (some (.ref hl)) (some (.ref dr)) (τ))) (fun k => V.int ((laidF hh o).take k).sum) rfl hA'.1 ?sb13 (by rw [sizeLine_eq]; decide) rfl rfl ?_ ?_
      case sb13 => ((repeat (first | exact Sb.refl | exact Sb.nil | exact Sb.s1 | exact Sb.s2 | exact Sb.s3 | exact Sb.s4 | (apply Sb.take; focus ((repeat (first | exact Pick.head | exact Pick.h1 | exact Pick.h2 | exact Pick.h3 | apply Pick.t4)); done)) | apply Sb.skip)))
      · intro i acc Y hi hacc
        rw [Int.zero_add]
        walk_at "E.run"
        refine ⟨_, _, .none, .int, fun sl => ?_⟩
        refine ⟨has_list (by ((repeat (first | exact List.Mem.head _ | assumption | apply List.Mem.tail)))), ?_⟩
        refine g_list_slice (by ((repeat (first | exact List.Mem.head _ | assumption | apply List.Mem.tail)))) (by rw [List.length_map, hlz, sizeLine_eq]; decide) fun s6 => ?_
        rw [cut_to, ← List.map_take]
        walk_at "E.run"
        refine c_sum (ns := (laidF hh o).take i) hA'.1 (by ((repeat (first | exact List.Mem.head _ | assumption | apply List.Mem.tail)))) ?_
        exact ⟨rfl, by ((repeat (first | exact Sb.refl | exact Sb.nil | exact Sb.s1 | exact Sb.s2 | exact Sb.s3 | exact Sb.s4 | (apply Sb.take; focus ((repeat (first | exact Pick.head | exact Pick.h1 | exact Pick.h2 | exact Pick.h3 | apply Pick.t4)); done)) | apply Sb.skip)))⟩
      intro uu6
      rw [show (List.range 5).map (fun k => V.int ((laidF hh o).take k).sum) = ((List.range 5).map fun k => ((laidF hh o).take k).sum).map V.int by rw [List.map_map]; rfl]
      have top := sums_top hh o (by lia)
      have hSl : ((List.range 5).map fun k => ((laidF hh o).take k).sum).length = 5 := by rw [List.length_map, List.length_range]
      generalize ((List.range 5).map fun k => ((laidF hh o).take k).sum) = SU at *
      walk_at "E.run"
      refine ⟨[uu6], (D8, AO.list (SU.map V.int)) :: (D7, AO.list ((laidF hh o).map V.int)) :: (D3, AO.list (nV AB)) :: (D2, AO.list ((o.map hh).map V.int)) :: (ta, AO.list (PL.map (fun q => pairV (reps q.1 [32], hw (d q.2))))) :: (la, AO.list (strsV (SN.map fun k => hw (d k)))) :: (io, AO.lit og (t + 1)) :: (tl, AO.list (ts.map prV)) :: (ul, AO.list (us.map prV)) :: (kd, AO.dct (intKind C.prog C.w) (n'') (F'')) :: Lx 150 LX (LN) [] x (PP) (LawS F cA cB cW cX cO cE cR sc (some (.ref bl)) (some (.str (S x))) (some (.str (S l))) (some (.ref kd)) (some (.ref tl)) (some (.ref ul)) (some (.ref (ra t))) (some (.ref ta)) (some (.ref la)) (some (.ref D3)) (some (.ref D8)) none (some (.ref D7)) (some (.ref D2)) (some (.ref wd)) (some (.ref LX.lx)) (some (.ref wl)) (some (.ref hl)) (some (.ref dr)) (τ)), by ((repeat (first | exact Sb.refl | exact Sb.nil | exact Sb.s1 | exact Sb.s2 | exact Sb.s3 | exact Sb.s4 | (apply Sb.take; focus ((repeat (first | exact Pick.head | exact Pick.h1 | exact Pick.h2 | exact Pick.h3 | apply Pick.t4)); done)) | apply Sb.skip))), ?_⟩
      walk_at "E.run"
      refine m_index (by ((repeat (first | exact List.Mem.head _ | assumption | apply List.Mem.tail)))) ?_
      walk_at "E.run"
      refine c_max hA'.1 (ns := SU) (by ((repeat (first | exact List.Mem.head _ | assumption | apply List.Mem.tail)))) (by lia) fun M hM1 hM2 => ?_
      walk_at "E.run"
      refine c_index (ns := SU) (by ((repeat (first | exact List.Mem.head _ | assumption | apply List.Mem.tail)))) hM1 (by lia) ?_
      rw [(top M hM1 hM2).2]
      walk_at "E.run"
      refine c_len_list (by ((repeat (first | exact List.Mem.head _ | assumption | apply List.Mem.tail)))) (by rw [nV_len, sizeLine_eq]; lia) ?_
      rw [nV_len, hABl, hPz]
      walk_at "E.run"
      rw [if_neg (by simp)]
      walk_at "E.run"
      refine m_append (by ((repeat (first | exact List.Mem.head _ | assumption | apply List.Mem.tail)))) ?_
      walk_at "E.run"
      refine c_len_list (by ((repeat (first | exact List.Mem.head _ | assumption | apply List.Mem.tail)))) (by rw [nV_len, sizeLine_eq]; lia) ?_
      rw [nV_len, hABl, hPz]
      walk_at "E.run"
      refine c_max hA'.1 (ns := SU) (by ((repeat (first | exact List.Mem.head _ | assumption | apply List.Mem.tail)))) (by lia) fun M' hM1' hM2' => ?_
      rw [(top M' hM1' hM2').1]
      walk_at "E.run"
      refine ⟨by rw [sizeLine_eq]; show 2 ≤ _; lia, ?_⟩
      walk_at "E.run"
      refine c_append (by walk_at "M.lu") (by rw [List.length_map, sizeLine_eq]; lia) ?_
      walk_at "E.run"
      refine m_append (by ((repeat (first | exact List.Mem.head _ | assumption | apply List.Mem.tail)))) ?_
      walk_at "E.run"
      refine rings_ o hh hC (hA'.le (by decide)) ho (by ((repeat (first | exact List.Mem.head _ | assumption | apply List.Mem.tail)))) (by ((repeat (first | exact List.Mem.head _ | assumption | apply List.Mem.tail)))) ?_
      walk_at "E.run"
      refine c_append (by walk_at "M.lu") (by rw [List.length_map, sizeLine_eq]; lia) ?_
      walk_at "E.run"
      refine ⟨(tl, AO.list ((ts ++ [toldP hh o]).map prV)) :: (ul, AO.list ((us ++ [dueP hh o]).map prV)) :: (kd, AO.dct (intKind C.prog C.w) (n'') (F'')) :: Lx 150 LX (LN) [] x (PP) (LawS F cA cB cW cX cO cE cR sc (some (.ref bl)) (some (.str (S x))) (some (.str (S l))) (some (.ref kd)) (some (.ref tl)) (some (.ref ul)) (some (.ref (ra t))) (some (.ref ta)) (some (.ref la)) (some (.ref D3)) (some (.ref D8)) none (some (.ref D7)) (some (.ref D2)) (some (.ref wd)) (some (.ref LX.lx)) (some (.ref wl)) (some (.ref hl)) (some (.ref dr)) (τ)), ?_, (hJ _ _).mpr ⟨_, _, n'', F'', _, _, _, _, _, _, _, by rw [htk, List.map_append, ets]; rfl, by rw [htk, List.map_append, eus]; rfl, hn'', hF'', rfl⟩⟩
      rw [List.map_append, List.map_append]
      ((repeat (first | exact Sb.refl | exact Sb.nil | exact Sb.s1 | exact Sb.s2 | exact Sb.s3 | exact Sb.s4 | (apply Sb.take; focus ((repeat (first | exact Pick.head | exact Pick.h1 | exact Pick.h2 | exact Pick.h3 | apply Pick.t4)); done)) | apply Sb.skip)))
    · intro σ' hj
      obtain ⟨_, _, n', F', u1, u2, u3, u4, u5, u6, u7, rfl, rfl, hn', hF', rfl⟩ := (hJ _ _).mp hj
      clear hj hJ
      rw [List.length_map, List.length_range, show (ordsF 4).take 24 = ordsF 4 by rw [← ord_24.1]; exact List.take_length]
      walk_at "E.run"
      refine c_sorted (ps := (ordsF 4).map (toldP hh)) (by walk_at "M.mem") (by rw [List.length_map, ord_24.1]; decide) (by rw [List.length_map, ord_24.1]; decide) fun so qs p1 s1 => ?_
      walk_at "E.run"
      refine c_sorted (ps := (ordsF 4).map (dueP hh)) (by walk_at "M.mem") (by rw [List.length_map, ord_24.1]; decide) (by rw [List.length_map, ord_24.1]; decide) fun su qs' p2 s2 => ?_
      have eq : qs = qs' := sorted_one (p1.trans ((told_due hh).trans p2.symm)) s1 s2
      subst eq
      clear p1 p2 s1 s2
      refine cmp_lne (hA'.le (by decide)) (a := so) (b := su) (by walk_at "M.mem") (by walk_at "M.mem") (pr_flat _) ?_
      walk_at "E.run"
      rw [if_neg (by decide)]
      walk_at "E.run"
      refine accmake0_ hC hM (hA'.le (by decide)) fun xa da => ?_
      walk_at "E.run"
      (refine m_any (D := 101) (ga := "list.__getattribute__") (ty := "function") (f := .ref 45) (fV := .ref 45) (by assumption) (isI_seq (by walk_at "M.mem")) (by walk_at "M.mem") (by decide) (by kernel_rfl) (by decide +kernel) (by kernel_rfl) (by kernel_rfl) (by kernel_rfl) (by decide) (fun _ => rfl) ?_)
      walk_at "E.run"
      (refine m_fn (by assumption) (isI_inst (by walk_at "M.mem")) (by walk_at "M.mem") (by decide) (by kernel_rfl) (f := 140) (by kernel_rfl) (by kernel_rfl) ?_)
      walk_at "E.run"
      refine Call.sb (σ' := Lx 150 LX (1 + nls x 0 (posAt x 0 4)) [] x (posAt x 0 4) ((xa, AO.seq (.ref 101) (some da) []) :: (da, AO.attrs ["_initial_size"] [some (.int 0)]) :: (175, AO.table ps) :: (wl, AO.list (strsV ((List.range 4).map fun k => hw (d k)))) :: (hl, AO.list ((List.range 4).map fun k => V.int (hh k))) :: (dr, AO.list (nV ((List.range 6).map d))) :: (bl, AO.list (strsV ((List.range 4).map fun k => hw (d 4 * (k + 1))))) :: (wd, AO.dct (strKind C.prog C.w) 4 (fd (fun k => S (hw (d k))) (fun k => V.int (d k : Nat)) 4)) :: LawS F cA cB cW cX cO cE cR sc (some (.ref bl)) (some (.str (S x))) (some (.str (S l))) (some (.ref kd)) (some (.ref tl)) (some (.ref ul)) (u1) (u2) (u3) (u4) (u5) (some (.ref xa)) (u6) (u7) (some (.ref wd)) (some (.ref LX.lx)) (some (.ref wl)) (some (.ref hl)) (some (.ref dr)) (σ))) (by ((repeat (first | exact Sb.refl | exact Sb.nil | exact Sb.s1 | exact Sb.s2 | exact Sb.s3 | exact Sb.s4 | (apply Sb.take; focus ((repeat (first | exact Pick.head | exact Pick.h1 | exact Pick.h2 | exact Pick.h3 | apply Pick.t4)); done)) | apply Sb.skip)))) (get_ hC (hA'.le (by decide)) hRL hxl ?_)
      rw [step 4, T1, show posAt x 0 4 + (tk (x.drop (posAt x 0 4))).2 = posAt x 0 5 from rfl]
      walk_at "E.run"
      (refine m_fn (by assumption) (isI_inst (by walk_at "M.mem")) (by walk_at "M.mem") (by decide) (by kernel_rfl) (f := 140) (by kernel_rfl) (by kernel_rfl) ?_)
      walk_at "E.run"
      refine Call.sb (σ' := Lx 150 LX (1 + nls x 0 (posAt x 0 5)) [] x (posAt x 0 5) ((xa, AO.seq (.ref 101) (some da) []) :: (da, AO.attrs ["_initial_size"] [some (.int 0)]) :: (175, AO.table ps) :: (wl, AO.list (strsV ((List.range 4).map fun k => hw (d k)))) :: (hl, AO.list ((List.range 4).map fun k => V.int (hh k))) :: (dr, AO.list (nV ((List.range 6).map d))) :: (bl, AO.list (strsV ((List.range 4).map fun k => hw (d 4 * (k + 1))))) :: (wd, AO.dct (strKind C.prog C.w) 4 (fd (fun k => S (hw (d k))) (fun k => V.int (d k : Nat)) 4)) :: LawS F cA cB cW cX cO cE cR sc (some (.ref bl)) (some (.str (S x))) (some (.str (S l))) (some (.ref kd)) (some (.ref tl)) (some (.ref ul)) (u1) (u2) (u3) (u4) (u5) (some (.ref xa)) (u6) (u7) (some (.ref wd)) (some (.ref LX.lx)) (some (.ref wl)) (some (.ref hl)) (some (.ref dr)) (σ))) (by ((repeat (first | exact Sb.refl | exact Sb.nil | exact Sb.s1 | exact Sb.s2 | exact Sb.s3 | exact Sb.s4 | (apply Sb.take; focus ((repeat (first | exact Pick.head | exact Pick.h1 | exact Pick.h2 | exact Pick.h3 | apply Pick.t4)); done)) | apply Sb.skip)))) (get_ hC (hA'.le (by decide)) hRL hxl ?_)
      rw [step 5, T2, show posAt x 0 5 + (tk (x.drop (posAt x 0 5))).2 = posAt x 0 6 from rfl]
      walk_at "E.run"
      refine appush_ (x := xa) (d := da) (items := []) (u := l) (v := l) hC (hA'.le (by decide)) (by simp) (by walk_at "M.mem") (by decide) (by walk_at "M.lu") ?_
      walk_at "E.run"
      refine e_and2 ?_
      walk_at "E.run"
      (refine m_any (D := 101) (ga := "list.__getattribute__") (ty := "function") (f := .ref 61) (fV := .ref 61) (by assumption) (isI_seq (by walk_at "M.mem")) (by walk_at "M.mem") (by decide) (by kernel_rfl) (by decide +kernel) (by kernel_rfl) (by kernel_rfl) (by kernel_rfl) (by decide) (fun _ => rfl) ?_)
      walk_at "E.run"
      refine accpop_ (x := xa) (d := da) (items := []) (y := .tup [.str (S l), .str (S l)]) hC hM (hA'.le (by decide)) (by simp) (by walk_at "M.mem") (by decide) (by walk_at "M.lu") ?_
      walk_at "E.run"
      (refine m_any (D := 101) (ga := "list.__getattribute__") (ty := "function") (f := .ref 61) (fV := .ref 61) (by assumption) (isI_seq (by walk_at "M.mem")) (by walk_at "M.mem") (by decide) (by kernel_rfl) (by decide +kernel) (by kernel_rfl) (by kernel_rfl) (by kernel_rfl) (by decide) (fun _ => rfl) ?_)
      walk_at "E.run"
      refine accpop0_ (x := xa) (d := da) hC hM (hA'.le (by decide)) (by walk_at "M.mem") (by walk_at "M.mem") (by decide) ?_
      walk_at "E.run"
      (refine m_fn (by assumption) (isI_inst (by walk_at "M.mem")) (by walk_at "M.mem") (by decide) (by kernel_rfl) (f := 140) (by kernel_rfl) (by kernel_rfl) ?_)
      walk_at "E.run"
      refine Call.sb (σ' := Lx 150 LX (1 + nls x 0 (posAt x 0 6)) [] x (posAt x 0 6) ((xa, AO.seq (.ref 101) (some da) []) :: (da, AO.attrs ["_initial_size"] [some (.int 0)]) :: (175, AO.table ps) :: (wl, AO.list (strsV ((List.range 4).map fun k => hw (d k)))) :: (hl, AO.list ((List.range 4).map fun k => V.int (hh k))) :: (dr, AO.list (nV ((List.range 6).map d))) :: (bl, AO.list (strsV ((List.range 4).map fun k => hw (d 4 * (k + 1))))) :: (wd, AO.dct (strKind C.prog C.w) 4 (fd (fun k => S (hw (d k))) (fun k => V.int (d k : Nat)) 4)) :: LawS F cA cB cW cX cO cE cR sc (some (.ref bl)) (some (.str (S x))) (some (.str (S l))) (some (.ref kd)) (some (.ref tl)) (some (.ref ul)) (u1) (u2) (u3) (u4) (u5) (some (.ref xa)) (u6) (u7) (some (.ref wd)) (some (.ref LX.lx)) (some (.ref wl)) (some (.ref hl)) (some (.ref dr)) (σ))) (by ((repeat (first | exact Sb.refl | exact Sb.nil | exact Sb.s1 | exact Sb.s2 | exact Sb.s3 | exact Sb.s4 | (apply Sb.take; focus ((repeat (first | exact Pick.head | exact Pick.h1 | exact Pick.h2 | exact Pick.h3 | apply Pick.t4)); done)) | apply Sb.skip)))) (get_ hC (hA'.le (by decide)) hRL hxl ?_)
      rw [step 6, show (tk (x.drop (posAt x 0 6))).1 = [] from (T4 0).1, show posAt x 0 6 + (tk (x.drop (posAt x 0 6))).2 = posAt x 0 7 from rfl]
      walk_at "E.run"
      refine ⟨by rw [sizeLine_eq]; show 3 ≤ _; lia, fun l1 => ?_⟩
      walk_at "E.run"
      refine ⟨by rw [sizeLine_eq]; show 2 ≤ _; lia, ?_⟩
      walk_at "E.run"
      refine ⟨by rw [sizeLine_eq]; show 2 ≤ _; lia, ?_⟩
      walk_at "E.run"
      refine ⟨by rw [sizeLine_eq]; show 3 ≤ _; lia, fun l2 => ?_⟩
      refine cmp_leqD 1 (hA'.le (by decide)) (by decide) (a := l1) (b := l2) (by walk_at "M.mem") (by walk_at "M.mem") (.cons (.flat rfl) (.cons (.flat rfl) (.cons (.leaf rfl) .nil))) ?_
      walk_at "E.run"
      rw [if_pos rfl]
      walk_at "E.run"
      (((refine' a_own (by assumption) ?hix334 ?dx334 ?vx334 ?gx334 ?hhx334 ?hax334 ?nbx334 ?_); (case hix334 => exact isI_inst (by walk_at "M.mem")); (case dx334 => walk_at "M.mem"); (case vx334 => walk_at "M.at"); (case gx334 => kernel_rfl); (case hhx334 => kernel_rfl); (case hax334 => kernel_rfl); (case nbx334 => rfl)))
      walk_at "E.run"
      refine m_count ?_
      walk_at "E.run"
      refine c_count ?_
      walk_at "E.run"
      have eoc : (Builtin.Str.occurrences (S x) (S [10]) 0 (S x).length ((S x).length + 1)).length = x.count 10 := occ_count x 10
      rw [nls_all x (posAt x 0 7) (T4 1).2]
      rw [show Str.ofString "
" = S [10] from rfl, eoc, beq_self_eq_true]
      exact ⟨[(175, AO.table ps)], by ((repeat (first | exact Sb.refl | exact Sb.nil | exact Sb.s1 | exact Sb.s2 | exact Sb.s3 | exact Sb.s4 | (apply Sb.take; focus ((repeat (first | exact Pick.head | exact Pick.h1 | exact Pick.h2 | exact Pick.h3 | apply Pick.t4)); done)) | apply Sb.skip))), h ps⟩
end Mine
end
open PySem PySem.W PySem.Calls PyProof.Rows PySem.Spec
set_option Elab.async false
set_option maxRecDepth 100000 in
set_option maxHeartbeats 8000000 in
theorem PySem.Challenge.cw_xl0005_04_holds : PySem.Challenge.rw_xl0005_04.Holds := by
  refine Mine.hd ?_
  k_fill
  intro w s₀ s₁ mg mb G Y fa o pm cd doc dV kV ho hd hcd hD hmg hg args vals as hpre hlay hrd hwl hlo
  have KX := km_in_of Y
  have KT := km_tabs_of Y
  clear Y ho hd hcd hD
  refine Ground.open G ?_
  intro T B D TE TW
  have efa : mg (Str.ofString "law") = some (.ref 200) := mg_of KX T.g (by k_is)
  have e7 := hmg.symm.trans efa
  simp only [Option.some.injEq, Value.ref.injEq] at e7
  subst e7
  clear hmg efa
  wrow_args hpre hlay hrd hwl hlo
  rename_i ns h1 h2 h3 h4 h5 a1 a2 sc vs a3 hL ra w1 r0 hI h6 hlen h7
  have h182 := KT 175 (by decide)
  have hd0 : CodeHd s₁.heap 179 175 := codeHd_of_K KX (by kernel_rfl)
  have tabs : TabsAt [] s₁.heap := fun _ h => nomatch h
  have H := Mine.hr_start (prog := PySem.Challenge.rw_xl0005_04.row.prog) (w := w) KX T hg (P0 := 175) (by kernel_rfl) h182 tabs (by decide)
  have hC := Mine.is_start (prog := PySem.Challenge.rw_xl0005_04.row.prog) (w := w) (gt := []) (P0 := 175) KX T h182
  have L := Mine.law_ (A := callerA) (σ := []) (Q := fun v σ' => v = .bool true ∧ ∃ ps, σ' = [(175, Mine.AO.table ps)]) hC ⟨by kernel_rfl, by kernel_rfl⟩ ⟨rfl, by decide, by decide⟩ (Mine.oldL_start hL hI h182) (by omega) (fun ps => ⟨rfl, ps, rfl⟩)
  refine wpAny_mono (L s₁ (.ref 200) [.ref sc] H rfl (Mine.VRs.cons rfl Mine.VRs.nil)) (fun v s' p => ?_) (fun _ _ e => e.elim)
  obtain ⟨b, σ', H', r, _, rfl, ps, rfl⟩ := p
  cases Mine.vr_bool.mp r
  obtain ⟨O, os, gens⟩ := Mine.old_end hd0 h182 H'
  exact ⟨.inl ⟨_, ofPy (PyData.bool true), [], rfl, fun cls => by rfl, readsW_of_reads (.bool true), by kernel_rfl, fun _ => ⟨List.nodup_nil, fun a h => nomatch h⟩⟩, O, os, gens⟩
