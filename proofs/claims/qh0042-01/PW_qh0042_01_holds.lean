import PyProof.Rows.All
import Wide.All
import OpenK.AllK
import Wide.FinOn
import PySem.Challenge.RW_qh0042_01
open PySem PySem.W PySem.Calls PyProof.Rows
set_option Elab.async false
set_option maxRecDepth 100000
set_option compiler.extract_closed false
set_option linter.unusedVariables false
set_option linter.unusedSimpArgs false
namespace Mine
set_option maxHeartbeats 8000000 in
open_top hd for PySem.Challenge.rw_qh0042_01
end Mine
namespace Mine
/-- the written part of the top -/
noncomputable abbrev KK (w : World) : Frag := hd.heap_39 w.params
/-- a name table -/
noncomputable def dictD : Data → Bool
  | .dict _ _ => true
  | _ => false
/-- the frames that wait, with their name tables -/
noncomputable def Frs (base : Heap) (l : List Env) (h : Heap) : Prop := h.FunFrames base l ∧ ∀ env ∈ l, ∀ L, env.frame = some L → ∃ o, h.get? L = some o ∧ dictD o.data = true

/-- what stands at the top, said of the heap b0 ahead of the law's call -/
structure Std (w : World) (b0 : Heap) : Prop where
  X : (KK w).In b0
  T : ∃ p loose mg mb, TopRead p loose mg mb b0

/-- s' holds all of s; frames of callers may get other slots -/
structure Grow (b0 : Heap) (s s' : Shared) : Prop where
  keep : ∀ b o, s.heap.get? b = some o → (dictD o.data = false ∨ (b0.get? b).isSome = true) → s'.heap.get? b = some o
  slot : ∀ b o, s.heap.get? b = some o → ∃ o', s'.heap.get? b = some o' ∧ o'.cls = o.cls ∧ o'.data = o.data
  gens : s'.gens = s.gens
  os : s'.os = s.os

theorem Grow.refl (b0 : Heap) (s : Shared) : Grow b0 s s := ⟨fun _ _ e _ => e, fun _ o e => ⟨o, e, rfl, rfl⟩, rfl, rfl⟩
theorem Grow.trans {b0 : Heap} {s s' s'' : Shared} (x : Grow b0 s s') (y : Grow b0 s' s'') : Grow b0 s s'' :=
  ⟨fun b o e c => y.keep b o (x.keep b o e c) c,
   fun b o e => by
    obtain ⟨o', e', c', d'⟩ := x.slot b o e
    obtain ⟨o'', e'', c'', d''⟩ := y.slot b o' e'
    exact ⟨o'', e'', c''.trans c', d''.trans d'⟩, y.gens.trans x.gens, y.os.trans x.os⟩
theorem Grow.of_keeps {b0 : Heap} {s : Shared} {h' : Heap} {tk : Nat} (k : ∀ b o, s.heap.get? b = some o → h'.get? b = some o) : Grow b0 s { s with heap := h', toks := tk } :=
  ⟨fun b o e _ => k b o e, fun b o e => ⟨o, k b o e, rfl, rfl⟩, rfl, rfl⟩
theorem Grow.list {b0 : Heap} {s s' : Shared} {a : Addr} {items : Array Value} (x : Grow b0 s s') (l : s.heap.IsList a items) : s'.heap.IsList a items := by
  obtain ⟨o, ho, hc, r⟩ := l
  exact ⟨o, x.keep a o ho (.inl (by obtain ⟨n, hd⟩ := r; rw [hd]; rfl)), hc, r⟩
theorem Grow.ns {b0 : Heap} {s s' : Shared} {a : Addr} {m : Str → Option Value} (x : Grow b0 s s') (l : s.heap.Ns a m) : s'.heap.Ns a m := by
  obtain ⟨o, es, ep, ho, hd, r⟩ := l
  obtain ⟨o', e', _, d'⟩ := x.slot a o ho
  exact ⟨o', es, ep, e', d'.trans hd, r⟩
theorem Grow.there {b0 : Heap} {s s' : Shared} {a : Addr} (x : Grow b0 s s') (l : s'.heap.get? a = none) : s.heap.get? a = none := by
  cases q : s.heap.get? a with
  | none => rfl
  | some o => obtain ⟨o', e', _⟩ := x.slot a o q; rw [l] at e'; cases e'

/-- room for k calls more, the frames that wait, the top -/
structure Cx (b0 : Heap) (A : Around) (k : Nat) (s : Shared) : Prop where
  stays : b0.StaysIn s.heap
  frames : ∃ l, A.frames = some l ∧ Frs b0 l s.heap
  room : A.depth + k < recursionLimit
  units : A.units + 4 * k + 8 < cLine
  handled : A.handled = none

theorem funFrames_of {h h' base : Heap} (k : ∀ b o, h.get? b = some o → (∀ vs, o.data ≠ .fields vs) → ∃ o', h'.get? b = some o' ∧ ∀ vs, o'.data ≠ .fields vs) :
    ∀ {l : List Env}, h.FunFrames base l → h'.FunFrames base l
  | [], _ => trivial
  | _ :: _, ⟨hk, ⟨L, o, hf, hn, ho, hd⟩, hr⟩ =>
    let ⟨o', ho', hd'⟩ := k L o ho hd
    ⟨hk, ⟨L, o', hf, hn, ho', hd'⟩, funFrames_of k hr⟩

theorem Frs.of {h h' base : Heap} {l : List Env} (k : ∀ b o, h.get? b = some o → (∀ vs, o.data ≠ .fields vs) → ∃ o', h'.get? b = some o' ∧ (∀ vs, o'.data ≠ .fields vs) ∧ (dictD o.data = true → dictD o'.data = true)) (f : Frs base l h) : Frs base l h' :=
  ⟨funFrames_of (fun b o e d => let ⟨o', e', d', _⟩ := k b o e d; ⟨o', e', d'⟩) f.1, fun env he L hL => by
    obtain ⟨o, e, d⟩ := f.2 env he L hL
    obtain ⟨o', e', _, d'⟩ := k L o e (fun vs q => by rw [q] at d; cases d)
    exact ⟨o', e', d' d⟩⟩

theorem Cx.grow {b0 : Heap} {A : Around} {k : Nat} {s s' : Shared} (c : Cx b0 A k s) (x : Grow b0 s s') : Cx b0 A k s' :=
  ⟨fun b o e => x.keep b o (c.stays b o e) (.inr (by rw [e]; rfl)),
   let ⟨l, e, f⟩ := c.frames
   ⟨l, e, f.of (fun b o e hd => by obtain ⟨o', e', _, d'⟩ := x.slot b o e; exact ⟨o', e', (fun vs => d' ▸ hd vs), fun q => d' ▸ q⟩)⟩, c.room, c.units, c.handled⟩
theorem Cx.less {b0 : Heap} {A : Around} {k j : Nat} {s : Shared} (c : Cx b0 A k s) (h : j ≤ k) : Cx b0 A j s :=
  ⟨c.stays, c.frames, by have := c.room; omega, by have := c.units; omega, c.handled⟩
/-- a change of one object d that is none of b0's, no frame but its data stays no record -/
theorem Cx.upd {b0 : Heap} {A : Around} {k : Nat} {s s' : Shared} {d : Addr} (c : Cx b0 A k s) (hd : b0.get? d = none) (hs : ∀ b o, b ≠ d → s.heap.get? b = some o → s'.heap.get? b = some o)
    (ho : ∀ o, s.heap.get? d = some o → (∀ vs, o.data ≠ .fields vs) → ∃ o', s'.heap.get? d = some o' ∧ (∀ vs, o'.data ≠ .fields vs) ∧ (dictD o.data = true → dictD o'.data = true)) : Cx b0 A k s' := by
  refine ⟨fun b o e => hs b o (fun q => by rw [q, hd] at e; cases e) (c.stays b o e), ?_, c.room, c.units, c.handled⟩
  obtain ⟨l, e, f⟩ := c.frames
  refine ⟨l, e, f.of (fun b o e hd' => ?_)⟩
  by_cases q : b = d
  · subst q; exact ho o e hd'
  · exact ⟨o, hs b o q e, hd', id⟩

/-- the locals that are known, by their place in the list of names -/
noncomputable def Loc (m : Str → Option Value) : List Str → List (Option Value) → Prop
  | x :: ns, some v :: vs => m x = some v ∧ Loc m ns vs
  | _ :: ns, none :: vs => Loc m ns vs
  | _, _ => True
inductive At : List Str → List (Option Value) → Str → Value → Prop
  | head {x : Str} {v : Value} {ns : List Str} {vs : List (Option Value)} : At (x :: ns) (some v :: vs) x v
  | tail {x y : Str} {v : Value} {u : Option Value} {ns : List Str} {vs : List (Option Value)} : At ns vs x v → At (y :: ns) (u :: vs) x v
inductive Put : List Str → List (Option Value) → Str → Value → List (Option Value) → Prop
  | head {x : Str} {v : Value} {u : Option Value} {ns : List Str} {vs : List (Option Value)} : Put (x :: ns) (u :: vs) x v (some v :: vs)
  | tail {x y : Str} {v : Value} {u : Option Value} {ns : List Str} {vs vs' : List (Option Value)} : Put ns vs x v vs' → Put (y :: ns) (u :: vs) x v (u :: vs')
theorem At.get {m : Str → Option Value} {x : Str} {v : Value} {ns : List Str} {vs : List (Option Value)} (a : At ns vs x v) (h : Loc m ns vs) : m x = some v := by
  induction a with
  | head => exact h.1
  | @tail _ _ _ u _ _ _ ih => cases u with
    | some _ => exact ih h.2
    | none => exact ih h
theorem At.mem {x : Str} {v : Value} {ns : List Str} {vs : List (Option Value)} (a : At ns vs x v) : x ∈ ns := by
  induction a with
  | head => exact .head _
  | tail _ ih => exact .tail _ ih
theorem Put.mem {x : Str} {v : Value} {ns : List Str} {vs vs' : List (Option Value)} (a : Put ns vs x v vs') : x ∈ ns := by
  induction a with
  | head => exact .head _
  | tail _ ih => exact .tail _ ih
theorem Loc.other {m : Str → Option Value} {x : Str} {v : Value} : ∀ {ns : List Str} {vs : List (Option Value)}, x ∉ ns → Loc m ns vs → Loc (fun y => if y = x then some v else m y) ns vs
  | [], vs, _, _ => by cases vs <;> trivial
  | _ :: _, [], _, _ => trivial
  | y :: ns, some u :: vs, hx, h => ⟨(if_neg fun q => hx (by rw [q]; exact .head _)).trans h.1, Loc.other (fun q => hx (.tail _ q)) h.2⟩
  | y :: ns, none :: vs, hx, h => Loc.other (ns := ns) (fun q => hx (.tail _ q)) h
theorem Put.loc {m : Str → Option Value} {x : Str} {v : Value} {ns : List Str} {vs vs' : List (Option Value)} (a : Put ns vs x v vs') : ns.Nodup → Loc m ns vs → Loc (fun y => if y = x then some v else m y) ns vs' := by
  induction a with
  | @head x v u ns vs =>
    intro hn h
    have hx := (List.nodup_cons.mp hn).1
    cases u with
    | none => exact ⟨if_pos rfl, Loc.other hx h⟩
    | some _ => exact ⟨if_pos rfl, Loc.other hx h.2⟩
  | @tail x y v u ns vs vs' a ih =>
    intro hn h
    have hn := List.nodup_cons.mp hn
    have q : y ≠ x := fun q => hn.1 (by rw [q]; exact a.mem)
    cases u with
    | none => exact ih hn.2 h
    | some _ => exact ⟨(if_neg q).trans h.1, ih hn.2 h.2⟩

noncomputable abbrev Ledger := List (Addr × Obj)

/-- a running frame: base B, locals at L, ledger N of own objects -/
structure Fx (b0 : Heap) (A : Around) (k : Nat) (B : Shared) (L : Addr) (ns : List Str) (vals : List (Option Value)) (N : Ledger) (s : Shared) : Prop where
  cx : Cx b0 A k s
  grow : Grow b0 B s
  ns : ∃ m, s.heap.Ns L m ∧ Loc m ns vals
  off : B.heap.get? L = none
  off0 : b0.get? L = none
  news : ∀ p ∈ N, s.heap.get? p.1 = some p.2 ∧ B.heap.get? p.1 = none ∧ b0.get? p.1 = none ∧ dictD p.2.data = false
  nodup : (L :: N.map (·.1)).Nodup

section
variable {b0 : Heap} {A : Around} {k : Nat} {B : Shared} {L : Addr} {ns : List Str} {vals vals' : List (Option Value)} {N N' : Ledger} {s s' : Shared}

theorem Fx.later (F : Fx b0 A k B L ns vals N s) (g : Grow b0 s s') : Fx b0 A k B L ns vals N s' :=
  ⟨F.cx.grow g, F.grow.trans g, let ⟨m, a, b⟩ := F.ns; ⟨m, g.ns a, b⟩, F.off, F.off0, fun p hp => let ⟨a, r⟩ := F.news p hp; ⟨g.keep _ _ a (.inl r.2.2), r⟩, F.nodup⟩
theorem Fx.toks (F : Fx b0 A k B L ns vals N s) (tk : Nat) : Fx b0 A k B L ns vals N { s with toks := tk } :=
  F.later ⟨fun _ _ e _ => e, fun _ o e => ⟨o, e, rfl, rfl⟩, rfl, rfl⟩
theorem Fx.sub (F : Fx b0 A k B L ns vals N s) (h : N'.Sublist N) : Fx b0 A k B L ns vals N' s :=
  ⟨F.cx, F.grow, F.ns, F.off, F.off0, fun p hp => F.news p (h.subset hp), F.nodup.sublist ((h.map _).cons_cons L)⟩
theorem Fx.perm (F : Fx b0 A k B L ns vals N s) (h : N'.Perm N) : Fx b0 A k B L ns vals N' s :=
  ⟨F.cx, F.grow, F.ns, F.off, F.off0, fun p hp => F.news p (h.subset hp), (((h.map (·.1)).cons L).nodup_iff).mpr F.nodup⟩
theorem Fx.less (F : Fx b0 A k B L ns vals N s) {j : Nat} (h : j ≤ k) : Fx b0 A j B L ns vals N s :=
  ⟨F.cx.less h, F.grow, F.ns, F.off, F.off0, F.news, F.nodup⟩
theorem Fx.get (F : Fx b0 A k B L ns vals N s) {a : Addr} {o : Obj} (h : (a, o) ∈ N) : s.heap.get? a = some o := (F.news _ h).1
theorem Fx.lt (F : Fx b0 A k B L ns vals N s) : L < s.heap.objs.size := let ⟨_, a, _⟩ := F.ns; a.lt
theorem Fx.push (F : Fx b0 A k B L ns vals N s) {o : Obj} (hf : o.isFreed = false) (hc : dictD o.data = false) (tk : Nat) :
    Fx b0 A k B L ns vals ((s.heap.objs.size, o) :: N) { s with heap := s.heap.push o, toks := tk } := by
  have G : Grow b0 s { s with heap := s.heap.push o, toks := tk } := Grow.of_keeps fun b o' e => Heap.get?_push_of_some _ e
  have F' := F.later G
  have hnew : s.heap.get? s.heap.objs.size = none := Heap.get?_none_of_le (Nat.le_refl _)
  refine ⟨F'.cx, F'.grow, F'.ns, F'.off, F'.off0, fun p hp => ?_, ?_⟩
  · rcases List.mem_cons.mp hp with rfl | hp
    · refine ⟨Heap.get?_push_size _ hf, F.grow.there hnew, ?_, hc⟩
      cases q : b0.get? s.heap.objs.size with
      | none => rfl
      | some o' => have := F.cx.stays _ _ q; rw [hnew] at this; cases this
    · exact F'.news p hp
  · have hL : L ≠ s.heap.objs.size := Nat.ne_of_lt F.lt
    have hN : s.heap.objs.size ∉ N.map (·.1) := fun q => by
      obtain ⟨p, hp, e⟩ := List.mem_map.mp q
      exact absurd (Heap.lt_size (F.news p hp).1) (by rw [e]; exact Nat.lt_irrefl _)
    have := F.nodup
    simp only [List.map_cons, List.nodup_cons, List.mem_cons, not_or] at this ⊢
    exact ⟨⟨hL, this.1⟩, hN, this.2⟩
theorem Fx.store (F : Fx b0 A k B L ns vals N s) {h' : Heap} (hn : ∀ m, s.heap.Ns L m → Loc m ns vals → ∃ m', h'.Ns L m' ∧ Loc m' ns vals') (hs : Heap.SameBut L s.heap h') (tk : Nat) :
    Fx b0 A k B L ns vals' N { s with heap := h', toks := tk } := by
  obtain ⟨m, hm, hl⟩ := F.ns
  obtain ⟨m', hm', hl'⟩ := hn m hm hl
  have nL : ∀ p ∈ N, p.1 ≠ L := fun p hp q => (List.nodup_cons.mp F.nodup).1 (q ▸ List.mem_map_of_mem hp)
  refine ⟨F.cx.upd F.off0 (fun b o hb e => (hs.2 b hb).trans e) (fun o e hd => ?_), ⟨fun b o e c => ?_, fun b o e => ?_, F.grow.gens, F.grow.os⟩, ⟨m', hm', hl'⟩, F.off, F.off0, fun p hp => ?_, F.nodup⟩
  · obtain ⟨o', es, ep, e', d', _⟩ := hm'
    exact ⟨o', e', (fun vs => by rw [d']; exact fun q => by cases q), fun _ => by rw [d']; rfl⟩
  · exact (hs.2 b (fun q => by rw [q, F.off] at e; cases e)).trans (F.grow.keep b o e c)
  · obtain ⟨o', e', r⟩ := F.grow.slot b o e
    exact ⟨o', (hs.2 b (fun q => by rw [q, F.off] at e; cases e)).trans e', r⟩
  · obtain ⟨a, r⟩ := F.news p hp
    exact ⟨(hs.2 _ (nL p hp)).trans a, r⟩
end
/-- what a frame's names are -/
structure Sc (env : Env) (L : Addr) (ns gs : List Str) : Prop where
  kind : env.scope.kind = .function
  at_ : env.locals = L
  glob : env.globals = mainGlobals
  blt : env.builtins = builtinsNs
  loc : ∀ x ∈ ns, env.kindOf x = some .local
  gls : ∀ x ∈ gs, env.kindOf x = some .globalImplicit
  dbg : ∀ x, x ∈ ns ∨ x ∈ gs → (x == ("__debug__" : Str)) = false
  nd : ns.Nodup

noncomputable def namesOk (scope : Scope) (ns gs : List Str) : Bool :=
  ns.all (fun x => scope.names.lookup x == some .local && !(x == ("__debug__" : Str))) && gs.all (fun x => scope.names.lookup x == some .globalImplicit && !(x == ("__debug__" : Str))) && decide ns.Nodup
noncomputable def scOk (scope : Scope) (ns gs : List Str) : Bool :=
  scope.kind == .function && !scope.isCoroutine && !scope.isGenerator && scope.names.all (fun x => x.2 != .cell) && namesOk scope ns gs
theorem Sc.of {env : Env} {L : Addr} {ns gs : List Str} (hk : env.scope.kind = .function) (h : namesOk env.scope ns gs = true) (hL : env.locals = L) (hg : env.globals = mainGlobals) (hb : env.builtins = builtinsNs) : Sc env L ns gs := by
  unfold namesOk at h
  simp only [Bool.and_eq_true, List.all_eq_true, beq_iff_eq, Bool.not_eq_true', decide_eq_true_eq] at h
  refine ⟨hk, hL, hg, hb, fun x hx => (h.1.1 x hx).1, fun x hx => (h.1.2 x hx).1, fun x hx => ?_, h.2⟩
  rcases hx with hx | hx
  · exact (h.1.1 x hx).2
  · exact (h.1.2 x hx).2

/-- what is wanted behind a block that goes on (K) or leaves (Q) -/
noncomputable def Then (K : Shared → Prop) (Q : Flow → Shared → Prop) : Flow → Shared → Prop
  | .next, s => K s
  | f, s => Q f s
theorem Then.next {K : Shared → Prop} {Q : Flow → Shared → Prop} {s : Shared} (h : K s) : Then K Q .next s := h
theorem Then.ret {K : Shared → Prop} {Q : Flow → Shared → Prop} {s : Shared} {v : Value} (h : Q (.ret v) s) : Then K Q (.ret v) s := h
theorem Then.cont {K : Shared → Prop} {Q : Flow → Shared → Prop} {s : Shared} (h : Q .cont s) : Then K Q .cont s := h
/-- what is wanted of a def's body -/
noncomputable def Ret (R : Result → Shared → Prop) : Flow → Shared → Prop
  | .ret v, s => R (.ok (.ret v)) s
  | _, s => R (.ok (.ret .none)) s
theorem Ret.ret {R : Result → Shared → Prop} {v : Value} {s : Shared} (h : R (.ok (.ret v)) s) : Ret R (.ret v) s := h
theorem Ret.next {R : Result → Shared → Prop} {s : Shared} (h : R (.ok (.ret .none)) s) : Ret R .next s := h
noncomputable abbrev No : Value → Shared → Prop := fun _ _ => False

section
variable {prog : Program} {w : World} {A : Around} {E : Value → Shared → Prop} {s : Shared} {env : Env} {ns gs : List Str} {b0 : Heap} {k : Nat} {B : Shared} {L : Addr} {vals vals' : List (Option Value)} {N : Ledger}

-- names, constants
theorem ev_loc {x : Str} {pos : Pos} {v : Value} {Q : Value → Shared → Prop} (S : Sc env L ns gs) (F : Fx b0 A k B L ns vals N s) (h : At ns vals x v) (q : Q v s) : wpAny (model prog w) A (eval (.Name x pos) env) Q E s := by
  obtain ⟨m, hm, hl⟩ := F.ns
  exact wpAny_Name (wpAny_loadName_local S.kind (S.loc x h.mem) (by rw [S.at_]; exact hm) (h.get hl) q) (S.dbg x (.inl h.mem))
theorem ev_glb {x : Str} {pos : Pos} {v : Value} {Q : Value → Shared → Prop} (S : Sc env L ns gs) (D : Std w b0) (F : Fx b0 A k B L ns vals N s) (hx : x ∈ gs) (e : nsIn (KK w) mainGlobals x = some (some v)) (q : Q v s) :
    wpAny (model prog w) A (eval (.Name x pos) env) Q E s := by
  obtain ⟨_, _, mg, mb, T⟩ := D.T
  exact Name_function_global S.kind (S.gls x hx) (loadGlobal_global (by rw [S.glob]; exact T.g.keeps F.cx.stays) (mg_of D.X T.g e) q) (S.dbg x (.inr hx))
theorem ev_blt {x : Str} {pos : Pos} {v : Value} {Q : Value → Shared → Prop} (S : Sc env L ns gs) (D : Std w b0) (F : Fx b0 A k B L ns vals N s) (hx : x ∈ gs) (e : nsIn (KK w) mainGlobals x = some none) (hv : bootBuiltins x = some v) (hn : x ≠ "__name__") (q : Q v s) :
    wpAny (model prog w) A (eval (.Name x pos) env) Q E s := by
  obtain ⟨_, _, mg, mb, T⟩ := D.T
  exact Name_function_global S.kind (S.gls x hx) (loadGlobal_builtin (by rw [S.glob]; exact T.g.keeps F.cx.stays) (mg_none_of D.X T.g e) (by rw [S.blt]; exact T.b.keeps F.cx.stays) ((T.builtins x hn).trans hv) q) (S.dbg x (.inr hx))
theorem ev_int {i : Int} {c : Nat} {pos : Pos} {Q : Value → Shared → Prop} (F : Fx b0 A k B L ns vals N s) (q : ∀ t s', Fx b0 A k B L ns vals N s' → Q (.int i t) s') : wpAny (model prog w) A (eval (.Constant (.int i) c pos) env) Q E s :=
  wpAny_Constant_int (q _ _ (F.toks _))
theorem ev_bool {b : Bool} {c : Nat} {pos : Pos} {Q : Value → Shared → Prop} (q : Q (.bool b) s) : wpAny (model prog w) A (eval (.Constant (.bool b) c pos) env) Q E s := wpAny_Constant_bool q
theorem ev_none {c : Nat} {pos : Pos} {Q : Value → Shared → Prop} (q : Q .none s) : wpAny (model prog w) A (eval (.Constant .none c pos) env) Q E s := wpAny_Constant_none q
theorem st_loc {x : Str} {v : Value} {Q : Unit → Shared → Prop} (S : Sc env L ns gs) (F : Fx b0 A k B L ns vals N s) (p : Put ns vals x v vals') (q : ∀ s', Fx b0 A k B L ns vals' N s' → Q () s') :
    wpAny (model prog w) A (storeName env x v) Q E s := by
  obtain ⟨m, hm, hl⟩ := F.ns
  refine wpAny_storeName_local (m := m) (S.loc x p.mem) (by rw [S.at_]; exact hm) (fun h' hn hs => q _ ?_) (by rw [S.kind]; rfl)
  rw [S.at_] at hn hs
  exact F.store (fun _ _ _ => ⟨_, hn, p.loc S.nd hl⟩) hs _

-- statements
theorem x_nil {Q : Flow → Shared → Prop} (q : Q .next s) : wpAny (model prog w) A (execs [] env) Q E s := wpAny_execs_nil q
theorem x_assign {x : Str} {p' pos : Pos} {value : Expr} {rest : List Stmt} {Q : Flow → Shared → Prop}
    (h : wpAny (model prog w) A (eval value env) (fun v s₁ => wpAny (model prog w) A (storeName env x v) (fun _ s₂ => wpAny (model prog w) A (execs rest env) Q E s₂) E s₁) E s)
    (hs : swapsWith value (some (.Name x p')) pos.line env = pure false) : wpAny (model prog w) A (execs (.Assign [.Name x p'] value pos :: rest) env) Q E s :=
  wpAny_execs_cons (wpAny_Assign_Name h hs)
theorem x_expr {e : Expr} {pos : Pos} {rest : List Stmt} {Q : Flow → Shared → Prop}
    (h : wpAny (model prog w) A (eval e env) (fun v s₁ => v = .none ∧ wpAny (model prog w) A (execs rest env) Q E s₁) E s)
    (S : Sc env L ns gs) (hs : swapsWith e none pos.line env = pure false) : wpAny (model prog w) A (execs (.Expr e pos :: rest) env) Q E s :=
  have hi : interactive env = false := by unfold interactive; rw [S.kind]; rfl
  wpAny_execs_cons (wpAny_Expr (wpAny_mono h (fun v s₁ h => by obtain ⟨rfl, h⟩ := h; exact h) fun _ _ h => h) hi hs)
theorem x_if {test : Expr} {body orelse rest : List Stmt} {pos : Pos} {Q : Flow → Shared → Prop}
    (h : wpAny (model prog w) A (isTrue test env (eval test env)) (fun b s₂ => wpAny (model prog w) A (execs (cond b body orelse) env) (Then (fun s' => wpAny (model prog w) A (execs rest env) Q E s') Q) E s₂) E s) :
    wpAny (model prog w) A (execs (.If test body orelse pos :: rest) env) Q E s :=
  wpAny_execs_cons (wpAny_If (wpAny_mono h (fun b s₁ h => by
    cases b <;> exact wpAny_mono h (fun f s h => by cases f <;> exact h) fun _ _ h => h) fun _ _ h => h))
theorem x_ret {e : Expr} {pos : Pos} {rest : List Stmt} {Q : Flow → Shared → Prop} (h : wpAny (model prog w) A (eval e env) (fun v => Q (.ret v)) E s) : wpAny (model prog w) A (execs (.Return (some e) pos :: rest) env) Q E s :=
  wpAny_execs_cons (wpAny_Return_some (wpAny_mono h (fun _ _ h => h) fun _ _ h => h))
theorem x_cont {pos : Pos} {rest : List Stmt} {Q : Flow → Shared → Prop} (h : Q .cont s) : wpAny (model prog w) A (execs (.Continue pos :: rest) env) Q E s :=
  wpAny_execs_cons (wpAny_Continue h)
theorem x_then {b : Bool} {body orelse : List Stmt} {Q : Flow → Shared → Prop} (hb : b = true) (h : wpAny (model prog w) A (execs body env) Q E s) : wpAny (model prog w) A (execs (cond b body orelse) env) Q E s := by subst hb; exact h
theorem x_else {b : Bool} {body orelse : List Stmt} {Q : Flow → Shared → Prop} (hb : b = false) (h : wpAny (model prog w) A (execs orelse env) Q E s) : wpAny (model prog w) A (execs (cond b body orelse) env) Q E s := by subst hb; exact h
theorem x_both {b : Bool} {body orelse : List Stmt} {Q : Flow → Shared → Prop} (h1 : b = true → wpAny (model prog w) A (execs body env) Q E s) (h2 : b = false → wpAny (model prog w) A (execs orelse env) Q E s) : wpAny (model prog w) A (execs (cond b body orelse) env) Q E s := by
  cases b
  · exact h2 rfl
  · exact h1 rfl

-- expressions
theorem ev_bin {l r : Expr} {op : Operator} {pos : Pos} {Q : Value → Shared → Prop} (h : wpAny (model prog w) A (eval l env) (fun a s₁ => wpAny (model prog w) A (eval r env) (fun b s₂ => wpAny (model prog w) A (binaryOp op a b) Q E s₂) E s₁) E s) :
    wpAny (model prog w) A (eval (.BinOp l op r pos) env) Q E s := wpAny_BinOp h
theorem ev_cmp {l r : Expr} {op : CmpOp} {pos : Pos} {Q : Value → Shared → Prop} (h : wpAny (model prog w) A (eval l env) (fun a s₁ => wpAny (model prog w) A (eval r env) (fun b s₂ => wpAny (model prog w) A (compareOp op a b) Q E s₂) E s₁) E s) (hm : behindInMarks op r = false) :
    wpAny (model prog w) A (eval (.Compare l [op] [r] pos) env) Q E s := wpAny_Compare1 h hm
theorem tr_cmp {l r : Expr} {op : CmpOp} {pos : Pos} {whole : Sem Value} {Q : Bool → Shared → Prop} (h : wpAny (model prog w) A (eval l env) (fun a s₁ => wpAny (model prog w) A (eval r env) (fun b s₂ => wpAny (model prog w) A (compareOp op a b) (fun c s₃ => wpAny (model prog w) A (truthy c) Q E s₃) E s₂) E s₁) E s) (hm : behindInMarks op r = false) :
    wpAny (model prog w) A (isTrue (.Compare l [op] [r] pos) env whole) Q E s := wpAny_isTrue_Compare1 h hm
theorem tr_not {x : Expr} {pos : Pos} {whole : Sem Value} {Q : Bool → Shared → Prop} (h : wpAny (model prog w) A (isTrue x env (eval x env)) (fun b s₁ => Q (!b) s₁) E s) : wpAny (model prog w) A (isTrue (.UnaryOp .Not x pos) env whole) Q E s := wpAny_isTrue_Not h
theorem tr_bool {b : Bool} {Q : Bool → Shared → Prop} (h : Q b s) : wpAny (model prog w) A (truthy (.bool b)) Q E s := wpAny_truthy_bool h
theorem tr_name {x : Str} {p : Pos} {Q : Bool → Shared → Prop} (h : wpAny (model prog w) A (eval (.Name x p) env) (fun v s₁ => wpAny (model prog w) A (truthy v) Q E s₁) E s) : wpAny (model prog w) A (isTrue (.Name x p) env (eval (.Name x p) env)) Q E s := wpAny_isTrue_value h
theorem tr_call {f : Expr} {args : List Expr} {kws : List Keyword} {p : Pos} {Q : Bool → Shared → Prop} (h : wpAny (model prog w) A (eval (.Call f args kws p) env) (fun v s₁ => wpAny (model prog w) A (truthy v) Q E s₁) E s) : wpAny (model prog w) A (isTrue (.Call f args kws p) env (eval (.Call f args kws p) env)) Q E s := wpAny_isTrue_value h
theorem tr_chain {l r₁ r₂ : Expr} {op₁ op₂ : CmpOp} {pos : Pos} {whole : Sem Value} {Q : Bool → Shared → Prop}
    (h : wpAny (model prog w) A (eval l env) (fun a s₁ => wpAny (model prog w) A (eval r₁ env) (fun b s₂ => wpAny (model prog w) A (compareOp op₁ a b) (fun c s₃ => ∃ x, c = .bool x ∧ (x = false → Q false s₃) ∧ (x = true →
      wpAny (model prog w) A (eval r₂ env) (fun d s₄ => wpAny (model prog w) A (compareOp op₂ b d) (fun c s₅ => wpAny (model prog w) A (truthy c) Q E s₅) E s₄) E s₃)) E s₂) E s₁) E s)
    (hm : lastMarks [op₁, op₂] [r₁, r₂] = false) : wpAny (model prog w) A (isTrue (.Compare l [op₁, op₂] [r₁, r₂] pos) env whole) Q E s := by
  refine isTrue_chain (wpAny_mono h (fun a s₁ h₁ => ?_) fun _ _ x => x) hm
  show wpAny _ A (do
    let rv ← holding [a] (eval r₁ env)
    standAt pos
    let c ← holding [a, rv] (compareOp op₁ a rv)
    release [a, rv] [c]
    if ← holding [c, rv] (truthy c) then testChain pos rv [op₂] [eval r₂ env] else pure false) Q E s₁
  refine wpAny_bind (wpAny_holding (wpAny_mono h₁ (fun b s₂ h₂ => wpAny_bind (wpAny_standAt (wpAny_bind (wpAny_holding (wpAny_mono h₂ (fun c s₃ h₃ => ?_) fun _ _ x => x))))) fun _ _ x => x))
  obtain ⟨x, rfl, hf, ht⟩ := h₃
  have rel : ∀ {Q' : Unit → Shared → Prop} (vs keep : List Value), Q' () s₃ → wpAny (model prog w) A (release vs keep) Q' E s₃ := fun vs keep h Γ p hΓ => by
    show Sem.wp _ Γ (release.go keep _) _ _ p s₃
    rw [Sem.wp_release_go]; exact h
  refine wpAny_bind (rel _ _ (wpAny_bind (wpAny_holding (wpAny_truthy_bool ?_))))
  cases x with
  | false => exact wpAny_pure (hf rfl)
  | true =>
    show wpAny _ A (do
      let rv ← holding [b] (eval r₂ env)
      standAt pos
      let c ← operate [b, rv] (compareOp op₂ b rv)
      holding [c] (truthy c)) Q E s₃
    refine wpAny_bind (wpAny_holding (wpAny_mono (ht rfl) (fun d s₄ h₄ => wpAny_bind (wpAny_standAt (wpAny_bind ?_))) fun _ _ x => x))
    intro Γ p hΓ
    rw [Sem.wp_operate]
    exact Sem.wp_mono _ Γ _ (fun c p' s₅ h₅ => wpAny_holding h₅) (fun _ _ _ x => x) p s₄ (h₄ Γ p hΓ)

theorem chain_t {P1 P2 : Prop} {x : Bool} {c : Value} (hc : c = .bool x) (hx : x = true) (h : P2) : ∃ x, c = .bool x ∧ (x = false → P1) ∧ (x = true → P2) := ⟨x, hc, (fun q => by rw [hx] at q; cases q), fun _ => h⟩
theorem chain_f {P1 P2 : Prop} {x : Bool} {c : Value} (hc : c = .bool x) (hx : x = false) (h : P1) : ∃ x, c = .bool x ∧ (x = false → P1) ∧ (x = true → P2) := ⟨x, hc, (fun _ => h), fun q => by rw [hx] at q; cases q⟩

-- ints
variable {a b : Int} {t u : Tok} {Q : Value → Shared → Prop}
theorem op_add (F : Fx b0 A k B L ns vals N s) (q : ∀ t s', Fx b0 A k B L ns vals N s' → Q (.int (a + b) t) s') : wpAny (model prog w) A (binaryOp .Add (.int a t) (.int b u)) Q E s := add_int (q _ _ (F.toks _))
theorem op_sub (F : Fx b0 A k B L ns vals N s) (q : ∀ t s', Fx b0 A k B L ns vals N s' → Q (.int (a - b) t) s') : wpAny (model prog w) A (binaryOp .Sub (.int a t) (.int b u)) Q E s := sub_int (q _ _ (F.toks _))
theorem op_and (F : Fx b0 A k B L ns vals N s) (q : ∀ t s', Fx b0 A k B L ns vals N s' → Q (.int (Builtin.bitAnd a b) t) s') : wpAny (model prog w) A (binaryOp .BitAnd (.int a t) (.int b u)) Q E s := and_int (q _ _ (F.toks _))
theorem op_or (F : Fx b0 A k B L ns vals N s) (q : ∀ t s', Fx b0 A k B L ns vals N s' → Q (.int (Builtin.bitOr a b) t) s') : wpAny (model prog w) A (binaryOp .BitOr (.int a t) (.int b u)) Q E s := or_int (q _ _ (F.toks _))
theorem op_shr (F : Fx b0 A k B L ns vals N s) (hb : 0 ≤ b) (q : ∀ t s', Fx b0 A k B L ns vals N s' → Q (.int (a.fdiv (2 ^ b.toNat)) t) s') : wpAny (model prog w) A (binaryOp .RShift (.int a t) (.int b u)) Q E s := rshift_int hb (q _ _ (F.toks _))
theorem op_shl (F : Fx b0 A k B L ns vals N s) (hb : 0 ≤ b) (hb2 : b ≤ 1000000) (ha : a.natAbs < 2 ^ 64) (q : ∀ t s', Fx b0 A k B L ns vals N s' → Q (.int (a * 2 ^ b.toNat) t) s') : wpAny (model prog w) A (binaryOp .LShift (.int a t) (.int b u)) Q E s := lshift_int_small hb hb2 ha (q _ _ (F.toks _))
theorem op_mod (F : Fx b0 A k B L ns vals N s) (hb : b ≠ 0) (q : ∀ t s', Fx b0 A k B L ns vals N s' → Q (.int (a.fmod b) t) s') : wpAny (model prog w) A (binaryOp .Mod (.int a t) (.int b u)) Q E s := mod_int hb (q _ _ (F.toks _))
theorem op_lt (q : Q (.bool (decide (a < b))) s) : wpAny (model prog w) A (compareOp .Lt (.int a t) (.int b u)) Q E s := lt_int q
theorem op_le (q : Q (.bool (decide (a ≤ b))) s) : wpAny (model prog w) A (compareOp .LtE (.int a t) (.int b u)) Q E s := le_int q
theorem op_ge (q : Q (.bool (decide (b ≤ a))) s) : wpAny (model prog w) A (compareOp .GtE (.int a t) (.int b u)) Q E s := ge_int q
theorem op_eq (q : Q (.bool (a == b)) s) : wpAny (model prog w) A (compareOp .Eq (.int a t) (.int b u)) Q E s := eq_int q
theorem op_ne (q : Q (.bool (a != b)) s) : wpAny (model prog w) A (compareOp .NotEq (.int a t) (.int b u)) Q E s := ne_int q
end

/-- the frame is its env's own, on the top of the stack -/
structure Own (env : Env) (A : Around) (L : Addr) : Prop where
  frame : env.frame = some L
  top : ∃ l, A.frames = some (env :: l)
  cells : env.cells = []
/-- a def's body, from a call of its address -/
theorem enter {prog : Program} {w : World} {A : Around} {s : Shared} {b0 : Heap} {k : Nat} {R : Result → Shared → Prop} {f : Addr} {name qual : Str} {params : Arguments} {body : List Stmt} {scope : Scope} {dV kV doc pm cdv ct oc : Value} {an od : Option Addr} {osl : Array (Option Value)}
    {args : Args} {binds : List (Str × Value)} {ns gs : List Str} {vals : List (Option Value)} (D : Std w b0) (C : Cx b0 A (k + 1) s)
    (ho : (KK w).lookup f = some ⟨oc, od, .func (fnOf name qual params body scope dV kV doc pm an cdv ct), osl⟩) (hcd : codeIn (KK w) cdv qual = true)
    (hbind : BindsTo s (fnOf name qual params body scope dV kV doc pm an cdv ct) args binds) (hloc : (binds.all fun x => decide (scope.names.lookup x.1 = some .local)) = true) (hsc : scOk scope ns gs = true)
    (hv : Loc (fun y => binds.reverse.lookup y) ns vals)
    (h : ∀ env A' L s₁, Sc env L ns gs → Fx b0 A' k s L ns vals [] s₁ → Own env A' L → wpAny (model prog w) A' (execs body env) (Ret R) No s₁) :
    codeAny (model prog w) A (.call (.ref f) args) R s := by
  unfold scOk at hsc
  simp only [Bool.and_eq_true, beq_iff_eq, Bool.not_eq_true', List.all_eq_true] at hsc
  obtain ⟨⟨⟨⟨hk, hco⟩, hge⟩, hcell⟩, hno⟩ := hsc
  obtain ⟨_, _, _, _, T⟩ := D.T
  refine codeAny_call_def (fd := fnOf name qual params body scope dV kV doc pm an cdv ct) (body := body) (binds := binds) (by have := C.room; omega) (C.stays _ _ (D.X _ _ ho)) rfl (T.nolimit.keeps C.stays) (codeRec_of (D.X.keeps C.stays) hcd) rfl hbind
    (fun x hx => by simpa using hcell x hx) (locs hloc) (fun h₁ hns hk₁ => ?_) hco hge hk
  have Sx : Sc (envOf qual scope s.heap.objs.size f cdv) s.heap.objs.size ns gs := Sc.of hk hno rfl rfl rfl
  have hnew : s.heap.get? s.heap.objs.size = none := Heap.get?_none_of_le (Nat.le_refl _)
  have hn0 : b0.get? s.heap.objs.size = none := by
    cases q : b0.get? s.heap.objs.size with
    | none => rfl
    | some o => have := C.stays _ _ q; rw [hnew] at this; cases this
  have G : Grow b0 s { s with heap := h₁, toks := s.toks + binds.length } := Grow.of_keeps hk₁
  have C' := C.grow G
  refine wpAny_mono (h (envOf qual scope s.heap.objs.size f cdv) (A.deeper (envOf qual scope s.heap.objs.size f cdv)) s.heap.objs.size { s with heap := h₁, toks := s.toks + binds.length } Sx ⟨⟨C'.stays, ?_, ?_, ?_, C.handled⟩, G, ⟨_, hns, hv⟩, hnew, hn0, fun p hp => (nomatch hp), by simp⟩ ?_) (fun f _ x => by cases f <;> exact x) (fun _ _ x => x.elim)
  · obtain ⟨l, el, fl⟩ := C'.frames
    refine ⟨envOf qual scope s.heap.objs.size f cdv :: l, by show (A.frames.map _) = _; rw [el]; rfl, ?_⟩
    obtain ⟨o, es, ep, ho', hd', _⟩ := hns
    refine ⟨⟨by show scope.kind ≠ .module; rw [hk]; decide, ⟨_, o, rfl, hn0, ho', fun vs => by rw [hd']; exact fun q => by cases q⟩, fl.1⟩, fun env he L hL => ?_⟩
    rcases List.mem_cons.mp he with rfl | he
    · exact ⟨o, by rw [← Option.some.inj hL]; exact ho', by rw [hd']; rfl⟩
    · exact fl.2 env he L hL
  · show A.depth + 1 + k < recursionLimit; have := C.room; omega
  · show A.units + 3 + 4 * k + 8 < cLine; have := C.units; omega
  · obtain ⟨l, el, _⟩ := C'.frames
    exact ⟨rfl, ⟨l, by show (A.frames.map _) = _; rw [el]; rfl⟩, rfl⟩
/-- a plain list -/
noncomputable abbrev lst (vs : List Value) (n : Nat) : Obj := { cls := .type "list", data := .seq vs.toArray n }
theorem list_ne {vs : List Value} {n : Nat} : dictD (lst vs n).data = false := rfl
noncomputable def Lst (h : Heap) (a : Addr) (vs : List Value) : Prop := ∃ n, h.get? a = some (lst vs n)
theorem Lst.isList {h : Heap} {a : Addr} {vs : List Value} (l : Lst h a vs) : h.IsList a vs.toArray := let ⟨n, e⟩ := l; ⟨_, e, rfl, n, rfl⟩
theorem Lst.grow {b0 : Heap} {s s' : Shared} {a : Addr} {vs : List Value} (l : Lst s.heap a vs) (g : Grow b0 s s') : Lst s'.heap a vs := let ⟨n, e⟩ := l; ⟨n, g.keep _ _ e (.inl list_ne)⟩
theorem Fx.lst {b0 : Heap} {A : Around} {k : Nat} {B : Shared} {L : Addr} {ns : List Str} {vals : List (Option Value)} {N : Ledger} {s : Shared} (F : Fx b0 A k B L ns vals N s) {a : Addr} {vs : List Value} {n : Nat} (h : (a, lst vs n) ∈ N) : Lst s.heap a vs := ⟨n, F.get h⟩
theorem Fx.old {b0 : Heap} {A : Around} {k : Nat} {B : Shared} {L : Addr} {ns : List Str} {vals : List (Option Value)} {N : Ledger} {s : Shared} (F : Fx b0 A k B L ns vals N s) {a : Addr} {vs : List Value} (h : Lst B.heap a vs) : Lst s.heap a vs := h.grow F.grow

/-- a global name that is a def; one that is a built-in -/
structure Def (w : World) (x : Str) (a : Addr) : Prop where
  ns : nsIn (KK w) mainGlobals x = some (some (.ref a))
  keep : keepIn (KK w) (.ref a) = true
structure Blt (w : World) (x : Str) (v : Value) : Prop where
  ns : nsIn (KK w) mainGlobals x = some none
  boot : bootBuiltins x = some v
  nn : x ≠ "__name__"
  keeper : keeperOf v = pure .machine

section
variable {b0 : Heap} {A : Around} {k : Nat} {B : Shared} {L : Addr} {ns : List Str} {vals vals' : List (Option Value)} {N N' : Ledger} {s s' : Shared}
theorem Fx.change {d : Addr} {o o' : Obj} {h' : Heap} (F : Fx b0 A k B L ns vals ((d, o) :: N) s) (hs : ∀ b ob, b ≠ d → s.heap.get? b = some ob → h'.get? b = some ob) (ho : h'.get? d = some o') (hc : dictD o'.data = false)
    (hd : (∀ vs, o.data ≠ .fields vs) → ∀ vs, o'.data ≠ .fields vs) (tk : Nat) : Fx b0 A k B L ns vals ((d, o') :: N) { s with heap := h', toks := tk } := by
  have D := F.news (d, o) (.head _)
  have nd := F.nodup
  simp only [List.map_cons] at nd
  have hL : L ≠ d := fun q => (List.nodup_cons.mp nd).1 (by rw [q]; simp)
  have hp2 : ∀ p ∈ N, p.1 ≠ d := fun p hp q => (List.nodup_cons.mp (List.nodup_cons.mp nd).2).1 (q ▸ List.mem_map_of_mem hp)
  obtain ⟨m, ⟨oL, es, ep, eL, rL⟩, hl⟩ := F.ns
  refine ⟨F.cx.upd D.2.2.1 hs (fun o₁ e₁ hd₁ => ⟨o', ho, ?_, fun q => by have : o₁ = o := Option.some.inj (e₁.symm.trans D.1); subst this; rw [D.2.2.2] at q; cases q⟩), ⟨fun b o₁ e₁ c => ?_, fun b o₁ e₁ => ?_, F.grow.gens, F.grow.os⟩, ⟨m, ⟨oL, es, ep, hs _ _ hL eL, rL⟩, hl⟩, F.off, F.off0, fun p hp => ?_, nd⟩
  · have : o₁ = o := Option.some.inj (e₁.symm.trans D.1)
    subst this; exact hd hd₁
  · exact hs b o₁ (fun q => by rw [q, D.2.1] at e₁; cases e₁) (F.grow.keep b o₁ e₁ c)
  · obtain ⟨o₂, e₂, r⟩ := F.grow.slot b o₁ e₁
    exact ⟨o₂, hs b o₂ (fun q => by rw [q, D.2.1] at e₁; cases e₁) e₂, r⟩
  · rcases List.mem_cons.mp hp with rfl | hp
    · exact ⟨ho, D.2.1, D.2.2.1, hc⟩
    · obtain ⟨a, r⟩ := F.news p (.tail _ hp); exact ⟨hs _ _ (hp2 p hp) a, r⟩
end
/-- one entry of a ledger changed -/
inductive Up (d : Addr) (o o' : Obj) : Ledger → Ledger → Prop
  | head {r : Ledger} : Up d o o' ((d, o) :: r) ((d, o') :: r)
  | tail {p : Addr × Obj} {r r' : Ledger} : Up d o o' r r' → Up d o o' (p :: r) (p :: r')
theorem Up.split {d : Addr} {o o' : Obj} : ∀ {N N' : Ledger}, Up d o o' N N' → ∃ pre post, N = pre ++ (d, o) :: post ∧ N' = pre ++ (d, o') :: post
  | _, _, .head => ⟨[], _, rfl, rfl⟩
  | _, _, .tail (p := p) h => let ⟨pre, post, a, b⟩ := h.split; ⟨p :: pre, post, by rw [a]; rfl, by rw [b]; rfl⟩
theorem Up.mem {d : Addr} {o o' : Obj} : ∀ {N N' : Ledger}, Up d o o' N N' → (d, o) ∈ N
  | _, _, .head => .head _
  | _, _, .tail h => .tail _ h.mem
theorem Fx.put {b0 : Heap} {A : Around} {k : Nat} {B : Shared} {L : Addr} {ns : List Str} {vals : List (Option Value)} {s : Shared} {pre post : Ledger} {d : Addr} {o o' : Obj} {h' : Heap} (F : Fx b0 A k B L ns vals (pre ++ (d, o) :: post) s)
    (ho : h'.get? d = some o') (hs : Heap.SameBut d s.heap h') (hc : dictD o'.data = false) (hd : (∀ vs, o.data ≠ .fields vs) → ∀ vs, o'.data ≠ .fields vs) (tk : Nat) : Fx b0 A k B L ns vals (pre ++ (d, o') :: post) { s with heap := h', toks := tk } :=
  ((F.perm (N' := (d, o) :: (pre ++ post)) List.perm_middle.symm).change (h' := h') (fun b ob hb e => (hs.2 b hb).trans e) ho hc hd tk).perm List.perm_middle

section
variable {prog : Program} {w : World} {A : Around} {E : Value → Shared → Prop} {s : Shared} {env : Env} {ns gs : List Str} {b0 : Heap} {k : Nat} {B : Shared} {L : Addr} {vals vals' : List (Option Value)} {N : Ledger}

-- calls
theorem ev_nameB {x : Str} {p : Pos} {v : Value} {Q : Value → Shared → Prop} (S : Sc env L ns gs) (D : Std w b0) (F : Fx b0 A k B L ns vals N s) (hx : x ∈ gs) (d : Blt w x v) (q : Q v s) : wpAny (model prog w) A (eval (.Name x p) env) Q E s :=
  ev_blt S D F hx d.ns d.boot d.nn q
theorem as_nil {pos : Pos} {Q : List Value → Shared → Prop} (q : Q [] s) : wpAny (model prog w) A (spliced (backTo pos (starEach [] env))) Q E s := wpAny_items_nil q
theorem as_cons {pos : Pos} {e : Expr} {rest : List Expr} {Q : List Value → Shared → Prop}
    (h : wpAny (model prog w) A (eval e env) (fun v s₁ => wpAny (model prog w) A (spliced (backTo pos (starEach rest env))) (fun vs s₂ => Q (v :: vs) s₂) E s₁) E s)
    (he : starEach (e :: rest) env = (false, eval e env) :: starEach rest env) : wpAny (model prog w) A (spliced (backTo pos (starEach (e :: rest) env))) Q E s := wpAny_items_cons h he
theorem c_def {x : Str} {p pos : Pos} {e : Expr} {rest : List Expr} {a : Addr} {Q : Value → Shared → Prop} (S : Sc env L ns gs) (D : Std w b0) (F : Fx b0 A k B L ns vals N s) (hx : x ∈ gs) (d : Def w x a)
    (h : wpAny (model prog w) A (spliced (backTo pos (starEach (e :: rest) env))) (fun vs s₁ => b0.StaysIn s₁.heap ∧ codeAny (model prog w) A (.call (.ref a) ⟨vs, []⟩) (wants Q E) s₁) E s)
    (he : starEach (e :: rest) env = (false, eval e env) :: starEach rest env) (hp : (backTo pos (starEach rest env)).any (·.1) = false) :
    wpAny (model prog w) A (eval (.Call (.Name x p) (e :: rest) [] pos) env) Q E s :=
  wpAny_Call_NameR (ev_glb S D F hx d.ns (callWith_K (h₀ := b0) D.X d.keep (wpAny_mono h (fun vs s₁ h₁ => ⟨D.X.keeps h₁.1, wpAny_call h₁.2⟩) fun _ _ x => x) he hp))
theorem c_blt {x : Str} {p pos : Pos} {e : Expr} {rest : List Expr} {v : Value} {Q : Value → Shared → Prop} (S : Sc env L ns gs) (D : Std w b0) (F : Fx b0 A k B L ns vals N s) (hx : x ∈ gs) (d : Blt w x v)
    (h : wpAny (model prog w) A (spliced (backTo pos (starEach (e :: rest) env))) (fun vs s₁ => wpAny (model prog w) A (call v vs) Q E s₁) E s)
    (he : starEach (e :: rest) env = (false, eval e env) :: starEach rest env) (hp : (backTo pos (starEach rest env)).any (·.1) = false) :
    wpAny (model prog w) A (eval (.Call (.Name x p) (e :: rest) [] pos) env) Q E s := by
  refine wpAny_Call_NameR (ev_blt S D F hx d.ns d.boot d.nn ?_)
  rw [he] at h ⊢
  exact callWith_of (P := fun _ => True) (by show ((false || (backTo pos (starEach rest env)).any (·.1)) || false) = false; rw [hp]; rfl)
    (fun _ _ => ⟨.machine, .inr (.inl rfl), Looks.of_pure d.keeper⟩) (evalArgs_plain (wpAny_mono h (fun vs s₁ h₁ => ⟨trivial, h₁⟩) fun _ _ x => x))
/-- o.name(e, ..) -/
theorem c_meth {o e : Expr} {rest : List Expr} {name : Str} {apos pos : Pos} {pl : Sem Bool} {id : String} {Q : Value → Shared → Prop}
    (h : wpAny (model prog w) A (eval o env) (fun ov s₁ => wpAny (model prog w) A (getMethod ov name pl) (fun fx s₂ => fx = (.builtin id, [ov]) ∧
      wpAny (model prog w) A (spliced (backTo pos (starEach (e :: rest) env))) (fun vs s₃ => wpAny (model prog w) A (call (.builtin id) (ov :: vs)) Q E s₃) E s₂) E s₁) E s)
    (he : eval (.Call (.Attribute o name apos) (e :: rest) [] pos) env = (do
      let ov ← eval o env
      standAt apos.atName
      let (f, first) ← holding [ov] (getMethod ov name pl)
      callWith pos f first (backTo pos (starEach (e :: rest) env)) []))
    (hs : starEach (e :: rest) env = (false, eval e env) :: starEach rest env) (hp : (backTo pos (starEach (e :: rest) env)).any (·.1) = false) :
    wpAny (model prog w) A (eval (.Call (.Attribute o name apos) (e :: rest) [] pos) env) Q E s := by
  refine MethodCall_ (pl := pl) (wpAny_mono h (fun ov s₁ h₁ => wpAny_mono h₁ (fun fx s₂ h₂ => ?_) fun _ _ x => x) fun _ _ x => x) he
  obtain ⟨rfl, h₂⟩ := h₂
  refine callWith_builtin hp ?_
  rw [hs] at h₂ ⊢
  exact evalArgs_plain (wpAny_mono h₂ (fun vs s₃ h₃ => h₃) fun _ _ x => x)
/-- o.name() -/
theorem c_meth0 {o : Expr} {name : Str} {apos pos : Pos} {pl : Sem Bool} {id : String} {Q : Value → Shared → Prop}
    (h : wpAny (model prog w) A (eval o env) (fun ov s₁ => wpAny (model prog w) A (getMethod ov name pl) (fun fx s₂ => fx = (.builtin id, [ov]) ∧ wpAny (model prog w) A (call (.builtin id) [ov]) Q E s₂) E s₁) E s)
    (he : eval (.Call (.Attribute o name apos) [] [] pos) env = (do
      let ov ← eval o env
      standAt apos.atName
      let (f, first) ← holding [ov] (getMethod ov name pl)
      callWith pos f first (backTo pos (starEach [] env)) [])) :
    wpAny (model prog w) A (eval (.Call (.Attribute o name apos) [] [] pos) env) Q E s := by
  refine MethodCall_ (pl := pl) (wpAny_mono h (fun ov s₁ h₁ => wpAny_mono h₁ (fun fx s₂ h₂ => ?_) fun _ _ x => x) fun _ _ x => x) he
  obtain ⟨rfl, h₂⟩ := h₂
  exact callWith_builtin rfl (evalArgs_nil3 h₂)
theorem gm_list {a : Addr} {vs : List Value} {name : Str} {id : String} {pl : Sem Bool} {Q : Value × List Value → Shared → Prop} (l : Lst s.heap a vs) (slot : Slot "list" name id) (hty : typeOf (.builtin id) = pure (.type "method_descriptor"))
    (q : Q (.builtin id, [.ref a]) s) : wpAny (model prog w) A (getMethod (.ref a) name pl) Q E s :=
  getMethod_builtin l.isList.typeIs PySem.F.plainAttrs_list slot hty (fun b e => by cases e; obtain ⟨n, h⟩ := l; exact ⟨_, h, rfl⟩) q

-- lists
theorem newL {vs : List Value} {Q : Value → Shared → Prop} (F : Fx b0 A k B L ns vals N s) (hz : vs.length ≤ sizeLine) (q : ∀ a s', Fx b0 A k B L ns vals ((a, lst vs 0) :: N) s' → s.heap.get? a = none → Q (.ref a) s') :
    wpAny (model prog w) A (newList vs) Q E s :=
  wpAny_newObj_type (q _ _ (F.push (o := lst vs 0) rfl list_ne s.toks) (Heap.get?_none_of_le (Nat.le_refl _))) (by show vs.toArray.size ≤ sizeLine; rw [List.size_toArray]; exact hz)
theorem ev_list {elts : List Expr} {pos : Pos} {Q : Value → Shared → Prop} (h : wpAny (model prog w) A (spliced (backTo pos (starEach elts env))) (fun vs s₁ => wpAny (model prog w) A (newList vs) Q E s₁) E s) :
    wpAny (model prog w) A (eval (.List elts pos) env) Q E s := List_ h
theorem ap_list {N' : Ledger} {d : Addr} {vs : List Value} {n : Nat} {x : Value} {Q : Value → Shared → Prop} (F : Fx b0 A k B L ns vals N s) (u : Up d (lst vs n) (lst (vs ++ [x]) (n + 1)) N N') (hz : vs.length ≤ sizeLine)
    (q : ∀ s', Fx b0 A k B L ns vals N' s' → Q .none s') : wpAny (model prog w) A (call (.builtin "list.append") [.ref d, x]) Q E s := by
  obtain ⟨pre, post, rfl, rfl⟩ := u.split
  have ho := F.get (a := d) (o := lst vs n) (by simp)
  refine append_at (hsz := by rw [List.size_toArray]; exact hz) ho fun h' hs ho' => q _ ?_
  exact F.put (by rw [ho']; simp [lst]) hs list_ne (fun _ vs => by intro q; cases q) s.toks
theorem in_list {a : Addr} {vs : List Value} {x : Value} {Q : Value → Shared → Prop} (e : Value → Bool) (l : Lst s.heap a vs) (he : ∀ y ∈ vs, MeetsSeq.EqGives y x (e y)) (q : Q (.bool (vs.any e)) s) : wpAny (model prog w) A (compareOp .In x (.ref a)) Q E s :=
  SeqInW.in_listW e (fun y hy => he y (by simpa using hy)) l.isList (by simpa using q)
theorem nin_list {a : Addr} {vs : List Value} {x : Value} {Q : Value → Shared → Prop} (e : Value → Bool) (l : Lst s.heap a vs) (he : ∀ y ∈ vs, MeetsSeq.EqGives y x (e y)) (q : Q (.bool (!vs.any e)) s) : wpAny (model prog w) A (compareOp .NotIn x (.ref a)) Q E s :=
  SeqInW.notIn_listW e (fun y hy => he y (by simpa using hy)) l.isList (by simpa using q)
end
/-- ints in a list -/
noncomputable abbrev It := Int × Tok
noncomputable def mkI (ps : List It) : List Value := ps.map fun p => .int p.1 p.2
noncomputable def isI (i : Int) : Value → Bool
  | .int j _ => j == i
  | _ => false
theorem eq_isI (b : Int) (u : Tok) (ps : List It) : ∀ y ∈ mkI ps, MeetsSeq.EqGives y (.int b u) (isI b y) := by
  intro y hy
  obtain ⟨p, _, rfl⟩ := List.mem_map.mp hy
  exact MeetsSeq.EqGives.int _ _ _ _
/-- bytes in a list -/
noncomputable abbrev Bt := Array UInt8 × Tok
noncomputable def mkB (ps : List Bt) : List Value := ps.map fun p => .bytes p.1 p.2
noncomputable def isB (b : Array UInt8) : Value → Bool
  | .bytes c _ => decide (c.toList = b.toList)
  | _ => false
theorem eq_isB (b : Array UInt8) (u : Tok) (ps : List Bt) : ∀ y ∈ mkB ps, MeetsSeq.EqGives y (.bytes b u) (isB b y) := by
  intro y hy
  obtain ⟨p, _, rfl⟩ := List.mem_map.mp hy
  exact fun _ _ _ _ _ _ h => eqBool_bytes h
theorem len_mkB (ps : List Bt) : (mkB ps).length = ps.length := by simp [mkB]
theorem len_mkI (ps : List It) : (mkI ps).length = ps.length := by simp [mkI]
section
variable {b0 : Heap} {A : Around} {k : Nat} {B : Shared} {L : Addr} {ns : List Str} {vals vals' : List (Option Value)} {N N' : Ledger} {s s' : Shared}
/-- all that stands now but the frame and the ledger may be called old -/
theorem Fx.rebase (F : Fx b0 A k B L ns vals N s) : ∃ B', Grow b0 B B' ∧ Fx b0 A k B' L ns vals N s ∧ ∀ b o, s.heap.get? b = some o → b ≠ L → b ∉ N.map (·.1) → B'.heap.get? b = some o := by
  have hB : ∀ b o, B.heap.get? b = some o → b ∉ L :: N.map (·.1) := fun b o e q => by
    rcases List.mem_cons.mp q with rfl | q
    · rw [F.off] at e; cases e
    · obtain ⟨p, hp, rfl⟩ := List.mem_map.mp q
      rw [(F.news p hp).2.1] at e; cases e
  refine ⟨{ s with heap := hideAll s.heap (L :: N.map (·.1)) }, ⟨fun b o e c => hideAll_get _ (F.grow.keep b o e c) (hB b o e), fun b o e => ?_, F.grow.gens, F.grow.os⟩,
    ⟨F.cx, ⟨fun b o e _ => of_hideAll _ e, fun b o e => ⟨o, of_hideAll _ e, rfl, rfl⟩, rfl, rfl⟩, F.ns, hideAll_none _ (.head _), F.off0, fun p hp => ?_, F.nodup⟩, fun b o e h1 h2 => hideAll_get _ e (fun q => ?_)⟩
  · obtain ⟨o', e', r⟩ := F.grow.slot b o e
    exact ⟨o', hideAll_get _ e' (hB b o e), r⟩
  · obtain ⟨a, _, r⟩ := F.news p hp
    exact ⟨a, hideAll_none _ (.tail _ (List.mem_map_of_mem hp)), r⟩
  · rcases List.mem_cons.mp q with q | q
    · exact h1 q
    · exact h2 q
end

noncomputable def FlowPost (K : Flow → Shared → Prop) : Result → Shared → Prop := fun r s' => match r with | .ok f => K f s' | .error _ => False
theorem FlowPost.ok {K : Flow → Shared → Prop} {f : Flow} {s : Shared} (h : K f s) : FlowPost K (.ok f) s := h

section
variable {prog : Program} {w : World} {A : Around} {s : Shared} {env : Env} {ns gs : List Str} {b0 : Heap} {k : Nat} {B : Shared} {L : Addr} {vals vals' : List (Option Value)} {N : Ledger}

theorem x_for {x : Str} {px pos : Pos} {iter : Expr} {body rest : List Stmt} {Q : Flow → Shared → Prop}
    (h : wpAny (model prog w) A (eval iter env) (fun xv s₁ => wpAny (model prog w) A (pyIter xv) (fun it s₂ => codeAny (model prog w) A (.forLoop (.Name x px) it body [] env) (FlowPost (Then (fun s' => wpAny (model prog w) A (execs rest env) Q No s') Q)) s₂) No s₁) No s)
    (hs : ∀ x, foldedSetIterable iter env x = pure x) : wpAny (model prog w) A (execs (.For (.Name x px) iter body [] pos :: rest) env) Q No s := by
  refine wpAny_execs_cons (wpAny_For (wpAny_mono h (fun xv s₁ h₁ => wpAny_mono h₁ (fun it s₂ h₂ => codeAny_mono h₂ fun r s' h => ?_) fun _ _ x => x.elim) fun _ _ x => x.elim) hs)
  cases r with
  | error e => exact h.elim
  | ok f => cases f <;> exact h

/-- what a turn's end must give -/
noncomputable def Turn (b0 : Heap) (A : Around) (k : Nat) (L : Addr) (ns : List Str) (Inv : Nat → Shared → List (Option Value) → Ledger → Prop) (i : Nat) (B : Shared) (own : Addr × Obj) : Flow → Shared → Prop
  | .next, s => ∃ B' vals N, Grow b0 B B' ∧ Inv i B' vals N ∧ Fx b0 A k B' L ns vals (own :: N) s
  | .cont, s => ∃ B' vals N, Grow b0 B B' ∧ Inv i B' vals N ∧ Fx b0 A k B' L ns vals (own :: N) s
  | _, _ => False
theorem Turn.next {Inv : Nat → Shared → List (Option Value) → Ledger → Prop} {i : Nat} {own : Addr × Obj} (F : Fx b0 A k B L ns vals (own :: N) s) (h : Inv i B vals N) : Turn b0 A k L ns Inv i B own .next s := ⟨B, vals, N, Grow.refl _ _, h, F⟩
theorem Turn.cont {Inv : Nat → Shared → List (Option Value) → Ledger → Prop} {i : Nat} {own : Addr × Obj} (F : Fx b0 A k B L ns vals (own :: N) s) (h : Inv i B vals N) : Turn b0 A k L ns Inv i B own .cont s := ⟨B, vals, N, Grow.refl _ _, h, F⟩
theorem Turn.from {Inv : Nat → Shared → List (Option Value) → Ledger → Prop} {i : Nat} {own : Addr × Obj} {f : Flow} {B' : Shared} (g : Grow b0 B B') (h : Turn b0 A k L ns Inv i B' own f s) : Turn b0 A k L ns Inv i B own f s := by
  cases f with
  | next => obtain ⟨B'', vals, N, g', r⟩ := h; exact ⟨B'', vals, N, g.trans g', r⟩
  | cont => obtain ⟨B'', vals, N, g', r⟩ := h; exact ⟨B'', vals, N, g.trans g', r⟩
  | brk => exact h
  | ret v => exact h

/-- the iterator I is done with -/
theorem Fx.dropI {I : Addr} {io : Obj} {h₁ : Heap} {tk : Nat} (F' : Fx b0 A k B L ns vals ((I, io) :: N) s) (hdat : ∃ vs, io.data = .fields vs) (hk : ∀ b o, b ∉ [I] → s.heap.get? b = some o → h₁.get? b = some o) : Fx b0 A k B L ns vals N { s with heap := h₁, toks := tk } := by
  have F₂ : Fx b0 A k B L ns vals N s := F'.sub (List.sublist_cons_self _ _)
  have hw : ∀ b o, b ≠ I → s.heap.get? b = some o → h₁.get? b = some o := fun b o hb e => hk b o (fun q => hb (List.mem_singleton.mp q)) e
  have DI := F'.news _ (.head _)
  have nd := F'.nodup
  simp only [List.map_cons] at nd
  refine ⟨F₂.cx.upd DI.2.2.1 hw (fun o e hd => ?_), ⟨fun b o e c => hw b o (fun q => by rw [q, DI.2.1] at e; cases e) (F₂.grow.keep b o e c), fun b o e => ?_, F₂.grow.gens, F₂.grow.os⟩, ?_, F₂.off, F₂.off0, fun p hp => ?_, F₂.nodup⟩
  · obtain ⟨vs, dd⟩ := hdat
    have : o = io := Option.some.inj (e.symm.trans DI.1)
    exact absurd dd (this ▸ hd vs)
  · obtain ⟨o', e', r⟩ := F₂.grow.slot b o e
    exact ⟨o', hw b o' (fun q => by rw [q, DI.2.1] at e; cases e) e', r⟩
  · obtain ⟨mm, ⟨oL, es, ep, eL, rL⟩, hl⟩ := F₂.ns
    exact ⟨mm, ⟨oL, es, ep, hw _ _ (fun q => (List.nodup_cons.mp nd).1 (by rw [q]; exact .head _)) eL, rL⟩, hl⟩
  · obtain ⟨a, r⟩ := F₂.news p hp
    exact ⟨hw _ _ (fun q => (List.nodup_cons.mp (List.nodup_cons.mp nd).2).1 (q ▸ List.mem_map_of_mem hp)) a, r⟩
/-- what the iterator leans on stands still in a turn -/
theorem it_still {I : Addr} {o : Obj} {fp : List Addr} {B₀ B' : Shared} {s₁ s₃ : Shared} (hfp : ∀ b ∈ fp, b = I ∨ ∃ o, B₀.heap.get? b = some o ∧ dictD o.data = false) (g : Grow b0 B₀ B) (g' : Grow b0 B B') (g1 : Grow b0 B s₁) (g3 : Grow b0 B' s₃) (e : s₁.heap.get? I = some o) (e3 : s₃.heap.get? I = some o) : ∀ b ∈ fp, ∀ ob, s₁.heap.get? b = some ob → s₃.heap.get? b = some ob := fun b hb ob eb => by
  rcases hfp b hb with rfl | ⟨ob', eb', cb'⟩
  · rw [← Option.some.inj (e.symm.trans eb)]; exact e3
  · have e2 := g1.keep b ob' (g.keep b ob' eb' (.inl cb')) (.inl cb')
    rw [← Option.some.inj (e2.symm.trans eb)]
    exact g3.keep b ob' ((g.trans g').keep b ob' eb' (.inl cb')) (.inl cb')
noncomputable def LoopI (b0 : Heap) (A : Around) (k : Nat) (B : Shared) (L : Addr) (ns : List Str) (I : Addr) (n : Nat) (St : Nat → Heap → Prop) (Inv : Nat → Shared → List (Option Value) → Ledger → Prop) (j : Nat) (s' : Shared) : Prop :=
  ∃ i B' vals' N' io, Grow b0 B B' ∧ Inv i B' vals' N' ∧ Fx b0 A k B' L ns vals' ((I, io) :: N') s' ∧ St i s'.heap ∧ i ≤ n ∧ j = n + 1 - i
theorem turn_less {i n : Nat} (h : i < n) : n + 1 - (i + 1) < n + 1 - i := by omega
theorem for_walk {I : Addr} {io : Obj} {fp : List Addr} {n : Nat} {P : Nat → Value → Prop} {St : Nat → Heap → Prop} {x : Str} {px : Pos} {body : List Stmt} {R : Result → Shared → Prop} (W : Walks prog w A I fp [I] n P St)
    (live : ∀ i h, St i h → ∃ o vs, h.get? I = some o ∧ o.data = .fields vs ∧ dictD o.data = false) (hfp : ∀ b ∈ fp, b = I ∨ ∃ o, B.heap.get? b = some o ∧ dictD o.data = false)
    (Inv : Nat → Shared → List (Option Value) → Ledger → Prop) (F : Fx b0 A k B L ns vals ((I, io) :: N) s) (st : St 0 s.heap) (h0 : Inv 0 B vals N)
    (turn : ∀ i v B' vals' N' io s', i < n → P i v → Grow b0 B B' → Inv i B' vals' N' → Fx b0 A k B' L ns vals' ((I, io) :: N') s' →
      wpAny (model prog w) A (storeName env x v) (fun _ s₂ => wpAny (model prog w) A (execs body env) (Turn b0 A k L ns Inv (i + 1) B' (I, io)) (notedBy (model prog w) A env fun e s' => R (.error e) s') s₂) No s')
    (done : ∀ B' vals' N' s', Grow b0 B B' → Inv n B' vals' N' → Fx b0 A k B' L ns vals' N' s' → R (.ok .next) s') :
    codeAny (model prog w) A (.forLoop (.Name x px) (.ref I) body [] env) R s := by
  refine codeAny_forLoop (LoopI b0 A k B L ns I n St Inv) ?_ (n + 1) ⟨0, B, vals, N, io, Grow.refl _ _, h0, F, st, Nat.zero_le _, rfl⟩
  rintro m s' ⟨i, B', vals', N', io', g, hI, F', st', hi, rfl⟩
  have hdat : ∃ vs, io'.data = .fields vs := by
    obtain ⟨o, vs, e, d, _⟩ := live _ _ st'
    have : o = io' := Option.some.inj (e.symm.trans (F'.get (.head _)))
    exact ⟨vs, this ▸ d⟩
  by_cases hlt : i < n
  · refine W.item i _ _ _ hlt st' fun v h₁ tk hP st₁ hk => ?_
    obtain ⟨o, vs, e, d, c⟩ := live _ _ st₁
    have F₁ := F'.change (h' := h₁) (fun b ob hb e => hk b ob (fun q => hb (List.mem_singleton.mp q)) e) e c (fun q => absurd hdat.choose_spec (q _)) tk
    refine wpAny_assign_Name (wpAny_mono (turn i v B' vals' N' o _ hlt hP g hI F₁) (fun _ s₂ h₂ => wpAny_mono h₂ (fun f s₃ h₃ => ?_) fun _ _ x => x) fun _ _ x => x.elim)
    have fin : (∃ B'' vals'' N'', Grow b0 B' B'' ∧ Inv (i + 1) B'' vals'' N'' ∧ Fx b0 A k B'' L ns vals'' ((I, o) :: N'') s₃) → ∃ m, m < n + 1 - i ∧ LoopI b0 A k B L ns I n St Inv m s₃ := fun ⟨B'', vals'', N'', g'', hI'', F''⟩ =>
      ⟨n + 1 - (i + 1), turn_less hlt, i + 1, B'', vals'', N'', o, (g.trans g''), hI'', F'', W.frame _ _ _ st₁ (it_still hfp g g'' F₁.grow F''.grow e (F''.get (.head _))), hlt, rfl⟩
    cases f with
    | next => exact fin h₃
    | cont => exact fin h₃
    | brk => exact h₃.elim
    | ret v => exact h₃.elim
  · obtain rfl : i = n := Nat.le_antisymm hi (Nat.not_lt.mp hlt)
    exact W.done _ _ _ st' fun h₁ tk hk => wpAny_execs_nil (done B' vals' N' _ g hI (F'.dropI hdat hk))

theorem for_list {a : Addr} {vs : List Value} {x : Str} {px : Pos} {body : List Stmt} {R : Result → Shared → Prop} (F : Fx b0 A k B L ns vals N s) (l : Lst B.heap a vs)
    (Inv : Nat → Shared → List (Option Value) → Ledger → Prop) (h0 : Inv 0 B vals N)
    (turn : ∀ i v I B' vals' N' io s', vs[i]? = some v → Grow b0 B B' → ∀ K : Flow → Shared → Prop, (∀ f s₃, Turn b0 A k L ns Inv (i + 1) B' (I, io) f s₃ → K f s₃) → Inv i B' vals' N' → Fx b0 A k B' L ns vals' ((I, io) :: N') s' →
      wpAny (model prog w) A (storeName env x v) (fun _ s₂ => wpAny (model prog w) A (execs body env) K No s₂) No s')
    (done : ∀ B' vals' N' s', Grow b0 B B' → Inv vs.length B' vals' N' → Fx b0 A k B' L ns vals' N' s' → R (.ok .next) s') :
    wpAny (model prog w) A (pyIter (.ref a)) (fun it s₂ => codeAny (model prog w) A (.forLoop (.Name x px) it body [] env) R s₂) No s := by
  have ls := F.old l
  refine wpAny_pyIter_list ls.isList ?_
  obtain ⟨n, e⟩ := l
  obtain ⟨n', e'⟩ := ls
  have hne : a ≠ s.heap.objs.size := Nat.ne_of_lt (Heap.lt_size e')
  have Fp := F.push (o := { cls := .type "list_iterator", data := .fields #[.ref a, .int 0 0] }) rfl rfl s.toks
  have W := Walks.list (prog := prog) (w := w) F.cx.handled s.heap.objs.size a hne vs.toArray
  have hz : vs.toArray.size = vs.length := by simp
  refine for_walk W (fun i h st => ?_) (fun b hb => ?_) Inv Fp ?_ h0 (fun i v B' vals' N' io s' hlt hP g hI F' => wpAny_mono (turn i v _ B' vals' N' io s' (by simpa using hP) g _ (fun _ _ x => x) hI F') (fun _ _ h => wpAny_mono h (fun _ _ x => x) fun _ _ x => x.elim) fun _ _ x => x.elim) (by rw [hz]; exact done)
  · obtain ⟨⟨o, ho, hc, hd⟩, _⟩ := st
    exact ⟨o, _, ho, hd, by rw [hd]; rfl⟩
  · rcases List.mem_cons.mp hb with rfl | hb
    · exact .inl rfl
    · rw [List.mem_singleton.mp hb]; exact .inr ⟨_, e, list_ne⟩
  · exact ⟨⟨_, Heap.get?_push_size _ rfl, rfl, rfl⟩, ⟨_, Heap.get?_push_of_some _ e', rfl, n', rfl⟩⟩

theorem for_bytes {bs : Array UInt8} {t : Tok} {x : Str} {px : Pos} {body : List Stmt} {R : Result → Shared → Prop} (F : Fx b0 A k B L ns vals N s)
    (Inv : Nat → Shared → List (Option Value) → Ledger → Prop) (h0 : Inv 0 B vals N)
    (turn : ∀ i c u I B' vals' N' io s', bs[i]? = some c → Grow b0 B B' → ∀ K : Flow → Shared → Prop, (∀ f s₃, Turn b0 A k L ns Inv (i + 1) B' (I, io) f s₃ → K f s₃) → Inv i B' vals' N' → Fx b0 A k B' L ns vals' ((I, io) :: N') s' →
      wpAny (model prog w) A (storeName env x (.int (c.toNat : Int) u)) (fun _ s₂ => wpAny (model prog w) A (execs body env) K No s₂) No s')
    (done : ∀ B' vals' N' s', Grow b0 B B' → Inv bs.size B' vals' N' → Fx b0 A k B' L ns vals' N' s' → R (.ok .next) s') :
    wpAny (model prog w) A (pyIter (.bytes bs t)) (fun it s₂ => codeAny (model prog w) A (.forLoop (.Name x px) it body [] env) R s₂) No s := by
  refine KBw.pyIter_bytes ?_
  have Fp := F.push (o := { cls := .type "bytes_iterator", data := .fields #[.bytes bs t, .int 0 0] }) rfl rfl s.toks
  have W := KBw.walks (prog := prog) (w := w) F.cx.handled s.heap.objs.size bs t
  refine for_walk W (fun i h st => ?_) (fun b hb => .inl (List.mem_singleton.mp hb)) Inv Fp ⟨_, Heap.get?_push_size _ rfl, rfl, rfl⟩ h0 (fun i v B' vals' N' io s' hlt hP g hI F' => ?_) done
  · obtain ⟨o, ho, hc, hd⟩ := st
    exact ⟨o, _, ho, hd, by rw [hd]; rfl⟩
  · obtain ⟨c, u, hc, rfl⟩ := hP
    exact wpAny_mono (turn i c u _ B' vals' N' io s' hc g _ (fun _ _ x => x) hI F') (fun _ _ h => wpAny_mono h (fun _ _ x => x) fun _ _ x => x.elim) fun _ _ x => x.elim
end
/-- one of two, by a bool -/
noncomputable def Br (b : Bool) (P Q : Prop) : Prop := (b = true → P) ∧ (b = false → Q)
theorem Br.t {b : Bool} {P Q : Prop} (hb : b = true) (h : P) : Br b P Q := ⟨fun _ => h, fun q => by rw [hb] at q; cases q⟩
theorem Br.f {b : Bool} {P Q : Prop} (hb : b = false) (h : Q) : Br b P Q := ⟨(fun q => by rw [hb] at q; cases q), fun _ => h⟩
section
variable {prog : Program} {w : World} {A : Around} {E : Value → Shared → Prop} {s : Shared} {env : Env} {ns gs : List Str} {b0 : Heap} {k : Nat} {B : Shared} {L : Addr} {vals vals' : List (Option Value)} {N : Ledger}
theorem tr_op {op : BoolOp} {values : List Expr} {pos : Pos} {whole : Sem Value} {Q : Bool → Shared → Prop} (h : wpAny (model prog w) A (allTrue op values env) Q E s) : wpAny (model prog w) A (isTrue (.BoolOp op values pos) env whole) Q E s := wpAny_isTrue_BoolOp h
theorem or_nil {Q : Bool → Shared → Prop} (h : Q false s) : wpAny (model prog w) A (allTrue .Or [] env) Q E s := wpAny_allTrue_Or_nil h
theorem or_cons {x : Expr} {rest : List Expr} {Q : Bool → Shared → Prop} (h : wpAny (model prog w) A (isTrue x env (eval x env)) (fun b s₁ => Br b (Q true s₁) (wpAny (model prog w) A (allTrue .Or rest env) Q E s₁)) E s) : wpAny (model prog w) A (allTrue .Or (x :: rest) env) Q E s :=
  wpAny_allTrue_Or_cons (wpAny_mono h (fun b s₁ h => by cases b; exact h.2 rfl; exact h.1 rfl) fun _ _ x => x)
theorem and_nil {Q : Bool → Shared → Prop} (h : Q true s) : wpAny (model prog w) A (allTrue .And [] env) Q E s := wpAny_allTrue_And_nil h
theorem and_cons {x : Expr} {rest : List Expr} {Q : Bool → Shared → Prop} (h : wpAny (model prog w) A (isTrue x env (eval x env)) (fun b s₁ => Br b (wpAny (model prog w) A (allTrue .And rest env) Q E s₁) (Q false s₁)) E s) : wpAny (model prog w) A (allTrue .And (x :: rest) env) Q E s :=
  wpAny_allTrue_And_cons (wpAny_mono h (fun b s₁ h => by cases b; exact h.2 rfl; exact h.1 rfl) fun _ _ x => x)
theorem ev_ifexp {test body orelse : Expr} {pos : Pos} {Q : Value → Shared → Prop} (h : wpAny (model prog w) A (isTrue test env (eval test env)) (fun b s₁ => Br b (wpAny (model prog w) A (eval body env) Q E s₁) (wpAny (model prog w) A (eval orelse env) Q E s₁)) E s) :
    wpAny (model prog w) A (eval (.IfExp test body orelse pos) env) Q E s :=
  wpAny_IfExp (wpAny_mono h (fun b s₁ h => by cases b; exact h.2 rfl; exact h.1 rfl) fun _ _ x => x)
theorem ev_un {op : UnaryOp} {x : Expr} {pos : Pos} {Q : Value → Shared → Prop} (h : wpAny (model prog w) A (eval x env) (fun v s₁ => wpAny (model prog w) A (unaryOp op v) Q E s₁) E s) : wpAny (model prog w) A (eval (.UnaryOp op x pos) env) Q E s := wpAny_UnaryOp h
theorem op_is {a b : Value} {Q : Value → Shared → Prop} (hp : plainIs a b = true) (h : Q (.bool (a == b)) s) : wpAny (model prog w) A (compareOp .Is a b) Q E s := wpAny_is_plain hp h
theorem op_isnot {a b : Value} {Q : Value → Shared → Prop} (hp : plainIs a b = true) (h : Q (.bool (!(a == b))) s) : wpAny (model prog w) A (compareOp .IsNot a b) Q E s := wpAny_isNot_plain hp h
theorem ty_bytes {b : Array UInt8} {t : Tok} {Q : Value → Shared → Prop} (h : Q (.type "bytes") s) : wpAny (model prog w) A (call (.type "type") [.bytes b t]) Q E s := by
  obtain ⟨hp, g, d, tk, os⟩ := s
  refine wpAny_call (codeAny_of_tree ?_)
  show wpAny _ _ (callAny (.type "type") ⟨[.bytes b t], []⟩) _ _ _
  simp only [callAny]
  refine wpAny_pure ⟨Code.quiet_builtin _ (by decide +kernel), codeAny_builtin F.entry_type_call ?_⟩
  unfold Builtin.«type.__call__»
  dsimp only
  unfold shownTypeOf
  repeat wp_step
  exact h
theorem ty_bool {b : Bool} {Q : Value → Shared → Prop} (h : Q (.type "bool") s) : wpAny (model prog w) A (call (.type "type") [.bool b]) Q E s := by
  obtain ⟨hp, g, d, tk, os⟩ := s
  refine wpAny_call (codeAny_of_tree ?_)
  show wpAny _ _ (callAny (.type "type") ⟨[.bool b], []⟩) _ _ _
  simp only [callAny]
  refine wpAny_pure ⟨Code.quiet_builtin _ (by decide +kernel), codeAny_builtin F.entry_type_call ?_⟩
  unfold Builtin.«type.__call__»
  dsimp only
  unfold shownTypeOf
  repeat wp_step
  exact h
theorem isi_bytes {b : Array UInt8} {t : Tok} {c : Value} {r : Bool} {Q : Value → Shared → Prop} (D : Std w b0) (F : Fx b0 A k B L ns vals N s) (e : kitOne (KK w) (.type "bytes") c = some r) (h : ∀ s', Fx b0 A k B L ns vals N s' → Q (.bool r) s') :
    wpAny (model prog w) A (call (.builtin "isinstance") [.bytes b t, c]) Q E s :=
  kia_one (K := KK w) kitx_bytes (D.X.keeps F.cx.stays) trivial e (by intro q; cases q) fun tk => h _ (F.toks tk)
theorem isi_bytesT {b : Array UInt8} {t : Tok} {tp : Addr} {dd : Option Addr} {its : List Value} {n : Nat} {sl : Array (Option Value)} {r : Bool} {Q : Value → Shared → Prop} (D : Std w b0) (F : Fx b0 A k B L ns vals N s)
    (htp : (KK w).lookup tp = some ⟨.type "tuple", dd, .seq its.toArray n, sl⟩) (e : kitAny (KK w) (.type "bytes") its = some r) (h : ∀ s', Fx b0 A k B L ns vals N s' → Q (.bool r) s') :
    wpAny (model prog w) A (call (.builtin "isinstance") [.bytes b t, .ref tp]) Q E s :=
  kia_tup (K := KK w) kitx_bytes (D.X.keeps F.cx.stays) trivial (D.X.keeps F.cx.stays _ _ htp) e (by intro q; cases q) fun tk => h _ (F.toks tk)
end
theorem d_type (w : World) : Blt w "type" (.type "type") := ⟨by kernel_rfl, Boot.«type», by decide +kernel, rfl⟩
theorem d_isinstance (w : World) : Blt w "isinstance" (.builtin "isinstance") := ⟨by kernel_rfl, Boot.«isinstance», by decide +kernel, rfl⟩
theorem d_len (w : World) : Blt w "len" (.builtin "len") := ⟨by kernel_rfl, Boot.«len», by decide +kernel, rfl⟩
theorem d_bytes (w : World) : Blt w "bytes" (.type "bytes") := ⟨by kernel_rfl, Boot.«bytes», by decide +kernel, rfl⟩
theorem d_str (w : World) : Blt w "str" (.type "str") := ⟨by kernel_rfl, Boot.«str», by decide +kernel, rfl⟩
theorem d_bool (w : World) : Blt w "bool" (.type "bool") := ⟨by kernel_rfl, Boot.«bool», by decide +kernel, rfl⟩
theorem d_list (w : World) : Blt w "list" (.type "list") := ⟨by kernel_rfl, Boot.«list», by decide +kernel, rfl⟩
theorem d_range (w : World) : Blt w "range" (.type "range") := ⟨by kernel_rfl, Boot.«range», by decide +kernel, rfl⟩
theorem d_min (w : World) : Blt w "min" (.builtin "min") := ⟨by kernel_rfl, Boot.«min», by decide +kernel, rfl⟩
theorem f_dedup (w : World) : Def w "_deduplicate_unhashable" 28 := ⟨by kernel_rfl, by kernel_rfl⟩
theorem f_compare (w : World) : Def w "_compare_args_orderless" 35 := ⟨by kernel_rfl, by kernel_rfl⟩
theorem f_from (w : World) : Def w "_bytes_from_decode_data" 43 := ⟨by kernel_rfl, by kernel_rfl⟩
theorem f_ascii (w : World) : Def w "_ascii_buffer" 63 := ⟨by kernel_rfl, by kernel_rfl⟩
theorem f_buffer (w : World) : Def w "_buffer" 70 := ⟨by kernel_rfl, by kernel_rfl⟩
theorem f_truth (w : World) : Def w "_truth" 77 := ⟨by kernel_rfl, by kernel_rfl⟩
theorem f_b64v (w : World) : Def w "_b64_value" 84 := ⟨by kernel_rfl, by kernel_rfl⟩
theorem f_a2b (w : World) : Def w "a2b_base64" 92 := ⟨by kernel_rfl, by kernel_rfl⟩
theorem f_b2a (w : World) : Def w "b2a_base64" 100 := ⟨by kernel_rfl, by kernel_rfl⟩
theorem f_enc (w : World) : Def w "b64encode" 108 := ⟨by kernel_rfl, by kernel_rfl⟩
theorem f_dec (w : World) : Def w "b64decode" 116 := ⟨by kernel_rfl, by kernel_rfl⟩
theorem f_uld (w : World) : Def w "unorderable_list_difference" 123 := ⟨by kernel_rfl, by kernel_rfl⟩
theorem f_page (w : World) : Def w "_law_page" 130 := ⟨by kernel_rfl, by kernel_rfl⟩
theorem f_gaps (w : World) : Def w "_law_gaps" 137 := ⟨by kernel_rfl, by kernel_rfl⟩
theorem f_octets (w : World) : Def w "_law_octets" 144 := ⟨by kernel_rfl, by kernel_rfl⟩
theorem f_shelves (w : World) : Def w "_law_shelves" 151 := ⟨by kernel_rfl, by kernel_rfl⟩
theorem f_cache (w : World) : Def w "_law_cache" 156 := ⟨by kernel_rfl, by kernel_rfl⟩
theorem f_agree (w : World) : Def w "_law_agree" 161 := ⟨by kernel_rfl, by kernel_rfl⟩
/-- a while's turn: on it goes -/
noncomputable def WNext (K : Shared → Prop) : Flow → Shared → Prop
  | .next, s => K s
  | .cont, s => K s
  | _, _ => False
theorem WNext.next {K : Shared → Prop} {s : Shared} (h : K s) : WNext K .next s := h
theorem WNext.cont {K : Shared → Prop} {s : Shared} (h : K s) : WNext K .cont s := h
theorem ints_mkI : ∀ ps : List It, IntsAre (mkI ps) (ps.map (·.1))
  | [] => .nil
  | p :: r => .cons p.1 p.2 (ints_mkI r)
theorem ints_snoc {vs : List Value} {l : List Int} (h : IntsAre vs l) (v : Int) (t : Tok) : IntsAre (vs ++ [.int v t]) (l ++ [v]) := h.append (.cons v t .nil)
section
variable {prog : Program} {w : World} {A : Around} {E : Value → Shared → Prop} {s : Shared} {env : Env} {ns gs : List Str} {b0 : Heap} {k : Nat} {B : Shared} {L : Addr} {vals vals' : List (Option Value)} {N : Ledger}
theorem tr_int {i : Int} {t : Tok} {Q : Bool → Shared → Prop} (h : Q (i != 0) s) : wpAny (model prog w) A (truthy (.int i t)) Q E s := truthy_int h
theorem while_step {test : Expr} {body : List Stmt} {R : Result → Shared → Prop}
    (h : wpAny (model prog w) A (isTrue test env (eval test env)) (fun b s₂ => Br b (wpAny (model prog w) A (execs body env) (WNext fun s₃ => codeAny (model prog w) A (.whileLoop test body [] env) R s₃) No s₂) (R (.ok .next) s₂)) No s) :
    codeAny (model prog w) A (.whileLoop test body [] env) R s := by
  refine codeAny_of_tree ?_
  show wpAny _ A ((whileTurn test body [] env).onRaise (fun x => do noteFrame x env; theTreesLotGoes x)) _ _ s
  refine wpAny_noted ?_
  simp only [whileTurn]
  refine wpAny_bind (wpAny_mono h (fun b s₂ h₂ => ?_) fun _ _ h' => h'.elim)
  cases b with
  | false =>
    simp only [Bool.false_eq_true, if_false]
    exact wpAny_bind (wpAny_execs_nil (wpAny_pure (h₂.2 rfl)))
  | true =>
    simp only [if_true]
    refine wpAny_bind (wpAny_mono (h₂.1 rfl) (fun f s₃ h₃ => ?_) fun _ _ h' => h'.elim)
    cases f with
    | next => exact wpAny_pure ⟨rfl, h₃⟩
    | cont => exact wpAny_pure ⟨rfl, h₃⟩
    | brk => exact h₃.elim
    | ret v => exact h₃.elim
theorem x_while {test : Expr} {body rest : List Stmt} {pos : Pos} {Q : Flow → Shared → Prop}
    (h : codeAny (model prog w) A (.whileLoop test body [] env) (FlowPost (Then (fun s' => wpAny (model prog w) A (execs rest env) Q No s') Q)) s) :
    wpAny (model prog w) A (execs (.While test body [] pos :: rest) env) Q No s := by
  refine wpAny_execs_cons (wpAny_While (codeAny_mono h fun r s' h => ?_))
  cases r with
  | error e => exact h.elim
  | ok f => cases f <;> exact h
theorem c_defK {x kn : Str} {p pos kp : Pos} {e kv : Expr} {rest : List Expr} {a : Addr} {Q : Value → Shared → Prop} (S : Sc env L ns gs) (D : Std w b0) (F : Fx b0 A k B L ns vals N s) (hx : x ∈ gs) (d : Def w x a)
    (h : wpAny (model prog w) A (spliced (backTo pos (starEach (e :: rest) env))) (fun vs s₁ => wpAny (model prog w) A (eval kv env) (fun v s₂ => b0.StaysIn s₂.heap ∧ codeAny (model prog w) A (.call (.ref a) ⟨vs, [(kn, v)]⟩) (wants Q E) s₂) E s₁) E s)
    (he : starEach (e :: rest) env = (false, eval e env) :: starEach rest env) (hp : ((backTo pos (starEach (e :: rest) env)).any (·.1) || (backToKw pos (keywordEach [⟨some kn, kv, kp⟩] env)).any (·.1.isNone)) = false) :
    wpAny (model prog w) A (eval (.Call (.Name x p) (e :: rest) [⟨some kn, kv, kp⟩] pos) env) Q E s :=
  wpAny_Call_Name_kw (ev_glb S D F hx d.ns (callWith_KW (h₀ := b0) D.X d.keep rfl (wpAny_mono h (fun vs s₁ h₁ => kwAll_cons (wpAny_mono h₁ (fun v s₂ h₂ => kwAll_nil ⟨D.X.keeps h₂.1, wpAny_call h₂.2⟩) fun _ _ x => x)) fun _ _ x => x) hp he))
theorem ev_sub {value slice : Expr} {pos : Pos} {Q : Value → Shared → Prop} (h : wpAny (model prog w) A (eval value env) (fun o s₁ => wpAny (model prog w) A (eval slice env) (fun i s₂ => wpAny (model prog w) A (subscriptTail value slice o i) Q E s₂) E s₁) E s) :
    wpAny (model prog w) A (eval (.Subscript value slice pos) env) Q E s := Subscript_ h
theorem sb_list {value slice : Expr} {a : Addr} {vs : List Value} {i : Int} {t : Tok} {v : Value} {Q : Value → Shared → Prop} (l : Lst s.heap a vs) (hs : subscripted slice false (.ref a) (.int i t) = operate [.ref a, .int i t] (getItem (.ref a) (.int i t)))
    (h : 0 ≤ i ∧ i < 2 ^ 63 ∧ vs[i.toNat]? = some v) (q : Q v s) : wpAny (model prog w) A (subscriptTail value slice (.ref a) (.int i t)) Q E s :=
  tail_any l.isList.typeIs slot_list_getitem.lookup (wpAny_getItem_list l.isList h.1 h.2.1 (by simpa using h.2.2) q) hs
theorem sb_bytes {value slice : Expr} {b : Array UInt8} {i : Int} {t u : Tok} {Q : Value → Shared → Prop} (F : Fx b0 A k B L ns vals N s) (hs : subscripted slice false (.bytes b u) (.int i t) = operate [.bytes b u, .int i t] (getItem (.bytes b u) (.int i t)))
    (h : 0 ≤ i ∧ i < b.size ∧ b.size ≤ 1000000) (q : ∀ t' s', Fx b0 A k B L ns vals N s' → Q (.int (b.toList.getD i.toNat 0).toNat t') s') : wpAny (model prog w) A (subscriptTail value slice (.bytes b u) (.int i t)) Q E s := by
  refine tail_any (typeIs_bytes s _ _) FB.slot_bytes_getitem.lookup ?_ hs
  have := getItem_bytes (prog := prog) (w := w) (A := A) (E := E) (s := s) (t := u) (u := t) (l := b.toList) (i := i) (Q := Q) (by simp; omega) h.1 (by simpa using h.2.1) (q _ _ (F.toks _))
  simpa using this
theorem mk_bytes {a : Addr} {vs : List Value} {l : List Int} {Q : Value → Shared → Prop} (F : Fx b0 A k B L ns vals N s) (hl : Lst s.heap a vs) (hi : IntsAre vs l) (hz : l.length ≤ 10000) (hr : ∀ p ∈ l, 0 ≤ p ∧ p < 256) (q : ∀ t s', Fx b0 A k B L ns vals N s' → Q (.bytes (byteArr l) t) s') :
    wpAny (model prog w) A (call (.type "bytes") [.ref a]) Q E s :=
  call_bytes_ints hl.isList hi hr (by rw [hi.length]; unfold sizeLine; omega) F.cx.handled
    fun h' t k' hk => q t _ (F.later (Grow.of_keeps hk))
theorem len_list {a : Addr} {vs : List Value} {Q : Value → Shared → Prop} (F : Fx b0 A k B L ns vals N s) (l : Lst s.heap a vs) (hz : vs.length ≤ 1000000) (q : ∀ t s', Fx b0 A k B L ns vals N s' → Q (.int vs.length t) s') :
    wpAny (model prog w) A (call (.builtin "len") [.ref a]) Q E s := by
  have := call_len_list (prog := prog) (w := w) (A := A) (E := E) (Q := Q) l.isList (by simp; omega) (by simpa using q _ _ (F.toks _))
  exact this
theorem op_neq_bytes {b c : Array UInt8} {t u : Tok} {Q : Value → Shared → Prop} (q : Q (.bool (b.toList != c.toList)) s) : wpAny (model prog w) A (compareOp .NotEq (.bytes b t) (.bytes c u)) Q E s := ne_bytes q
end
theorem or_disj {a b : Int} (k : Nat) (ha : 0 ≤ a) (hb : 0 ≤ b) (hb2 : b < 2 ^ k) : Builtin.bitOr (a * 2 ^ k) b = a * 2 ^ k + b := by
  obtain ⟨x, rfl⟩ := Int.eq_ofNat_of_zero_le ha
  obtain ⟨y, rfl⟩ := Int.eq_ofNat_of_zero_le hb
  have e : ((x : Int) * 2 ^ k) = ((x * 2 ^ k : Nat) : Int) := by simp
  have hy : y < 2 ^ k := by
    have : ((y : Nat) : Int) < ((2 ^ k : Nat) : Int) := by simpa using hb2
    exact Int.ofNat_lt.mp this
  rw [e]
  have key : ∀ m n : Nat, Builtin.bitOr (m : Int) (n : Int) = ((m ||| n : Nat) : Int) := by
    intro m n
    unfold Builtin.bitOr Builtin.bitAnd Builtin.bitNot
    have h1 : decide (0 ≤ -(m : Int) - 1) = false := decide_eq_false (by omega)
    have h2 : decide (0 ≤ -(n : Int) - 1) = false := decide_eq_false (by omega)
    simp only [h1, h2]
    have e1 : (-(-(m : Int) - 1) - 1).toNat = m := by omega
    have e2 : (-(-(n : Int) - 1) - 1).toNat = n := by omega
    rw [e1, e2]; omega
  rw [key]
  have := Nat.shiftLeft_add_eq_or_of_lt hy x
  rw [Nat.shiftLeft_eq] at this
  rw [← this]; simp
section
variable {prog : Program} {w : World} {A : Around} {E : Value → Shared → Prop} {s : Shared} {env : Env} {ns gs : List Str} {b0 : Heap} {k : Nat} {B : Shared} {L : Addr} {vals vals' : List (Option Value)} {N N' : Ledger} {Q : Value → Shared → Prop}
/-- a new object, all else kept -/
theorem Fx.add {D : Addr} {o : Obj} {h' : Heap} (F : Fx b0 A k B L ns vals N s) (hn : s.heap.get? D = none) (hk : ∀ b o, s.heap.get? b = some o → h'.get? b = some o) (ho : h'.get? D = some o) (hc : dictD o.data = false) (tk : Nat) :
    Fx b0 A k B L ns vals ((D, o) :: N) { s with heap := h', toks := tk } := by
  have F' := F.later (Grow.of_keeps (tk := tk) hk)
  refine ⟨F'.cx, F'.grow, F'.ns, F'.off, F'.off0, fun p hp => ?_, ?_⟩
  · rcases List.mem_cons.mp hp with rfl | hp
    · refine ⟨ho, F.grow.there hn, ?_, hc⟩
      cases q : b0.get? D with
      | none => rfl
      | some o' => have := F.cx.stays _ _ q; rw [hn] at this; cases this
    · exact F'.news p hp
  · have hL : L ≠ D := fun q => by obtain ⟨m, ⟨o, _, _, e, _⟩, _⟩ := F.ns; rw [q, hn] at e; cases e
    have hN : D ∉ N.map (·.1) := fun q => by
      obtain ⟨p, hp, e⟩ := List.mem_map.mp q
      have := (F.news p hp).1; rw [e, hn] at this; cases this
    have := F.nodup
    simp only [List.map_cons, List.nodup_cons, List.mem_cons, not_or] at this ⊢
    exact ⟨⟨hL, this.1⟩, hN, this.2⟩
theorem op_mul {a b : Int} {t u : Tok} (F : Fx b0 A k B L ns vals N s) (ha : -18446744073709551616 < a ∧ a < 18446744073709551616) (q : ∀ t s', Fx b0 A k B L ns vals N s' → Q (.int (a * b) t) s') : wpAny (model prog w) A (binaryOp .Mult (.int a t) (.int b u)) Q E s :=
  mul_int (q _ _ (F.toks _)) (IntMulOk.of_left (intBits_le_64 (by omega) (by omega)))
theorem op_neg {a : Int} {t : Tok} (F : Fx b0 A k B L ns vals N s) (q : ∀ t s', Fx b0 A k B L ns vals N s' → Q (.int (-a) t) s') : wpAny (model prog w) A (unaryOp .USub (.int a t)) Q E s := neg_int (q _ _ (F.toks _))
theorem mk_range1 {n : Int} {t : Tok} (F : Fx b0 A k B L ns vals N s) (q : ∀ r t' u' s', Fx b0 A k B L ns vals N s' → IsRange s'.heap r 0 n 1 t' t u' → Q (.ref r) s') : wpAny (model prog w) A (call (.type "range") [.int n t]) Q E s :=
  call_range_1 (q _ _ _ _ (F.later (Grow.of_keeps fun b o e => Heap.get?_push_of_some _ e)) (IsRange.new ..))
theorem mk_range3 {a b c : Int} {t u v : Tok} (F : Fx b0 A k B L ns vals N s) (hc : 0 < c ∧ c < 1000) (q : ∀ r s', Fx b0 A k B L ns vals N s' → IsRange s'.heap r a b c t u v → Q (.ref r) s') : wpAny (model prog w) A (call (.type "range") [.int a t, .int b u, .int c v]) Q E s :=
  call_range_3 (by omega) (q _ _ (F.later (Grow.of_keeps (tk := s.toks) fun b o e => Heap.get?_push_of_some _ e)) (IsRange.new ..)) (.inl (PyProof.noPylong_small (by omega)))
theorem for_range {r : Addr} {a b c : Int} {t u v : Tok} {n : Nat} {x : Str} {px : Pos} {body : List Stmt} {R : Result → Shared → Prop} (F : Fx b0 A k B L ns vals N s) (hr : IsRange s.heap r a b c t u v) (hsm : Builtin.Range.small a b c = true) (hn : Builtin.Range.rangeSize a b c = n)
    (Inv : Nat → Shared → List (Option Value) → Ledger → Prop) (h0 : Inv 0 B vals N)
    (turn : ∀ i t I B' vals' N' io s', i < n → Grow b0 B B' → ∀ K : Flow → Shared → Prop, (∀ f s₃, Turn b0 A k L ns Inv (i + 1) B' (I, io) f s₃ → K f s₃) → Inv i B' vals' N' → Fx b0 A k B' L ns vals' ((I, io) :: N') s' →
      wpAny (model prog w) A (storeName env x (.int (a + (i : Nat) * c) t)) (fun _ s₂ => wpAny (model prog w) A (execs body env) K No s₂) No s')
    (done : ∀ B' vals' N' s', Grow b0 B B' → Inv n B' vals' N' → Fx b0 A k B' L ns vals' N' s' → R (.ok .next) s') :
    wpAny (model prog w) A (pyIter (.ref r)) (fun it s₂ => codeAny (model prog w) A (.forLoop (.Name x px) it body [] env) R s₂) No s := by
  refine wpAny_pyIter_range hr hsm ?_
  have Fp := F.push (o := { cls := .type "range_iterator", data := .fields #[rawInt a, rawInt (Builtin.Range.rangeSize a b c), rawInt c] }) rfl rfl s.toks
  have W := Walks.range (prog := prog) (w := w) F.cx.handled s.heap.objs.size a c n
  refine for_walk W (fun i h st => ?_) (fun b hb => .inl (List.mem_singleton.mp hb)) Inv Fp ?_ h0 (fun i v B' vals' N' io s' hlt hP g hI F' => ?_) done
  · exact ⟨_, _, st, rfl, rfl⟩
  · show IsRangeIter _ _ _ _ _
    rw [hn]
    simpa using Heap.get?_push_size s.heap (o := { cls := .type "range_iterator", data := .fields #[rawInt a, rawInt n, rawInt c] }) rfl
  · obtain ⟨t', rfl⟩ := hP
    exact wpAny_mono (turn i t' _ B' vals' N' io s' hlt g _ (fun _ _ x => x) hI F') (fun _ _ h => wpAny_mono h (fun _ _ x => x) fun _ _ x => x.elim) fun _ _ x => x.elim
theorem op_addL {l m : Addr} {vs us : List Value} (F : Fx b0 A k B L ns vals N s) (h1 : Lst s.heap l vs) (h2 : Lst s.heap m us) (hz : vs.length + us.length ≤ sizeLine) (q : ∀ a s', Fx b0 A k B L ns vals ((a, lst (vs ++ us) 0) :: N) s' → s.heap.get? a = none → Q (.ref a) s') :
    wpAny (model prog w) A (binaryOp .Add (.ref l) (.ref m)) Q E s := by
  obtain ⟨n1, e1⟩ := h1
  obtain ⟨n2, e2⟩ := h2
  have e : vs.toArray ++ us.toArray = (vs ++ us).toArray := by simp
  refine concat_meets ⟨_, e1, rfl⟩ ⟨_, e2, rfl⟩ noFill_list_add seq_list_add PySem.F.slot_list_add PySem.F.entry_list_add (PySem.F.args_list_add_2 _ _) (list_addW l m vs.toArray us.toArray n1 n2 none none #[] #[] (by simpa using hz)) ⟨e1, e2, ?_⟩
  rw [e]
  exact q _ _ (F.push (o := lst (vs ++ us) 0) rfl list_ne s.toks) (Heap.get?_none_of_le (Nat.le_refl _))
theorem cp_list {l : Addr} {vs : List Value} (F : Fx b0 A k B L ns vals N s) (h1 : Lst s.heap l vs) (hz : vs.length ≤ sizeLine) (q : ∀ a n s', Fx b0 A k B L ns vals ((a, lst vs n) :: N) s' → s.heap.get? a = none → Q (.ref a) s') :
    wpAny (model prog w) A (call (.type "list") [.ref l]) Q E s := by
  obtain ⟨n1, e1⟩ := h1
  have hn : s.heap.get? s.heap.objs.size = none := Heap.get?_none_of_le (Nat.le_refl _)
  exact call_list_seq (hsz := by simpa using hz) l (.inl rfl) e1 rfl rfl fun h' c' hk hD => q _ c' _ (F.add hn hk hD list_ne s.toks) hn
theorem ex_list {l d : Addr} {vs us : List Value} {n : Nat} (F : Fx b0 A k B L ns vals N s) (up : Up d (lst vs n) (lst (vs ++ us) (if (vs.toArray ++ us.toArray).size == vs.toArray.size then n else n + 1)) N N') (h2 : Lst s.heap l us) (hz : vs.length + us.length ≤ 1000000)
    (q : ∀ s', Fx b0 A k B L ns vals N' s' → Q .none s') : wpAny (model prog w) A (call (.builtin "list.extend") [.ref d, .ref l]) Q E s := by
  obtain ⟨n2, e2⟩ := h2
  obtain ⟨pre, post, rfl, rfl⟩ := up.split
  have ho := F.get (a := d) (o := lst vs n) (by simp)
  refine call_meets PySem.F.slot_list_extend ⟨_, ho, rfl⟩ PySem.F.entry_list_extend (PySem.F.args_list_extend_2 _ _) (AutoSeq1.list_extend_list_list_0 d vs.toArray n l us.toArray n2 (by simp [Builtin.List.listTooLong, sizeLine]; omega) (by simp [sizeLine]; omega) (by simp [sizeLine]; omega)) ⟨ho, e2, ?_⟩
  refine q _ (F.put ?_ (Heap.SameBut.update ..) list_ne (fun _ vs => by intro q; cases q) _)
  have e : (lst vs n).mapSeq (fun x => x ++ us.toArray) = lst (vs ++ us) (if (vs.toArray ++ us.toArray).size == vs.toArray.size then n else n + 1) := by simp [Obj.mapSeq, lst]
  rw [← e]; exact Heap.get?_update_self _ ho rfl
end
theorem ints_at {vs : List Value} {l : List Int} (h : IntsAre vs l) {j : Nat} {x : Int} (hj : l[j]? = some x) : ∃ t, vs[j]? = some (.int x t) := h.get j x hj
theorem small_of {a b c : Int} (ha : 0 ≤ a ∧ a < 1000000) (hb : 0 ≤ b ∧ b < 1000000) (hc : 0 < c ∧ c < 1000) (hs : 0 ≤ Builtin.Range.rangeSize a b c ∧ Builtin.Range.rangeSize a b c < 1000000000) : Builtin.Range.small a b c = true := by
  unfold Builtin.Range.small
  simp only [Builtin.Range.rangeFitsLong, Bool.and_eq_true, Bool.or_eq_true, decide_eq_true_eq, beq_iff_eq, if_pos hc.1]
  omega
theorem ints_get' {vs : List Value} {l : List Int} (h : IntsAre vs l) {j : Nat} {v : Value} (hj : vs[j]? = some v) : ∃ x t, l[j]? = some x ∧ v = .int x t := by
  obtain ⟨n, t, e, hn⟩ := IntsAre.at h j v hj
  exact ⟨n, t, hn, e⟩
section
variable {prog : Program} {w : World} {A : Around} {E : Value → Shared → Prop} {s : Shared} {env : Env} {ns gs : List Str} {b0 : Heap} {k : Nat} {B : Shared} {L : Addr} {vals vals' : List (Option Value)} {N N' : Ledger} {Q : Value → Shared → Prop}
theorem in_int {a : Addr} {vs : List Value} {l : List Int} {x : Int} {t : Tok} (hl : Lst s.heap a vs) (hi : IntsAre vs l) (q : Q (.bool (l.any (· == x))) s) : wpAny (model prog w) A (compareOp .In (.int x t) (.ref a)) Q E s := in_list_ints hl.isList hi q
theorem nin_int {a : Addr} {vs : List Value} {l : List Int} {x : Int} {t : Tok} (hl : Lst s.heap a vs) (hi : IntsAre vs l) (q : Q (.bool (!l.any (· == x))) s) : wpAny (model prog w) A (compareOp .NotIn (.int x t) (.ref a)) Q E s := notin_list_ints hl.isList hi q
theorem while_inv {test : Expr} {body : List Stmt} {R : Result → Shared → Prop} (I : Nat → Shared → Prop)
    (turn : ∀ j s, I j s → wpAny (model prog w) A (isTrue test env (eval test env)) (fun b s₂ => Br b (wpAny (model prog w) A (execs body env) (WNext fun s₃ => ∃ j', j' < j ∧ I j' s₃) No s₂) (R (.ok .next) s₂)) No s)
    (j : Nat) (h : I j s) : codeAny (model prog w) A (.whileLoop test body [] env) R s := by
  induction j using Nat.strongRecOn generalizing s with
  | ind j ih =>
    refine while_step (wpAny_mono (turn j s h) (fun b s₂ h₂ => ⟨fun hb => wpAny_mono (h₂.1 hb) (fun f s₃ h₃ => ?_) fun _ _ x => x, h₂.2⟩) fun _ _ x => x)
    cases f with
    | next => obtain ⟨j', hj, hI⟩ := h₃; exact ih j' hj hI
    | cont => obtain ⟨j', hj, hI⟩ := h₃; exact ih j' hj hI
    | brk => exact h₃
    | ret v => exact h₃
end
/-- the same, its ends kept out of sight -/
theorem while_K {prog : Program} {w : World} {A : Around} {env : Env} {s : Shared} {test : Expr} {body : List Stmt} {R : Result → Shared → Prop} (I : Nat → Shared → Prop)
    (turn : ∀ j s (K Z : Shared → Prop), (∀ j' s₃, j' < j → I j' s₃ → K s₃) → (∀ s₃, R (.ok .next) s₃ → Z s₃) → I j s → wpAny (model prog w) A (isTrue test env (eval test env)) (fun b s₂ => Br b (wpAny (model prog w) A (execs body env) (WNext K) No s₂) (Z s₂)) No s)
    (j : Nat) (h : I j s) : codeAny (model prog w) A (.whileLoop test body [] env) R s :=
  while_inv I (fun j s hI => turn j s _ _ (fun j' s₃ hj hI' => ⟨j', hj, hI'⟩) (fun _ x => x) hI) j h
/-- an int expression over the locals, and its value -/
inductive IE (ns : List Str) (vals : List (Option Value)) : Expr → Int → Prop
  | con {i : Int} {c : Nat} {p : Pos} : IE ns vals (.Constant (.int i) c p) i
  | var {x : Str} {p : Pos} {i : Int} {t : Tok} : At ns vals x (.int i t) → IE ns vals (.Name x p) i
  | add {l r : Expr} {p : Pos} {a b : Int} : IE ns vals l a → IE ns vals r b → IE ns vals (.BinOp l .Add r p) (a + b)
  | sub {l r : Expr} {p : Pos} {a b : Int} : IE ns vals l a → IE ns vals r b → IE ns vals (.BinOp l .Sub r p) (a - b)
  | mul {l r : Expr} {p : Pos} {a b : Int} : IE ns vals l a → IE ns vals r b → -18446744073709551616 < a ∧ a < 18446744073709551616 → IE ns vals (.BinOp l .Mult r p) (a * b)
  | and {l r : Expr} {p : Pos} {a b : Int} : IE ns vals l a → IE ns vals r b → IE ns vals (.BinOp l .BitAnd r p) (Builtin.bitAnd a b)
  | or {l r : Expr} {p : Pos} {a b : Int} : IE ns vals l a → IE ns vals r b → IE ns vals (.BinOp l .BitOr r p) (Builtin.bitOr a b)
  | shr {l r : Expr} {p : Pos} {a b : Int} : IE ns vals l a → IE ns vals r b → 0 ≤ b → IE ns vals (.BinOp l .RShift r p) (a.fdiv (2 ^ b.toNat))
  | shl {l r : Expr} {p : Pos} {a b : Int} : IE ns vals l a → IE ns vals r b → 0 ≤ b → b ≤ 1000000 → a.natAbs < 2 ^ 64 → IE ns vals (.BinOp l .LShift r p) (a * 2 ^ b.toNat)
section
variable {prog : Program} {w : World} {A : Around} {E : Value → Shared → Prop} {env : Env} {ns gs : List Str} {b0 : Heap} {k : Nat} {B : Shared} {L : Addr} {vals : List (Option Value)} {N : Ledger}
theorem IE.run (S : Sc env L ns gs) {e : Expr} {i : Int} (h : IE ns vals e i) : ∀ {s : Shared} {Q : Value → Shared → Prop}, Fx b0 A k B L ns vals N s → (∀ t s', Fx b0 A k B L ns vals N s' → Q (.int i t) s') → wpAny (model prog w) A (eval e env) Q E s := by
  induction h with
  | con => exact fun F q => ev_int F q
  | var a => exact fun F q => ev_loc S F a (q _ _ F)
  | add _ _ h1 h2 => exact fun F q => ev_bin (h1 F fun _ _ F1 => h2 F1 fun _ _ F2 => op_add F2 q)
  | sub _ _ h1 h2 => exact fun F q => ev_bin (h1 F fun _ _ F1 => h2 F1 fun _ _ F2 => op_sub F2 q)
  | mul _ _ c h1 h2 => exact fun F q => ev_bin (h1 F fun _ _ F1 => h2 F1 fun _ _ F2 => op_mul F2 c q)
  | and _ _ h1 h2 => exact fun F q => ev_bin (h1 F fun _ _ F1 => h2 F1 fun _ _ F2 => op_and F2 q)
  | or _ _ h1 h2 => exact fun F q => ev_bin (h1 F fun _ _ F1 => h2 F1 fun _ _ F2 => op_or F2 q)
  | shr _ _ c h1 h2 => exact fun F q => ev_bin (h1 F fun _ _ F1 => h2 F1 fun _ _ F2 => op_shr F2 c q)
  | shl _ _ c d e h1 h2 => exact fun F q => ev_bin (h1 F fun _ _ F1 => h2 F1 fun _ _ F2 => op_shl F2 c d e q)
theorem tr_ie {l r : Expr} {op : CmpOp} {pos : Pos} {whole : Sem Value} {a b : Int} {s : Shared} {Q : Bool → Shared → Prop} (S : Sc env L ns gs) (F : Fx b0 A k B L ns vals N s) (h1 : IE ns vals l a) (h2 : IE ns vals r b) {c : Bool}
    (ho : ∀ t u s', wpAny (model prog w) A (compareOp op (.int a t) (.int b u)) (fun v s'' => v = .bool c ∧ s'' = s') E s') (hm : behindInMarks op r = false) (q : ∀ s', Fx b0 A k B L ns vals N s' → Q c s') :
    wpAny (model prog w) A (isTrue (.Compare l [op] [r] pos) env whole) Q E s :=
  tr_cmp (h1.run S F fun t s1 F1 => h2.run S F1 fun u s2 F2 => wpAny_mono (ho t u s2) (fun v s3 h => by obtain ⟨rfl, rfl⟩ := h; exact tr_bool (q _ F2)) fun _ _ x => x) hm
theorem ie_eq {a b : Int} (t u : Tok) (s' : Shared) : wpAny (model prog w) A (compareOp .Eq (.int a t) (.int b u)) (fun v s'' => v = .bool (a == b) ∧ s'' = s') E s' := op_eq ⟨rfl, rfl⟩
theorem ie_ne {a b : Int} (t u : Tok) (s' : Shared) : wpAny (model prog w) A (compareOp .NotEq (.int a t) (.int b u)) (fun v s'' => v = .bool (a != b) ∧ s'' = s') E s' := op_ne ⟨rfl, rfl⟩
theorem ie_lt {a b : Int} (t u : Tok) (s' : Shared) : wpAny (model prog w) A (compareOp .Lt (.int a t) (.int b u)) (fun v s'' => v = .bool (decide (a < b)) ∧ s'' = s') E s' := op_lt ⟨rfl, rfl⟩
theorem ie_ge {a b : Int} (t u : Tok) (s' : Shared) : wpAny (model prog w) A (compareOp .GtE (.int a t) (.int b u)) (fun v s'' => v = .bool (decide (b ≤ a)) ∧ s'' = s') E s' := op_ge ⟨rfl, rfl⟩
theorem ie_le {a b : Int} (t u : Tok) (s' : Shared) : wpAny (model prog w) A (compareOp .LtE (.int a t) (.int b u)) (fun v s'' => v = .bool (decide (a ≤ b)) ∧ s'' = s') E s' := op_le ⟨rfl, rfl⟩
/-- x = an int expression -/
theorem x_int {x : Str} {p' pos : Pos} {value : Expr} {rest : List Stmt} {i : Int} {s : Shared} {vals' : Tok → List (Option Value)} {Q : Flow → Shared → Prop} (S : Sc env L ns gs) (F : Fx b0 A k B L ns vals N s) (h : IE ns vals value i) (p : ∀ t, Put ns vals x (.int i t) (vals' t))
    (hs : swapsWith value (some (.Name x p')) pos.line env = pure false) (q : ∀ t s', Fx b0 A k B L ns (vals' t) N s' → wpAny (model prog w) A (execs rest env) Q E s') : wpAny (model prog w) A (execs (.Assign [.Name x p'] value pos :: rest) env) Q E s :=
  x_assign (h.run S F fun t s1 F1 => st_loc S F1 (p t) fun s2 F2 => q t s2 F2) hs
end
theorem rs_one (n : Nat) : Builtin.Range.rangeSize 0 (n : Int) 1 = (n : Int) := by rw [rangeSize_one]; split <;> omega
theorem small_one {n : Nat} (h : n ≤ 1000) : Builtin.Range.small 0 (n : Int) 1 = true := small_of (by decide) ⟨Int.natCast_nonneg n, by omega⟩ (by decide) (by rw [rs_one]; omega)
theorem nat_one (i : Nat) : (0 : Int) + (i : Int) * 1 = (i : Int) := by rw [Int.mul_one, Int.zero_add]
theorem ixN {vs : List Value} {i : Nat} {v : Value} (h : vs[i]? = some v) (hz : vs.length ≤ 1000000) : 0 ≤ (i : Int) ∧ (i : Int) < 2 ^ 63 ∧ vs[(i : Int).toNat]? = some v := by
  have := (List.getElem?_eq_some_iff.mp h).1
  exact ⟨Int.natCast_nonneg i, by omega, h⟩
theorem ixJ {vs : List Value} {i : Nat} {v : Value} {j : Int} (h : vs[i]? = some v) (hj : j = (i : Int)) (hz : vs.length ≤ 1000000) : 0 ≤ j ∧ j < 2 ^ 63 ∧ vs[j.toNat]? = some v := by
  subst hj; exact ixN h hz
theorem bxN {b : Array UInt8} {i : Nat} (h : i < b.size) (hz : b.size ≤ 1000) : 0 ≤ (i : Int) ∧ (i : Int) < (b.size : Int) ∧ b.size ≤ 1000000 := ⟨Int.natCast_nonneg i, Int.ofNat_lt.mpr h, Nat.le_trans hz (by decide)⟩
section
variable {prog : Program} {w : World} {A : Around} {E : Value → Shared → Prop} {s : Shared} {env : Env} {ns gs : List Str} {b0 : Heap} {k : Nat} {B : Shared} {L : Addr} {vals : List (Option Value)} {N : Ledger}
theorem for_range1 {r : Addr} {t u v : Tok} {n : Nat} {x : Str} {px : Pos} {body : List Stmt} {R : Result → Shared → Prop} (F : Fx b0 A k B L ns vals N s) (hr : IsRange s.heap r 0 (n : Int) 1 t u v) (hn : n ≤ 1000)
    (Inv : Nat → Shared → List (Option Value) → Ledger → Prop) (h0 : Inv 0 B vals N)
    (turn : ∀ (i : Nat) t I B' vals' N' io s', i < n → Grow b0 B B' → ∀ K : Flow → Shared → Prop, (∀ f s₃, Turn b0 A k L ns Inv (i + 1) B' (I, io) f s₃ → K f s₃) → Inv i B' vals' N' → Fx b0 A k B' L ns vals' ((I, io) :: N') s' →
      wpAny (model prog w) A (storeName env x (.int (i : Int) t)) (fun _ s₂ => wpAny (model prog w) A (execs body env) K No s₂) No s')
    (done : ∀ B' vals' N' s', Grow b0 B B' → Inv n B' vals' N' → Fx b0 A k B' L ns vals' N' s' → R (.ok .next) s') :
    wpAny (model prog w) A (pyIter (.ref r)) (fun it s₂ => codeAny (model prog w) A (.forLoop (.Name x px) it body [] env) R s₂) No s :=
  for_range F hr (small_one hn) (rs_one n) Inv h0 (fun i t I B' vals' N' io s' hlt g K hK hI F' => by rw [nat_one]; exact turn i t I B' vals' N' io s' hlt g K hK hI F') done
end
section
variable {A : Around} {b0 : Heap} {k : Nat} {B s : Shared} {L : Addr} {ns : List Str} {vals : List (Option Value)} {N : Ledger}
/-- the first n entries of the ledger become old -/
theorem Fx.settle (F : Fx b0 A k B L ns vals N s) (n : Nat) : ∃ B', Grow b0 B B' ∧ Fx b0 A k B' L ns vals (N.drop n) s ∧ (∀ p ∈ N.take n, B'.heap.get? p.1 = some p.2) ∧ ∀ b o, s.heap.get? b = some o → b ≠ L → b ∉ (N.drop n).map (·.1) → B'.heap.get? b = some o := by
  obtain ⟨B', g, F', h⟩ := (F.sub (List.drop_sublist n N)).rebase
  refine ⟨B', g, F', fun p hp => h _ _ (F.news p (List.mem_of_mem_take hp)).1 (fun q => ?_) fun q => ?_, h⟩
  · exact (List.nodup_cons.mp F.nodup).1 (q ▸ List.mem_map_of_mem (List.mem_of_mem_take hp))
  · have nd := (List.nodup_cons.mp F.nodup).2
    rw [← List.take_append_drop n N, List.map_append] at nd
    exact (List.nodup_append.mp nd).2.2 p.1 (List.mem_map_of_mem hp) p.1 q rfl
end
theorem nodup_at {α : Type} {l : List α} (nd : l.Nodup) (i j : Nat) {a b : α} (hi : l[i]? = some a) (hj : l[j]? = some b) (h : i ≠ j) : a ≠ b := fun e => by
  subst e
  exact h ((List.getElem?_inj (List.getElem?_eq_some_iff.mp hi).1 nd).mp (hi.trans hj.symm))
theorem lookup_relabel_glob {env : Env} : ∀ {names : List (Str × NameKind)} {x : Str}, names.lookup x = some .globalImplicit →
    (names.map fun (n, k) => if (k == NameKind.free && env.scope.kind == .function && env.kindOf n == some .cell) then (n, NameKind.cell) else (n, k)).lookup x = some .globalImplicit
  | [], _, h => by simp at h
  | (n, k) :: r, x, h => by
    have ih := @lookup_relabel_glob env r x
    show List.lookup x ((if (k == NameKind.free && env.scope.kind == .function && env.kindOf n == some .cell) = true then (n, NameKind.cell) else (n, k)) :: _) = _
    cases hx : x == n with
    | true =>
      simp only [List.lookup_cons, hx] at h
      cases h
      simp [List.lookup_cons, hx]
    | false =>
      simp only [List.lookup_cons, hx] at h
      by_cases hc : (k == NameKind.free && env.scope.kind == .function && env.kindOf n == some .cell) = true
      · rw [if_pos hc]; simp only [List.lookup_cons, hx]; exact ih h
      · rw [if_neg hc]; simp only [List.lookup_cons, hx]; exact ih h
theorem lookup_relabel_cell {env : Env} (hk : env.scope.kind = .function) : ∀ {names : List (Str × NameKind)} {x : Str}, names.lookup x = some .free → env.kindOf x = some .cell →
    (names.map fun (n, k) => if (k == NameKind.free && env.scope.kind == .function && env.kindOf n == some .cell) then (n, NameKind.cell) else (n, k)).lookup x = some .cell
  | [], _, h, _ => by simp at h
  | (n, k) :: r, x, h, hc' => by
    have ih := @lookup_relabel_cell env hk r x
    show List.lookup x ((if (k == NameKind.free && env.scope.kind == .function && env.kindOf n == some .cell) = true then (n, NameKind.cell) else (n, k)) :: _) = _
    cases hx : x == n with
    | true =>
      simp only [List.lookup_cons, hx] at h
      cases h
      have : x = n := by simpa using hx
      subst this
      simp [List.lookup_cons, hc', hk]
    | false =>
      simp only [List.lookup_cons, hx] at h
      by_cases hc : (k == NameKind.free && env.scope.kind == .function && env.kindOf n == some .cell) = true
      · rw [if_pos hc]; simp only [List.lookup_cons, hx]; exact ih h hc'
      · rw [if_neg hc]; simp only [List.lookup_cons, hx]; exact ih h hc'
/-- what a comprehension's own scope must be -/
noncomputable def coOk (scope : Scope) (x : Str) (gs : List Str) : Bool :=
  scope.kind == .function && scope.names.all (fun y => y.2 != .cell) && scope.names.all (fun y => y.2 != .local || scope.names.lookup y.1 == some .local) && namesOk scope [x] gs
theorem Sc.comp {env : Env} {L C : Addr} {ns gs gs' : List Str} {scope : Scope} {x : Str} {cl : List (Str × Addr)} (S : Sc env L ns gs) (h : coOk scope x gs' = true) : Sc (compEnvC scope cl C env) C [x] gs' := by
  unfold coOk namesOk at h
  simp only [Bool.and_eq_true, List.all_eq_true, beq_iff_eq, Bool.not_eq_true', decide_eq_true_eq] at h
  obtain ⟨⟨⟨hk, _⟩, _⟩, hn⟩ := h
  refine ⟨hk, rfl, S.glob, S.blt, fun y hy => lookup_relabel_local (hn.1.1 y hy).1, fun y hy => lookup_relabel_glob (hn.1.2 y hy).1, fun y hy => ?_, hn.2⟩
  rcases hy with hy | hy
  · exact (hn.1.1 y hy).2
  · exact (hn.1.2 y hy).2
/-- a cell variable -/
structure Cel (env : Env) (x : Str) (c : Addr) : Prop where
  kind : env.kindOf x = some .cell
  at_ : env.cells.lookup x = some c
  dbg : (x == ("__debug__" : Str)) = false
theorem Cel.comp {env : Env} {L C c : Addr} {ns gs : List Str} {scope : Scope} {x : Str} {cl : List (Str × Addr)} (S : Sc env L ns gs) (h : Cel env x c) (hf : scope.names.lookup x = some .free) (hc : cl.lookup x = some c) : Cel (compEnvC scope cl C env) x c :=
  ⟨lookup_relabel_cell S.kind hf h.kind, hc, h.dbg⟩
theorem isCell_grow {b0 : Heap} {s s' : Shared} {c : Addr} {v : Option Value} (x : s.heap.IsCell c v) (g : Grow b0 s s') : s'.heap.IsCell c v := by
  obtain ⟨o, e, d⟩ := x
  obtain ⟨o', e', _, d'⟩ := g.slot c o e
  exact ⟨o', e', d'.trans d⟩
section
variable {prog : Program} {w : World} {A : Around} {E : Value → Shared → Prop} {s s' : Shared} {env : Env} {ns gs : List Str} {b0 : Heap} {k : Nat} {B : Shared} {L : Addr} {vals vals' : List (Option Value)} {N N' : Ledger} {Q : Value → Shared → Prop}
theorem ev_cell {x : Str} {pos : Pos} {c : Addr} {v : Value} (S : Sc env L ns gs) (C : Cel env x c) (hc : s.heap.IsCell c (some v)) (q : Q v s) : wpAny (model prog w) A (eval (.Name x pos) env) Q E s :=
  wpAny_Name (wpAny_loadName_cell S.kind C.kind C.at_ hc q) C.dbg
/-- a new object at a state that has grown -/
theorem Fx.addG {D : Addr} {o : Obj} (F : Fx b0 A k B L ns vals N s) (g : Grow b0 s s') (hn : s.heap.get? D = none) (ho : s'.heap.get? D = some o) (hc : dictD o.data = false) : Fx b0 A k B L ns vals ((D, o) :: N) s' := by
  have F' := F.later g
  refine ⟨F'.cx, F'.grow, F'.ns, F'.off, F'.off0, fun p hp => ?_, ?_⟩
  · rcases List.mem_cons.mp hp with rfl | hp
    · refine ⟨ho, F.grow.there hn, ?_, hc⟩
      cases q : b0.get? D with
      | none => rfl
      | some o' => have := F.cx.stays _ _ q; rw [hn] at this; cases this
    · exact F'.news p hp
  · have hL : L ≠ D := fun q => by obtain ⟨m, ⟨o, _, _, e, _⟩, _⟩ := F.ns; rw [q, hn] at e; cases e
    have hN : D ∉ N.map (·.1) := fun q => by
      obtain ⟨p, hp, e⟩ := List.mem_map.mp q
      have := (F.news p hp).1; rw [e, hn] at this; cases this
    have := F.nodup
    simp only [List.map_cons, List.nodup_cons, List.mem_cons, not_or] at this ⊢
    exact ⟨⟨hL, this.1⟩, hN, this.2⟩
/-- a store into the frame, all else grown -/
theorem Fx.storeG {m' : Str → Option Value} (F : Fx b0 A k B L ns vals N s) (hk : ∀ b o, b ≠ L → s.heap.get? b = some o → (dictD o.data = false ∨ (b0.get? b).isSome = true) → s'.heap.get? b = some o)
    (hsl : ∀ b o, b ≠ L → s.heap.get? b = some o → ∃ o', s'.heap.get? b = some o' ∧ o'.cls = o.cls ∧ o'.data = o.data) (hg : s'.gens = s.gens) (ho : s'.os = s.os) (hn : s'.heap.Ns L m') (hl : Loc m' ns vals') : Fx b0 A k B L ns vals' N s' := by
  have nL : ∀ p ∈ N, p.1 ≠ L := fun p hp q => (List.nodup_cons.mp F.nodup).1 (q ▸ List.mem_map_of_mem hp)
  refine ⟨⟨fun b o e => hk b o (fun q => by rw [q, F.off0] at e; cases e) (F.cx.stays b o e) (.inr (by rw [e]; rfl)), ?_, F.cx.room, F.cx.units, F.cx.handled⟩, ⟨fun b o e c => ?_, fun b o e => ?_, hg.trans F.grow.gens, ho.trans F.grow.os⟩, ⟨m', hn, hl⟩, F.off, F.off0, fun p hp => ?_, F.nodup⟩
  · obtain ⟨l, e, f⟩ := F.cx.frames
    refine ⟨l, e, f.of (fun b o e hd' => ?_)⟩
    by_cases q : b = L
    · subst q
      obtain ⟨o', es, ep, e', d', _⟩ := hn
      exact ⟨o', e', (fun vs => by rw [d']; exact fun q => by cases q), fun _ => by rw [d']; rfl⟩
    · obtain ⟨o', e', _, d'⟩ := hsl b o q e
      exact ⟨o', e', (fun vs => d' ▸ hd' vs), fun q => d' ▸ q⟩
  · exact hk b o (fun q => by rw [q, F.off] at e; cases e) (F.grow.keep b o e c) c
  · obtain ⟨o₁, e₁, c₁, d₁⟩ := F.grow.slot b o e
    obtain ⟨o₂, e₂, c₂, d₂⟩ := hsl b o₁ (fun q => by rw [q, F.off] at e; cases e) e₁
    exact ⟨o₂, e₂, c₂.trans c₁, d₂.trans d₁⟩
  · obtain ⟨a, r⟩ := F.news p hp
    exact ⟨hk _ _ (nL p hp) a (.inl r.2.2), r⟩

/-- what the end of a comprehension's turn must give -/
noncomputable def CTurn (b0 : Heap) (A : Around) (k : Nat) (C : Addr) (x : Str) (v : Value) (Inv : Nat → Shared → List Value → Prop) (i : Nat) (B : Shared) (I : Addr) (io : Obj) (D : Addr) (us : List Value) (m : Nat) (us' : List Value) (s : Shared) : Prop :=
  ∃ B', Grow b0 B B' ∧ Inv i B' us' ∧ Fx b0 A k B' C [x] [some v] [(I, io), (D, lst us m)] s
theorem CTurn.ok {C : Addr} {x : Str} {v : Value} {Inv : Nat → Shared → List Value → Prop} {i : Nat} {I : Addr} {io : Obj} {D : Addr} {us us' : List Value} {m : Nat} (F : Fx b0 A k B C [x] [some v] [(I, io), (D, lst us m)] s) (h : Inv i B us') : CTurn b0 A k C x v Inv i B I io D us m us' s := ⟨B, Grow.refl _ _, h, F⟩

noncomputable def CompI (b0 : Heap) (A : Around) (k : Nat) (B : Shared) (C : Addr) (x : Str) (I D : Addr) (n : Nat) (St : Nat → Heap → Prop) (Inv : Nat → Shared → List Value → Prop) (j : Nat) (s' : Shared) : Prop :=
  ∃ i B' us m vo io, Grow b0 B B' ∧ Inv i B' us ∧ us.length ≤ i ∧ Fx b0 A k B' C [x] [vo] [(I, io), (D, lst us m)] s' ∧ St i s'.heap ∧ i ≤ n ∧ j = n + 1 - i
theorem comp_loop {I D C : Addr} {io : Obj} {fp : List Addr} {n : Nat} {P : Nat → Value → Prop} {St : Nat → Heap → Prop} {x : Str} {px pos : Pos} {elt iter : Expr} {ifs : List Expr} {scope : Scope} {cenv : Env} {gs : List Str} {R : Result → Shared → Prop} (W : Walks prog w A I fp [I] n P St)
    (live : ∀ i h, St i h → ∃ o vs, h.get? I = some o ∧ o.data = .fields vs ∧ dictD o.data = false) (hfp : ∀ b ∈ fp, b = I ∨ ∃ o, B.heap.get? b = some o ∧ dictD o.data = false) (S : Sc cenv C [x] gs) (hz : n ≤ 1000000)
    (Inv : Nat → Shared → List Value → Prop) (F : Fx b0 A k B C [x] [none] [(I, io), (D, lst [] 0)] s) (st : St 0 s.heap) (h0 : Inv 0 B [])
    (turn : ∀ i v B' us m io s', i < n → P i v → Grow b0 B B' → Inv i B' us → us.length ≤ i → Fx b0 A k B' C [x] [some v] [(I, io), (D, lst us m)] s' →
      wpAny (model prog w) A (forIn ifs true fun c r => if r = true then do let ok ← isTrue c cenv (eval c cenv); pure (ForInStep.yield ok) else pure (ForInStep.yield r)) (fun ok s₃ =>
        Br ok (wpAny (model prog w) A (eval elt cenv) (fun y s₄ => CTurn b0 A k C x v Inv (i + 1) B' I io D us m (us ++ [y]) s₄) No s₃) (CTurn b0 A k C x v Inv (i + 1) B' I io D us m us s₃)) No s')
    (done : ∀ B' us m vals' s', Grow b0 B B' → Inv n B' us → us.length ≤ n → Fx b0 A k B' C [x] vals' [(D, lst us m)] s' → R (.ok .next) s') :
    codeAny (model prog w) A (.compLoop (.ListComp elt [⟨.Name x px, iter, ifs, 0⟩] scope pos) 0 (.ref I) (.ref D) cenv) R s := by
  refine codeAny_compLoop_tests (CompI b0 A k B C x I D n St Inv) ?_ (n + 1) ⟨0, B, [], 0, none, io, Grow.refl _ _, h0, Nat.le_refl _, F, st, Nat.zero_le _, rfl⟩
  rintro j s' ⟨i, B', us, m, vo, io', g, hI, hlen, F', st', hi, rfl⟩
  have hdat : ∃ vs, io'.data = .fields vs := by
    obtain ⟨o, vs, e, d, _⟩ := live _ _ st'
    have : o = io' := Option.some.inj (e.symm.trans (F'.get (.head _)))
    exact ⟨vs, this ▸ d⟩
  by_cases hlt : i < n
  · refine W.item i _ _ _ hlt st' fun v h₁ tk hP st₁ hk => ?_
    obtain ⟨o, vs, e, d, c⟩ := live _ _ st₁
    have F₁ := F'.change (h' := h₁) (fun b ob hb e => hk b ob (fun q => hb (List.mem_singleton.mp q)) e) e c (fun q => absurd hdat.choose_spec (q _)) tk
    refine wpAny_assign_Name (st_loc S F₁ Put.head fun s₂ F₂ => wpAny_mono (turn i v B' us m o s₂ hlt hP g hI hlen F₂) (fun ok s₃ h₃ => ?_) fun _ _ x => x.elim)
    have fin : ∀ us' m' s₅, us'.length ≤ i + 1 → (∃ B'', Grow b0 B' B'' ∧ Inv (i + 1) B'' us' ∧ Fx b0 A k B'' C [x] [some v] [(I, o), (D, lst us' m')] s₅) → ∃ m, m < n + 1 - i ∧ CompI b0 A k B C x I D n St Inv m s₅ := fun us' m' s₅ hl' ⟨B'', g'', hI'', F''⟩ =>
      ⟨n + 1 - (i + 1), turn_less hlt, i + 1, B'', us', m', _, o, g.trans g'', hI'', hl', F'', W.frame _ _ _ st₁ (it_still hfp g g'' F₁.grow F''.grow e (F''.get (.head _))), hlt, rfl⟩
    cases ok with
    | true =>
      rw [if_pos rfl]
      refine wpAny_mono (h₃.1 rfl) (fun y s₄ h₄ => ?_) fun _ _ x => x.elim
      obtain ⟨B'', g'', hI'', F''⟩ := h₄
      exact ap_list F'' (.tail .head) (Nat.le_trans hlen (Nat.le_trans hi (Nat.le_trans hz (by decide)))) fun s₅ F₅ => fin (us ++ [y]) (m + 1) s₅ (by rw [List.length_append]; exact Nat.succ_le_succ hlen) ⟨B'', g'', hI'', F₅⟩
    | false =>
      rw [if_neg (by decide)]
      exact fin us m s₃ (Nat.le_succ_of_le hlen) (h₃.2 rfl)
  · obtain rfl : i = n := Nat.le_antisymm hi (Nat.not_lt.mp hlt)
    exact W.done _ _ _ st' fun h₁ tk hk => done B' us m [vo] _ g hI hlen (F'.dropI hdat hk)
end
section
variable {prog : Program} {w : World} {A : Around} {E : Value → Shared → Prop} {s s' : Shared} {env : Env} {ns gs gs' : List Str} {b0 : Heap} {k : Nat} {B : Shared} {L : Addr} {vals vals' : List (Option Value)} {N N' : Ledger}
/-- new list, new names, the loop; ends with the list D, the names C, the heap grown -/
theorem comp_block {io : Obj} {fp : List Addr} {n : Nat} {P : Nat → Value → Prop} {St : Nat → Heap → Prop} {x : Str} {px pos : Pos} {elt iter : Expr} {ifs : List Expr} {scope : Scope} {cl : List (Str × Addr)} {RR : Value → Addr → Result → Shared → Prop} (S : Sc env L ns gs) (hco : coOk scope x gs' = true)
    (W : Walks prog w A s.heap.objs.size fp [s.heap.objs.size] n P St)
    (live : ∀ i h, St i h → ∃ o vs, h.get? s.heap.objs.size = some o ∧ o.data = .fields vs ∧ dictD o.data = false) (hfp : ∀ b ∈ fp, b = s.heap.objs.size ∨ ∃ o, s.heap.get? b = some o ∧ dictD o.data = false) (hz : n ≤ 1000000)
    (F : Fx b0 A k B L ns vals N s) (hio : io.isFreed = false) (hioc : dictD io.data = false) (st : St 0 (s.heap.push io)) (Inv : Nat → Shared → List Value → Prop) (h0 : Inv 0 s [])
    (turn : ∀ C i v B' I D us m io s', Sc (compEnvC scope cl C env) C [x] gs' → i < n → P i v → Grow b0 s B' → Inv i B' us → us.length ≤ i → Fx b0 A k B' C [x] [some v] [(I, io), (D, lst us m)] s' →
      wpAny (model prog w) A (forIn ifs true fun c r => if r = true then do let ok ← isTrue c (compEnvC scope cl C env) (eval c (compEnvC scope cl C env)); pure (ForInStep.yield ok) else pure (ForInStep.yield r)) (fun ok s₃ =>
        Br ok (wpAny (model prog w) A (eval elt (compEnvC scope cl C env)) (fun y s₄ => CTurn b0 A k C x v Inv (i + 1) B' I io D us m (us ++ [y]) s₄) No s₃) (CTurn b0 A k C x v Inv (i + 1) B' I io D us m us s₃)) No s')
    (done : ∀ C D B' us m s', Grow b0 s B' → Inv n B' us → us.length ≤ n → Grow b0 B' s' → B'.heap.get? D = none → B'.heap.get? C = none → b0.get? C = none → D ≠ C → s'.heap.get? D = some (lst us m) → (∃ mm, s'.heap.Ns C mm) → RR (.ref D) C (.ok .next) s') :
    wpAny (model prog w) A (newList []) (fun acc s₃ => wpAny (model prog w) A (newFunctionEnv scope env.globals cl [] env.qual none .none (some env)) (fun cenv s₄ =>
      codeAny (model prog w) A (.compStart (.ListComp elt [⟨.Name x px, iter, ifs, 0⟩] scope pos) 0 (.ref s.heap.objs.size) acc { cenv with scope := relabel scope env }) (RR acc cenv.locals) s₄) E s₃) E { s with heap := s.heap.push io } := by
  have hco' := hco
  unfold coOk at hco'
  simp only [Bool.and_eq_true, List.all_eq_true, beq_iff_eq, bne_iff_ne] at hco'
  obtain ⟨⟨⟨hkind, hcell⟩, _⟩, _⟩ := hco'
  refine wpAny_newObj_type (wpAny_newFunctionEnv hcell (by intro y hy; simp at hy) (fun h₁ hns₁ hsb₁ => ?_) hkind)
  dsimp only at hns₁ hsb₁ ⊢
  have Fp := (F.push hio hioc s.toks).push (o := lst [] 0) rfl list_ne s.toks
  generalize hH2 : (s.heap.push io).push (lst [] 0) = H2 at hns₁ hsb₁ Fp ⊢
  have hzI : (s.heap.push io).objs.size = s.heap.objs.size + 1 := Heap.size_push ..
  have hC : H2.objs.size = s.heap.objs.size + 2 := by rw [← hH2, Heap.size_push, Heap.size_push]
  have newS : ∀ a, s.heap.objs.size ≤ a → s.heap.get? a = none := fun a ha => Heap.get?_none_of_le ha
  have new0 : ∀ a, s.heap.get? a = none → b0.get? a = none := fun a ha => by
    cases q : b0.get? a with
    | none => rfl
    | some o' => have := F.cx.stays _ _ q; rw [ha] at this; cases this
  have old2 : ∀ b o, H2.get? b = some o → h₁.get? b = some o := fun b o e => hsb₁.extBut b o (Nat.ne_of_lt (Heap.lt_size e)) (Heap.get?_push_of_some _ e)
  have old : ∀ b o, s.heap.get? b = some o → h₁.get? b = some o := fun b o e => old2 b o (by rw [← hH2]; exact Heap.get?_push_of_some _ (Heap.get?_push_of_some _ e))
  have G : Grow b0 s { s with heap := h₁, toks := s.toks + ([] : List (Str × Value)).length } := Grow.of_keeps old
  have gI : h₁.get? s.heap.objs.size = some io := old2 _ _ (Fp.get (by simp))
  have gD : h₁.get? (s.heap.objs.size + 1) = some (lst [] 0) := by
    have : ((s.heap.push io).objs.size, lst [] 0) ∈ ((s.heap.push io).objs.size, lst [] 0) :: (s.heap.objs.size, io) :: N := .head _
    rw [← hzI]; exact old2 _ _ (Fp.get this)
  rw [hzI]
  have FI : Fx b0 A k s H2.objs.size [x] [none] [(s.heap.objs.size, io), (s.heap.objs.size + 1, lst [] 0)] { s with heap := h₁, toks := s.toks + ([] : List (Str × Value)).length } := by
    refine ⟨F.cx.grow G, G, ⟨_, hns₁, trivial⟩, newS _ (by rw [hC]; omega), new0 _ (newS _ (by rw [hC]; omega)), fun p hp => ?_, ?_⟩
    · rcases List.mem_cons.mp hp with rfl | hp
      · exact ⟨gI, newS _ (Nat.le_refl _), new0 _ (newS _ (Nat.le_refl _)), hioc⟩
      · rcases List.mem_cons.mp hp with rfl | hp
        · exact ⟨gD, newS _ (Nat.le_succ _), new0 _ (newS _ (Nat.le_succ _)), list_ne⟩
        · cases hp
    · rw [hC]; simp
  have st' : St 0 h₁ := W.frame _ _ _ st fun b _ o e => old2 b o (by rw [← hH2]; exact Heap.get?_push_of_some _ e)
  have loop : codeAny (model prog w) A (.compLoop (.ListComp elt [⟨.Name x px, iter, ifs, 0⟩] scope pos) 0 (.ref s.heap.objs.size) (.ref (s.heap.objs.size + 1)) (compEnvC scope cl H2.objs.size env))
        (RR (.ref (s.heap.objs.size + 1)) H2.objs.size) { s with heap := h₁, toks := s.toks + ([] : List (Str × Value)).length } := by
    refine comp_loop W live hfp (S.comp hco) hz Inv FI st' h0 (fun i v B' us m io s' hi hp g hI hl F' => turn _ i v B' _ _ us m io s' (S.comp hco) hi hp g hI hl F') fun B' us m vals' s' g hI hl F' => ?_
    have hDC : s.heap.objs.size + 1 ≠ H2.objs.size := by rw [hC]; omega
    exact done _ _ B' us m s' g hI hl F'.grow (F'.news _ (.head _)).2.1 F'.off F'.off0 hDC (F'.get (.head _)) (let ⟨mm, a, _⟩ := F'.ns; ⟨mm, a⟩)
  exact codeAny_compStart_list loop (W.self 0 _ _ _ st' loop)

theorem comp_ends {D C : Addr} {B' : Shared} {us : List Value} {m : Nat} {Q : Value → Shared → Prop} (F : Fx b0 A k B L ns vals N s) (g : Grow b0 s B') (g' : Grow b0 B' s') (hD : B'.heap.get? D = none) (hC : B'.heap.get? C = none) (hC0 : b0.get? C = none) (hDC : D ≠ C)
    (hl : s'.heap.get? D = some (lst us m)) (hn : ∃ mm, s'.heap.Ns C mm) (q : ∀ s'', Grow b0 B' s'' → B'.heap.get? D = none → Fx b0 A k B L ns vals ((D, lst us m) :: N) s'' → Q (.ref D) s'') :
    compPost (model prog w) A E none Q (.ref D) C (.ok .next) s' := by
  obtain ⟨mm, hn⟩ := hn
  refine ⟨mm, hn, fun h' hs => ?_⟩
  have g2 : Grow b0 B' { s' with heap := h' } := ⟨fun b o e c => (hs.2 b (fun q => by rw [q, hC] at e; cases e)).trans (g'.keep b o e c), fun b o e => by
    obtain ⟨o', e', r⟩ := g'.slot b o e
    exact ⟨o', (hs.2 b (fun q => by rw [q, hC] at e; cases e)).trans e', r⟩, g'.gens, g'.os⟩
  exact q _ g2 hD (F.addG (g.trans g2) (g.there hD) ((hs.2 _ hDC).trans hl) list_ne)
theorem comp_stores {D C : Addr} {B' : Shared} {us : List Value} {m : Nat} {y : Str} {py : Pos} {Q : Value → Shared → Prop} (S : Sc env L ns gs) (F : Fx b0 A k B L ns vals N s) (p : Put ns vals y (.ref D) vals') (g : Grow b0 s B') (g' : Grow b0 B' s') (hD : B'.heap.get? D = none) (hC : B'.heap.get? C = none) (hC0 : b0.get? C = none) (hDC : D ≠ C)
    (hl : s'.heap.get? D = some (lst us m)) (hn : ∃ mm, s'.heap.Ns C mm) (q : ∀ s'', (∀ b o, b ≠ L → B'.heap.get? b = some o → dictD o.data = false → s''.heap.get? b = some o) → B'.heap.get? D = none → Fx b0 A k B L ns vals' ((D, lst us m) :: N) s'' → Q .none s'') :
    compPost (model prog w) A E (some (assign (.Name y py) env)) Q (.ref D) C (.ok .next) s' := by
  obtain ⟨mm, hn⟩ := hn
  show wpAny _ A (assign (.Name y py) env (.ref D)) _ _ _
  have F1 := F.addG (g.trans g') (g.there hD) hl list_ne
  obtain ⟨m1, hm1, hl1⟩ := F1.ns
  refine wpAny_assign_Name (wpAny_storeName_local (m := m1) (S.loc y p.mem) (by rw [S.at_]; exact hm1) (fun h₂ hn₂ hs₂ => ?_) (by rw [S.kind]; rfl))
  rw [S.at_] at hn₂ hs₂
  have hLC : L ≠ C := fun q => by
    obtain ⟨m0, ⟨oL, _, _, eL, _⟩, _⟩ := F.ns
    obtain ⟨o', e', _⟩ := g.slot _ _ eL
    rw [q, hC] at e'; cases e'
  refine ⟨mm, hn.sameBut hs₂ (Ne.symm hLC), fun h₃ hs₃ => ?_⟩
  have hLD : L ≠ D := fun q => by
    obtain ⟨m0, ⟨oL, _, _, eL, _⟩, _⟩ := F.ns
    obtain ⟨o', e', _⟩ := g.slot _ _ eL
    rw [q, hD] at e'; cases e'
  have gg := g.trans g'
  have nC : ∀ b o, s.heap.get? b = some o → b ≠ C := fun b o e q => by
    obtain ⟨o', e', _⟩ := g.slot _ _ e
    rw [q, hC] at e'; cases e'
  have F2 : Fx b0 A k B L ns vals' N { s' with heap := h₃, toks := s'.toks + 1 } := F.storeG
    (fun b o hb e c => (hs₃.2 b (nC b o e)).trans ((hs₂.2 b hb).trans (gg.keep b o e c)))
    (fun b o hb e => by
      obtain ⟨o', e', r⟩ := gg.slot b o e
      exact ⟨o', (hs₃.2 b (nC b o e)).trans ((hs₂.2 b hb).trans e'), r⟩) gg.gens gg.os (hn₂.sameBut hs₃ hLC) (p.loc S.nd hl1)
  refine q _ (fun b o hb e c => (hs₃.2 b (fun q => by rw [q, hC] at e; cases e)).trans ((hs₂.2 b hb).trans (g'.keep b o e (.inl c)))) hD ⟨F2.cx, F2.grow, F2.ns, F2.off, F2.off0, fun p hp => ?_, F1.nodup⟩
  rcases List.mem_cons.mp hp with rfl | hp
  · exact ⟨(hs₃.2 _ hDC).trans ((hs₂.2 _ (Ne.symm hLD)).trans hl), (F1.news _ (.head _)).2⟩
  · exact F2.news p hp

-- the two sources
theorem pi_list {a : Addr} {vs : List Value} {Q : Value → Shared → Prop} (l : Lst s.heap a vs) (q : Q (.ref s.heap.objs.size) { s with heap := s.heap.push { cls := .type "list_iterator", data := .fields #[.ref a, .int 0 0] } }) : wpAny (model prog w) A (pyIter (.ref a)) Q E s :=
  wpAny_pyIter_list l.isList q
theorem coOk.names {scope : Scope} {x : Str} (hco : coOk scope x gs' = true) : ∀ y ∈ scope.names, y.2 = .local → scope.names.lookup y.1 = some .local := by
  unfold coOk at hco
  simp only [Bool.and_eq_true, List.all_eq_true, beq_iff_eq, bne_iff_ne, Bool.or_eq_true] at hco
  exact fun y hy hl => (hco.1.2 y hy).resolve_left (fun q => q hl)
theorem coOk.kind {scope : Scope} {x : Str} (hco : coOk scope x gs' = true) : scope.kind = .function := by
  unfold coOk at hco
  simp only [Bool.and_eq_true, beq_iff_eq] at hco
  exact hco.1.1.1
/-- a turn of a comprehension over a list -/
noncomputable def CBody (prog : Program) (w : World) (b0 : Heap) (A : Around) (k : Nat) (env : Env) (scope : Scope) (cl : List (Str × Addr)) (x : Str) (gs : List Str) (elt : Expr) (ifs : List Expr) (Inv : Nat → Shared → List Value → Prop) (P : Nat → Value → Prop) (s : Shared) : Prop :=
  ∀ C i v B' I D us m io s', Sc (compEnvC scope cl C env) C [x] gs → P i v → Grow b0 s B' → Inv i B' us → us.length ≤ i → Fx b0 A k B' C [x] [some v] [(I, io), (D, lst us m)] s' →
      wpAny (model prog w) A (forIn ifs true fun c r => if r = true then do let ok ← isTrue c (compEnvC scope cl C env) (eval c (compEnvC scope cl C env)); pure (ForInStep.yield ok) else pure (ForInStep.yield r)) (fun ok s₃ =>
        Br ok (wpAny (model prog w) A (eval elt (compEnvC scope cl C env)) (fun y s₄ => CTurn b0 A k C x v Inv (i + 1) B' I io D us m (us ++ [y]) s₄) No s₃) (CTurn b0 A k C x v Inv (i + 1) B' I io D us m us s₃)) No s'
theorem comp_list {a : Addr} {vs : List Value} {x : Str} {px pos : Pos} {elt iter : Expr} {ifs : List Expr} {scope : Scope} {cl : List (Str × Addr)} {RR : Value → Addr → Result → Shared → Prop} (S : Sc env L ns gs) (hco : coOk scope x gs' = true) (F : Fx b0 A k B L ns vals N s) (l : Lst s.heap a vs) (hz : vs.length ≤ 1000000)
    (Inv : Nat → Shared → List Value → Prop) (h0 : Inv 0 s []) (turn : CBody prog w b0 A k env scope cl x gs' elt ifs Inv (fun i v => vs[i]? = some v) s)
    (done : ∀ C D B' us m s', Grow b0 s B' → Inv vs.length B' us → us.length ≤ vs.length → Grow b0 B' s' → B'.heap.get? D = none → B'.heap.get? C = none → b0.get? C = none → D ≠ C → s'.heap.get? D = some (lst us m) → (∃ mm, s'.heap.Ns C mm) → RR (.ref D) C (.ok .next) s') :
    wpAny (model prog w) A (pyIter (.ref a)) (fun it s₂ => wpAny (model prog w) A (newList []) (fun acc s₃ => wpAny (model prog w) A (newFunctionEnv scope env.globals cl [] env.qual none .none (some env)) (fun cenv s₄ =>
      codeAny (model prog w) A (.compStart (.ListComp elt [⟨.Name x px, iter, ifs, 0⟩] scope pos) 0 it acc { cenv with scope := relabel scope env }) (RR acc cenv.locals) s₄) E s₃) E s₂) E s := by
  refine pi_list l ?_
  obtain ⟨n', e'⟩ := l
  have hne : a ≠ s.heap.objs.size := Nat.ne_of_lt (Heap.lt_size e')
  have W := Walks.list (prog := prog) (w := w) F.cx.handled s.heap.objs.size a hne vs.toArray
  have hzz : vs.toArray.size = vs.length := by simp
  refine comp_block S hco W (fun i h st => ?_) (fun b hb => ?_) (by rw [hzz]; exact hz) F rfl rfl ?_ Inv h0 (fun C i v B' I D us m io s' SC hlt hP => turn C i v B' I D us m io s' SC (by simpa using hP)) (by rw [hzz]; exact done)
  · obtain ⟨⟨o, ho, hc, hd⟩, _⟩ := st
    exact ⟨o, _, ho, hd, by rw [hd]; rfl⟩
  · rcases List.mem_cons.mp hb with rfl | hb
    · exact .inl rfl
    · rw [List.mem_singleton.mp hb]; exact .inr ⟨_, e', list_ne⟩
  · exact ⟨⟨_, Heap.get?_push_size _ rfl, rfl, rfl⟩, ⟨_, Heap.get?_push_of_some _ e', rfl, n', rfl⟩⟩
theorem comp_range {r : Addr} {a b c : Int} {t u v : Tok} {n : Nat} {x : Str} {px pos : Pos} {elt iter : Expr} {ifs : List Expr} {scope : Scope} {cl : List (Str × Addr)} {RR : Value → Addr → Result → Shared → Prop} (S : Sc env L ns gs) (hco : coOk scope x gs' = true) (F : Fx b0 A k B L ns vals N s)
    (hr : IsRange s.heap r a b c t u v) (hsm : Builtin.Range.small a b c = true) (hn : Builtin.Range.rangeSize a b c = n) (hz : n ≤ 1000000)
    (Inv : Nat → Shared → List Value → Prop) (h0 : Inv 0 s []) (turn : CBody prog w b0 A k env scope cl x gs' elt ifs Inv (fun i v => i < n ∧ ∃ t, v = .int (a + (i : Nat) * c) t) s)
    (done : ∀ C D B' us m s', Grow b0 s B' → Inv n B' us → us.length ≤ n → Grow b0 B' s' → B'.heap.get? D = none → B'.heap.get? C = none → b0.get? C = none → D ≠ C → s'.heap.get? D = some (lst us m) → (∃ mm, s'.heap.Ns C mm) → RR (.ref D) C (.ok .next) s') :
    wpAny (model prog w) A (pyIter (.ref r)) (fun it s₂ => wpAny (model prog w) A (newList []) (fun acc s₃ => wpAny (model prog w) A (newFunctionEnv scope env.globals cl [] env.qual none .none (some env)) (fun cenv s₄ =>
      codeAny (model prog w) A (.compStart (.ListComp elt [⟨.Name x px, iter, ifs, 0⟩] scope pos) 0 it acc { cenv with scope := relabel scope env }) (RR acc cenv.locals) s₄) E s₃) E s₂) E s := by
  refine wpAny_pyIter_range hr hsm ?_
  have W := Walks.range (prog := prog) (w := w) F.cx.handled s.heap.objs.size a c n
  refine comp_block S hco W (fun i h st => ?_) (fun b hb => .inl (List.mem_singleton.mp hb)) hz F rfl rfl ?_ Inv h0 (fun C i v B' I D us m io s' SC hlt hP => turn C i v B' I D us m io s' SC ⟨hlt, hP⟩) done
  · exact ⟨_, _, st, rfl, rfl⟩
  · show IsRangeIter _ _ _ _ _
    rw [hn]
    simpa using Heap.get?_push_size s.heap (o := { cls := .type "range_iterator", data := .fields #[rawInt a, rawInt n, rawInt c] }) rfl

/-- the whole: a comprehension's value; what is stored by name on the same line -/
theorem ev_comp {elt iter : Expr} {x : Str} {px pos : Pos} {ifs : List Expr} {scope : Scope} {cl : List (Str × Addr)} {Q : Value → Shared → Prop} (hco : coOk scope x gs' = true) (hclos : closureFor scope env = pure cl) (hs : ∀ x, foldedSetIterable iter env x = pure x)
    (h : wpAny (model prog w) A (eval iter env) (fun xv s₁ => wpAny (model prog w) A (pyIter xv) (fun it s₂ => wpAny (model prog w) A (newList []) (fun acc s₃ => wpAny (model prog w) A (newFunctionEnv scope env.globals cl [] env.qual none .none (some env)) (fun cenv s₄ =>
      codeAny (model prog w) A (.compStart (.ListComp elt [⟨.Name x px, iter, ifs, 0⟩] scope pos) 0 it acc { cenv with scope := relabel scope env }) (compPost (model prog w) A E none Q acc cenv.locals) s₄) E s₃) E s₂) E s₁) E s) :
    wpAny (model prog w) A (eval (.ListComp elt [⟨.Name x px, iter, ifs, 0⟩] scope pos) env) Q E s := by
  rw [eval_ListComp]
  exact wpAny_comprehension_free (use := none) rfl hs hclos (coOk.kind hco) (coOk.names hco) h
theorem x_comp {elt iter : Expr} {x y : Str} {px py pos spos : Pos} {ifs : List Expr} {scope : Scope} {cl : List (Str × Addr)} {rest : List Stmt} {Q : Flow → Shared → Prop} (hco : coOk scope x gs' = true) (hclos : closureFor scope env = pure cl) (hs : ∀ x, foldedSetIterable iter env x = pure x)
    (hsw : swapsWith (.ListComp elt [⟨.Name x px, iter, ifs, 0⟩] scope pos) (some (.Name y py)) spos.line env = pure true)
    (h : wpAny (model prog w) A (eval iter env) (fun xv s₁ => wpAny (model prog w) A (pyIter xv) (fun it s₂ => wpAny (model prog w) A (newList []) (fun acc s₃ => wpAny (model prog w) A (newFunctionEnv scope env.globals cl [] env.qual none .none (some env)) (fun cenv s₄ =>
      codeAny (model prog w) A (.compStart (.ListComp elt [⟨.Name x px, iter, ifs, 0⟩] scope pos) 0 it acc { cenv with scope := relabel scope env }) (compPost (model prog w) A E (some (assign (.Name y py) env)) (fun _ s' => wpAny (model prog w) A (execs rest env) Q E s') acc cenv.locals) s₄) E s₃) E s₂) E s₁) E s) :
    wpAny (model prog w) A (execs (.Assign [.Name y py] (.ListComp elt [⟨.Name x px, iter, ifs, 0⟩] scope pos) spos :: rest) env) Q E s := by
  refine wpAny_execs_cons ?_
  rw [exec_Assign_Name_used _ _ _ _ hsw]
  refine wpAny_bind (wpAny_standAt (wpAny_bind ?_))
  show wpAny _ A (do let _ ← comprehension (.ListComp elt [⟨.Name x px, iter, ifs, 0⟩] scope pos) scope env _ (newList []) false (eval iter env) (some (assign (.Name y py) env))) _ _ s
  exact wpAny_bind (wpAny_mono (wpAny_comprehension_free (use := some (assign (.Name y py) env)) (Q := fun _ s' => wpAny (model prog w) A (execs rest env) Q E s') rfl hs hclos (coOk.kind hco) (coOk.names hco) h) (fun _ s' hq => wpAny_pure (wpAny_pure hq)) fun _ _ e => e)
theorem sw_true {elt iter : Expr} {x y : Str} {px py pos : Pos} {ifs : List Expr} {scope : Scope} {line : Nat} (S : Sc env L ns gs) (hy : y ∈ ns) (h1 : py.line == pos.line) (h2 : (scope.names.any fun (n, k) => n == y && (k == .local || k == .cell)) = false) :
    swapsWith (.ListComp elt [⟨.Name x px, iter, ifs, 0⟩] scope pos) (some (.Name y py)) line env = pure true := by
  unfold swapsWith
  simp only [Env.blockKind, S.kind, S.loc y hy]
  show (pure (((true && true) && (py.line == pos.line)) && !(scope.names.any fun (n, k) => n == y && (k == .local || k == .cell))) : Sem Bool) = pure true
  rw [show (py.line == pos.line) = true from h1, h2]
  rfl
end
theorem ints_mk : ∀ {vs : List Value} {l : List Int}, vs.length = l.length → (∀ (i : Nat) (v : Value), vs[i]? = some v → ∃ x t, l[i]? = some x ∧ v = .int x t) → IntsAre vs l
  | [], [], _, _ => .nil
  | [], _ :: _, h, _ => by simp at h
  | _ :: _, [], h, _ => by simp at h
  | v :: vs, x :: l, h, hh => by
    obtain ⟨x', t, e1, e2⟩ := hh 0 v rfl
    simp at e1
    subst e1 e2
    exact .cons _ _ (ints_mk (by simpa using h) fun i v hv => hh (i + 1) v hv)
theorem ints_len {vs : List Value} {l : List Int} (h : IntsAre vs l) : vs.length = l.length := by
  have := h.sizeZ
  simp at this; omega
theorem ints_set {vs : List Value} {l : List Int} (h : IntsAre vs l) (j : Nat) (x : Int) (t : Tok) : IntsAre (vs.set j (.int x t)) (l.set j x) := by
  refine ints_mk (by simp [ints_len h]) fun i v hv => ?_
  have hl := ints_len h
  rw [List.getElem?_set] at hv ⊢
  by_cases e : j = i
  · subst e
    rw [if_pos rfl] at hv ⊢
    split at hv
    · cases hv; rw [if_pos (by omega)]; exact ⟨_, _, rfl, rfl⟩
    · cases hv
  · rw [if_neg e] at hv ⊢
    exact ints_get' h hv
theorem eraseIdx_mapB {α β : Type} (f : α → β) : ∀ (l : List α) (j : Nat), (l.map f).eraseIdx j = (l.eraseIdx j).map f
  | [], _ => rfl
  | _ :: _, 0 => rfl
  | _ :: l, j + 1 => by simp [List.eraseIdx, eraseIdx_mapB f l j]
theorem mapSeq_lst (vs : List Value) (n : Nat) (f : Array Value → Array Value) : (lst vs n).mapSeq f = { cls := .type "list", data := .seq (f vs.toArray) (if (f vs.toArray).size == vs.toArray.size then n else n + 1) } := by
  simp [Obj.mapSeq, lst]
/-- a tuple -/
noncomputable abbrev tupO (vs : List Value) : Obj := { cls := .type "tuple", data := .seq vs.toArray }
section
variable {prog : Program} {w : World} {A : Around} {E : Value → Shared → Prop} {s s' : Shared} {env : Env} {ns gs : List Str} {b0 : Heap} {k : Nat} {B : Shared} {L : Addr} {vals vals' : List (Option Value)} {N N' : Ledger} {Q : Value → Shared → Prop}
/-- list(range(n)) -/
theorem ls_range {r : Addr} {n : Nat} {t u v : Tok} (F : Fx b0 A k B L ns vals N s) (hr : IsRange s.heap r 0 n 1 t u v) (hz : n ≤ 1000) (q : ∀ a vs c s', Fx b0 A k B L ns vals ((a, lst vs c) :: N) s' → IntsAre vs ((List.range n).map fun (i : Nat) => (i : Int)) → Q (.ref a) s') :
    wpAny (model prog w) A (call (.type "list") [.ref r]) Q E s := by
  have hrs : Builtin.Range.rangeSize 0 (n : Int) 1 = (n : Int) := by rw [rangeSize_one]; split <;> omega
  have hn : s.heap.get? s.heap.objs.size = none := Heap.get?_none_of_le (Nat.le_refl _)
  refine call_list_range F.cx.handled hr (small_of (by omega) (by omega) (by omega) (by rw [hrs]; omega)) hrs (by omega) fun h' tk acc' c' hk hD hacc => q _ acc'.toList c' _ (F.add hn hk (by simpa [lst] using hD) list_ne tk) ?_
  refine ints_mk (by simpa using hacc.1) fun i v hv => ?_
  obtain ⟨t, e⟩ := hacc.2 i v (by simpa using hv)
  have hi : i < n := by rw [← hacc.1]; have := (List.getElem?_eq_some_iff.mp hv).1; simpa using this
  exact ⟨(i : Int), t, by simp [hi], by rw [e]; simp⟩
theorem eq_ints {vs : List Value} {l : List Int} (hi : IntsAre vs l) (x : Int) (t : Tok) : ∀ y, y ∈ vs.toArray → MeetsSeq.EqGives y (.int x t) (isI x y) := by
  intro y hy
  obtain ⟨n, t', rfl⟩ := hi.all y (by simpa using hy)
  exact MeetsSeq.EqGives.int _ _ _ _
theorem ix_list {a : Addr} {vs : List Value} {l : List Int} {x : Int} {t : Tok} {j : Nat} (F : Fx b0 A k B L ns vals N s) (hl : Lst s.heap a vs) (hi : IntsAre vs l) (hz : l.length ≤ 1000) (hj : l[j]? = some x) (hno : ∀ i, i < j → l[i]? ≠ some x) (q : ∀ t s', Fx b0 A k B L ns vals N s' → Q (.int j t) s') :
    wpAny (model prog w) A (call (.builtin "list.index") [.ref a, .int x t]) Q E s := by
  obtain ⟨n, ho⟩ := hl
  have hlen := ints_len hi
  have hjl : j < l.length := (List.getElem?_eq_some_iff.mp hj).1
  have at_ : ∀ (m : Nat) (hm : m < vs.toArray.size), ∃ y t', l[m]? = some y ∧ vs.toArray[m] = .int y t' := fun m hm => ints_get' hi (by simp at hm; simp [hm])
  refine call_meets PySem.F.slot_list_index ⟨_, ho, rfl⟩ PySem.F.entry_list_index (PySem.F.args_list_index_2 _ _) (MeetsSeq.list_index a vs.toArray n (.int x t) (isI x) (eq_ints hi x t) j (by simp; omega) (by omega) ?_ ?_) ⟨ho, q _ _ (F.toks _)⟩
  · obtain ⟨y, t', e1, e2⟩ := at_ j (by simp; omega)
    rw [e2]
    have : y = x := Option.some.inj (e1.symm.trans hj)
    simp [isI, this]
  · intro m hm hmj
    obtain ⟨y, t', e1, e2⟩ := at_ m hm
    rw [e2]
    have : y ≠ x := fun q => hno m hmj (by rw [e1, q])
    simp [isI, this]
theorem mn_list {a : Addr} {vs : List Value} {l : List Int} (F : Fx b0 A k B L ns vals N s) (hl : Lst s.heap a vs) (hi : IntsAre vs l) (hne : 0 < l.length) (q : ∀ M t s', Fx b0 A k B L ns vals N s' → M ∈ l → (∀ y ∈ l, M ≤ y) → Q (.int M t) s') :
    wpAny (model prog w) A (call (.builtin "min") [.ref a]) Q E s := by
  have hall := hi.allInts
  have hnums : numsOf vs = l := hi.numsOf
  obtain ⟨xs, hx⟩ := hall.items
  have hlen := ints_len hi
  have hsz : 0 < xs.size := by
    have : vs.toArray.size = (intItems xs).size := by rw [hx]
    simp [intItems] at this; omega
  have hv : numsOf vs = xs.toList.map (·.1) := by
    have : vs = (intItems xs).toList := by rw [← hx]
    rw [this, nums_intItems]
  refine min_intList F.cx.handled (by rw [← hx]; exact hl.isList) hsz fun v h' tk hv' hk => ?_
  obtain ⟨t, rfl⟩ := intItems_at hv'
  obtain ⟨h1, h2⟩ := argBest_lt (numAt xs) (xs.size - 1)
  refine q _ t _ (F.later (Grow.of_keeps (tk := tk) hk)) ?_ fun y hy => ?_
  · rw [← hnums, hv, numAt_eq]; exact getD_mem (by rw [List.length_map, Array.length_toList]; omega)
  · rw [← hnums, hv] at hy
    obtain ⟨j, hj, rfl⟩ := mem_getD hy
    rw [List.length_map, Array.length_toList] at hj
    rw [← numAt_eq]; exact h2 j (by omega)
/-- xs[j] = v -/
theorem set_list {d : Addr} {vs : List Value} {n : Nat} {j : Int} {t : Tok} {x : Value} {Q : Unit → Shared → Prop} (F : Fx b0 A k B L ns vals N s) (u : Up d (lst vs n) (lst (vs.set j.toNat x) n) N N') (hj : 0 ≤ j ∧ j < vs.length) (hz : vs.length ≤ 1000) (q : ∀ s', Fx b0 A k B L ns vals N' s' → Q () s') :
    wpAny (model prog w) A (setItem (.ref d) (.int j t) x) Q E s := by
  obtain ⟨pre, post, rfl, rfl⟩ := u.split
  have ho := F.get (a := d) (o := lst vs n) (by simp)
  refine ki_setAt (n := n) ho hj.1 (by omega) (by simp; omega) (q _ (F.put ?_ (Heap.SameBut.update ..) list_ne (fun _ vs => by intro q; cases q) s.toks))
  have e : (lst vs n).mapSeq (fun xs => xs.setIfInBounds j.toNat x) = lst (vs.set j.toNat x) n := by rw [mapSeq_lst]; simp [lst]
  rw [← e]; exact Heap.get?_update_self _ ho (by rw [e]; rfl)
theorem x_setitem {o i value : Expr} {p' pos : Pos} {rest : List Stmt} {Q : Flow → Shared → Prop}
    (h : wpAny (model prog w) A (eval value env) (fun v s₁ => wpAny (model prog w) A (eval o env) (fun ov s₂ => wpAny (model prog w) A (eval i env) (fun iv s₃ => wpAny (model prog w) A (setItem ov iv v) (fun _ s₄ => wpAny (model prog w) A (execs rest env) Q E s₄) E s₃) E s₂) E s₁) E s)
    (hs : swapsWith value (some (.Subscript o i p')) pos.line env = pure false) : wpAny (model prog w) A (execs (.Assign [.Subscript o i p'] value pos :: rest) env) Q E s :=
  wpAny_execs_cons (wpAny_Assign_Subscript h hs)
/-- xs.pop() -/
theorem pop_list {d : Addr} {vs : List Value} {n : Nat} {y : Value} (F : Fx b0 A k B L ns vals N s) (u : Up d (lst (vs ++ [y]) n) (lst vs (n + 1)) N N') (hz : vs.length ≤ 1000) (q : ∀ s', Fx b0 A k B L ns vals N' s' → Q y s') :
    wpAny (model prog w) A (call (.builtin "list.pop") [.ref d]) Q E s := by
  obtain ⟨pre, post, rfl, rfl⟩ := u.split
  have ho := F.get (a := d) (o := lst (vs ++ [y]) n) (by simp)
  refine call_meets PySem.F.slot_list_pop ⟨_, ho, rfl⟩ PySem.F.entry_list_pop (PySem.F.args_list_pop_1 _) (MeetsSeq.list_pop_last d (vs ++ [y]).toArray n y (by simp) (by simp [sizeLine]; omega)) ⟨ho, q _ (F.put ?_ (Heap.SameBut.update ..) list_ne (fun _ vs => by intro q; cases q) s.toks)⟩
  have e : (lst (vs ++ [y]) n).mapSeq (fun xs => xs.eraseIdxIfInBounds ((vs ++ [y]).toArray.size - 1)) = lst vs (n + 1) := by
    rw [mapSeq_lst]
    have : (vs ++ [y]).toArray.eraseIdxIfInBounds ((vs ++ [y]).toArray.size - 1) = vs.toArray := by
      apply Array.toList_inj.mp
      simp [Array.toList_eraseIdxIfInBounds, List.eraseIdx_append_of_length_le]
    rw [this]
    simp [lst]
  rw [← e]; exact Heap.get?_update_self _ ho (by rw [e]; rfl)
/-- xs.remove(b), b there -/
theorem rm_list {d : Addr} {ps : List Bt} {n j : Nat} {b : Array UInt8} {t : Tok} (F : Fx b0 A k B L ns vals N s) (hz : ps.length ≤ 1000) (hj : (ps[j]?.map fun p => p.1.toList) = some b.toList) (hno : ∀ i, i < j → (ps[i]?.map fun p => p.1.toList) ≠ some b.toList) (u : Up d (lst (mkB ps) n) (lst (mkB (ps.eraseIdx j)) (n + 1)) N N') (q : ∀ s', Fx b0 A k B L ns vals N' s' → Q .none s') :
    wpAny (model prog w) A (call (.builtin "list.remove") [.ref d, .bytes b t]) Q E s := by
  obtain ⟨pre, post, rfl, rfl⟩ := u.split
  have ho := F.get (a := d) (o := lst (mkB ps) n) (by simp)
  have hjl : j < ps.length := by
    cases e : ps[j]? with
    | none => rw [e] at hj; cases hj
    | some p => exact (List.getElem?_eq_some_iff.mp e).1
  have at_ : ∀ (m : Nat) (hm : m < (mkB ps).toArray.size), (mkB ps).toArray[m] = .bytes (ps[m]'(by simpa [mkB] using hm)).1 (ps[m]'(by simpa [mkB] using hm)).2 := fun m hm => by simp [mkB]
  refine call_meets PySem.F.slot_list_remove ⟨_, ho, rfl⟩ PySem.F.entry_list_remove (PySem.F.args_list_remove_2 _ _) (MeetsSeq.list_remove d (mkB ps).toArray n (.bytes b t) (isB b) (fun y hy => eq_isB b t ps y (by simpa using hy)) j (by simp [len_mkB]; omega) ?_ ?_ (by simp [len_mkB, sizeLine]; omega)) ⟨ho, q _ (F.put ?_ (Heap.SameBut.update ..) list_ne (fun _ vs => by intro q; cases q) s.toks)⟩
  · rw [at_]
    rw [List.getElem?_eq_getElem hjl] at hj
    simpa [isB] using hj
  · intro m hm hmj
    rw [at_]
    have := hno m hmj
    rw [List.getElem?_eq_getElem (by omega)] at this
    simpa [isB] using this
  · have e : (lst (mkB ps) n).mapSeq (fun xs => xs.eraseIdxIfInBounds j) = lst (mkB (ps.eraseIdx j)) (n + 1) := by
      rw [mapSeq_lst]
      have : (mkB ps).toArray.eraseIdxIfInBounds j = (mkB (ps.eraseIdx j)).toArray := by
        apply Array.toList_inj.mp
        simp [mkB, eraseIdx_mapB]
      rw [this]
      have hne : ¬ (mkB (ps.eraseIdx j)).length = (mkB ps).length := by simp [len_mkB, List.length_eraseIdx, hjl]; omega
      simp [lst, hne]
    rw [← e]; exact Heap.get?_update_self _ ho (by rw [e]; rfl)
/-- truth of a list -/
theorem tr_list {a : Addr} {vs : List Value} {Q : Bool → Shared → Prop} (F : Fx b0 A k B L ns vals N s) (hl : Lst s.heap a vs) (hz : vs.length ≤ 1000) (q : ∀ s', Fx b0 A k B L ns vals N s' → Q (!vs.isEmpty) s') : wpAny (model prog w) A (truthy (.ref a)) Q E s := by
  refine wpAny_truthy_list hl.isList (by simp; omega) ?_
  have := q _ (F.toks (s.toks + 1 + 1))
  simpa using this
theorem op_mulL {a : Addr} {vs : List Value} {x : Int} {u : Tok} (F : Fx b0 A k B L ns vals N s) (hl : Lst s.heap a vs) (hx : 0 ≤ x ∧ x ≤ 1000) (hz : vs.length ≤ 1000) (q : ∀ a s', Fx b0 A k B L ns vals ((a, lst (List.replicate x.toNat vs).flatten 0) :: N) s' → Q (.ref a) s') :
    wpAny (model prog w) A (binaryOp .Mult (.ref a) (.int x u)) Q E s := by
  obtain ⟨n, ho⟩ := hl
  have hsz : vs.toArray.size * x.toNat ≤ 2 ^ 24 := by
    have : vs.length * x.toNat ≤ 1000 * 1000 := Nat.mul_le_mul hz (by omega)
    simp; omega
  refine wpAny_binaryOp_repeat_ref (T := "list") (U := "int") (by decide) ⟨_, ho, rfl⟩ (fun s' => typeIs_int s' x u) noFill_list_mul PySem.F.fills_int_mul PySem.F.slot_int_rmul repeat_list PySem.F.slot_int_index.lookup
    (call_meets PySem.F.slot_int_rmul (typeIs_int s x u) PySem.F.entry_int_rmul (PySem.F.args_int_rmul_2 _ _) (int___rmul___int_list x u a vs.toArray n)
      ⟨ho, rfl, ⟨_, ho, rfl⟩, call_meets PySem.F.slot_list_mul ⟨_, ho, rfl⟩ PySem.F.entry_list_mul (PySem.F.args_list_mul_2 _ _)
        (AutoListH.list___mul___list_int_3 a vs.toArray n x u (by simp [Builtin.List.listFitsIndex]; omega) (by omega) (by simp [Builtin.List.listTooLong, sizeLine]; simp at hsz; omega))
        ⟨ho, ?_⟩⟩)
  have := q _ _ (F.push (o := lst (List.replicate x.toNat vs).flatten 0) rfl list_ne s.toks)
  rw [listMul_foldl_if]
  exact this
/-- what a slice xs[:n] gives -/
noncomputable def SliceAt (Q : Value → Shared → Prop) (o vu : Value) (s : Shared) : Prop := ∃ (l : Addr) (vs : List Value) (i : Int) (t : Tok), o = .ref l ∧ vu = .int i t ∧ 0 ≤ i ∧ s.heap.IsList l vs.toArray ∧ vs.length ≤ 1000 ∧
  Q (.ref (s.heap.objs.size + 1)) { s with heap := (s.heap.push { cls := .type "slice", data := .fields #[.none, vu, .none] }).push (lst (vs.take i.toNat) 0) }
theorem SliceAt.mk {l : Addr} {vs : List Value} {i : Int} {t : Tok} (F : Fx b0 A k B L ns vals N s) (hl : Lst s.heap l vs) (hi : 0 ≤ i) (hz : vs.length ≤ 1000) (q : ∀ a s', Fx b0 A k B L ns vals ((a, lst (vs.take i.toNat) 0) :: N) s' → Q (.ref a) s') : SliceAt Q (.ref l) (.int i t) s := by
  refine ⟨l, vs, i, t, rfl, rfl, hi, hl.isList, hz, ?_⟩
  have F1 := (F.push (o := { cls := .type "slice", data := .fields #[.none, .int i t, .none] }) rfl rfl s.toks).push (o := lst (vs.take i.toNat) 0) rfl list_ne s.toks
  have F2 := F1.sub ((List.sublist_cons_self _ _).cons_cons _)
  have := q _ _ F2
  dsimp only at this
  rw [Heap.size_push] at this
  exact this
theorem SliceAt.mkI {l : Addr} {vs : List Value} {i : Int} {t : Tok} (F : Fx b0 A k B L ns vals N s) (hl : s.heap.IsList l vs.toArray) (hi : 0 ≤ i) (hz : vs.length ≤ 1000) (q : ∀ a s', Fx b0 A k B L ns vals ((a, lst (vs.take i.toNat) 0) :: N) s' → Q (.ref a) s') : SliceAt Q (.ref l) (.int i t) s := by
  refine ⟨l, vs, i, t, rfl, rfl, hi, hl, hz, ?_⟩
  have F1 := (F.push (o := { cls := .type "slice", data := .fields #[.none, .int i t, .none] }) rfl rfl s.toks).push (o := lst (vs.take i.toNat) 0) rfl list_ne s.toks
  have F2 := F1.sub ((List.sublist_cons_self _ _).cons_cons _)
  have := q _ _ F2
  dsimp only at this
  rw [Heap.size_push] at this
  exact this
theorem ev_upto {value up : Expr} {p pos : Pos} (h : wpAny (model prog w) A (eval value env) (fun o s₁ => wpAny (model prog w) A (eval up env) (fun vu s₂ => SliceAt Q o vu s₂) E s₁) E s) :
    wpAny (model prog w) A (eval (.Subscript value (.Slice none (some up) none p) pos) env) Q E s := by
  refine Subscript_ (wpAny_mono h (fun o s₁ h₁ => wpAny_Slice (wpAny_evalPart_none (wpAny_evalPart_some (wpAny_mono h₁ (fun vu s₂ h₂ => ?_) fun _ _ e => e)))) fun _ _ e => e)
  obtain ⟨l, vs, i, t, rfl, rfl, hi, hl, hz, hq⟩ := h₂
  rw [evalPart_none]
  refine wpAny_pure ?_
  refine tail_any (ops := [.ref s₂.heap.objs.size, .ref l]) (hl.push _).typeIs slot_list_getitem.lookup (wpAny_getItem_list_slice (hl.push _) (Heap.IsSliceOf.new ..) .none (.int i t) .none (by simp) ?_ (by simp [sizeLine]; omega)) rfl
  obtain ⟨n, rfl⟩ := Int.eq_ofNat_of_zero_le hi
  rw [Heap.size_push]
  show Q _ { s₂ with heap := (s₂.heap.push _).push { cls := .type "list", data := .seq (slicePick vs.toArray none (some ((n : Nat) : Int)) none) } }
  rw [slicePick_upto']
  exact hq
theorem ev_tuple {elts : List Expr} {c : Nat} {pos : Pos} (h : wpAny (model prog w) A (spliced (backTo pos (starEach elts env))) (fun vs s₁ => wpAny (model prog w) A (newTuple vs) Q E s₁) E s) : wpAny (model prog w) A (eval (.Tuple elts c pos) env) Q E s := Tuple_ h
theorem newT {vs : List Value} (F : Fx b0 A k B L ns vals N s) (hz : vs.length ≤ 1000) (q : ∀ a s', Fx b0 A k B L ns vals ((a, tupO vs) :: N) s' → Q (.ref a) s') : wpAny (model prog w) A (newTuple vs) Q E s :=
  wpAny_newObj_type (q _ _ (F.push (o := tupO vs) rfl rfl s.toks)) (by show vs.toArray.size ≤ sizeLine; simp [sizeLine]; omega)
-- comparisons
theorem eqAt_lists {a b : Addr} {ps qs : List Bt} (hne : a ≠ b) (h1 : Lst s.heap a (mkB ps)) (h2 : Lst s.heap b (mkB qs)) (e : ps.map (·.1.toList) = qs.map (·.1.toList)) (hu : A.units < cLine) : SeqAt.EqAt A s (.ref a) (.ref b) true := by
  have hlen : ps.length = qs.length := by simpa using congrArg List.length e
  refine SeqAt.EqAt.of_refs hne ?_
  have := SeqAt.RcAt.lists (A := A) (s := s) (e := fun _ => true) h1.isList h2.isList (by simp [len_mkB, hlen]) hu (fun j j1 j2 => ?_)
  · have e' : (List.range (mkB ps).toArray.size).all (fun _ => true) = true := List.all_eq_true.mpr fun _ _ => rfl
    rw [e'] at this; exact this
  · simp [len_mkB] at j1 j2
    have ej : ps[j].1.toList = qs[j].1.toList := by
      have := congrArg (fun l => l[j]?) e
      simpa [j1, j2] using this
    have : MeetsSeq.EqGives (.bytes ps[j].1 ps[j].2) (.bytes qs[j].1 qs[j].2) (decide (ps[j].1.toList = qs[j].1.toList)) := fun _ _ _ _ _ _ h => eqBool_bytes h
    rw [decide_eq_true ej] at this
    simpa [mkB] using this.at A.in1 s
theorem op_neT {t u a b c d : Addr} {p1 p2 q1 q2 : List Bt} (F : Fx b0 A k B L ns vals N s) (ht : s.heap.get? t = some (tupO [.ref a, .ref b])) (hu : s.heap.get? u = some (tupO [.ref c, .ref d])) (ha : Lst s.heap a (mkB p1)) (hb : Lst s.heap b (mkB p2)) (hc : Lst s.heap c (mkB q1)) (hd : Lst s.heap d (mkB q2))
    (e1 : p1.map (·.1.toList) = q1.map (·.1.toList)) (e2 : p2.map (·.1.toList) = q2.map (·.1.toList)) (n1 : a ≠ c) (n2 : b ≠ d) (q : Q (.bool false) s) : wpAny (model prog w) A (compareOp .NotEq (.ref t) (.ref u)) Q E s := by
  have hun := F.cx.units
  have hin : A.in1.units < cLine := by show A.units + 1 < cLine; omega
  have := SeqAt.RcNeAt.tuples (A := A) (s := s) (l := t) (b := u) (items := #[.ref a, .ref b]) (items2 := #[.ref c, .ref d]) (e := fun _ => true) ⟨_, ht, rfl, 0, rfl⟩ ⟨_, hu, rfl, 0, rfl⟩ (by omega) (fun j j1 j2 => ?_)
  · exact this prog w E Q q
  · match j, j1, j2 with
    | 0, _, _ => exact eqAt_lists n1 ha hc e1 hin
    | 1, _, _ => exact eqAt_lists n2 hb hd e2 hin
    | j + 2, j1, _ => simp at j1; omega
theorem op_neB {a b : Bool} (q : Q (.bool (!(a == b))) s) : wpAny (model prog w) A (compareOp .NotEq (.bool a) (.bool b)) Q E s := SeqAt.RcNeAt.bool_bool a b prog w E Q q
theorem op_eqI {a b : Addr} {vs us : List Value} {l m : List Int} (F : Fx b0 A (k + 16) B L ns vals N s) (h1 : Lst s.heap a vs) (h2 : Lst s.heap b us) (i1 : IntsAre vs l) (i2 : IntsAre us m) (q : Q (.bool (decide (l = m))) s) : wpAny (model prog w) A (compareOp .Eq (.ref a) (.ref b)) Q E s :=
  ke_eq_ints h1.isList h2.isList i1 i2 (by have := F.cx.units; omega) q
theorem op_neI {a b : Addr} {vs us : List Value} {l m : List Int} (F : Fx b0 A (k + 16) B L ns vals N s) (h1 : Lst s.heap a vs) (h2 : Lst s.heap b us) (i1 : IntsAre vs l) (i2 : IntsAre us m) (q : Q (.bool (!decide (l = m))) s) : wpAny (model prog w) A (compareOp .NotEq (.ref a) (.ref b)) Q E s :=
  ke_ne_ints h1.isList h2.isList i1 i2 (by have := F.cx.units; omega) q
end
section
variable {M : Model} {A : Around} {E : Value → Shared → Prop} {s : Shared}
theorem note_first {base : Heap} {env : Env} {outer : List Env} {L e : Addr} {oe : Obj} {vs : Array Value} {a0 : Value} {Q : Unit → Shared → Prop}
    (hfr : A.frames = some (env :: outer)) (hl : s.heap.FunFrames base (env :: outer)) (hf : env.frame = some L) (he : s.heap.get? e = some oe) (hkb : base.StaysIn s.heap) (hen : base.get? e = none) (hd : oe.data = .fields vs) (h1 : vs[1]? = some .none) (h0 : vs[0]? = some a0)
    (h : ∀ h', Heap.NotedW base (env :: outer) e oe.cls a0 (rawInt L) s.heap h' → Q () { s with heap := h' }) : wpAny M A (noteFrame (.ref e) env) Q E s := by
  unfold noteFrame
  simp only [hf]
  refine wpAny_bind (wpAny_field he hd h1 ?_)
  rw [if_neg (by decide)]
  exact wpAny_entryW hfr hl hf he hkb hen hd (Array.getElem?_eq_some_iff.mp h1).1 h0 h
theorem flight_some {base : Heap} {l : List Env} {e L : Addr} {cls a0 : Value} {Q : Unit → Shared → Prop} (hh : Heap.HeldW base l e cls a0 L s.heap) (h : ∀ h', Heap.HeldW base l e cls a0 L h' → s.heap.UpToSlots h' → Q () { s with heap := h' }) :
    wpAny M A (setFlight (.ref e) (some L)) Q E s := by
  obtain ⟨hkb, hen, hl, oe, vs, T, oT, ts, he, hcls, hd, h1, hnT, hTe, hT, hdT, h3⟩ := hh
  have hsz3 : 3 < ts.size := (Array.getElem?_eq_some_iff.mp h3).1
  have other : ∀ b, b ≠ T → (s.heap.update T (Obj.mapFields (·.setIfInBounds 3 ((some L : Option Addr).elim Value.none fun f => rawInt f)))).get? b = s.heap.get? b :=
    fun b hb => Heap.get?_update_other _ _ (Ne.symm hb)
  have noRecord : ∀ b o, s.heap.get? b = some o → (∀ vs, o.data ≠ .fields vs) → b ≠ T := fun b o hb hnf q => by
    rw [q, hT] at hb; injection hb with hb; subst hb; exact hnf ts hdT
  unfold setFlight
  refine wpAny_bind (wpAny_field he hd h1 ?_)
  rw [if_pos (show (Value.ref T != Value.none) = true from by simp)]
  refine wpAny_setField hT hdT hsz3 (h _ ⟨fun b o hbo => (other b fun q => by rw [q, hnT] at hbo; cases hbo).trans (hkb b o hbo), hen,
    hl.of_keeps fun b o hb hnf => ⟨o, (other b (noRecord b o hb hnf)).trans hb, rfl⟩, ?_⟩ fun b o hb hnf => ⟨o.slots, (other b (noRecord b o hb hnf)).trans hb⟩)
  exact ⟨oe, vs, T, _, _, (other e (Ne.symm hTe)).trans he, hcls, hd, h1, hnT, hTe, Heap.get?_update_self _ hT (Obj.isFreed_of_fields (Obj.data_mapFields hdT _)), Obj.data_mapFields hdT _, by simp [hsz3]⟩
theorem came_back {base : Heap} {env : Env} {l : List Env} {e L : Addr} {cls a0 : Value} (hf : env.frame = some L) (hh : Heap.HeldW base l e cls a0 L s.heap) (h : ∀ h', Heap.HeldW base l e cls a0 L h' → s.heap.UpToSlots h' → E (.ref e) { s with heap := h' }) :
    cameBackBy M A env E (.ref e) s := by
  obtain ⟨hkb, hen, hl, oe, vs, T, oT, ts, he, hcls, hd, h1, hnT, hTe, hT, hdT, h3⟩ := id hh
  unfold cameBackBy
  refine wpAny_bind (wpAny_field he hd h1 ?_)
  rw [if_neg (show ¬ ((Value.ref T == Value.none) = true) from by simp), hf]
  first
    | exact flight_some hh h
    | exact wpAny_bind (wpAny_pure (flight_some hh h))
end
/-- a raised ValueError that frame L holds; s₀ is the state at the raise -/
noncomputable def Held (A : Around) (env : Env) (L e : Addr) (s₀ s : Shared) : Prop :=
  ∃ outer a0, A.frames = some (env :: outer) ∧ Heap.HeldW (hideAll s₀.heap ((env :: outer).filterMap (·.frame))) (env :: outer) e (.type "ValueError") a0 L s.heap ∧ s₀.heap.UpToSlots s.heap ∧ s.gens = s₀.gens ∧ s.os = s₀.os
section
variable {prog : Program} {w : World} {A : Around} {E : Value → Shared → Prop} {s s₀ s' : Shared} {env : Env} {ns gs : List Str} {b0 : Heap} {k : Nat} {B : Shared} {L : Addr} {vals vals' : List (Option Value)} {N N' : Ledger}
theorem grow_held {l : List Env} {h' : Heap} {s' : Shared} (fr : Frs b0 l s₀.heap) (st : (hideAll s₀.heap (l.filterMap (·.frame))).StaysIn h') (up : s₀.heap.UpToSlots h') (hh : s'.heap = h') (hg : s'.gens = s₀.gens) (ho : s'.os = s₀.os) : Grow b0 s₀ s' := by
  have isF : ∀ b, b ∈ l.filterMap (·.frame) → b0.get? b = none ∧ ∃ o, s₀.heap.get? b = some o ∧ dictD o.data = true := fun b hb => by
    obtain ⟨env, he, hf⟩ := List.mem_filterMap.mp hb
    exact ⟨(fr.1.mem hb).1, fr.2 env he b hf⟩
  subst hh
  refine ⟨fun b o e c => st b o (hideAll_get _ e fun hb => ?_), fun b o e => ?_, hg, ho⟩
  · obtain ⟨h0, o', e', d'⟩ := isF b hb
    rcases c with c | c
    · have : o' = o := Option.some.inj (e'.symm.trans e)
      subst this; rw [c] at d'; cases d'
    · rw [h0] at c; cases c
  · by_cases hb : b ∈ l.filterMap (·.frame)
    · obtain ⟨h0, o', e', d'⟩ := isF b hb
      have : o' = o := Option.some.inj (e'.symm.trans e)
      subst this
      obtain ⟨sl, hs⟩ := up b o' e (fun vs q => by rw [q] at d'; cases d')
      exact ⟨_, hs, rfl, rfl⟩
    · exact ⟨o, st b o (hideAll_get _ e hb), rfl, rfl⟩
theorem held_first {e : Addr} {h₁ : Heap} {tk : Nat} {Q : Unit → Shared → Prop} (F : Fx b0 A k B L ns vals N s) (O : Own env A L) (hx : Heap.NewExc s.heap h₁ e "ValueError") (q : ∀ s', Held A env L e s s' → Q () s') :
    wpAny (model prog w) A (noteFrame (.ref e) env) Q E { s with heap := h₁, toks := tk } := by
  obtain ⟨l, el, fr⟩ := F.cx.frames
  obtain ⟨outer, eo⟩ := O.top
  obtain rfl : l = env :: outer := Option.some.inj (el.symm.trans eo)
  obtain ⟨ob, t, ho, hc, hd⟩ := hx.there
  have hin : ∀ env' ∈ (env :: outer), ∀ a, env'.frame = some a → a ∈ (env :: outer).filterMap (·.frame) := fun env' he a ha => List.mem_filterMap.mpr ⟨env', he, ha⟩
  have ff : h₁.FunFrames (hideAll s.heap ((env :: outer).filterMap (·.frame))) (env :: outer) := (funFrames_hide fr.1 hin).of_keeps fun b o hb _ => ⟨o, hx.keeps b o hb, rfl⟩
  refine note_first (s := { s with heap := h₁, toks := tk }) (base := hideAll s.heap ((env :: outer).filterMap (·.frame))) eo ff O.frame ho (fun b o hb => hx.keeps b o (of_hideAll _ hb)) ?_ hd (by simp) (a0 := t) (by simp) fun h' hN => q _ ?_
  · cases q : (hideAll s.heap ((env :: outer).filterMap (·.frame))).get? e with
    | none => rfl
    | some o => have := of_hideAll _ q; rw [hx.new] at this; cases this
  · obtain ⟨k1, k2, k3, k4⟩ := hN
    refine ⟨outer, t, eo, ⟨k1, ?_, k2, hc ▸ k3⟩, (Heap.UpToSlots.of_keeps hx.keeps).trans k4, rfl, rfl⟩
    cases q : (hideAll s.heap ((env :: outer).filterMap (·.frame))).get? e with
    | none => rfl
    | some o => have := of_hideAll _ q; rw [hx.new] at this; cases this
theorem held_back {e : Addr} (O : Own env A L) (h : Held A env L e s₀ s) (q : ∀ s', Held A env L e s₀ s' → E (.ref e) s') : cameBackBy (model prog w) A env E (.ref e) s := by
  obtain ⟨outer, a0, eo, hh, up, hg, ho⟩ := h
  exact came_back O.frame hh fun h' hh' up' => q _ ⟨outer, a0, eo, hh', up.trans up', hg, ho⟩
theorem rm_raise {d : Addr} {ps : List Bt} {n : Nat} {b : Array UInt8} {t : Tok} {Q : Value → Shared → Prop} (F : Fx b0 A k B L ns vals N s) (hl : s.heap.get? d = some (lst (mkB ps) n)) (hno : ∀ p ∈ ps, p.1.toList ≠ b.toList) (q : ∀ h' tk e, Heap.NewExc s.heap h' e "ValueError" → E (.ref e) { s with heap := h', toks := tk }) :
    wpAny (model prog w) A (call (.builtin "list.remove") [.ref d, .bytes b t]) Q E s := by
  refine call_meets PySem.F.slot_list_remove ⟨_, hl, rfl⟩ PySem.F.entry_list_remove (PySem.F.args_list_remove_2 _ _) (MeetsSeq.list_remove_none d (mkB ps).toArray n (.bytes b t) (isB b) (fun y hy => eq_isB b t ps y (by simpa using hy)) ?_) ⟨hl, F.cx.handled, fun h' tk e hx => q h' tk e hx⟩
  intro m hm
  have : (mkB ps).toArray[m] = .bytes (ps[m]'(by simpa [mkB] using hm)).1 (ps[m]'(by simpa [mkB] using hm)).2 := by simp [mkB]
  rw [this]
  have := hno _ (List.getElem_mem (by simpa [mkB] using hm : m < ps.length))
  simpa [isB] using this
theorem x_try {body rest : List Stmt} {np p rp hp tpos : Pos} {c : Nat} {v : Bool} {Q : Flow → Shared → Prop} (S : Sc env L ns gs) (O : Own env A L) (D : Std w b0) (hg : ("ValueError" : Str) ∈ gs)
    (h : wpAny (model prog w) A (execs body env) (Then (fun s' => wpAny (model prog w) A (execs rest env) Q No s') Q) (fun e s' => ∃ a s₀ B N vals k, e = .ref a ∧ Held A env L a s₀ s' ∧ Fx b0 A k B L ns vals N s₀ ∧ ∀ s'', Grow b0 s₀ s'' → Q (.ret (.bool v)) s'') s) :
    wpAny (model prog w) A (execs (.Try body [.ExceptHandler (some (.Name "ValueError" np)) none [.Return (some (.Constant (.bool v) c p)) rp] hp] [] [] tpos :: rest) env) Q No s := by
  refine wpAny_execs_cons (wpAny_Try_except (wpAny_mono h (fun f s₁ h₁ => ?_) fun e s₁ h₁ => ?_))
  · cases f with
    | next => exact wpAny_execs_nil h₁
    | _ => exact h₁
  · obtain ⟨a, s₀, B₀, N₀, vals₀, k₀, rfl, ⟨outer, a0, eo, hh, up, hg₁, ho₁⟩, F₀, q⟩ := h₁
    obtain ⟨l, el, fr⟩ := F₀.cx.frames
    obtain rfl : l = env :: outer := Option.some.inj (el.symm.trans eo)
    refine wpAny_noteFrame_againW O.frame hh.2.2.2 (wpAny_landsW hh fun h₂ hf₂ up₂ => ?_)
    have g₂ : Grow b0 s₀ { s₁ with heap := h₂ } := grow_held fr hf₂.1 (up.trans up₂) rfl hg₁ ho₁
    have F₂ := F₀.later g₂
    obtain ⟨ob, hob, hobc⟩ := hf₂.there
    obtain ⟨_, _, mg, mb, T⟩ := D.T
    refine wpAny_handleBy_builtin (X := "ValueError") (T := "ValueError") (b := true) PySem.F.isExc_ValueError PySem.F.notTuple_ValueError (by rw [isSubtype_type]; kernel_rfl) ?_
    refine Name_function_global S.kind (S.gls _ hg) (loadGlobal_builtin (by rw [S.glob]; exact T.g.keeps F₂.cx.stays) (mg_none_of D.X T.g (by exact rfl)) (by rw [S.blt]; exact T.b.keeps F₂.cx.stays) ((T.builtins _ (by decide +kernel)).trans PyProof.Rows.Boot.«ValueError») ⟨rfl, ⟨ob, hob, hobc⟩, ?_⟩) (S.dbg _ (.inr hg))
    refine lands_againW hf₂ fun h₃ hf₃ up₃ => ?_
    have g₃ : Grow b0 s₀ { s₁ with heap := h₃ } := grow_held fr hf₃.1 ((up.trans up₂).trans up₃) rfl hg₁ ho₁
    exact wpAny_execs_cons (wpAny_Return_some (wpAny_Constant_bool (q _ g₃)))
end
section
variable {prog : Program} {w : World} {A : Around} {E : Value → Shared → Prop} {s s₀ s' : Shared} {env : Env} {ns gs : List Str} {b0 : Heap} {k : Nat} {B : Shared} {L : Addr} {vals vals' : List (Option Value)} {N N' : Ledger}
/-- the ends of a for statement that may raise -/
noncomputable def ForPost (prog : Program) (w : World) (A : Around) (env : Env) (E : Value → Shared → Prop) (K : Flow → Shared → Prop) : Result → Shared → Prop := fun r s' => match r with
  | .ok f => K f s'
  | .error e => cameBackBy (model prog w) A env E e s'
theorem ForPost.ok {K : Flow → Shared → Prop} {f : Flow} (h : K f s) : ForPost prog w A env E K (.ok f) s := h
theorem ForPost.err {K : Flow → Shared → Prop} {e : Value} (h : cameBackBy (model prog w) A env E e s) : ForPost prog w A env E K (.error e) s := h
theorem ev_not {x : Expr} {pos : Pos} {Q : Value → Shared → Prop} (h : wpAny (model prog w) A (eval x env) (fun v s₁ => wpAny (model prog w) A (truthy v) (fun b s₂ => Q (.bool (!b)) s₂) E s₁) E s) : wpAny (model prog w) A (eval (.UnaryOp .Not x pos) env) Q E s :=
  wpAny_UnaryOp (wpAny_mono h (fun v s₁ h₁ => by
    unfold unaryOp
    exact wpAny_holding (wpAny_bind (wpAny_mono h₁ (fun b s₂ h₂ => wpAny_pure h₂) fun _ _ x => x))) fun _ _ x => x)
theorem x_forE {x : Str} {px pos : Pos} {iter : Expr} {body rest : List Stmt} {Q : Flow → Shared → Prop}
    (h : wpAny (model prog w) A (eval iter env) (fun xv s₁ => wpAny (model prog w) A (pyIter xv) (fun it s₂ => codeAny (model prog w) A (.forLoop (.Name x px) it body [] env) (ForPost prog w A env E (Then (fun s' => wpAny (model prog w) A (execs rest env) Q E s') Q)) s₂) E s₁) E s)
    (hs : ∀ x, foldedSetIterable iter env x = pure x) : wpAny (model prog w) A (execs (.For (.Name x px) iter body [] pos :: rest) env) Q E s := by
  refine wpAny_execs_cons (wpAny_For (wpAny_mono h (fun xv s₁ h₁ => wpAny_mono h₁ (fun it s₂ h₂ => codeAny_mono h₂ fun r s' h => ?_) fun _ _ x => x) fun _ _ x => x) hs)
  cases r with
  | error e => exact h
  | ok f => cases f <;> exact h
theorem for_listE {a : Addr} {vs : List Value} {x : Str} {px : Pos} {body : List Stmt} {R : Result → Shared → Prop} (F : Fx b0 A k B L ns vals N s) (l : Lst B.heap a vs)
    (Inv : Nat → Shared → List (Option Value) → Ledger → Prop) (h0 : Inv 0 B vals N)
    (turn : ∀ i v I B' vals' N' io s', vs[i]? = some v → Grow b0 B B' → ∀ K : Flow → Shared → Prop, (∀ f s₃, Turn b0 A k L ns Inv (i + 1) B' (I, io) f s₃ → K f s₃) → ∀ E' : Value → Shared → Prop, (∀ e s₃, notedBy (model prog w) A env (fun e s' => R (.error e) s') e s₃ → E' e s₃) → Inv i B' vals' N' → Fx b0 A k B' L ns vals' ((I, io) :: N') s' →
      wpAny (model prog w) A (storeName env x v) (fun _ s₂ => wpAny (model prog w) A (execs body env) K E' s₂) No s')
    (done : ∀ B' vals' N' s', Grow b0 B B' → Inv vs.length B' vals' N' → Fx b0 A k B' L ns vals' N' s' → R (.ok .next) s') :
    wpAny (model prog w) A (pyIter (.ref a)) (fun it s₂ => codeAny (model prog w) A (.forLoop (.Name x px) it body [] env) R s₂) E s := by
  have ls := F.old l
  refine wpAny_pyIter_list ls.isList ?_
  obtain ⟨n, e⟩ := l
  obtain ⟨n', e'⟩ := ls
  have hne : a ≠ s.heap.objs.size := Nat.ne_of_lt (Heap.lt_size e')
  have Fp := F.push (o := { cls := .type "list_iterator", data := .fields #[.ref a, .int 0 0] }) rfl rfl s.toks
  have W := Walks.list (prog := prog) (w := w) F.cx.handled s.heap.objs.size a hne vs.toArray
  have hz : vs.toArray.size = vs.length := by simp
  refine for_walk W (fun i h st => ?_) (fun b hb => ?_) Inv Fp ?_ h0 (fun i v B' vals' N' io s' hlt hP g hI F' => turn i v _ B' vals' N' io s' (by simpa using hP) g _ (fun _ _ x => x) _ (fun _ _ x => x) hI F') (by rw [hz]; exact done)
  · obtain ⟨⟨o, ho, hc, hd⟩, _⟩ := st
    exact ⟨o, _, ho, hd, by rw [hd]; rfl⟩
  · rcases List.mem_cons.mp hb with rfl | hb
    · exact .inl rfl
    · rw [List.mem_singleton.mp hb]; exact .inr ⟨_, e, list_ne⟩
  · exact ⟨⟨_, Heap.get?_push_size _ rfl, rfl, rfl⟩, ⟨_, Heap.get?_push_of_some _ e', rfl, n', rfl⟩⟩
end
section
variable {prog : Program} {w : World} {A : Around} {E : Value → Shared → Prop} {s s₀ s' : Shared} {env : Env} {ns gs : List Str} {b0 : Heap} {k : Nat} {B : Shared} {L : Addr} {vals vals' : List (Option Value)} {N N' : Ledger}
theorem x_tryN {body rest : List Stmt} {h₀ : ExceptHandler} {hs : List ExceptHandler} {tpos : Pos} {Q : Flow → Shared → Prop} (h : wpAny (model prog w) A (execs body env) (Then (fun s' => wpAny (model prog w) A (execs rest env) Q No s') Q) No s) :
    wpAny (model prog w) A (execs (.Try body (h₀ :: hs) [] [] tpos :: rest) env) Q No s := by
  refine wpAny_execs_cons (wpAny_Try_except (wpAny_mono h (fun f s₁ h₁ => ?_) fun e s₁ h₁ => h₁.elim))
  cases f with
  | next => exact wpAny_execs_nil h₁
  | _ => exact h₁
theorem th_join {body : List Stmt} {P K : Shared → Prop} {Q : Flow → Shared → Prop} (h : wpAny (model prog w) A (execs body env) (Then P Q) E s) (hk : ∀ s', P s' → K s') : wpAny (model prog w) A (execs body env) (Then K Q) E s :=
  wpAny_mono h (fun f s' x => by cases f with
    | next => exact hk _ x
    | _ => exact x) fun _ _ x => x
/-- a state without two of its objects -/
noncomputable def without (s : Shared) (a b : Addr) : Shared := { s with heap := hideAll s.heap [a, b] }
theorem without_get {a b c : Addr} {o : Obj} (e : (without s a b).heap.get? c = some o) : s.heap.get? c = some o ∧ c ≠ a ∧ c ≠ b := by
  refine ⟨of_hideAll _ e, fun q => ?_, fun q => ?_⟩
  · have := hideAll_none [a, b] (h := s.heap) (b := c) (by simp [q]); unfold without at e; rw [this] at e; cases e
  · have := hideAll_none [a, b] (h := s.heap) (b := c) (by simp [q]); unfold without at e; rw [this] at e; cases e
theorem get_without {a b c : Addr} {o : Obj} (e : s.heap.get? c = some o) (h1 : c ≠ a) (h2 : c ≠ b) : (without s a b).heap.get? c = some o := hideAll_get _ e (by simp [h1, h2])
theorem grow_without {a b : Addr} : Grow b0 (without s a b) s := ⟨fun c o e _ => (without_get e).1, fun c o e => ⟨o, (without_get e).1, rfl, rfl⟩, rfl, rfl⟩
/-- two objects of the base become the frame's own -/
theorem Fx.take2 {a b : Addr} {oa ob : Obj} (F : Fx b0 A k s L ns vals [] s') (ha : s.heap.get? a = some oa) (hb : s.heap.get? b = some ob) (da : dictD oa.data = false) (db : dictD ob.data = false) (a0 : b0.get? a = none) (c0 : b0.get? b = none) (hab : a ≠ b) :
    Fx b0 A k (without s a b) L ns vals [(a, oa), (b, ob)] s' := by
  have nL : ∀ c o, s.heap.get? c = some o → L ≠ c := fun c o e q => by rw [← q, F.off] at e; cases e
  refine ⟨F.cx, grow_without.trans F.grow, F.ns, ?_, F.off0, fun p hp => ?_, ?_⟩
  · cases q : (without s a b).heap.get? L with
    | none => rfl
    | some o => have := (without_get q).1; rw [F.off] at this; cases this
  · rcases List.mem_cons.mp hp with rfl | hp
    · exact ⟨F.grow.keep _ _ ha (.inl da), hideAll_none _ (by simp), a0, da⟩
    · rcases List.mem_cons.mp hp with rfl | hp
      · exact ⟨F.grow.keep _ _ hb (.inl db), hideAll_none _ (by simp), c0, db⟩
      · cases hp
  · simp only [List.map_cons, List.map_nil, List.nodup_cons, List.mem_cons, List.not_mem_nil, or_false, not_or, not_false_eq_true, List.nodup_nil, and_true]
    exact ⟨⟨nL _ _ ha, nL _ _ hb⟩, hab⟩
/-- a call changed two of the ledger's objects -/
theorem Fx.change2 {a b : Addr} {oa ob oa' ob' : Obj} (F : Fx b0 A k B L ns vals ((a, oa) :: (b, ob) :: N) s) (g : Grow b0 (without s a b) s') (ha : s'.heap.get? a = some oa') (hb : s'.heap.get? b = some ob') (da : dictD oa'.data = false) (db : dictD ob'.data = false)
    (ra : ∀ vs, oa'.data ≠ .fields vs) (rb : ∀ vs, ob'.data ≠ .fields vs) :
    Fx b0 A k B L ns vals ((a, oa') :: (b, ob') :: N) s' := by
  have A1 := F.news _ (.head _)
  have B1 := F.news _ (.tail _ (.head _))
  have nd := F.nodup
  simp only [List.map_cons, List.nodup_cons, List.mem_cons, not_or] at nd
  have hN : ∀ p ∈ N, p.1 ≠ a ∧ p.1 ≠ b := fun p hp => ⟨fun q => nd.2.1.2 (q ▸ List.mem_map_of_mem hp), fun q => nd.2.2.1 (q ▸ List.mem_map_of_mem hp)⟩
  have old : ∀ c o, c ≠ a → c ≠ b → s.heap.get? c = some o → (dictD o.data = false ∨ (b0.get? c).isSome = true) → s'.heap.get? c = some o := fun c o h1 h2 e q => g.keep c o (get_without e h1 h2) q
  have slot : ∀ c o, c ≠ a → c ≠ b → s.heap.get? c = some o → ∃ o', s'.heap.get? c = some o' ∧ o'.cls = o.cls ∧ o'.data = o.data := fun c o h1 h2 e => g.slot c o (get_without e h1 h2)
  refine ⟨⟨fun c o e => old c o (fun q => by rw [q, A1.2.2.1] at e; cases e) (fun q => by rw [q, B1.2.2.1] at e; cases e) (F.cx.stays c o e) (.inr (by rw [e]; rfl)), ?_, F.cx.room, F.cx.units, F.cx.handled⟩, ⟨fun c o e q => ?_, fun c o e => ?_, g.gens.trans F.grow.gens, g.os.trans F.grow.os⟩, ?_, F.off, F.off0, fun p hp => ?_, ?_⟩
  · obtain ⟨l, el, fr⟩ := F.cx.frames
    refine ⟨l, el, fr.of fun c o e hd => ?_⟩
    by_cases h1 : c = a
    · subst h1
      have : o = oa := Option.some.inj (e.symm.trans A1.1)
      subst this
      exact ⟨oa', ha, ra, fun q => by rw [A1.2.2.2] at q; cases q⟩
    · by_cases h2 : c = b
      · subst h2
        have : o = ob := Option.some.inj (e.symm.trans B1.1)
        subst this
        exact ⟨ob', hb, rb, fun q => by rw [B1.2.2.2] at q; cases q⟩
      · obtain ⟨o', e', _, d'⟩ := slot c o h1 h2 e
        exact ⟨o', e', (fun vs => d' ▸ hd vs), fun q => d' ▸ q⟩
  · exact old c o (fun z => by rw [z, A1.2.1] at e; cases e) (fun z => by rw [z, B1.2.1] at e; cases e) (F.grow.keep c o e q) q
  · obtain ⟨o₁, e₁, c₁, d₁⟩ := F.grow.slot c o e
    obtain ⟨o₂, e₂, c₂, d₂⟩ := slot c o₁ (fun z => by rw [z, A1.2.1] at e; cases e) (fun z => by rw [z, B1.2.1] at e; cases e) e₁
    exact ⟨o₂, e₂, c₂.trans c₁, d₂.trans d₁⟩
  · obtain ⟨m, ⟨oL, es, ep, eL, dL, rL⟩, hl⟩ := F.ns
    obtain ⟨o₂, e₂, _, d₂⟩ := slot L oL nd.1.1 nd.1.2.1 eL
    exact ⟨m, ⟨o₂, es, ep, e₂, d₂.trans dL, rL⟩, hl⟩
  · rcases List.mem_cons.mp hp with rfl | hp
    · exact ⟨ha, A1.2.1, A1.2.2.1, da⟩
    · rcases List.mem_cons.mp hp with rfl | hp
      · exact ⟨hb, B1.2.1, B1.2.2.1, db⟩
      · obtain ⟨e, r⟩ := F.news p (.tail _ (.tail _ hp))
        exact ⟨old _ _ (hN p hp).1 (hN p hp).2 e (.inl r.2.2), r⟩
  · simpa only [List.map_cons, List.nodup_cons, List.mem_cons, not_or] using nd
end
noncomputable def scOkC (scope : Scope) (ns gs : List Str) : Bool :=
  scope.kind == .function && !scope.isCoroutine && !scope.isGenerator && namesOk scope ns gs
/-- a def's body that has one cell, from a call of its address -/
theorem enterC {prog : Program} {w : World} {A : Around} {s : Shared} {b0 : Heap} {k : Nat} {R : Result → Shared → Prop} {f : Addr} {name qual : Str} {params : Arguments} {body : List Stmt} {scope : Scope} {dV kV doc pm cdv ct oc : Value} {an od : Option Addr} {osl : Array (Option Value)}
    {args : List Value} {binds : List (Str × Value)} {ns gs : List Str} {vals : List (Option Value)} {cn : Str} {cv : Value} (D : Std w b0) (C : Cx b0 A (k + 1) s)
    (ho : (KK w).lookup f = some ⟨oc, od, .func (fnOf name qual params body scope dV kV doc pm an cdv ct), osl⟩) (hcd : codeIn (KK w) cdv qual = true)
    (hbind : bindArgs (fnOf name qual params body scope dV kV doc pm an cdv ct) ⟨args, []⟩ = pure binds) (hloc : (binds.all fun y => scope.names.lookup y.1 == some .local || scope.names.lookup y.1 == some .cell) = true) (hsc : scOkC scope ns gs = true)
    (hcs : ∀ n, cellsFrom n scope.names [] = [(cn, n)]) (hck : scope.names.lookup cn = some .cell) (hdb : (cn == ("__debug__" : Str)) = false)
    (hv : Loc (bindL (fun n => scope.names.lookup n) binds fun _ => none) ns vals) (hcv : bindC (fun n => scope.names.lookup n) binds (fun _ => none) cn = some cv)
    (h : ∀ env A' L c B' s₁, Sc env L ns gs → Fx b0 A' k B' L ns vals [] s₁ → env.cells = [(cn, c)] → Cel env cn c → Grow b0 s B' → B'.heap.IsCell c (some cv) → wpAny (model prog w) A' (execs body env) (Ret R) No s₁) :
    codeAny (model prog w) A (.call (.ref f) ⟨args, []⟩) R s := by
  unfold scOkC at hsc
  simp only [Bool.and_eq_true, beq_iff_eq, Bool.not_eq_true'] at hsc
  obtain ⟨⟨⟨hk, hco⟩, hge⟩, hno⟩ := hsc
  obtain ⟨_, _, _, _, T⟩ := D.T
  refine codeAny_call_cells (fd := fnOf name qual params body scope dV kV doc pm an cdv ct) (body := body) (binds := binds) (by have := C.room; omega) (C.stays _ _ (D.X _ _ ho)) rfl (T.nolimit.keeps C.stays) (codeRec_of (D.X.keeps C.stays) hcd) rfl hbind rfl
    (kindsX hloc _) (fun s₁ x => ?_) hco hge hk
  obtain ⟨h₁, tk, rfl, hk₁⟩ := x.done
  generalize he : callEnvC (fnOf name qual params body scope dV kV doc pm an cdv ct) s.heap.objs.size f = env at x ⊢
  have hes : env.scope = scope := by rw [← he]; rfl
  have heL : env.locals = s.heap.objs.size := by rw [← he]; rfl
  have hef : env.frame = some s.heap.objs.size := by rw [← he]; rfl
  have hec : env.cells = [(cn, s.heap.objs.size + 1)] := by rw [← he]; exact hcs _
  have hko : env.kindOf = fun n => scope.names.lookup n := by funext n; show env.scope.names.lookup n = _; rw [hes]
  have Sx : Sc env s.heap.objs.size ns gs := Sc.of (by rw [hes]; exact hk) (by rw [hes]; exact hno) heL (by rw [← he]; rfl) (by rw [← he]; rfl)
  have hnew : s.heap.get? s.heap.objs.size = none := Heap.get?_none_of_le (Nat.le_refl _)
  have hn0 : b0.get? s.heap.objs.size = none := by
    cases q : b0.get? s.heap.objs.size with
    | none => rfl
    | some o => have := C.stays _ _ q; rw [hnew] at this; cases this
  have G : Grow b0 s { s with heap := h₁, toks := tk } := Grow.of_keeps hk₁
  have C' := C.grow G
  have hns : h₁.Ns s.heap.objs.size (bindL (fun n => scope.names.lookup n) binds fun _ => none) := by
    have := x.toInCall.ns
    rw [heL, hko] at this; exact this
  have hcell : h₁.IsCell (s.heap.objs.size + 1) (some cv) := by
    have := x.cell cn (s.heap.objs.size + 1) (by rw [hec]; simp)
    rw [hko, hcv] at this; exact this
  have F0 : Fx b0 (A.deeper env) k s s.heap.objs.size ns vals [] { s with heap := h₁, toks := tk } := by
    refine ⟨⟨C'.stays, ?_, ?_, ?_, C.handled⟩, G, ⟨_, hns, hv⟩, hnew, hn0, fun p hp => (nomatch hp), by simp⟩
    · obtain ⟨l, el, fl⟩ := C'.frames
      refine ⟨env :: l, by show (A.frames.map _) = _; rw [el]; rfl, ?_⟩
      obtain ⟨o, es, ep, ho', hd', _⟩ := hns
      refine ⟨⟨by rw [hes, hk]; decide, ⟨_, o, hef, hn0, ho', fun vs => by rw [hd']; exact fun q => by cases q⟩, fl.1⟩, fun env' he' L hL => ?_⟩
      rcases List.mem_cons.mp he' with rfl | he'
      · rw [hef] at hL
        exact ⟨o, by rw [← Option.some.inj hL]; exact ho', by rw [hd']; rfl⟩
      · exact fl.2 env' he' L hL
    · show A.depth + 1 + k < recursionLimit; have := C.room; omega
    · show A.units + 3 + 4 * k + 8 < cLine; have := C.units; omega
  obtain ⟨B', gB, F1, hold⟩ := F0.rebase
  refine wpAny_mono (h env (A.deeper env) s.heap.objs.size (s.heap.objs.size + 1) B' _ Sx F1 hec ⟨by rw [hko]; exact hck, by rw [hec]; simp, hdb⟩ gB ?_) (fun f _ x => by cases f <;> exact x) (fun _ _ x => x.elim)
  obtain ⟨o, e, d⟩ := hcell
  exact ⟨o, hold _ _ e (Nat.succ_ne_self _) (by simp), d⟩
section
variable {prog : Program} {w : World} {A : Around} {E : Value → Shared → Prop} {s s₀ s' : Shared} {env : Env} {ns gs : List Str} {b0 : Heap} {k : Nat} {B : Shared} {L : Addr} {vals vals' : List (Option Value)} {N N₀ : Ledger} {Q : Value → Shared → Prop}
theorem ev_cellB {x : Str} {pos : Pos} {c : Addr} {v : Value} (S : Sc env L ns gs) (C : Cel env x c) (F : Fx b0 A k B L ns vals N s) (hc : B.heap.IsCell c (some v)) (q : Q v s) : wpAny (model prog w) A (eval (.Name x pos) env) Q E s :=
  ev_cell S C (isCell_grow hc F.grow) q
/-- what a call made new is the frame's own -/
theorem Fx.own {t : Addr} {o : Obj} (F : Fx b0 A k B L ns vals N s) (F₀ : Fx b0 A k B L ns vals' N₀ s₀) (hN : ∀ p ∈ N, p.1 ∈ N₀.map (·.1) ∨ p.1 ≠ t) (hn : s₀.heap.get? t = none) (ho : s.heap.get? t = some o) (hd : dictD o.data = false) : Fx b0 A k B L ns vals ((t, o) :: N) s := by
  refine ⟨F.cx, F.grow, F.ns, F.off, F.off0, fun p hp => ?_, ?_⟩
  · rcases List.mem_cons.mp hp with rfl | hp
    · refine ⟨ho, F₀.grow.there hn, ?_, hd⟩
      cases q : b0.get? t with
      | none => rfl
      | some o' => have := F₀.cx.stays _ _ q; rw [hn] at this; cases this
    · exact F.news p hp
  · have hL : L ≠ t := fun q => by obtain ⟨m, ⟨o, _, _, e, _⟩, _⟩ := F₀.ns; rw [q, hn] at e; cases e
    have hN' : t ∉ N.map (·.1) := fun q => by
      obtain ⟨p₁, hp₁, e₁⟩ := List.mem_map.mp q
      rcases hN p₁ hp₁ with q | q
      · rw [e₁] at q
        obtain ⟨p, hp, e⟩ := List.mem_map.mp q
        have := (F₀.news p hp).1; rw [e, hn] at this; cases this
      · exact q e₁
    have := F.nodup
    simp only [List.map_cons, List.nodup_cons, List.mem_cons, not_or] at this ⊢
    exact ⟨⟨hL, this.1⟩, hN', this.2⟩
end
local macro_rules | `(tactic| walk_at "at") => `(tactic| first | with_reducible exact At.head | (with_reducible refine' At.tail ?sgh; (case sgh => walk_at "at")))
local macro_rules | `(tactic| walk_at "put") => `(tactic| first | with_reducible exact Put.head | (with_reducible refine' Put.tail ?sgh; (case sgh => walk_at "put")))
local macro_rules | `(tactic| walk_at "mem") => `(tactic| first | with_reducible exact List.mem_cons_self | (with_reducible refine List.mem_cons_of_mem _ ?_; walk_at "mem"))
local macro_rules | `(tactic| walk_at "up") => `(tactic| first | with_reducible exact Up.head | (with_reducible refine' Up.tail ?sgh; (case sgh => walk_at "up")))
local macro_rules | `(tactic| walk_at "lst") => `(tactic| first | exact Fx.lst ‹_› (by walk_at "mem") | exact Fx.old ‹_› ‹_› | assumption)
local macro_rules | `(tactic| walk_at "z") => `(tactic| k_dflt (first | assumption | exact Nat.le_of_ble_eq_true rfl | (simp only [List.length_append, len_mkI, len_mkB, List.length_cons, List.length_nil, List.length_set, List.length_take, sizeLine]; omega) | omega))
local macro_rules | `(tactic| walk_at "def") => `(tactic| with_reducible first | exact f_dedup _ | exact f_compare _ | exact f_from _ | exact f_ascii _ | exact f_buffer _ | exact f_truth _ | exact f_b64v _ | exact f_a2b _ | exact f_b2a _ | exact f_enc _ | exact f_dec _ | exact f_uld _ | exact f_page _ | exact f_gaps _ | exact f_octets _ | exact f_shelves _ | exact f_cache _ | exact f_agree _)
local macro_rules | `(tactic| walk_at "blt") => `(tactic| with_reducible first | exact d_len _ | exact d_range _ | exact d_bytes _ | exact d_list _ | exact d_min _ | exact d_type _ | exact d_isinstance _ | exact d_str _ | exact d_bool _)
local macro_rules | `(tactic| walk_at "idx") => `(tactic| k_dflt (first | with_reducible assumption | exact ⟨by decide, by decide, rfl⟩))
local macro_rules | `(tactic| walk_at "bidx") => `(tactic| k_dflt (first | with_reducible assumption | with_reducible exact idx63 _))
local macro_rules | `(tactic| walk_at "rfl") => `(tactic| with_unfolding_all exact rfl)
local macro_rules | `(tactic| walk_at "b") => `(tactic| k_dflt (first
  | with_reducible rfl
  | assumption
  | decide
  | exact decide_eq_true (by omega)
  | exact decide_eq_false (by omega)
  | exact beq_iff_eq.mpr (by omega)
  | exact beq_eq_false_iff_ne.mpr (by omega)
  | exact bne_iff_ne.mpr (by omega)
  | exact bne_eq_false_iff_eq.mpr (by omega)))
local macro_rules | `(tactic| walk_at "ie") => `(tactic| first
  | with_reducible exact IE.con
  | (with_reducible refine' IE.var ?sgh; (case sgh => walk_at "at"))
  | (with_reducible refine' IE.add ?l ?r; (case l => walk_at "ie"); (case r => walk_at "ie"))
  | (with_reducible refine' IE.sub ?l ?r; (case l => walk_at "ie"); (case r => walk_at "ie"))
  | (with_reducible refine' IE.and ?l ?r; (case l => walk_at "ie"); (case r => walk_at "ie"))
  | (with_reducible refine' IE.or ?l ?r; (case l => walk_at "ie"); (case r => walk_at "ie"))
  | (with_reducible refine' IE.shr ?l ?r ?c; (case l => walk_at "ie"); (case r => walk_at "ie"); (case c => first | assumption | decide | omega))
  | (with_reducible refine' IE.shl ?l ?r ?c ?d ?e; (case l => walk_at "ie"); (case r => walk_at "ie"); (case c => first | assumption | decide | omega); (case d => first | decide | omega); (case e => omega))
  | (with_reducible refine' IE.mul ?l ?r ?c; (case l => walk_at "ie"); (case r => walk_at "ie"); (case c => first | assumption | decide | omega)))
local macro_rules | `(tactic| walk_at "exec") => `(tactic| first
  | (with_reducible refine' x_int ‹_› ‹_› ?sg1 ?sg2 ?sg3 ?_; (case sg1 => walk_at "ie"); (case sg2 => intro _; walk_at "put"); (case sg3 => walk_at "rfl"))
  | (with_reducible refine' x_assign ?_ ?sg2; (case sg2 => walk_at "rfl"))
  | (with_reducible refine' x_setitem ?_ ?sg2; (case sg2 => walk_at "rfl"))
  | with_reducible refine' x_if ?_
  | (with_reducible refine' x_then ?sg1 ?_; (case sg1 => walk_at "b"))
  | (with_reducible refine' x_else ?sg1 ?_; (case sg1 => walk_at "b"))
  | with_reducible refine' x_nil ?_
  | with_reducible refine' x_ret ?_
  | (with_reducible refine' x_expr ?_ ‹_› ?sg2; (case sg2 => walk_at "rfl"))
  | (with_reducible refine' x_for ?_ ?sg2; (case sg2 => intro _; walk_at "rfl"))
  | with_reducible refine' x_while ?_)
local macro_rules | `(tactic| walk_at "call def") => `(tactic| first
  | (with_reducible refine' c_def ‹_› ‹_› ‹_› ?sg1 ?sg2 ?_ ?sg4 ?sg5; (case sg1 => walk_at "mem"); (case sg2 => walk_at "def"); (case sg4 => walk_at "rfl"); (case sg5 => walk_at "rfl"))
  | (with_reducible refine' c_blt ‹_› ‹_› ‹_› ?sg1 ?sg2 ?_ ?sg4 ?sg5; (case sg1 => walk_at "mem"); (case sg2 => walk_at "blt"); (case sg4 => walk_at "rfl"); (case sg5 => walk_at "rfl"))
  | (with_reducible refine' c_defK ‹_› ‹_› ‹_› ?sg1 ?sg2 ?_ ?sg4 ?sg5; (case sg1 => walk_at "mem"); (case sg2 => walk_at "def"); (case sg4 => walk_at "rfl"); (case sg5 => walk_at "rfl"))
  | (with_reducible refine' c_meth (name := "append") (id := "list.append") ?_ ?sg2 ?sg3 ?sg4; (case sg2 => walk_at "rfl"); (case sg3 => walk_at "rfl"); (case sg4 => walk_at "rfl"))
  | (with_reducible refine' c_meth (name := "remove") (id := "list.remove") ?_ ?sg2 ?sg3 ?sg4; (case sg2 => walk_at "rfl"); (case sg3 => walk_at "rfl"); (case sg4 => walk_at "rfl"))
  | (with_reducible refine' c_meth (name := "index") (id := "list.index") ?_ ?sg2 ?sg3 ?sg4; (case sg2 => walk_at "rfl"); (case sg3 => walk_at "rfl"); (case sg4 => walk_at "rfl"))
  | (with_reducible refine' c_meth (name := "extend") (id := "list.extend") ?_ ?sg2 ?sg3 ?sg4; (case sg2 => walk_at "rfl"); (case sg3 => walk_at "rfl"); (case sg4 => walk_at "rfl"))
  | (with_reducible refine' c_meth0 (name := "pop") (id := "list.pop") ?_ ?sg2; (case sg2 => walk_at "rfl")))
local macro_rules | `(tactic| walk_at "eval") => `(tactic| first
  | ((with_reducible show wpAny _ _ (eval (Expr.Name _ _) _) _ _ _); first
    | (with_reducible refine' ev_loc ‹_› ‹_› ?sg1 ?_; (case sg1 => walk_at "at"))
    | with_reducible refine' ev_cellB ‹_› ‹_› ‹_› ‹_› ?_
    | (with_reducible refine' ev_nameB ‹_› ‹_› ‹_› ?sg1 ?sg2 ?_; (case sg1 => walk_at "mem"); (case sg2 => walk_at "blt"))
    | (with_reducible refine' ev_glb ‹_› ‹_› ‹_› ?sg1 ?sg2 ?_; (case sg1 => walk_at "mem"); (case sg2 => assumption)))
  | ((with_reducible show wpAny _ _ (eval (Expr.Constant _ _ _) _) _ _ _); first
    | (with_reducible refine' ev_int ‹_› ?_)
    | with_reducible refine' ev_bool ?_
    | with_reducible refine' ev_none ?_)
  | (with_reducible refine' IE.run ‹_› ?sg1 ‹_› ?_; (case sg1 => walk_at "ie"))
  | with_reducible refine' ev_bin ?_
  | with_reducible refine' ev_upto ?_
  | with_reducible refine' ev_sub ?_
  | ((with_reducible show wpAny _ _ (eval (Expr.Call _ _ _ _) _) _ _ _); walk_at "call def")
  | (with_reducible refine' ev_cmp ?_ ?sg2; (case sg2 => walk_at "rfl"))
  | with_reducible refine' ev_list ?_
  | with_reducible refine' ev_tuple ?_
  | with_reducible refine' ev_ifexp ?_
  | with_reducible refine' ev_not ?_
  | with_reducible refine' ev_un ?_)
local macro_rules | `(tactic| walk_at "iec") => `(tactic| with_reducible first | exact ie_eq | exact ie_ne | exact ie_lt | exact ie_ge | exact ie_le)
local macro_rules | `(tactic| walk_at "true") => `(tactic| first
  | (with_reducible refine' tr_ie ‹_› ‹_› ?sg1 ?sg2 ?sg4 ?sg3 ?_; (case sg1 => walk_at "ie"); (case sg2 => walk_at "ie"); (case sg4 => walk_at "iec"); (case sg3 => walk_at "rfl"))
  | (with_reducible refine' tr_cmp ?_ ?sg2; (case sg2 => walk_at "rfl"))
  | with_reducible refine' tr_call ?_
  | with_reducible refine' tr_name ?_
  | with_reducible refine' tr_not ?_
  | with_reducible refine' tr_op ?_)
local macro_rules | `(tactic| walk_at "binop") => `(tactic| first
  | (with_reducible refine' op_add ‹_› ?_)
  | (with_reducible refine' op_sub ‹_› ?_)
  | (with_reducible refine' op_mul ‹_› ?sg1 ?_; (case sg1 => first | assumption | decide | omega))
  | (with_reducible refine' op_addL ‹_› ?sg1 ?sg2 ?sg3 ?_; (case sg1 => walk_at "lst"); (case sg2 => walk_at "lst"); (case sg3 => walk_at "z"))
  | (with_reducible refine' op_mod ‹_› ?sg1 ?_; (case sg1 => first | assumption | decide | omega)))
local macro_rules | `(tactic| walk_at "cmp") => `(tactic| first
  | with_reducible refine' op_lt ?_
  | with_reducible refine' op_ne ?_
  | (with_reducible refine' op_is ?sg1 ?_; (case sg1 => walk_at "rfl"))
  | (with_reducible refine' op_isnot ?sg1 ?_; (case sg1 => walk_at "rfl"))
  | with_reducible refine' op_neq_bytes ?_
  | with_reducible refine' op_neB ?_
  | (with_reducible refine' nin_list (isB _) ?sg1 (eq_isB _ _ _) ?_; (case sg1 => walk_at "lst"))
  | (with_reducible refine' nin_int ?sg1 ?sg2 ?_; (case sg1 => walk_at "lst"); (case sg2 => assumption))
  | (with_reducible refine' in_int ?sg1 ?sg2 ?_; (case sg1 => walk_at "lst"); (case sg2 => assumption)))
local macro_rules | `(tactic| walk_at "callb") => `(tactic| first
  | (with_reducible refine' ap_list ‹_› ?sg1 ?sg2 ?_; (case sg1 => walk_at "up"); (case sg2 => walk_at "z"); intro s' F'; refine ⟨rfl, ?_⟩)
  | (with_reducible refine' len_list ‹_› ?sg1 ?sg2 ?_; (case sg1 => walk_at "lst"); (case sg2 => walk_at "z"))
  | (with_reducible refine' mk_range1 ‹_› ?_)
  | (with_reducible refine' mk_range3 ‹_› ?sg1 ?_; (case sg1 => first | assumption | decide | omega))
  | (with_reducible refine' cp_list ‹_› ?sg1 ?sg2 ?_; (case sg1 => walk_at "lst"); (case sg2 => walk_at "z"))
  | (with_reducible refine' ex_list ‹_› ?sg1 ?sg2 ?sg3 ?_; (case sg1 => walk_at "up"); (case sg2 => walk_at "lst"); (case sg3 => walk_at "z"); intro s' F'; refine ⟨rfl, ?_⟩)
  | (with_reducible refine' pop_list ‹_› ?sg1 ?sg2 ?_; (case sg1 => walk_at "up"); (case sg2 => walk_at "z"))
  | with_reducible refine' ty_bytes ?_
  | with_reducible refine' ty_bool ?_)
local macro_rules | `(tactic| walk_at "gm") => `(tactic| (with_reducible refine' gm_list ?sg1 ?sg2 ?sg3 ⟨rfl, ?_⟩; (case sg1 => walk_at "lst"); (case sg2 => first | exact PySem.F.slot_list_append | exact PySem.F.slot_list_remove | exact PySem.F.slot_list_index | exact PySem.F.slot_list_extend | exact PySem.F.slot_list_pop); (case sg3 => first | exact PySem.F.type_list_append | exact PySem.F.type_list_remove | exact PySem.F.type_list_index | exact PySem.F.type_list_extend | exact PySem.F.type_list_pop)))
local macro_rules | `(tactic| walk_at "subs") => `(tactic| first
  | (with_reducible refine' sb_list ?sg1 ?sg2 ?sg3 ?_; (case sg1 => walk_at "lst"); (case sg2 => walk_at "rfl"); (case sg3 => walk_at "idx"))
  | (with_reducible refine' sb_bytes ‹_› ?sg1 ?sg2 ?_; (case sg1 => walk_at "rfl"); (case sg2 => walk_at "bidx")))
local macro_rules | `(tactic| walk_at "tree") => `(tactic| first
  | ((with_reducible show wpAny _ _ (eval _ _) _ _ _); walk_at "eval")
  | ((with_reducible show wpAny _ _ (execs _ _) _ _ _); walk_at "exec")
  | (with_reducible refine' st_loc ‹_› ‹_› ?sg1 ?_; (case sg1 => walk_at "put"))
  | with_reducible refine' as_nil ?_
  | (with_reducible refine' as_cons ?_ ?sg2; (case sg2 => walk_at "rfl"))
  | ((with_reducible show wpAny _ _ (binaryOp _ _ _) _ _ _); walk_at "binop")
  | ((with_reducible show wpAny _ _ (compareOp _ _ _) _ _ _); walk_at "cmp")
  | ((with_reducible show wpAny _ _ (isTrue _ _ _) _ _ _); walk_at "true")
  | with_reducible refine' tr_bool ?_
  | with_reducible refine' tr_int ?_
  | (with_reducible refine' tr_list ‹_› ?sg1 ?sg2 ?_; (case sg1 => walk_at "lst"); (case sg2 => walk_at "z"))
  | ((with_reducible show wpAny _ _ (subscriptTail _ _ _ _) _ _ _); walk_at "subs")
  | ((with_reducible show wpAny _ _ (getMethod _ _ _) _ _ _); walk_at "gm")
  | ((with_reducible show wpAny _ _ (call _ _ _) _ _ _); walk_at "callb")
  | (with_reducible refine' newL ‹_› ?sg1 ?_; (case sg1 => walk_at "z"))
  | (with_reducible refine' set_list ‹_› ?sg1 ?sg2 ?sg3 ?_; (case sg1 => walk_at "up"); (case sg2 => k_dflt (first | assumption | omega)); (case sg3 => walk_at "z"))
  | (with_reducible refine' newT ‹_› ?sg1 ?_; (case sg1 => walk_at "z"))
  | (with_reducible refine' op_neg ‹_› ?_)
  | with_reducible refine' or_nil ?_
  | with_reducible refine' or_cons ?_
  | with_reducible refine' and_nil ?_
  | with_reducible refine' and_cons ?_)
local macro_rules | `(tactic| walk_at "s") => `(tactic| first
  | ((with_reducible show wpAny _ _ _ _ _ _); walk_at "tree")
  | with_reducible refine' Then.next ?_
  | with_reducible refine' Then.ret ?_
  | with_reducible refine' Ret.ret ?_
  | with_reducible refine' WNext.next ?_
  | with_reducible refine' FlowPost.ok ?_
  | (with_reducible refine' SliceAt.mk ‹_› ?sg1 ?sg2 ?sg3 ?_; (case sg1 => walk_at "lst"); (case sg2 => omega); (case sg3 => walk_at "z"))
  | (with_reducible refine' Br.t ?sg1 ?_; (case sg1 => walk_at "b"))
  | (with_reducible refine' Br.f ?sg1 ?_; (case sg1 => walk_at "b")))
local macro_rules | `(tactic| walk_at "go") => `(tactic| repeat (walk_at "s"; intros))
noncomputable def b64v (c : Int) : Int := if 65 ≤ c ∧ c ≤ 90 then c - 65 else if 97 ≤ c ∧ c ≤ 122 then c - 71 else if 48 ≤ c ∧ c ≤ 57 then c + 4 else if c = 43 then 62 else if c = 47 then 63 else 64

/-- lo <= x <= hi -/
theorem tr_between {prog : Program} {w : World} {A : Around} {E : Value → Shared → Prop} {s : Shared} {env : Env} {ns gs : List Str} {b0 : Heap} {k : Nat} {B : Shared} {L : Addr} {vals : List (Option Value)} {N : Ledger} {Q : Bool → Shared → Prop} {x : Str} {lo hi c : Int} {t : Tok} {n1 n2 : Nat} {p1 p2 p3 pos : Pos} {whole : Sem Value}
    (S : Sc env L ns gs) (F : Fx b0 A k B L ns vals N s) (h : At ns vals x (.int c t)) (q : ∀ s', Fx b0 A k B L ns vals N s' → Q (decide (lo ≤ c ∧ c ≤ hi)) s') :
    wpAny (model prog w) A (isTrue (.Compare (.Constant (.int lo) n1 p1) [.LtE, .LtE] [.Name x p2, .Constant (.int hi) n2 p3] pos) env whole) Q E s := by
  refine tr_chain (ev_int F fun t1 s1 F1 => ev_loc S F1 h (op_le ⟨_, rfl, fun h1 => ?_, fun h1 => ev_int F1 fun t2 s2 F2 => op_le (tr_bool ?_)⟩)) rfl
  · rw [← show decide (lo ≤ c ∧ c ≤ hi) = false from decide_eq_false fun q => of_decide_eq_false h1 q.1]
    exact q _ F1
  · rw [show decide (c ≤ hi) = decide (lo ≤ c ∧ c ≤ hi) from decide_eq_decide.mpr ⟨fun q => ⟨of_decide_eq_true h1, q⟩, fun q => q.2⟩]
    exact q _ F2
theorem sp_b64v {prog : Program} {w : World} {b0 : Heap} {A : Around} {k : Nat} {s : Shared} {R : Result → Shared → Prop} (D : Std w b0) (C : Cx b0 A (k + 1) s) (c : Int) (t : Tok)
    (h : ∀ t' s', Grow b0 s s' → R (.ok (.ret (.int (b64v c) t'))) s') : codeAny (model prog w) A (.call (.ref 84) ⟨[.int c t], []⟩) R s := by
  refine enter (ns := ["c"]) (gs := []) (vals := [some (.int c t)]) D C (by exact rfl) (by exact rfl) (BindsTo.of_eq (by exact rfl)) (by exact rfl) (by decide +kernel) ⟨rfl, trivial⟩ ?_
  intro env A' L s₁ S F _
  have fin : ∀ {i : Int} {t' : Tok} {s' : Shared}, Grow b0 s s' → b64v c = i → R (.ok (.ret (.int i t'))) s' := fun g e => e ▸ h _ _ g
  clear h
  refine x_if (tr_between S F .head fun s2 F2 => x_both (fun h1 => ?_) fun h1 => ?_)
  · have h1 := of_decide_eq_true h1
    walk_at "go"
    exact fin (Fx.grow ‹_›) (by unfold b64v; rw [if_pos h1])
  have h1 := of_decide_eq_false h1
  refine x_nil (Then.next ?_)
  refine x_if (tr_between S F2 .head fun s3 F3 => x_both (fun h2 => ?_) fun h2 => ?_)
  · have h2 := of_decide_eq_true h2
    walk_at "go"
    exact fin (Fx.grow ‹_›) (by unfold b64v; rw [if_neg h1, if_pos h2])
  have h2 := of_decide_eq_false h2
  refine x_nil (Then.next ?_)
  refine x_if (tr_between S F3 .head fun s4 F4 => x_both (fun h3 => ?_) fun h3 => ?_)
  · have h3 := of_decide_eq_true h3
    walk_at "go"
    exact fin (Fx.grow ‹_›) (by unfold b64v; rw [if_neg h1, if_neg h2, if_pos h3])
  have h3 := of_decide_eq_false h3
  clear F F2 F3
  by_cases h4 : c = 43
  · walk_at "go"
    exact fin (Fx.grow ‹_›) (by unfold b64v; rw [if_neg h1, if_neg h2, if_neg h3, if_pos h4])
  by_cases h5 : c = 47
  · walk_at "go"
    exact fin (Fx.grow ‹_›) (by unfold b64v; rw [if_neg h1, if_neg h2, if_neg h3, if_neg h4, if_pos h5])
  · walk_at "go"
    exact fin (Fx.grow ‹_›) (by unfold b64v; rw [if_neg h1, if_neg h2, if_neg h3, if_neg h4, if_neg h5])
section
variable {prog : Program} {w : World} {A : Around} {E : Value → Shared → Prop} {s : Shared} {ns : List Str} {b0 : Heap} {k : Nat} {B : Shared} {L : Addr} {vals : List (Option Value)} {N : Ledger} {Q : Value → Shared → Prop}
theorem go_b64v {c : Int} {t : Tok} (D : Std w b0) (F : Fx b0 A (k + 1) B L ns vals N s) (q : ∀ t' s', Fx b0 A (k + 1) B L ns vals N s' → Q (.int (b64v c) t') s') : b0.StaysIn s.heap ∧ codeAny (model prog w) A (.call (.ref 84) ⟨[.int c t], []⟩) (wants Q E) s :=
  ⟨F.cx.stays, sp_b64v D F.cx c t fun t' s' g => q t' s' (F.later g)⟩
end
noncomputable def hasB (b : Array UInt8) (ps : List Bt) : Bool := ps.any fun p => decide (p.1.toList = b.toList)
theorem any_isB (b : Array UInt8) (ps : List Bt) : (mkB ps).any (isB b) = hasB b ps := by
  unfold mkB hasB; rw [List.any_map]; rfl
noncomputable def dedupStep (acc : List Bt) (p : Bt) : List Bt := if hasB p.1 acc then acc else acc ++ [p]
noncomputable def dedupB (ps : List Bt) : List Bt := ps.foldl dedupStep []
theorem dedupB_len_le (ps : List Bt) : ∀ acc, (ps.foldl dedupStep acc).length ≤ acc.length + ps.length := by
  induction ps with
  | nil => intro acc; simp
  | cons p r ih =>
    intro acc
    rw [List.foldl_cons]
    refine Nat.le_trans (ih _) ?_
    unfold dedupStep
    split <;> simp <;> omega
theorem dedupB_len (ps : List Bt) : (dedupB ps).length ≤ ps.length := by have := dedupB_len_le ps []; simpa [dedupB] using this
theorem mkB_get {ps : List Bt} {i : Nat} {v : Value} (h : (mkB ps)[i]? = some v) : ∃ p, ps[i]? = some p ∧ v = .bytes p.1 p.2 := by
  unfold mkB at h
  rw [List.getElem?_map] at h
  cases q : ps[i]? with
  | none => rw [q] at h; cases h
  | some p => rw [q] at h; exact ⟨p, rfl, (Option.some.inj h).symm⟩
theorem mkB_snoc (ps : List Bt) (p : Bt) : mkB (ps ++ [p]) = mkB ps ++ [.bytes p.1 p.2] := by simp [mkB]
theorem dedupB_take {ps : List Bt} {i : Nat} {p : Bt} (h : ps[i]? = some p) : dedupB (ps.take (i + 1)) = dedupStep (dedupB (ps.take i)) p := by
  unfold dedupB
  rw [List.take_add_one, h]
  simp
theorem sp_dedup {prog : Program} {w : World} {b0 : Heap} {A : Around} {k : Nat} {s : Shared} {R : Result → Shared → Prop} {a : Addr} {ps : List Bt} (D : Std w b0) (C : Cx b0 A (k + 1) s) (l : Lst s.heap a (mkB ps)) (hz : ps.length ≤ 1000)
    (h : ∀ a' s', Grow b0 s s' → s.heap.get? a' = none → Lst s'.heap a' (mkB (dedupB ps)) → R (.ok (.ret (.ref a'))) s') : codeAny (model prog w) A (.call (.ref 28) ⟨[.ref a], []⟩) R s := by
  refine enter (ns := ["unhashable_params", "new_unhashable", "t"]) (gs := []) (vals := [some (.ref a), none, none]) D C (by exact rfl) (by exact rfl) (BindsTo.of_eq (by exact rfl)) (by exact rfl) (by decide +kernel) ⟨rfl, trivial⟩ ?_
  intro env A' L s₁ S F _
  walk_at "go"
  rename_i d _ _ hd s₂ F₂
  refine for_list F₂ l (fun i B' vals' N' => B' = s ∧ ∃ v n, vals' = [some (.ref a), some (.ref d), v] ∧ N' = [(d, lst (mkB (dedupB (ps.take i))) n)]) ⟨rfl, none, 0, rfl, rfl⟩ ?_ ?_
  · rintro i v I B' vals' N' io s' hv g K hK ⟨rfl, v0, n, rfl, rfl⟩ F
    obtain ⟨p, hp, rfl⟩ := mkB_get hv
    have hzz : (mkB (dedupB (ps.take i))).length ≤ sizeLine := by
      have h1 := dedupB_len (ps.take i)
      have h2 : (ps.take i).length ≤ ps.length := by simp; omega
      rw [len_mkB]; unfold sizeLine; omega
    walk_at "go"
    refine x_both (fun hb => ?_) fun hb => ?_
    · rw [any_isB, Bool.not_eq_true'] at hb
      walk_at "go"
      refine hK _ _ (Turn.next ‹_› ?_)
      refine ⟨rfl, _, n + 1, rfl, ?_⟩
      rw [dedupB_take hp, dedupStep, if_neg (by rw [hb]; exact Bool.false_ne_true), mkB_snoc]
    · rw [any_isB, Bool.not_eq_false'] at hb
      walk_at "go"
      refine hK _ _ (Turn.next ‹_› ?_)
      refine ⟨rfl, _, n, rfl, ?_⟩
      rw [dedupB_take hp, dedupStep, if_pos hb]
  · rintro B' vals' N' s' g ⟨rfl, v0, n, rfl, rfl⟩ F
    rw [len_mkB, List.take_length] at F
    walk_at "go"
    exact h _ _ F.grow (F.news _ (.head _)).2.1 (F.lst (.head _))
theorem sp_truth {prog : Program} {w : World} {b0 : Heap} {A : Around} {k : Nat} {s : Shared} {R : Result → Shared → Prop} (D : Std w b0) (C : Cx b0 A (k + 1) s) (c : Bool)
    (h : ∀ s', Grow b0 s s' → R (.ok (.ret (.bool c))) s') : codeAny (model prog w) A (.call (.ref 77) ⟨[.bool c], []⟩) R s := by
  refine enter (ns := ["x", "t"]) (gs := ["type", "bool"]) (vals := [some (.bool c), none]) D C (by exact rfl) (by exact rfl) (BindsTo.of_eq (by exact rfl)) (by exact rfl) (by decide +kernel) ⟨rfl, trivial⟩ ?_
  intro env A' L s₁ S F _
  walk_at "go"
  cases c
  all_goals
    walk_at "go"
    exact h _ (Fx.grow ‹_›)
theorem sp_buffer {prog : Program} {w : World} {b0 : Heap} {A : Around} {k : Nat} {s : Shared} {R : Result → Shared → Prop} (D : Std w b0) (C : Cx b0 A (k + 1) s) (c : Array UInt8) (t : Tok)
    (h : ∀ s', Grow b0 s s' → R (.ok (.ret (.bytes c t))) s') : codeAny (model prog w) A (.call (.ref 70) ⟨[.bytes c t], []⟩) R s := by
  refine enter (ns := ["data", "t"]) (gs := ["type", "bytes"]) (vals := [some (.bytes c t), none]) D C (by exact rfl) (by exact rfl) (BindsTo.of_eq (by exact rfl)) (by exact rfl) (by decide +kernel) ⟨rfl, trivial⟩ ?_
  intro env A' L s₁ S F _
  walk_at "go"
  exact h _ (Fx.grow ‹_›)
theorem sp_ascii {prog : Program} {w : World} {b0 : Heap} {A : Around} {k : Nat} {s : Shared} {R : Result → Shared → Prop} (D : Std w b0) (C : Cx b0 A (k + 1) s) (c : Array UInt8) (t : Tok)
    (h : ∀ s', Grow b0 s s' → R (.ok (.ret (.bytes c t))) s') : codeAny (model prog w) A (.call (.ref 63) ⟨[.bytes c t], []⟩) R s := by
  refine enter (ns := ["data", "t"]) (gs := ["type", "bytes", "str"]) (vals := [some (.bytes c t), none]) D C (by exact rfl) (by exact rfl) (BindsTo.of_eq (by exact rfl)) (by exact rfl) (by decide +kernel) ⟨rfl, trivial⟩ ?_
  intro env A' L s₁ S F _
  walk_at "go"
  exact h _ (Fx.grow ‹_›)
theorem sp_from {prog : Program} {w : World} {b0 : Heap} {A : Around} {k : Nat} {s : Shared} {R : Result → Shared → Prop} (D : Std w b0) (C : Cx b0 A (k + 1) s) (c : Array UInt8) (t : Tok)
    (h : ∀ s', Grow b0 s s' → R (.ok (.ret (.bytes c t))) s') : codeAny (model prog w) A (.call (.ref 43) ⟨[.bytes c t], []⟩) R s := by
  refine enter (ns := ["s"]) (gs := ["isinstance", "str", "bytes_types"]) (vals := [some (.bytes c t)]) D C (by exact rfl) (by exact rfl) (BindsTo.of_eq (by exact rfl)) (by exact rfl) (by decide +kernel) ⟨rfl, trivial⟩ ?_
  intro env A' L s₁ S F _
  walk_at "go"
  refine isi_bytes D ‹_› (r := false) (by kernel_rfl) ?_
  intro s' F'
  walk_at "go"
  refine ev_glb (v := .ref 36) S D ‹_› (by walk_at "mem") (by kernel_rfl) ?_
  walk_at "go"
  refine isi_bytesT D ‹_› (its := [.type "bytes", .type "bytearray"]) (r := true) (by exact rfl) (by kernel_rfl) ?_
  intro s' F'
  walk_at "go"
  exact h _ (Fx.grow ‹_›)
section
variable {prog : Program} {w : World} {A : Around} {E : Value → Shared → Prop} {s : Shared} {ns : List Str} {b0 : Heap} {k : Nat} {B : Shared} {L : Addr} {vals : List (Option Value)} {N : Ledger} {Q : Value → Shared → Prop}
theorem go_truth {c : Bool} (D : Std w b0) (F : Fx b0 A (k + 1) B L ns vals N s) (q : ∀ s', Fx b0 A (k + 1) B L ns vals N s' → Q (.bool c) s') : b0.StaysIn s.heap ∧ codeAny (model prog w) A (.call (.ref 77) ⟨[.bool c], []⟩) (wants Q E) s :=
  ⟨F.cx.stays, sp_truth D F.cx c fun s' g => q s' (F.later g)⟩
theorem go_buffer {c : Array UInt8} {t : Tok} (D : Std w b0) (F : Fx b0 A (k + 1) B L ns vals N s) (q : ∀ s', Fx b0 A (k + 1) B L ns vals N s' → Q (.bytes c t) s') : b0.StaysIn s.heap ∧ codeAny (model prog w) A (.call (.ref 70) ⟨[.bytes c t], []⟩) (wants Q E) s :=
  ⟨F.cx.stays, sp_buffer D F.cx c t fun s' g => q s' (F.later g)⟩
theorem go_ascii {c : Array UInt8} {t : Tok} (D : Std w b0) (F : Fx b0 A (k + 1) B L ns vals N s) (q : ∀ s', Fx b0 A (k + 1) B L ns vals N s' → Q (.bytes c t) s') : b0.StaysIn s.heap ∧ codeAny (model prog w) A (.call (.ref 63) ⟨[.bytes c t], []⟩) (wants Q E) s :=
  ⟨F.cx.stays, sp_ascii D F.cx c t fun s' g => q s' (F.later g)⟩
theorem go_from {c : Array UInt8} {t : Tok} (D : Std w b0) (F : Fx b0 A (k + 1) B L ns vals N s) (q : ∀ s', Fx b0 A (k + 1) B L ns vals N s' → Q (.bytes c t) s') : b0.StaysIn s.heap ∧ codeAny (model prog w) A (.call (.ref 43) ⟨[.bytes c t], []⟩) (wants Q E) s :=
  ⟨F.cx.stays, sp_from D F.cx c t fun s' g => q s' (F.later g)⟩
end
local macro_rules | `(tactic| walk_at "s") => `(tactic| ((with_reducible show _ ∧ codeAny _ _ _ _ _); first
  | (with_reducible refine' go_truth ‹_› ‹_› ?_)
  | (with_reducible refine' go_buffer ‹_› ‹_› ?_)
  | (with_reducible refine' go_ascii ‹_› ‹_› ?_)
  | (with_reducible refine' go_from ‹_› ‹_› ?_)
  | (with_reducible refine' go_b64v ‹_› ‹_› ?_)))
noncomputable def b64tab : List UInt8 := [65, 66, 67, 68, 69, 70, 71, 72, 73, 74, 75, 76, 77, 78, 79, 80, 81, 82, 83, 84, 85, 86, 87, 88, 89, 90, 97, 98, 99, 100, 101, 102, 103, 104, 105, 106, 107, 108, 109, 110, 111, 112, 113, 114, 115, 116, 117, 118, 119, 120, 121, 122, 48, 49, 50, 51, 52, 53, 54, 55, 56, 57, 43, 47]
theorem g_b64 (w : World) : ∃ t, nsIn (KK w) mainGlobals "_B64" = some (some (.bytes b64tab.toArray t)) := ⟨_, rfl⟩
noncomputable def octs (b : Array UInt8) : List Int := b.toList.map fun c => (c.toNat : Int)
noncomputable def tabI (i : Int) : Int := ((b64tab.getD i.toNat 0).toNat : Int)
noncomputable def encStep (st : Int × Int × List Int) (b : Int) : Int × Int × List Int :=
  let lc := (st.2.1 * 256 + b) % 65536
  if st.1 = 0 then (2, lc, st.2.2 ++ [tabI (lc / 4 % 64)])
  else if st.1 = 2 then (4, lc, st.2.2 ++ [tabI (lc / 16 % 64)])
  else (0, lc, st.2.2 ++ [tabI (lc / 64 % 64), tabI (lc % 64)])
noncomputable def encI (bs : List Int) : Int × Int × List Int := bs.foldl encStep (0, 0, [])
theorem idx63 (y : Int) : 0 ≤ Builtin.bitAnd y 63 ∧ Builtin.bitAnd y 63 < (b64tab.toArray.size : Int) ∧ b64tab.toArray.size ≤ 1000000 := by
  rw [bitAnd_m6]; have : b64tab.toArray.size = 64 := by decide
  rw [this]; omega
local macro_rules | `(tactic| walk_at "bidx") => `(tactic| first | with_reducible assumption | with_reducible exact idx63 _)
theorem tabI_range (i : Int) : 0 ≤ tabI i ∧ tabI i < 256 := by
  unfold tabI
  have := (b64tab.getD i.toNat 0).toNat_lt
  omega
theorem octs_len (c : Array UInt8) : (octs c).length = c.size := by simp [octs]
theorem end_zero {n : Nat} {lb : Int} (hq : lb = (2 * (n : Int)) % 6) (h3 : n % 3 = 0) : lb = 0 := by omega
theorem enc_range : ∀ (l : List Int) (st : Int × Int × List Int), (∀ v ∈ st.2.2, 0 ≤ v ∧ v < 256) → ∀ v ∈ (l.foldl encStep st).2.2, 0 ≤ v ∧ v < 256
  | [], _, h => h
  | b :: l, st, h => enc_range l _ fun v hv => by
    unfold encStep at hv
    dsimp only at hv
    split at hv
    · rcases List.mem_append.mp hv with hv | hv
      · exact h v hv
      · rw [List.mem_singleton.mp hv]; exact tabI_range _
    · split at hv
      · rcases List.mem_append.mp hv with hv | hv
        · exact h v hv
        · rw [List.mem_singleton.mp hv]; exact tabI_range _
      · rcases List.mem_append.mp hv with hv | hv
        · exact h v hv
        · simp only [List.mem_cons, List.not_mem_nil, or_false] at hv
          rcases hv with rfl | rfl <;> exact tabI_range _
theorem mkI_snoc (ps : List It) (p : It) : mkI (ps ++ [p]) = mkI ps ++ [.int p.1 p.2] := by simp [mkI]
theorem enc_take {c : Array UInt8} {i : Nat} {x : UInt8} (h : c[i]? = some x) : encI ((octs c).take (i + 1)) = encStep (encI ((octs c).take i)) (x.toNat : Int) := by
  unfold encI
  have : (octs c)[i]? = some (x.toNat : Int) := by unfold octs; rw [List.getElem?_map]; simp [h]
  rw [List.take_add_one, this]
  simp
theorem tabE (q : Int) (e : Nat) : ((b64tab.toArray.toList.getD (Builtin.bitAnd (q.fdiv (2 ^ e)) 63).toNat 0).toNat : Int) = tabI (q / 2 ^ e % 64) := by
  rw [bitAnd_m6, Int.fdiv_eq_ediv_of_nonneg _ (Int.le_of_lt (kbt_pos e))]; rfl
theorem lc_next {lc x : Int} (h0 : 0 ≤ lc) (hx : 0 ≤ x ∧ x < 256) : Builtin.bitAnd (Builtin.bitOr (lc * 2 ^ (8 : Int).toNat) x) 65535 = (lc * 256 + x) % 65536 := by
  rw [bitAnd_m16, show (8 : Int).toNat = 8 from rfl, or_disj 8 h0 hx.1 hx.2]; rfl
noncomputable def tailQ (q lb : Int) : List Int := if lb < 6 then [] else if lb < 12 then [tabI (q / 2 ^ (lb - 6).toNat % 64)] else [tabI (q / 2 ^ (lb - 6).toNat % 64), tabI (q / 2 ^ (lb - 12).toNat % 64)]
theorem tailQ_step {q lb : Int} (h : 6 ≤ lb) (h2 : lb ≤ 12) : tailQ q lb = tabI (q / 2 ^ (lb - 6).toNat % 64) :: tailQ q (lb - 6) := by
  unfold tailQ
  rw [if_neg (Int.not_lt.mpr h)]
  by_cases h3 : lb < 12
  · rw [if_pos h3, if_pos (by omega)]
  · have : lb = 12 := by omega
    subst this; rfl
theorem tailQ_end {q lb : Int} (h : lb < 6) : tailQ q lb = [] := if_pos h
noncomputable def EOk (st : Int × Int × List Int) : Prop := (st.1 = 0 ∨ st.1 = 2 ∨ st.1 = 4) ∧ 0 ≤ st.2.1 ∧ st.2.1 < 65536
theorem enc_step_tail {lb lc x : Int} {l : List Int} (h : lb = 0 ∨ lb = 2 ∨ lb = 4) : encStep (lb, lc, l) x = ((lb + 8) % 6, (lc * 256 + x) % 65536, l ++ tailQ ((lc * 256 + x) % 65536) (lb + 8)) := by
  rcases h with rfl | rfl | rfl
  · rfl
  · rfl
  · show ((0 : Int), (lc * 256 + x) % 65536, l ++ [tabI ((lc * 256 + x) % 65536 / 64 % 64), tabI ((lc * 256 + x) % 65536 % 64)]) = (0, (lc * 256 + x) % 65536, l ++ [tabI ((lc * 256 + x) % 65536 / 64 % 64), tabI ((lc * 256 + x) % 65536 / 1 % 64)])
    rw [Int.ediv_one]
theorem enc_step_ok {st : Int × Int × List Int} {x : Int} (h : EOk st) : EOk (encStep st x) ∧ (encStep st x).1 = (st.1 + 2) % 6 ∧ (encStep st x).2.2.length ≤ st.2.2.length + 2 := by
  obtain ⟨lb, lc, l⟩ := st
  have hq : 0 ≤ (lc * 256 + x) % 65536 ∧ (lc * 256 + x) % 65536 < 65536 := ⟨Int.emod_nonneg _ (by decide), Int.emod_lt_of_pos _ (by decide)⟩
  obtain ⟨h1, _⟩ := h
  dsimp only at h1
  rcases h1 with rfl | rfl | rfl
  · exact ⟨⟨.inr (.inl rfl), hq⟩, rfl, Nat.le_trans (Nat.le_of_eq List.length_append) (Nat.le_succ _)⟩
  · exact ⟨⟨.inr (.inr rfl), hq⟩, rfl, Nat.le_trans (Nat.le_of_eq List.length_append) (Nat.le_succ _)⟩
  · exact ⟨⟨.inl rfl, hq⟩, rfl, Nat.le_of_eq List.length_append⟩
theorem enc_all_ok : ∀ (l : List Int) (st : Int × Int × List Int) (n : Nat), EOk st → st.1 = (2 * n : Int) % 6 → EOk (l.foldl encStep st) ∧ (l.foldl encStep st).1 = (2 * (n + l.length : Nat) : Int) % 6 ∧ (l.foldl encStep st).2.2.length ≤ st.2.2.length + 2 * l.length
  | [], _, _, h, hn => ⟨h, hn, Nat.le_refl _⟩
  | x :: l, st, n, h, hn => by
    obtain ⟨h1, h2, h3⟩ := enc_step_ok (x := x) h
    obtain ⟨k1, k2, k3⟩ := enc_all_ok l (encStep st x) (n + 1) h1 (by rw [h2, hn, Int.emod_add_emod, show ((n + 1 : Nat) : Int) = (n : Int) + 1 from rfl, Int.mul_add]; rfl)
    refine ⟨k1, k2.trans (by rw [List.length_cons, Nat.add_right_comm]; rfl), Nat.le_trans k3 (Nat.le_trans (Nat.add_le_add_right h3 _) (Nat.le_of_eq (by rw [List.length_cons, Nat.mul_add, Nat.add_assoc, Nat.add_comm 2])))⟩
theorem enc_ok (l : List Int) : EOk (encI l) ∧ (encI l).1 = (2 * l.length : Int) % 6 ∧ (encI l).2.2.length ≤ 2 * l.length := by
  have := enc_all_ok l (0, 0, []) 0 ⟨.inl rfl, Int.le_refl 0, by decide⟩ rfl
  rw [Nat.zero_add] at this
  exact ⟨this.1, this.2.1, Nat.le_trans this.2.2 (Nat.le_of_eq (Nat.zero_add _))⟩
noncomputable def Mod6 (a b : Int) : Prop := a % 6 = b % 6
theorem mod6_next {a b : Int} (h : Mod6 a b) : Mod6 (a - 6) b := by unfold Mod6 at h ⊢; omega
theorem toNat_less {a : Int} (h : 6 ≤ a) : (a - 6).toNat < a.toNat := by omega
theorem le_sub6 {a : Int} (h : 6 ≤ a) : 0 ≤ a - 6 := by omega
theorem sub6_le {a : Int} (h : a ≤ 12) : a - 6 ≤ 12 := by omega
theorem left_le {α : Type} {a b c : List α} {n : Nat} (h : a ++ b = c) (hc : c.length ≤ n) : a.length ≤ n := by
  have := congrArg List.length h
  rw [List.length_append] at this; omega
theorem byte_range (x : UInt8) : (0 : Int) ≤ x.toNat ∧ (x.toNat : Int) < 256 := by have := x.toNat_lt; omega
theorem tailQ_len (q lb : Int) : (tailQ q lb).length ≤ 2 := by
  unfold tailQ
  split
  · exact Nat.zero_le _
  · split
    · exact Nat.le_succ _
    · exact Nat.le_refl _
theorem sp_b2a {prog : Program} {w : World} {b0 : Heap} {A : Around} {k : Nat} {s : Shared} {R : Result → Shared → Prop} (D : Std w b0) (C : Cx b0 A (k + 2) s) (c : Array UInt8) (t : Tok) (hz : c.size ≤ 1000) (h3 : c.size % 3 = 0)
    (h : ∀ t' s', Grow b0 s s' → R (.ok (.ret (.bytes (byteArr (encI (octs c)).2.2) t'))) s') : codeAny (model prog w) A (.call (.ref 100) ⟨[.bytes c t], [("newline", .bool false)]⟩) R s := by
  obtain ⟨tb, hb⟩ := g_b64 w
  refine enter (ns := ["data", "newline", "bin_data", "out", "leftbits", "leftchar", "b"]) (gs := ["_buffer", "_truth", "_B64", "bytes"]) (vals := [some (.bytes c t), some (.bool false), none, none, none, none, none]) D C (by exact rfl) (by exact rfl) (BindsTo.of_eq (by exact rfl)) (by exact rfl) (by decide +kernel) ⟨rfl, rfl, trivial⟩ ?_
  intro env A' L s₁ S F _
  walk_at "go"
  rename_i d _ _ _ _ _ t1 _ _ t2 s2 F2
  refine for_bytes F2 (fun i B' vals' N' => B' = s ∧ ∃ (vs : List Value) (l : List Int) (n : Nat) (lb lc : Int) (tl tc : Tok) (vb : Option Value), vals' = [some (.bytes c t), some (.bool false), some (.bytes c t), some (.ref d), some (.int lb tl), some (.int lc tc), vb] ∧
    N' = [(d, lst vs n)] ∧ IntsAre vs l ∧ encI ((octs c).take i) = (lb, lc, l)) ⟨rfl, [], [], 0, 0, 0, t1, t2, none, rfl, rfl, .nil, rfl⟩ ?_ ?_
  · rintro i x u I B' vals' N' io s' hv g K hK ⟨rfl, vs, l, n, lb, lc, tl, tc, vb, rfl, rfl, hI, he⟩ F
    clear F2 h
    have hx := byte_range x
    have htk := enc_take hv
    have hst := enc_ok ((octs c).take i)
    rw [he] at htk hst
    obtain ⟨⟨hlb, h0, h1⟩, _, hlen⟩ := hst
    dsimp only at hlb h0 h1 hlen
    rw [enc_step_tail hlb] at htk
    have hlc := lc_next h0 hx
    have hr : 0 ≤ lb + 8 ∧ lb + 8 ≤ 12 := by rcases hlb with rfl | rfl | rfl <;> decide
    have hps : l.length ≤ 2 * 1000 := Nat.le_trans hlen (Nat.mul_le_mul_left 2 (Nat.le_trans (List.length_take_le' _ _) (by rw [octs_len]; exact hz)))
    clear he hlen hlb hv hz h3
    walk_at "go"
    rename_i t9 s9 F9 t8 s10 F10
    rw [hlc] at F10
    clear F F9 hlc h0 h1 hx
    generalize (lc * 256 + (x.toNat : Int)) % 65536 = q at *
    have hB : (l ++ tailQ q (lb + 8)).length ≤ 3000 := by
      rw [List.length_append]; exact Nat.le_trans (Nat.add_le_add hps (tailQ_len q (lb + 8))) (by decide)
    refine while_K (fun j s' => ∃ (lb' : Int) (us : List Value) (l' : List Int) (n' : Nat) (t' : Tok), 0 ≤ lb' ∧ lb' ≤ 12 ∧ lb'.toNat = j ∧ Mod6 lb' (lb + 8) ∧ IntsAre us l' ∧ l' ++ tailQ q lb' = l ++ tailQ q (lb + 8) ∧
      Fx b0 A' (k + 1) B' L ["data", "newline", "bin_data", "out", "leftbits", "leftchar", "b"] [some (.bytes c t), some (.bool false), some (.bytes c t), some (.ref d), some (.int lb' t'), some (.int q t9), some (.int x.toNat u)] [(I, io), (d, lst us n')] s') ?_ (lb + 8).toNat ⟨lb + 8, vs, l, n, t8, hr.1, hr.2, rfl, rfl, hI, rfl, F10⟩
    clear F10 hI hps hr
    rintro j s11 K2 Z hK2 hZ ⟨lb', us, l', n', t', g0, g12, rfl, hm, hI, htl, F⟩
    have hz1 : us.length ≤ sizeLine := by
      rw [hI.length]; exact Nat.le_trans (left_le htl hB) (by decide)
    clear hB
    by_cases h6 : 6 ≤ lb'
    · have h7 := le_sub6 h6
      have h8 : decide (6 ≤ lb') = true := decide_eq_true h6
      walk_at "go"
      rename_i F12
      refine hK2 (lb' - 6).toNat _ (toNat_less h6) ⟨lb' - 6, _, _, _, _, h7, sub6_le g12, rfl, mod6_next hm, ints_snoc hI _ _, ?_, F12⟩
      rw [tabE, List.append_assoc, List.singleton_append, ← tailQ_step h6 g12]; exact htl
    · rw [tailQ_end (Int.not_le.mp h6), List.append_nil] at htl
      have h8 : decide (6 ≤ lb') = false := decide_eq_false h6
      walk_at "go"
      rename_i F12
      refine hZ _ ?_
      walk_at "go"
      refine hK _ _ (Turn.next F12 ⟨rfl, _, _, _, _, _, _, _, _, rfl, rfl, hI, ?_⟩)
      rw [htk, ← htl, ← (show lb' % 6 = (lb + 8) % 6 from hm), Int.emod_eq_of_lt g0 (Int.not_le.mp h6)]
  · rintro B' vals' N' s' g ⟨rfl, vs, l, n, lb, lc, tl, tc, vb, rfl, rfl, hI, he⟩ F
    clear F2
    have ho := octs_len c
    have hst := enc_ok (octs c)
    have hr := enc_range (octs c) (0, 0, []) (fun _ h => nomatch h)
    rw [← ho, List.take_length] at he
    unfold encI at he hst h
    rw [he] at hst h hr
    obtain ⟨_, hq, hlen⟩ := hst
    dsimp only at hq hlen
    have : lb = 0 := end_zero hq (ho.symm ▸ h3)
    subst this
    have hIl : l.length ≤ 10000 := Nat.le_trans hlen (Nat.le_trans (Nat.mul_le_mul_left 2 (ho.symm ▸ hz : (octs c).length ≤ 1000)) (by decide))
    clear hq hlen ho hz h3
    walk_at "go"
    exact mk_bytes ‹_› (by walk_at "lst") hI hIl hr fun t' s' F' => h _ _ F'.grow
noncomputable def decStep (st : Int × Int × List Int) (x : Int) : Int × Int × List Int :=
  let v := b64v x
  if st.1 = 0 then (1, v, st.2.2)
  else if st.1 = 1 then (2, v % 16, st.2.2 ++ [st.2.1 * 4 + v / 16])
  else if st.1 = 2 then (3, v % 4, st.2.2 ++ [st.2.1 * 16 + v / 4])
  else (0, 0, st.2.2 ++ [st.2.1 * 64 + v])
noncomputable def decI (bs : List Int) : Int × Int × List Int := bs.foldl decStep (0, 0, [])
theorem b64v_nonneg (x : Int) : 0 ≤ b64v x := by unfold b64v; repeat' split <;> omega
theorem dec_take {c : Array UInt8} {i : Nat} {x : UInt8} (h : c[i]? = some x) : decI ((octs c).take (i + 1)) = decStep (decI ((octs c).take i)) (x.toNat : Int) := by
  unfold decI
  have : (octs c)[i]? = some (x.toNat : Int) := by unfold octs; rw [List.getElem?_map]; simp [h]
  rw [List.take_add_one, this]
  simp
noncomputable def DOk (st : Int × Int × List Int) : Prop := 0 ≤ st.2.1 ∧ (st.1 = 0 ∨ (st.1 = 1 ∧ st.2.1 < 64) ∨ (st.1 = 2 ∧ st.2.1 < 16) ∨ (st.1 = 3 ∧ st.2.1 < 4)) ∧ (∀ p ∈ st.2.2, 0 ≤ p ∧ p < 256)
theorem snoc_ok {l : List Int} {y : Int} (h : ∀ p ∈ l, 0 ≤ p ∧ p < 256) (hy : 0 ≤ y ∧ y < 256) : ∀ p ∈ l ++ [y], 0 ≤ p ∧ p < 256 := fun p hp => by
  rcases List.mem_append.mp hp with hp | hp
  · exact h p hp
  · rw [List.mem_singleton.mp hp]; exact hy
theorem dec_step_ok {st : Int × Int × List Int} {x : Int} (h : DOk st) (hx : b64v x < 64) : DOk (decStep st x) ∧ (decStep st x).1 = (st.1 + 1) % 4 ∧ (decStep st x).2.2.length ≤ st.2.2.length + 1 := by
  obtain ⟨qp, lc, l⟩ := st
  obtain ⟨h0, h1, h2⟩ := h
  have h3 := b64v_nonneg x
  dsimp only at h0 h1 h2
  rcases h1 with h1 | ⟨h1, hl⟩ | ⟨h1, hl⟩ | ⟨h1, hl⟩
  · subst h1; exact ⟨⟨h3, .inr (.inl ⟨rfl, hx⟩), h2⟩, rfl, Nat.le_succ _⟩
  · subst h1; exact ⟨⟨Int.emod_nonneg _ (by decide), .inr (.inr (.inl ⟨rfl, Int.emod_lt_of_pos _ (by decide)⟩)), snoc_ok h2 (show 0 ≤ lc * 4 + b64v x / 16 ∧ lc * 4 + b64v x / 16 < 256 by omega)⟩, rfl, Nat.le_of_eq List.length_append⟩
  · subst h1; exact ⟨⟨Int.emod_nonneg _ (by decide), .inr (.inr (.inr ⟨rfl, Int.emod_lt_of_pos _ (by decide)⟩)), snoc_ok h2 (show 0 ≤ lc * 16 + b64v x / 4 ∧ lc * 16 + b64v x / 4 < 256 by omega)⟩, rfl, Nat.le_of_eq List.length_append⟩
  · subst h1; exact ⟨⟨Int.le_refl 0, .inl rfl, snoc_ok h2 (show 0 ≤ lc * 64 + b64v x ∧ lc * 64 + b64v x < 256 by omega)⟩, rfl, Nat.le_of_eq List.length_append⟩
theorem dec_all_ok : ∀ (l : List Int) (st : Int × Int × List Int) (n : Nat), DOk st → st.1 = (n : Int) % 4 → (∀ x ∈ l, b64v x < 64) → DOk (l.foldl decStep st) ∧ (l.foldl decStep st).1 = ((n + l.length : Nat) : Int) % 4 ∧ (l.foldl decStep st).2.2.length ≤ st.2.2.length + l.length
  | [], _, _, h, hn, _ => ⟨h, hn, Nat.le_refl _⟩
  | x :: l, st, n, h, hn, hx => by
    obtain ⟨h1, h2, h3⟩ := dec_step_ok h (hx x (.head _))
    obtain ⟨k1, k2, k3⟩ := dec_all_ok l (decStep st x) (n + 1) h1 (by rw [h2, hn, Int.emod_add_emod]; rfl) fun y hy => hx y (.tail _ hy)
    refine ⟨k1, k2.trans (by rw [List.length_cons, Nat.add_right_comm]; rfl), Nat.le_trans k3 (Nat.le_trans (Nat.add_le_add_right h3 _) (Nat.le_of_eq (by rw [Nat.add_assoc, Nat.add_comm 1]; rfl)))⟩
theorem dec_ok {l : List Int} (hx : ∀ x ∈ l, b64v x < 64) : DOk (decI l) ∧ (decI l).1 = (l.length : Int) % 4 ∧ (decI l).2.2.length ≤ l.length := by
  have := dec_all_ok l (0, 0, []) 0 ⟨Int.le_refl 0, .inl rfl, fun _ h => nomatch h⟩ rfl hx
  rw [Nat.zero_add] at this
  exact ⟨this.1, this.2.1, Nat.le_trans this.2.2 (Nat.le_of_eq (Nat.zero_add _))⟩
theorem four_zero {n : Nat} (h : n % 4 = 0) : (n : Int) % 4 = 0 := by omega
theorem oct_mem {c : Array UInt8} {i : Nat} {x : UInt8} (h : c[i]? = some x) : (x.toNat : Int) ∈ octs c := by
  unfold octs
  exact List.mem_map.mpr ⟨x, by have := Array.mem_of_getElem? h; simpa using this, rfl⟩
theorem or_at {a b : Int} (e : Int) (k : Nat) (he : e.toNat = k) (ha : 0 ≤ a) (hb : 0 ≤ b) (hb2 : b < 2 ^ k) : Builtin.bitOr (a * 2 ^ e.toNat) b = a * 2 ^ k + b := by rw [he]; exact or_disj k ha hb hb2
theorem dec_or1 {lc v : Int} (h0 : 0 ≤ lc) (h1 : 0 ≤ v) (h2 : v < 64) : Builtin.bitOr (lc * 2 ^ (2 : Int).toNat) (v.fdiv (2 ^ (4 : Int).toNat)) = lc * 4 + v / 16 := by
  rw [Int.fdiv_eq_ediv_of_nonneg _ (by decide)]
  exact or_at (b := v / 16) 2 2 rfl h0 (by omega) (by omega)
theorem dec_or2 {lc v : Int} (h0 : 0 ≤ lc) (h1 : 0 ≤ v) (h2 : v < 64) : Builtin.bitOr (lc * 2 ^ (4 : Int).toNat) (v.fdiv (2 ^ (2 : Int).toNat)) = lc * 16 + v / 4 := by
  rw [Int.fdiv_eq_ediv_of_nonneg _ (by decide)]
  exact or_at (b := v / 4) 4 4 rfl h0 (by omega) (by omega)
theorem dec_or3 {lc v : Int} (h0 : 0 ≤ lc) (h1 : 0 ≤ v) (h2 : v < 64) : Builtin.bitOr (lc * 2 ^ (6 : Int).toNat) v = lc * 64 + v := or_at 6 6 rfl h0 h1 h2
theorem sp_a2b {prog : Program} {w : World} {b0 : Heap} {A : Around} {k : Nat} {s : Shared} {R : Result → Shared → Prop} (D : Std w b0) (C : Cx b0 A (k + 2) s) (c : Array UInt8) (t : Tok) (hz : c.size ≤ 1000) (h4 : c.size % 4 = 0)
    (hv : ∀ x ∈ octs c, x ≠ 61 ∧ b64v x < 64)
    (h : ∀ t' s', Grow b0 s s' → R (.ok (.ret (.bytes (byteArr (decI (octs c)).2.2) t'))) s') : codeAny (model prog w) A (.call (.ref 92) ⟨[.bytes c t], [("strict_mode", .bool false)]⟩) R s := by
  refine enter (ns := ["data", "strict_mode", "ascii_data", "out", "quad_pos", "leftchar", "pads", "i", "this_ch"]) (gs := ["_ascii_buffer", "_truth", "_b64_value", "bytes"]) (vals := [some (.bytes c t), some (.bool false), none, none, none, none, none, none, none]) D C (by exact rfl) (by exact rfl) (BindsTo.of_eq (by exact rfl)) (by exact rfl) (by decide +kernel) ⟨rfl, rfl, trivial⟩ ?_
  intro env A' L s₁ S F _
  walk_at "go"
  rename_i d _ _ _ _ _ t1 _ _ t2 _ _ t3 _ _ t4 s2 F2
  refine for_bytes F2 (fun i B' vals' N' => B' = s ∧ ∃ (vs : List Value) (l : List Int) (n : Nat) (qp lc : Int) (tq tc tp ti : Tok) (vb : Option Value), vals' = [some (.bytes c t), some (.bool false), some (.bytes c t), some (.ref d), some (.int qp tq), some (.int lc tc), some (.int 0 tp), some (.int i ti), vb] ∧
    N' = [(d, lst vs n)] ∧ IntsAre vs l ∧ decI ((octs c).take i) = (qp, lc, l)) ⟨rfl, [], [], 0, 0, 0, t1, t2, t3, t4, none, rfl, rfl, .nil, rfl⟩ ?_ ?_
  · rintro i x u I B' vals' N' io s' hx g K hK ⟨rfl, vs, l, n, qp, lc, tq, tc, tp, ti, vb, rfl, rfl, hI, he⟩ F
    clear F2 h
    have hxx := hv _ (oct_mem hx)
    have hxn := b64v_nonneg (x.toNat : Int)
    have hx1 : ((x.toNat : Int) == 61) = false := beq_eq_false_iff_ne.mpr hxx.1
    have hx2 : decide (64 ≤ b64v (x.toNat : Int)) = false := decide_eq_false (Int.not_le.mpr hxx.2)
    have htk := dec_take hx
    have hst := dec_ok (l := (octs c).take i) fun y hy => (hv y (List.mem_of_mem_take hy)).2
    rw [he] at htk hst
    obtain ⟨⟨h0, hq, _⟩, _, hlen⟩ := hst
    dsimp only at h0 hq hlen
    have hps : vs.length ≤ sizeLine := by
      rw [hI.length]; exact Nat.le_trans hlen (Nat.le_trans (List.length_take_le' _ _) (by rw [octs_len]; exact Nat.le_trans hz (by decide)))
    clear he hlen hv
    walk_at "go"
    rcases hq with hq | ⟨hq, _⟩ | ⟨hq, _⟩ | ⟨hq, _⟩
    · subst hq
      walk_at "go"
      refine hK _ _ (Turn.next ‹_› ?_)
      exact ⟨rfl, _, _, n, 1, _, _, _, _, _, _, rfl, rfl, hI, by rw [htk]; rfl⟩
    · subst hq
      walk_at "go"
      refine hK _ _ (Turn.next ‹_› ?_)
      exact ⟨rfl, _, _, n + 1, 2, _, _, _, _, _, _, rfl, rfl, ints_snoc hI _ _, by rw [htk, bitAnd_m4, dec_or1 h0 hxn hxx.2]; rfl⟩
    · subst hq
      walk_at "go"
      refine hK _ _ (Turn.next ‹_› ?_)
      exact ⟨rfl, _, _, n + 1, 3, _, _, _, _, _, _, rfl, rfl, ints_snoc hI _ _, by rw [htk, bitAnd_m2, dec_or2 h0 hxn hxx.2]; rfl⟩
    · subst hq
      walk_at "go"
      refine hK _ _ (Turn.next ‹_› ?_)
      exact ⟨rfl, _, _, n + 1, 0, 0, _, _, _, _, _, rfl, rfl, ints_snoc hI _ _, by rw [htk, dec_or3 h0 hxn hxx.2]; rfl⟩
  · rintro B' vals' N' s' g ⟨rfl, vs, l, n, qp, lc, tq, tc, tp, ti, vb, rfl, rfl, hI, he⟩ F
    clear F2
    have ho := octs_len c
    have hst := dec_ok (l := octs c) fun y hy => (hv y hy).2
    rw [← ho, List.take_length] at he
    rw [he] at hst h
    obtain ⟨⟨_, _, hr⟩, hq, hlen⟩ := hst
    dsimp only at hr hq hlen
    have : qp = 0 := by rw [hq, ho]; exact four_zero h4
    subst this
    have hIl : l.length ≤ 10000 := Nat.le_trans hlen (by rw [ho]; exact Nat.le_trans hz (by decide))
    clear hq hlen ho hz h4
    walk_at "go"
    exact mk_bytes ‹_› (by walk_at "lst") hI hIl hr fun t' s' F' => h _ _ F'.grow
section
variable {prog : Program} {w : World} {A : Around} {E : Value → Shared → Prop} {s : Shared} {ns : List Str} {b0 : Heap} {k : Nat} {B : Shared} {L : Addr} {vals : List (Option Value)} {N : Ledger} {Q : Value → Shared → Prop}
theorem go_b2a {c : Array UInt8} {t : Tok} (D : Std w b0) (F : Fx b0 A (k + 2) B L ns vals N s) (hz : c.size ≤ 1000 ∧ c.size % 3 = 0) (q : ∀ t' s', Fx b0 A (k + 2) B L ns vals N s' → Q (.bytes (byteArr (encI (octs c)).2.2) t') s') :
    b0.StaysIn s.heap ∧ codeAny (model prog w) A (.call (.ref 100) ⟨[.bytes c t], [("newline", .bool false)]⟩) (wants Q E) s :=
  ⟨F.cx.stays, sp_b2a D F.cx c t hz.1 hz.2 fun t' s' g => q t' s' (F.later g)⟩
theorem go_a2b {c : Array UInt8} {t : Tok} (D : Std w b0) (F : Fx b0 A (k + 2) B L ns vals N s) (hz : c.size ≤ 1000 ∧ c.size % 4 = 0 ∧ ∀ x ∈ octs c, x ≠ 61 ∧ b64v x < 64) (q : ∀ t' s', Fx b0 A (k + 2) B L ns vals N s' → Q (.bytes (byteArr (decI (octs c)).2.2) t') s') :
    b0.StaysIn s.heap ∧ codeAny (model prog w) A (.call (.ref 92) ⟨[.bytes c t], [("strict_mode", .bool false)]⟩) (wants Q E) s :=
  ⟨F.cx.stays, sp_a2b D F.cx c t hz.1 hz.2.1 hz.2.2 fun t' s' g => q t' s' (F.later g)⟩
end
noncomputable def encB (c : Array UInt8) : Array UInt8 := byteArr (encI (octs c)).2.2
noncomputable def decB (c : Array UInt8) : Array UInt8 := byteArr (decI (octs c)).2.2
theorem sp_enc {prog : Program} {w : World} {b0 : Heap} {A : Around} {k : Nat} {s : Shared} {R : Result → Shared → Prop} (D : Std w b0) (C : Cx b0 A (k + 3) s) (c : Array UInt8) (t : Tok) (hz : c.size ≤ 1000 ∧ c.size % 3 = 0)
    (h : ∀ t' s', Grow b0 s s' → R (.ok (.ret (.bytes (encB c) t'))) s') : codeAny (model prog w) A (.call (.ref 108) ⟨[.bytes c t], []⟩) R s := by
  refine enter (ns := ["s", "altchars", "encoded"]) (gs := ["b2a_base64"]) (vals := [some (.bytes c t), some .none, none]) D C (by exact rfl) (by exact rfl) (binds_K (K := KK w) (D.X.keeps C.stays) rfl (by exact rfl) rfl rfl rfl) (by exact rfl) (by decide +kernel) ⟨rfl, rfl, trivial⟩ ?_
  intro env A' L s₁ S F _
  walk_at "go"
  refine go_b2a D ‹_› hz ?_
  intro t' s' F'
  walk_at "go"
  exact h _ _ (Fx.grow ‹_›)
theorem sp_dec {prog : Program} {w : World} {b0 : Heap} {A : Around} {k : Nat} {s : Shared} {R : Result → Shared → Prop} (D : Std w b0) (C : Cx b0 A (k + 3) s) (c : Array UInt8) (t : Tok) (hz : c.size ≤ 1000 ∧ c.size % 4 = 0 ∧ ∀ x ∈ octs c, x ≠ 61 ∧ b64v x < 64)
    (h : ∀ t' s', Grow b0 s s' → R (.ok (.ret (.bytes (decB c) t'))) s') : codeAny (model prog w) A (.call (.ref 116) ⟨[.bytes c t], []⟩) R s := by
  refine enter (ns := ["s", "altchars", "validate"]) (gs := ["_bytes_from_decode_data", "a2b_base64"]) (vals := [some (.bytes c t), some .none, some (.bool false)]) D C (by exact rfl) (by exact rfl) (binds_K (K := KK w) (D.X.keeps C.stays) rfl (by exact rfl) rfl rfl rfl) (by exact rfl) (by decide +kernel) ⟨rfl, rfl, rfl, trivial⟩ ?_
  intro env A' L s₁ S F _
  walk_at "go"
  refine go_a2b D ‹_› hz ?_
  intro t' s' F'
  walk_at "go"
  exact h _ _ (Fx.grow ‹_›)
section
variable {prog : Program} {w : World} {A : Around} {E : Value → Shared → Prop} {s : Shared} {ns : List Str} {b0 : Heap} {k : Nat} {B : Shared} {L : Addr} {vals : List (Option Value)} {N : Ledger} {Q : Value → Shared → Prop}
theorem go_enc {c : Array UInt8} {t : Tok} (D : Std w b0) (F : Fx b0 A (k + 3) B L ns vals N s) (hz : c.size ≤ 1000 ∧ c.size % 3 = 0) (q : ∀ t' s', Fx b0 A (k + 3) B L ns vals N s' → Q (.bytes (encB c) t') s') :
    b0.StaysIn s.heap ∧ codeAny (model prog w) A (.call (.ref 108) ⟨[.bytes c t], []⟩) (wants Q E) s :=
  ⟨F.cx.stays, sp_enc D F.cx c t hz fun t' s' g => q t' s' (F.later g)⟩
theorem go_dec {c : Array UInt8} {t : Tok} (D : Std w b0) (F : Fx b0 A (k + 3) B L ns vals N s) (hz : c.size ≤ 1000 ∧ c.size % 4 = 0 ∧ ∀ x ∈ octs c, x ≠ 61 ∧ b64v x < 64) (q : ∀ t' s', Fx b0 A (k + 3) B L ns vals N s' → Q (.bytes (decB c) t') s') :
    b0.StaysIn s.heap ∧ codeAny (model prog w) A (.call (.ref 116) ⟨[.bytes c t], []⟩) (wants Q E) s :=
  ⟨F.cx.stays, sp_dec D F.cx c t hz fun t' s' g => q t' s' (F.later g)⟩
end
noncomputable def page (n : Int) : Array UInt8 := encB (byteArr [n, 9 * n, 85])
noncomputable def octI : List Int → List Int
  | a :: b :: c :: d :: r => 4 * a :: 16 * b :: (64 * c + d) :: octI r
  | _ => []
theorem octI_le : ∀ l : List Int, (octI l).length ≤ l.length
  | _ :: _ :: _ :: _ :: r => by
    have := octI_le r
    simp only [octI, List.length_cons]; omega
  | [] => Nat.le_refl _
  | [_] => Nat.zero_le _
  | [_, _] => Nat.zero_le _
  | [_, _, _] => Nat.zero_le _
theorem drop_one {l : List Int} {j : Nat} (h : j < l.length) : ∃ x, l.drop j = x :: l.drop (j + 1) ∧ l[j]? = some x := ⟨l[j], List.drop_eq_getElem_cons h, List.getElem?_eq_getElem h⟩
theorem octI_next {l : List Int} {i : Nat} (h : 4 * i + 4 ≤ l.length) : ∃ a b c d, l[4 * i]? = some a ∧ l[4 * i + 1]? = some b ∧ l[4 * i + 2]? = some c ∧ l[4 * i + 3]? = some d ∧ octI (l.drop (4 * i)) = [4 * a, 16 * b, 64 * c + d] ++ octI (l.drop (4 * (i + 1))) := by
  obtain ⟨a, ha, la⟩ := drop_one (l := l) (j := 4 * i) (by omega)
  obtain ⟨b, hb, lb⟩ := drop_one (l := l) (j := 4 * i + 1) (by omega)
  obtain ⟨c, hc, lc⟩ := drop_one (l := l) (j := 4 * i + 1 + 1) (by omega)
  obtain ⟨d, hd, ld⟩ := drop_one (l := l) (j := 4 * i + 1 + 1 + 1) (by omega)
  exact ⟨a, b, c, d, la, lb, lc, ld, by rw [ha, hb, hc, hd]; rfl⟩
theorem rs_four (n : Nat) : Builtin.Range.rangeSize 0 (n : Int) 4 = (((n + 3) / 4 : Nat) : Int) := by
  unfold Builtin.Range.rangeSize
  rw [if_pos (by decide)]
  split <;> omega
theorem small_four {n : Nat} (h : n ≤ 1000) : Builtin.Range.small 0 (n : Int) 4 = true := small_of (by decide) ⟨Int.natCast_nonneg _, by omega⟩ (by decide) (by rw [rs_four]; omega)
theorem it_four {i n : Nat} (h : i < (n + 3) / 4) (h4 : n % 4 = 0) : 4 * i + 4 ≤ n := by omega
theorem end_four {n : Nat} (h4 : n % 4 = 0) : n ≤ 4 * ((n + 3) / 4) := by omega
theorem app_le {a b c : List Int} {n : Nat} (h : a ++ b = c) (hc : c.length ≤ n) : a.length ≤ n := left_le h hc
theorem up0 {i : Nat} : (0 : Int) + (i : Int) * 4 = ((4 * i : Nat) : Int) := by omega
theorem up1 {i : Nat} : (0 : Int) + (i : Int) * 4 + 1 = ((4 * i + 1 : Nat) : Int) := by omega
theorem up2 {i : Nat} : (0 : Int) + (i : Int) * 4 + 2 = ((4 * i + 2 : Nat) : Int) := by omega
theorem up3 {i : Nat} : (0 : Int) + (i : Int) * 4 + 3 = ((4 * i + 3 : Nat) : Int) := by omega
theorem octI_range : ∀ l : List Int, (∀ x ∈ l, 0 ≤ x ∧ x < 4) → ∀ p ∈ octI l, 0 ≤ p ∧ p < 256
  | a :: b :: c :: d :: r, h, p, hp => by
    have ha := h a (by simp)
    have hb := h b (by simp)
    have hc := h c (by simp)
    have hd := h d (by simp)
    simp only [octI, List.mem_cons] at hp
    rcases hp with rfl | rfl | rfl | hp
    · omega
    · omega
    · omega
    · exact octI_range r (fun x hx => h x (by simp [hx])) p hp
  | [], _, p, hp => by simp [octI] at hp
  | [_], _, p, hp => by simp [octI] at hp
  | [_, _], _, p, hp => by simp [octI] at hp
  | [_, _, _], _, p, hp => by simp [octI] at hp
theorem sp_page {prog : Program} {w : World} {b0 : Heap} {A : Around} {k : Nat} {s : Shared} {R : Result → Shared → Prop} (D : Std w b0) (C : Cx b0 A (k + 4) s) (n : Int) (t : Tok) (hn : 0 ≤ n ∧ n < 4)
    (h : ∀ t' s', Grow b0 s s' → R (.ok (.ret (.bytes (page n) t'))) s') : codeAny (model prog w) A (.call (.ref 130) ⟨[.int n t], []⟩) R s := by
  refine enter (ns := ["number"]) (gs := ["b64encode", "bytes"]) (vals := [some (.int n t)]) D C (by exact rfl) (by exact rfl) (BindsTo.of_eq (by exact rfl)) (by exact rfl) (by decide +kernel) ⟨rfl, trivial⟩ ?_
  intro env A' L s₁ S F _
  walk_at "go"
  rename_i a9 s9 F9 n9
  refine mk_bytes F9 (F9.lst (.head _)) (.cons n t (.cons (9 * n) _ (.cons 85 _ .nil))) (by simp) (fun p hp => by simp at hp; omega) ?_
  intro t' s' F'
  walk_at "go"
  refine go_enc D ‹_› (by simp [byteArr]) ?_
  intro t' s' F'
  walk_at "go"
  exact h _ _ (Fx.grow ‹_›)
theorem sp_octets {prog : Program} {w : World} {b0 : Heap} {A : Around} {k : Nat} {s : Shared} {R : Result → Shared → Prop} {a : Addr} {vs : List Value} {l : List Int} (D : Std w b0) (C : Cx b0 A (k + 1) s) (hl : Lst s.heap a vs) (hi : IntsAre vs l) (hz : l.length ≤ 1000) (h4 : l.length % 4 = 0) (hr : ∀ x ∈ l, 0 ≤ x ∧ x < 4)
    (h : ∀ t' s', Grow b0 s s' → R (.ok (.ret (.bytes (byteArr (octI l)) t'))) s') : codeAny (model prog w) A (.call (.ref 144) ⟨[.ref a], []⟩) R s := by
  refine enter (ns := ["gaps", "due", "k"]) (gs := ["range", "len", "bytes"]) (vals := [some (.ref a), none, none]) D C (by exact rfl) (by exact rfl) (BindsTo.of_eq (by exact rfl)) (by exact rfl) (by decide +kernel) ⟨rfl, trivial⟩ ?_
  intro env A' L s₁ S F _
  have hvl := hi.length
  have hz' : vs.length ≤ 1000000 := hvl ▸ Nat.le_trans hz (by decide)
  walk_at "go"
  rename_i d _ _ _ _ _ _ _ _ _ _ _ _ _ _ r s2 F2 hr2
  have ho := octI_le l
  refine for_range F2 hr2 (small_four (hvl ▸ hz)) (rs_four _) (fun i B' vals' N' => B' = s ∧ ∃ (us : List Value) (m : List Int) (n : Nat) (v : Option Value), vals' = [some (.ref a), some (.ref d), v] ∧ N' = [(d, lst us n)] ∧ IntsAre us m ∧ m ++ octI (l.drop (4 * i)) = octI l) ⟨rfl, [], [], 0, none, rfl, rfl, .nil, rfl⟩ ?_ ?_
  · rintro i t I B' vals' N' io s' hlt g K hK ⟨rfl, us, m, n, v, rfl, rfl, hus, hm⟩ F
    clear F2 h
    rw [hvl] at hlt
    obtain ⟨x0, x1, x2, x3, l0, l1, l2, l3, hnx⟩ := octI_next (l := l) (i := i) (it_four hlt h4)
    clear hlt
    have hul : us.length + 3 ≤ 1000000 := by
      rw [hus.length]; exact Nat.le_trans (Nat.add_le_add_right (app_le hm (Nat.le_trans ho hz)) 3) (by decide)
    clear ho h4 hvl hz hr
    obtain ⟨t0, v0⟩ := ints_at hi l0
    obtain ⟨t1, v1⟩ := ints_at hi l1
    obtain ⟨t2, v2⟩ := ints_at hi l2
    obtain ⟨t3, v3⟩ := ints_at hi l3
    have i0 := ixJ v0 up0 hz'
    have i1 := ixJ v1 up1 hz'
    have i2 := ixJ v2 up2 hz'
    have i3 := ixJ v3 up3 hz'
    clear hz' l0 l1 l2 l3 v0 v1 v2 v3
    walk_at "go"
    rename_i F9
    refine hK _ _ (Turn.next (F9.sub (List.sublist_cons_self _ _)) ⟨rfl, _, _, _, _, rfl, rfl, hus.append (.cons _ _ (.cons _ _ (.cons _ _ .nil))), ?_⟩)
    rw [List.append_assoc, ← hnx]; exact hm
  · rintro B' vals' N' s' g ⟨rfl, us, m, n, v, rfl, rfl, hus, hm⟩ F
    clear F2
    rw [List.drop_of_length_le (by rw [hvl]; exact end_four h4), show octI [] = [] from rfl, List.append_nil] at hm
    subst hm
    walk_at "go"
    refine mk_bytes F (F.lst (.head _)) hus (Nat.le_trans ho (Nat.le_trans hz (by decide))) (octI_range l hr) ?_
    intro t' s' F'
    walk_at "go"
    exact h _ _ (Fx.grow ‹_›)
/-- a list of lists of bytes; each of them is none of the elder heap's -/
inductive RefsB (old h : Heap) : List Value → List (List Bt) → Prop
  | nil : RefsB old h [] []
  | cons {a : Addr} {sh : List Bt} {vs : List Value} {shs : List (List Bt)} : Lst h a (mkB sh) → old.get? a = none → RefsB old h vs shs → RefsB old h (.ref a :: vs) (sh :: shs)
theorem RefsB.grow {old : Heap} {b0 : Heap} {s s' : Shared} (g : Grow b0 s s') {vs : List Value} {shs : List (List Bt)} (r : RefsB old s.heap vs shs) : RefsB old s'.heap vs shs := by
  induction r with
  | nil => exact .nil
  | cons l o _ ih => exact .cons (l.grow g) o ih
theorem RefsB.snoc {old h : Heap} {a : Addr} {sh : List Bt} (hl : Lst h a (mkB sh)) (ho : old.get? a = none) {vs : List Value} {shs : List (List Bt)} (r : RefsB old h vs shs) : RefsB old h (vs ++ [.ref a]) (shs ++ [sh]) := by
  induction r with
  | nil => exact .cons hl ho .nil
  | cons l o _ ih => exact .cons l o ih
theorem RefsB.length {old h : Heap} {vs : List Value} {shs : List (List Bt)} (r : RefsB old h vs shs) : vs.length = shs.length := by
  induction r with
  | nil => rfl
  | cons _ _ _ ih => exact congrArg (· + 1) ih
noncomputable def nextShelf (sh : List Bt) (j : Nat) : List Bt := match sh[j]? with
  | some p => dedupB (p :: sh)
  | none => sh
/-- the shelves behind each sign -/
noncomputable def shelvesOf (sh : List Bt) : List Nat → List (List Bt)
  | [] => []
  | j :: r => nextShelf sh j :: shelvesOf (nextShelf sh j) r
noncomputable def lastShelf (sh : List Bt) (js : List Nat) : List Bt := js.foldl nextShelf sh
theorem shelvesOf_snoc (sh : List Bt) (js : List Nat) (j : Nat) : shelvesOf sh (js ++ [j]) = shelvesOf sh js ++ [nextShelf (lastShelf sh js) j] := by
  induction js generalizing sh with
  | nil => rfl
  | cons i r ih => simp only [List.cons_append, shelvesOf, ih]; rfl
section
variable {prog : Program} {w : World} {A : Around} {E : Value → Shared → Prop} {s : Shared} {ns : List Str} {b0 : Heap} {k : Nat} {B : Shared} {L : Addr} {vals : List (Option Value)} {N : Ledger} {Q : Value → Shared → Prop}
theorem go_dedup {a : Addr} {ps : List Bt} (D : Std w b0) (F : Fx b0 A (k + 1) B L ns vals N s) (l : Lst s.heap a (mkB ps)) (hz : ps.length ≤ 1000) (q : ∀ a' s', Fx b0 A (k + 1) B L ns vals N s' → Grow b0 s s' → s.heap.get? a' = none → Lst s'.heap a' (mkB (dedupB ps)) → Q (.ref a') s') :
    b0.StaysIn s.heap ∧ codeAny (model prog w) A (.call (.ref 28) ⟨[.ref a], []⟩) (wants Q E) s :=
  ⟨F.cx.stays, sp_dedup D F.cx l hz fun a' s' g hn hl => q a' s' (F.later g) g hn hl⟩
/-- what is new behind a call may be called old -/
theorem Fx.rest {s₀ : Shared} {a : Addr} (F : Fx b0 A k B L ns vals N s) (F₀ : Fx b0 A k B L ns vals N s₀) : ∃ B', Grow b0 B B' ∧ Fx b0 A k B' L ns vals N s ∧ ∀ b o, s.heap.get? b = some o → s₀.heap.get? b = none → B'.heap.get? b = some o := by
  obtain ⟨B', g, F', h⟩ := F.rebase
  refine ⟨B', g, F', fun b o e hn => h b o e (fun q => ?_) fun q => ?_⟩
  · obtain ⟨m, ⟨oL, _, _, eL, _⟩, _⟩ := F₀.ns
    rw [← q, hn] at eL; cases eL
  · obtain ⟨p, hp, rfl⟩ := List.mem_map.mp q
    have := (F₀.news p hp).1; rw [hn] at this; cases this
end
theorem lastShelf_snoc (sh : List Bt) (js : List Nat) (j : Nat) : lastShelf sh (js ++ [j]) = nextShelf (lastShelf sh js) j := List.foldl_append
theorem nextShelf_at {sh : List Bt} {j : Nat} {p : Bt} (h : sh[j]? = some p) : nextShelf sh j = dedupB (p :: sh) := by unfold nextShelf; rw [h]
theorem sign_val {l : List UInt8} {i j : Nat} (h : l[i]? = some (65 + j).toUInt8) (hj : j < 4) : ((l.getD (i : Int).toNat 0).toNat : Int) - 65 = (j : Int) := by
  have e2 : (65 + j).toUInt8.toNat = 65 + j := by
    rcases (show j = 0 ∨ j = 1 ∨ j = 2 ∨ j = 3 by omega) with rfl | rfl | rfl | rfl <;> rfl
  rw [Int.toNat_natCast, List.getD_eq_getElem?_getD, h, Option.getD_some, e2]
  omega
theorem sp_shelves {prog : Program} {w : World} {b0 : Heap} {A : Around} {k : Nat} {s : Shared} {R : Result → Shared → Prop} {a : Addr} {ps : List Bt} {sg : Array UInt8} {t u : Tok} {m : Nat} {js : List Nat} (D : Std w b0) (C : Cx b0 A (k + 2) s) (hl : Lst s.heap a (mkB ps)) (hp : ps.length = 4)
    (hm : m = js.length) (hz : m ≤ 1000) (hs : ∀ (i j : Nat), js[i]? = some j → j < 4 ∧ sg.toList[i]? = some (65 + j).toUInt8) (hk : sg.size ≤ 1000) (hsh : ∀ i : Nat, (lastShelf ps (js.take i)).length = 4)
    (h : ∀ a' vs n s', Grow b0 s s' → s'.heap.get? a' = some (lst vs n) → s.heap.get? a' = none → RefsB s.heap s'.heap vs (shelvesOf ps js) → R (.ok (.ret (.ref a'))) s') : codeAny (model prog w) A (.call (.ref 151) ⟨[.ref a, .bytes sg t, .int m u], []⟩) R s := by
  refine enter (ns := ["pages", "signs", "many", "shelf", "shelves", "k", "page"]) (gs := ["list", "range", "_deduplicate_unhashable"]) (vals := [some (.ref a), some (.bytes sg t), some (.int m u), none, none, none, none]) D C (by exact rfl) (by exact rfl) (BindsTo.of_eq (by exact rfl)) (by exact rfl) (by decide +kernel) ⟨rfl, rfl, rfl, trivial⟩ ?_
  intro env A' L s₁ S F _
  have hz' : (mkB ps).length ≤ sizeLine := by rw [len_mkB]; unfold sizeLine; omega
  walk_at "go"
  rename_i c n _ _ _ _ _ Sv _ _ _ _ _ r _ _ s2 F2 hr2
  obtain ⟨B1, g1, F3, hold⟩ := (F2.sub (N' := [(Sv, lst [] 0)]) (by simp)).rebase
  have hc : Lst B1.heap c (mkB ps) := ⟨n, hold c _ (F2.get (by simp)) (nodup_at F2.nodup 2 0 rfl rfl (by decide)) (fun q => nodup_at F2.nodup 2 1 rfl rfl (by decide) (List.mem_singleton.mp q))⟩
  clear F2 hold
  refine for_range1 F3 hr2 hz (fun i B' vals' N' => ∃ (c : Addr) (vs : List Value) (n : Nat) (vk vp : Option Value), vals' = [some (.ref a), some (.bytes sg t), some (.int m u), some (.ref c), some (.ref Sv), vk, vp] ∧ N' = [(Sv, lst vs n)] ∧
    Lst B'.heap c (mkB (lastShelf ps (js.take i))) ∧ RefsB s.heap B'.heap vs (shelvesOf ps (js.take i)) ∧ vs.length = i) ⟨c, [], 0, none, none, rfl, rfl, hc, .nil, rfl⟩ ?_ ?_
  · clear hc
    rintro i tk I B' vals' N' io s' hlt g K hK ⟨c, vs, n, vk, vp, rfl, rfl, hc, hv, hvl⟩ F
    clear F3 h
    obtain ⟨j, hj⟩ : ∃ j, js[i]? = some j := ⟨js[i]'(hm ▸ hlt), List.getElem?_eq_getElem (hm ▸ hlt)⟩
    obtain ⟨hj4, hsj⟩ := hs i j hj
    have hlen := hsh i
    obtain ⟨pg, hpg⟩ : ∃ p, (lastShelf ps (js.take i))[j]? = some p := ⟨(lastShelf ps (js.take i))[j]'(hlen.symm ▸ hj4), List.getElem?_eq_getElem (hlen.symm ▸ hj4)⟩
    have hnx : lastShelf ps (js.take (i + 1)) = dedupB (pg :: lastShelf ps (js.take i)) := by
      rw [List.take_add_one, hj, Option.toList_some, lastShelf_snoc, nextShelf_at hpg]
    have hsv : shelvesOf ps (js.take (i + 1)) = shelvesOf ps (js.take i) ++ [dedupB (pg :: lastShelf ps (js.take i))] := by
      rw [List.take_add_one, hj, Option.toList_some, shelvesOf_snoc, nextShelf_at hpg]
    generalize lastShelf ps (js.take i) = sh at hlen hpg hnx hsv hc
    have hsz : i < sg.size := by
      have := (List.getElem?_eq_some_iff.mp hsj).1
      rwa [Array.length_toList] at this
    have hix := bxN hsz hk
    have hjx : 0 ≤ (((sg.toList.getD (i : Int).toNat 0).toNat : Int) - 65) ∧ (((sg.toList.getD (i : Int).toNat 0).toNat : Int) - 65) < 2 ^ 63 ∧ (mkB sh)[(((sg.toList.getD (i : Int).toNat 0).toNat : Int) - 65).toNat]? = some (.bytes pg.1 pg.2) :=
      ixJ (i := j) (by unfold mkB; rw [List.getElem?_map, hpg]; rfl) (sign_val hsj hj4) (by rw [len_mkB, hlen]; decide)
    have hzz : vs.length ≤ sizeLine := by rw [hvl]; exact Nat.le_trans (Nat.le_of_lt hlt) (Nat.le_trans hz (by decide))
    clear hlt hs hsh hsz hsj hz hm hj4 hpg hj hp
    walk_at "go"
    rename_i a2 s9 F9 n9
    refine go_dedup (ps := pg :: sh) D F9 (F9.lst (.head _)) (by rw [List.length_cons, hlen]; decide) ?_
    intro a' s' F' g' hn' hl'
    have hold : ∀ b, s9.heap.get? b = none → s.heap.get? b = none := fun b hb => ((g1.trans g).trans F9.grow).there hb
    have F1 := F'.sub (N' := [(I, io), (Sv, lst vs n)]) (.cons _ (.cons _ (.refl _)))
    have F0 := F9.sub (N' := [(I, io), (Sv, lst vs n)]) (.cons _ (.cons _ (.refl _)))
    obtain ⟨B2, g2, F2, hb⟩ := F1.rest (a := a') F0
    have hc2 : Lst B2.heap a' (mkB (dedupB (pg :: sh))) := by
      obtain ⟨n', e'⟩ := hl'
      exact ⟨n', hb _ _ e' hn'⟩
    clear F' F1 F0 F9
    walk_at "go"
    refine hK _ _ (Turn.from g2 (Turn.next ‹_› ⟨a', _, _, _, _, rfl, rfl, by rw [hnx]; exact hc2, ?_, by rw [List.length_append, hvl]; rfl⟩))
    rw [hsv]
    exact (hv.grow g2).snoc hc2 (hold _ hn')
  · clear hc
    rintro B' vals' N' s' g ⟨c, vs, n, vk, vp, rfl, rfl, hc, hv, hvl⟩ F
    clear F3
    rw [hm, List.take_length] at hv
    walk_at "go"
    exact h _ vs n _ ((g1.trans g).trans F.grow) (F.get (.head _)) ((g1.trans g).there (F.news _ (.head _)).2.1) (hv.grow F.grow)
/-- the unlike numbers ahead of x, the latest first -/
noncomputable def scan (x : Int) : List Int → List Int → List Int
  | [], acc => acc
  | y :: r, acc => if y = x then acc else scan x r (if acc.any (· == y) then acc else acc ++ [y])
/-- the gap of each wish; rp: the past, the latest first -/
noncomputable def gapsOf (rp : List Int) : List Int → List Int
  | [] => []
  | x :: r => ((scan x rp []).length : Int) :: gapsOf (x :: rp) r
theorem gapsOf_snoc (rp l : List Int) (x : Int) : gapsOf rp (l ++ [x]) = gapsOf rp l ++ [((scan x (l.reverse ++ rp) []).length : Int)] := by
  induction l generalizing rp with
  | nil => rfl
  | cons y r ih => simp only [List.cons_append, gapsOf, ih, List.reverse_cons, List.append_assoc, List.nil_append]
theorem fill_le {a b c : Nat} (h : a + b ≤ c) (hc : c ≤ 2000) : a ≤ 2000 := by omega
theorem last_is {n : Nat} (h : 1 ≤ n) : ((n : Int) - 1) = ((n - 1 : Nat) : Int) := by omega
theorem lt_last {i j n : Nat} (h : i < n) (h' : j < i) : j < n := Nat.lt_trans h' h
theorem sub_one_lt {j : Nat} (h : 1 ≤ j) : j - 1 < j := by omega
theorem step_len {a j n : Nat} (h : a + j ≤ n) (h' : 1 ≤ j) : a + 1 + (j - 1) ≤ n := by omega
theorem step_len' {a j n : Nat} (h : a + j ≤ n) : a + (j - 1) ≤ n := by omega
theorem pos_of_mem {j : Nat} {x : Int} {p : List Int} (h : x ∈ p.take j) : 1 ≤ j := by
  rcases Nat.eq_zero_or_pos j with q | q
  · rw [q, List.take_zero] at h; cases h
  · exact q
theorem back_one {j : Nat} (h : 1 ≤ j) : j - 1 + 1 = j := Nat.sub_add_cancel h
theorem sp_gaps {prog : Program} {w : World} {b0 : Heap} {A : Around} {k : Nat} {s : Shared} {R : Result → Shared → Prop} {a : Addr} {vs : List Value} {l : List Int} (D : Std w b0) (C : Cx b0 A (k + 1) s) (hl : Lst s.heap a vs) (hi : IntsAre vs l) (hz : l.length ≤ 1000) (hr : ∀ x ∈ l, x = 0 ∨ x = 1 ∨ x = 2 ∨ x = 3)
    (h : ∀ a' us n s', Grow b0 s s' → s'.heap.get? a' = some (lst us n) → s.heap.get? a' = none → IntsAre us (gapsOf [0, 1, 2, 3] l) → R (.ok (.ret (.ref a'))) s') : codeAny (model prog w) A (.call (.ref 137) ⟨[.ref a], []⟩) R s := by
  refine enter (ns := ["asked", "past", "gaps", "number", "k", "between"]) (gs := ["len"]) (vals := [some (.ref a), none, none, none, none, none]) D C (by exact rfl) (by exact rfl) (BindsTo.of_eq (by exact rfl)) (by exact rfl) (by decide +kernel) ⟨rfl, trivial⟩ ?_
  intro env A' L s₁ S F _
  have hvl := hi.length
  walk_at "go"
  rename_i P s9 F9 _ _ _ G _ _ _ s2 F2
  refine for_list F2 hl (fun i B' vals' N' => B' = s ∧ ∃ (gv pv : List Value) (gn pn : Nat) (vx vk vb : Option Value), vals' = [some (.ref a), some (.ref P), some (.ref G), vx, vk, vb] ∧ N' = [(G, lst gv gn), (P, lst pv pn)] ∧
    IntsAre gv (gapsOf [0, 1, 2, 3] (l.take i)) ∧ IntsAre pv ([3, 2, 1, 0] ++ l.take i) ∧ gv.length = i) ⟨rfl, [], _, 0, 0, none, none, none, rfl, rfl, .nil, .cons _ _ (.cons _ _ (.cons _ _ (.cons _ _ .nil))), rfl⟩ ?_ ?_
  · rintro i v I B' vals' N' io s' hv g K hK ⟨rfl, gv, pv, gn, pn, vx, vk, vb, rfl, rfl, hgv, hpv, hgl⟩ F
    clear F2 F9 h
    obtain ⟨x, tx, hx, rfl⟩ := ints_get' hi hv
    have hil : i < l.length := (List.getElem?_eq_some_iff.mp hx).1
    have hxr := hr x (List.mem_of_getElem? hx)
    have hpl := hpv.length
    have hp1 : 1 ≤ ([3, 2, 1, 0] ++ l.take i : List Int).length := by rw [List.length_append]; exact Nat.le_trans (by decide) (Nat.le_add_right _ _)
    have hp2 : ([3, 2, 1, 0] ++ l.take i : List Int).length ≤ 2000 := by
      rw [List.length_append, List.length_take]; show 4 + _ ≤ _; omega
    have hgn : gapsOf [0, 1, 2, 3] (l.take (i + 1)) = gapsOf [0, 1, 2, 3] (l.take i) ++ [((scan x ([3, 2, 1, 0] ++ l.take i).reverse []).length : Int)] := by
      rw [List.take_add_one, hx, Option.toList_some, gapsOf_snoc, List.reverse_append]
      rfl
    have hpn : ([3, 2, 1, 0] ++ l.take (i + 1) : List Int) = ([3, 2, 1, 0] ++ l.take i) ++ [x] := by
      rw [List.take_add_one, hx, List.append_assoc]; rfl
    have hxm : x ∈ ([3, 2, 1, 0] ++ l.take i : List Int) := List.mem_append_left _ (by rcases hxr with rfl | rfl | rfl | rfl <;> decide)
    have hz3 : gv.length ≤ sizeLine := by rw [hgl]; exact Nat.le_trans (Nat.le_of_lt hil) (Nat.le_trans hz (by decide))
    clear hil hxr hr hz hx hv
    generalize ([3, 2, 1, 0] ++ l.take i : List Int) = p at *
    have hz1 : pv.length ≤ 1000000 := by rw [hpl]; exact Nat.le_trans hp2 (by decide)
    have hz2 : pv.length ≤ sizeLine := by rw [hpl]; exact Nat.le_trans hp2 (by decide)
    walk_at "go"
    rename_i b _ _ _ s9 F9
    rw [hpl, last_is hp1] at F9
    refine while_K (fun j s' => ∃ (acc : List Int) (us : List Value) (n : Nat) (tk : Tok), Fx b0 A' k B' L ["asked", "past", "gaps", "number", "k", "between"] [some (.ref a), some (.ref P), some (.ref G), some (.int x tx), some (.int (j : Nat) tk), some (.ref b)] [(b, lst us n), (I, io), (G, lst gv gn), (P, lst pv pn)] s' ∧
      IntsAre us acc ∧ j < p.length ∧ x ∈ p.take (j + 1) ∧ scan x (p.take (j + 1)).reverse acc = scan x p.reverse [] ∧ us.length + j ≤ p.length) ?_ (p.length - 1) ⟨[], [], 0, _, F9, .nil, sub_one_lt hp1, by rw [back_one hp1, List.take_length]; exact hxm, by rw [back_one hp1, List.take_length], Nat.le_trans (Nat.le_of_eq (Nat.zero_add _)) (Nat.sub_le _ _)⟩
    clear F9 F hxm hp1
    rintro j s' K2 Z hK2 hZ ⟨acc, us, n, tk, F9, hus, hj, hxj, hsc, hul⟩
    have hpj : p[j]? = some p[j] := List.getElem?_eq_getElem hj
    obtain ⟨tj, hvj⟩ := ints_at hpv hpj
    have htk : p.take (j + 1) = p.take j ++ [p[j]] := by rw [List.take_add_one, hpj]; rfl
    rw [htk] at hxj hsc
    rw [List.reverse_append] at hsc
    simp only [List.reverse_cons, List.reverse_nil, List.nil_append, List.cons_append, scan] at hsc
    generalize p[j] = y at *
    have hid := ixN hvj hz1
    have hz3 := fill_le hul hp2
    have hz4 : us.length ≤ sizeLine := Nat.le_trans hz3 (by decide)
    have hz5 : us.length ≤ 1000000 := Nat.le_trans hz3 (by decide)
    clear hz3
    clear hvj hpj htk hp2
    by_cases hyx : y = x
    · rw [if_pos hyx] at hsc
      have hb : (y != x) = false := bne_eq_false_iff_eq.mpr hyx
      clear hul hj
      walk_at "go"
      refine hZ _ ?_
      walk_at "go"
      rename_i F10
      refine hK _ _ (Turn.next (F10.sub (List.sublist_cons_self _ _)) ⟨rfl, _, _, _, _, _, _, _, rfl, rfl, ?_, ?_, by rw [List.length_append, hgl]; rfl⟩)
      · rw [hgn, ← hsc, ← hus.length]; exact ints_snoc hgv _ _
      · rw [hpn]; exact ints_snoc hpv _ _
    · rw [if_neg hyx] at hsc
      have hb : (y != x) = true := bne_iff_ne.mpr hyx
      have hxj' : x ∈ p.take j := by
        rcases List.mem_append.mp hxj with q | q
        · exact q
        · exact absurd (List.mem_singleton.mp q).symm hyx
      have hj1 := pos_of_mem hxj'
      have hlt := Nat.lt_of_le_of_lt (Nat.sub_le j 1) hj
      have e1 := back_one hj1
      have e2 := last_is hj1
      clear hj hxj
      walk_at "go"
      refine x_both (fun hb => ?_) fun hb => ?_
      · rw [Bool.not_eq_true'] at hb
        rw [hb] at hsc
        walk_at "go"
        rename_i F10
        rw [e2] at F10
        exact hK2 (j - 1) _ (sub_one_lt hj1) ⟨acc ++ [y], _, _, _, F10, ints_snoc hus _ _, hlt, by rw [e1]; exact hxj', by rw [e1]; exact hsc, by rw [List.length_append]; exact step_len hul hj1⟩
      · rw [Bool.not_eq_false'] at hb
        rw [hb] at hsc
        walk_at "go"
        rename_i F10
        rw [e2] at F10
        exact hK2 (j - 1) _ (sub_one_lt hj1) ⟨acc, _, _, _, F10, hus, hlt, by rw [e1]; exact hxj', by rw [e1]; exact hsc, step_len' hul⟩
  · rintro B' vals' N' s' g ⟨rfl, gv, pv, gn, pn, vx, vk, vb, rfl, rfl, hgv, hpv, hgl⟩ F
    rw [hvl, List.take_length] at hgv
    walk_at "go"
    exact h _ _ _ _ (Fx.grow ‹_›) (F.get (.head _)) (F.news _ (.head _)).2.1 hgv
/-- what remove does to a list of bytes -/
noncomputable def rmB (t : List Bt) (b : Array UInt8) : Option (List Bt) := (t.findIdx? fun p => p.1.toList == b.toList).map t.eraseIdx
noncomputable def rmAll : List Bt → List Bt → Option (List Bt)
  | [], t => some t
  | p :: r, t => (rmB t p.1).bind (rmAll r)
noncomputable def cmpB (ps qs : List Bt) : Bool := match rmAll (dedupB ps) (dedupB qs) with
  | some t => t.isEmpty
  | none => false
theorem sp_compare {prog : Program} {w : World} {b0 : Heap} {A : Around} {k : Nat} {s : Shared} {R : Result → Shared → Prop} {a b : Addr} {ps qs : List Bt} (D : Std w b0) (C : Cx b0 A (k + 2) s) (hl : Lst s.heap a (mkB ps)) (hm : Lst s.heap b (mkB qs)) (hz : ps.length ≤ 1000) (hy : qs.length ≤ 1000)
    (hz' : (dedupB ps).length ≤ 1000) (hy' : (dedupB qs).length ≤ 1000)
    (h : ∀ s', Grow b0 s s' → R (.ok (.ret (.bool (cmpB ps qs)))) s') : codeAny (model prog w) A (.call (.ref 35) ⟨[.ref a, .ref b], []⟩) R s := by
  refine enter (ns := ["first_args", "second_args", "first_unhashable", "second_unhashable", "t", "elem"]) (gs := ["_deduplicate_unhashable", "list", "ValueError"]) (vals := [some (.ref a), some (.ref b), none, none, none, none]) D C (by exact rfl) (by exact rfl) (BindsTo.of_eq (by exact rfl)) (by exact rfl) (by decide +kernel) ⟨rfl, rfl, trivial⟩ ?_
  intro env A' L s₁ S F O
  walk_at "go"
  refine go_dedup D F (F.old hl) hz ?_
  intro a1 s2 F2 g2 hn1 l1
  obtain ⟨B1, gB1, F2', hB1⟩ := F2.rest (a := a1) F
  have l1' : Lst B1.heap a1 (mkB (dedupB ps)) := let ⟨n, e⟩ := l1; ⟨n, hB1 _ _ e hn1⟩
  have hm1 : Lst B1.heap b (mkB qs) := hm.grow gB1
  clear F2 F hB1 l1
  walk_at "go"
  rename_i s3 F3
  refine go_dedup D F3 (F3.old hm1) hy ?_
  intro a2 s4 F4 g4 hn2 l2
  obtain ⟨B2, gB2, F4', hB2⟩ := F4.rest (a := a2) F3
  have l2' : Lst B2.heap a2 (mkB (dedupB qs)) := let ⟨n, e⟩ := l2; ⟨n, hB2 _ _ e hn2⟩
  have l1'' : Lst B2.heap a1 (mkB (dedupB ps)) := l1'.grow gB2
  clear F4 F3 hB2 l2 l1' hm1
  have hzz : (mkB (dedupB qs)).length ≤ sizeLine := by rw [len_mkB]; unfold sizeLine; omega
  walk_at "go"
  rename_i s5 F5 T n s6 F6 hnT s7 F7
  refine x_try S O D (by simp) (x_forE ?_ (fun _ => rfl))
  walk_at "go"
  refine for_listE F7 l1'' (fun i B' vals' N' => ∃ (m : Nat) (tl : List Bt) (v6 : Option Value), vals' = [some (.ref a), some (.ref b), some (.ref a1), some (.ref a2), some (.ref T), v6] ∧ N' = [(T, lst (mkB tl) m)] ∧ tl.length ≤ 1000 ∧
    rmAll (dedupB ps) (dedupB qs) = rmAll ((dedupB ps).drop i) tl) ⟨n, dedupB qs, none, rfl, rfl, hy', rfl⟩ ?_ ?_
  · rintro i v I B' vals' N' io s' hi g K hK E' hE ⟨m, tl, v6, rfl, rfl, htl, hrm⟩ F
    have hi' : ∃ p, (dedupB ps)[i]? = some p ∧ v = .bytes p.1 p.2 := by
      unfold mkB at hi
      rw [List.getElem?_map] at hi
      cases e : (dedupB ps)[i]? with
      | none => rw [e] at hi; cases hi
      | some p => rw [e] at hi; exact ⟨p, rfl, (Option.some.inj hi).symm⟩
    obtain ⟨p, hp, rfl⟩ := hi'
    have hdrop : (dedupB ps).drop i = p :: (dedupB ps).drop (i + 1) := by
      have hlt := (List.getElem?_eq_some_iff.mp hp)
      rw [List.drop_eq_getElem_cons hlt.1, hlt.2]
    walk_at "go"
    rename_i s8 F8
    cases e : tl.findIdx? (fun q => q.1.toList == p.1.toList) with
    | some j =>
      have hj := List.findIdx?_eq_some_iff_getElem.mp e
      obtain ⟨hlt, h1, h2⟩ := hj
      refine rm_list F8 (j := j) htl ?_ ?_ (by walk_at "up") ?_
      · rw [List.getElem?_eq_getElem hlt]; simpa using h1
      · intro i' hi'
        have := h2 i' hi'
        rw [List.getElem?_eq_getElem (by omega)]
        simpa using this
      intro s9 F9
      refine ⟨rfl, ?_⟩
      walk_at "go"
      refine hK _ _ (Turn.next F9 ⟨_, _, _, rfl, rfl, ?_, ?_⟩)
      · rw [List.length_eraseIdx]; split <;> omega
      · rw [hrm, hdrop]
        simp only [rmAll, rmB, e, Option.map_some, Option.bind_some]
    | none =>
      have hno := List.findIdx?_eq_none_iff.mp e
      refine rm_raise F8 (F8.get (List.mem_cons_of_mem _ (.head _))) (fun q hq => by simpa using hno q hq) ?_
      intro h' tk ea hx
      refine hE _ _ (held_first F8 O hx ?_)
      intro s9 H9
      refine ForPost.err (held_back O H9 ?_)
      intro s10 H10
      refine ⟨ea, s8, _, _, _, _, rfl, H10, F8, ?_⟩
      intro s11 g11
      have hc : cmpB ps qs = false := by
        unfold cmpB
        rw [hrm, hdrop]
        simp only [rmAll, rmB, e, Option.map_none, Option.bind_none]
      have := h s11 ((((gB1.trans gB2).trans g).trans F8.grow).trans g11)
      rw [hc] at this
      exact this
  · rintro B' vals' N' s8 g ⟨m, tl, v6, rfl, rfl, htl, hrm⟩ F8
    refine ForPost.ok ?_
    walk_at "go"
    rename_i s9 F9
    have hc : cmpB ps qs = !!(mkB tl).isEmpty := by
      have e : (mkB tl).isEmpty = tl.isEmpty := by cases tl <;> rfl
      have hd : (dedupB ps).drop (mkB (dedupB ps)).length = [] := by rw [len_mkB]; simp
      unfold cmpB
      rw [hrm, hd, e]
      simp [rmAll]
    rw [← hc]
    exact h _ (((gB1.trans gB2).trans g).trans F9.grow)
theorem go_compare {prog : Program} {w : World} {b0 : Heap} {A : Around} {E : Value → Shared → Prop} {k : Nat} {s B : Shared} {L : Addr} {ns : List Str} {vals : List (Option Value)} {N : Ledger} {Q : Value → Shared → Prop} {a b : Addr} {ps qs : List Bt} (D : Std w b0) (F : Fx b0 A (k + 2) B L ns vals N s) (l1 : Lst s.heap a (mkB ps)) (l2 : Lst s.heap b (mkB qs)) (hz : ps.length ≤ 1000) (hy : qs.length ≤ 1000)
    (q : ∀ s', Fx b0 A (k + 2) B L ns vals N s' → Q (.bool (cmpB ps qs)) s') : b0.StaysIn s.heap ∧ codeAny (model prog w) A (.call (.ref 35) ⟨[.ref a, .ref b], []⟩) (wants Q E) s :=
  ⟨F.cx.stays, sp_compare D F.cx l1 l2 hz hy (Nat.le_trans (dedupB_len ps) hz) (Nat.le_trans (dedupB_len qs) hy) fun s' g => q s' (F.later g)⟩
theorem sp_uld {prog : Program} {w : World} {b0 : Heap} {A : Around} {k : Nat} {s : Shared} {R : Result → Shared → Prop} {a b : Addr} {ps qs rs : List Bt} {n m : Nat} (D : Std w b0) (C : Cx b0 A (k + 1) s) (hl : s.heap.get? a = some (lst (mkB ps) n)) (hm : s.heap.get? b = some (lst (mkB qs) m)) (a0 : b0.get? a = none) (c0 : b0.get? b = none) (hab : a ≠ b) (hz : ps.length ≤ 1000) (hy : qs.length ≤ 1000)
    (hr : rmAll ps.reverse qs = some rs)
    (h : ∀ t M n' m' s', Grow b0 (without s a b) s' → s'.heap.get? t = some (tupO [.ref M, .ref b]) → s'.heap.get? M = some (lst [] 0) → s.heap.get? t = none → s.heap.get? M = none → s'.heap.get? a = some (lst [] n') → s'.heap.get? b = some (lst (mkB rs) m') → R (.ok (.ret (.ref t))) s') :
    codeAny (model prog w) A (.call (.ref 123) ⟨[.ref a, .ref b], []⟩) R s := by
  refine enter (ns := ["expected", "actual", "missing", "item"]) (gs := []) (vals := [some (.ref a), some (.ref b), none, none]) D C (by exact rfl) (by exact rfl) (BindsTo.of_eq (by exact rfl)) (by exact rfl) (by decide +kernel) ⟨rfl, rfl, trivial⟩ ?_
  intro env A' L s₁ S F0 O
  have F := F0.take2 hl hm list_ne list_ne a0 c0 hab
  clear F0
  walk_at "go"
  rename_i M s2 F2 hM s3 F3
  refine while_K (fun j s' => ∃ (ps' qs' : List Bt) (n' m' : Nat) (v4 : Option Value), j = ps'.length ∧ ps'.length ≤ 1000 ∧ qs'.length ≤ 1000 ∧ rmAll ps'.reverse qs' = some rs ∧ Fx b0 A' k (without s a b) L ["expected", "actual", "missing", "item"] [some (.ref a), some (.ref b), some (.ref M), v4] [(M, lst [] 0), (a, lst (mkB ps') n'), (b, lst (mkB qs') m')] s') ?_ ps.length ⟨ps, qs, n, m, none, rfl, hz, hy, hr, F3⟩
  clear F F2 F3 hr hz hy
  rintro j s4 K Z hK hZ ⟨ps', qs', n', m', v4, rfl, hz, hy, hr, F⟩
  have hz1 : (mkB ps').length ≤ 1000 := by rw [len_mkB]; exact hz
  rcases List.eq_nil_or_concat ps' with rfl | ⟨p0, p, rfl⟩
  · walk_at "go"
    refine hZ _ ?_
    walk_at "go"
    rename_i s5 F5 t s6 F6
    have nd := F6.nodup
    have fresh : ∀ c, c ≠ a → c ≠ b → (without s a b).heap.get? c = none → s.heap.get? c = none := fun c h1 h2 e => by
      cases q : s.heap.get? c with
      | none => rfl
      | some o => rw [get_without q h1 h2] at e; cases e
    have er : qs' = rs := by simpa [rmAll] using hr
    subst er
    have T1 := F6.news _ (.head _)
    have T2 := F6.news _ (.tail _ (.head _))
    exact h t M n' m' s6 F6.grow T1.1 T2.1 (fresh _ (nodup_at nd 1 3 rfl rfl (by decide)) (nodup_at nd 1 4 rfl rfl (by decide)) T1.2.1) (fresh _ (nodup_at nd 2 3 rfl rfl (by decide)) (nodup_at nd 2 4 rfl rfl (by decide)) T2.2.1) (F6.get (.tail _ (.tail _ (.head _)))) (F6.get (.tail _ (.tail _ (.tail _ (.head _)))))
  · have e : mkB (p0 ++ [p]) = mkB p0 ++ [.bytes p.1 p.2] := by simp [mkB]
    simp only [List.concat_eq_append] at F hz hz1 hr ⊢
    rw [e] at F
    have hz0 : (mkB p0).length ≤ 1000 := by rw [len_mkB]; simp at hz; omega
    have hz2 : (mkB p0 ++ [Value.bytes p.1 p.2]).length ≤ 1000 := by rw [← e]; exact hz1
    walk_at "go"
    refine Br.t (by simp) ?_
    walk_at "go"
    refine x_tryN ?_
    walk_at "go"
    rename_i s5 F5 s6 F6 s7 F7
    rw [List.reverse_append] at hr
    simp only [List.reverse_cons, List.reverse_nil, List.nil_append, List.singleton_append, rmAll] at hr
    cases e2 : qs'.findIdx? (fun q => q.1.toList == p.1.toList) with
    | none =>
      unfold rmB at hr
      rw [e2] at hr
      simp at hr
    | some j =>
      obtain ⟨hlt, h1, h2⟩ := List.findIdx?_eq_some_iff_getElem.mp e2
      unfold rmB at hr
      rw [e2] at hr
      simp only [Option.map_some, Option.bind_some] at hr
      refine rm_list F7 (j := j) hy ?_ ?_ (by walk_at "up") ?_
      · rw [List.getElem?_eq_getElem hlt]; simpa using h1
      · intro i' hi'
        have := h2 i' hi'
        rw [List.getElem?_eq_getElem (by omega)]
        simpa using this
      intro s8 F8
      refine ⟨rfl, ?_⟩
      walk_at "go"
      refine hK p0.length _ (by simp) ⟨p0, qs'.eraseIdx j, _, _, _, rfl, by simp at hz; omega, ?_, hr, F8⟩
      rw [List.length_eraseIdx]; split <;> omega
/-- the first place of x -/
noncomputable def posOf : List Int → Int → Nat
  | [], _ => 0
  | y :: r, x => if y == x then 0 else posOf r x + 1
theorem posOf_at {x : Int} : ∀ {l : List Int}, x ∈ l → l[posOf l x]? = some x
  | [], h => by cases h
  | y :: r, h => by
    unfold posOf
    by_cases e : y == x
    · rw [if_pos e]; simpa using e
    · rw [if_neg e]
      have : x ∈ r := by
        rcases List.mem_cons.mp h with rfl | h
        · simp at e
        · exact h
      simpa using posOf_at this
theorem posOf_no {x : Int} : ∀ {l : List Int} {i : Nat}, i < posOf l x → l[i]? ≠ some x
  | [], _, h => by simp
  | y :: r, i, h => by
    unfold posOf at h
    by_cases e : y == x
    · rw [if_pos e] at h; omega
    · rw [if_neg e] at h
      cases i with
      | zero => simpa using e
      | succ i => simpa using posOf_no (l := r) (i := i) (by omega)
theorem posOf_lt {l : List Int} {x : Int} (h : x ∈ l) : posOf l x < l.length := (List.getElem?_eq_some_iff.mp (posOf_at h)).1
/-- one cache: the slot that a wish takes -/
noncomputable def minOf (l : List Int) : Int := l.min?.getD 0
noncomputable def slotOf (held used : List Int) (x : Int) : Nat := if held.any (· == x) then posOf held x else posOf used (minOf used)
noncomputable def cRun (held used : List Int) (c : Nat) : List Int → List (Bool × List Int)
  | [] => []
  | x :: r => (held.any (· == x), held.set (slotOf held used x) x) :: cRun (held.set (slotOf held used x) x) (used.set (slotOf held used x) (c + 1)) (c + 1) r
/-- held, used behind the wishes -/
noncomputable def cEnd (held used : List Int) (c : Nat) : List Int → List Int × List Int
  | [] => (held, used)
  | x :: r => cEnd (held.set (slotOf held used x) x) (used.set (slotOf held used x) (c + 1)) (c + 1) r
theorem cRun_snoc (x : Int) : ∀ (l : List Int) (held used : List Int) (c : Nat), cRun held used c (l ++ [x]) = cRun held used c l ++ [((cEnd held used c l).1.any (· == x), (cEnd held used c l).1.set (slotOf (cEnd held used c l).1 (cEnd held used c l).2 x) x)]
  | [], _, _, _ => rfl
  | _ :: l, _, _, _ => by simp only [List.cons_append, cRun, cEnd, cRun_snoc x l]
theorem cEnd_snoc (x : Int) : ∀ (l : List Int) (held used : List Int) (c : Nat), cEnd held used c (l ++ [x]) = ((cEnd held used c l).1.set (slotOf (cEnd held used c l).1 (cEnd held used c l).2 x) x, (cEnd held used c l).2.set (slotOf (cEnd held used c l).1 (cEnd held used c l).2 x) ((c : Int) + l.length + 1))
  | [], _, _, _ => by simp [cEnd]
  | y :: l, held, used, c => by
    simp only [List.cons_append, cEnd, cEnd_snoc x l, List.length_cons]
    have : ((c + 1 : Nat) : Int) + (l.length : Int) + 1 = (c : Int) + ((l.length + 1 : Nat) : Int) + 1 := by omega
    rw [this]
theorem cEnd_len : ∀ (l : List Int) (held used : List Int) (c : Nat), (cEnd held used c l).1.length = held.length ∧ (cEnd held used c l).2.length = used.length
  | [], _, _, _ => ⟨rfl, rfl⟩
  | _ :: l, held, used, c => by
    obtain ⟨h1, h2⟩ := cEnd_len l (held.set (slotOf held used _) _) (used.set (slotOf held used _) _) (c + 1)
    exact ⟨h1.trans (by simp), h2.trans (by simp)⟩
/-- the rows of a cache: found, the pages held; all none of the elder heap's -/
inductive RowsC (old h : Heap) : List Value → List (Bool × List Int) → Prop
  | nil : RowsC old h [] []
  | cons {a c : Addr} {f : Bool} {hd : List Int} {us vs : List Value} {rows : List (Bool × List Int)} : Lst h a [.bool f, .ref c] → Lst h c us → IntsAre us hd → old.get? a = none → old.get? c = none → RowsC old h vs rows → RowsC old h (.ref a :: vs) ((f, hd) :: rows)
theorem RowsC.grow {old b0 : Heap} {s s' : Shared} (g : Grow b0 s s') {vs : List Value} {rows : List (Bool × List Int)} (r : RowsC old s.heap vs rows) : RowsC old s'.heap vs rows := by
  induction r with
  | nil => exact .nil
  | cons l c i o p _ ih => exact .cons (l.grow g) (c.grow g) i o p ih
theorem RowsC.snoc {old h : Heap} {a c : Addr} {f : Bool} {hd : List Int} {us : List Value} (ha : Lst h a [.bool f, .ref c]) (hc : Lst h c us) (hi : IntsAre us hd) (oa : old.get? a = none) (oc : old.get? c = none) {vs : List Value} {rows : List (Bool × List Int)} (r : RowsC old h vs rows) : RowsC old h (vs ++ [.ref a]) (rows ++ [(f, hd)]) := by
  induction r with
  | nil => exact .cons ha hc hi oa oc .nil
  | cons l c i o p _ ih => exact .cons l c i o p ih
theorem RowsC.length {old h : Heap} {vs : List Value} {rows : List (Bool × List Int)} (r : RowsC old h vs rows) : vs.length = rows.length := by
  induction r with
  | nil => rfl
  | cons _ _ _ _ _ _ ih => exact congrArg (· + 1) ih
theorem mem_any {l : List Int} {x : Int} (h : l.any (· == x) = true) : x ∈ l := by
  obtain ⟨y, hy, e⟩ := List.any_eq_true.mp h
  exact beq_iff_eq.mp e ▸ hy
theorem minOf_is {l : List Int} {M : Int} (h1 : M ∈ l) (h2 : ∀ y ∈ l, M ≤ y) : minOf l = M := by
  unfold minOf
  rw [List.min?_eq_some_iff.mpr ⟨h1, h2⟩]; rfl
theorem slot_yes {hd ud : List Int} {x : Int} (h : hd.any (· == x) = true) : slotOf hd ud x = posOf hd x := if_pos h
theorem slot_no {hd ud : List Int} {x M : Int} (h : hd.any (· == x) = false) (h1 : M ∈ ud) (h2 : ∀ y ∈ ud, M ≤ y) : slotOf hd ud x = posOf ud M := by
  unfold slotOf
  rw [if_neg (by rw [h]; exact Bool.false_ne_true), minOf_is h1 h2]
theorem slot_lt {hd ud : List Int} {x : Int} {z : Nat} (l1 : hd.length = z) (l2 : ud.length = z) (hz : 1 ≤ z) : slotOf hd ud x < z := by
  by_cases h : hd.any (· == x) = true
  · rw [slot_yes h, ← l1]; exact posOf_lt (mem_any h)
  · cases e : ud.min? with
    | none => rw [List.min?_eq_none_iff] at e; subst e; subst l2; exact absurd hz (Nat.not_succ_le_zero 0)
    | some M =>
      have := List.min?_eq_some_iff.mp e
      rw [slot_no (Bool.not_eq_true _ ▸ h) this.1 this.2, ← l2]; exact posOf_lt this.1
theorem sp_cache {prog : Program} {w : World} {b0 : Heap} {A : Around} {k : Nat} {s : Shared} {R : Result → Shared → Prop} {a : Addr} {vs : List Value} {l : List Int} {z : Nat} {t : Tok} (D : Std w b0) (C : Cx b0 A (k + 1) s) (hl : Lst s.heap a vs) (hi : IntsAre vs l) (hz : l.length ≤ 1000) (hz1 : 1 ≤ z) (hz4 : z ≤ 1000)
    (h : ∀ a' us n s', Grow b0 s s' → s'.heap.get? a' = some (lst us n) → s.heap.get? a' = none → RowsC s.heap s'.heap us (cRun ((List.range z).map fun (i : Nat) => (i : Int)) ((List.range z).map fun (i : Nat) => 0 - (i : Int)) 0 l) → R (.ok (.ret (.ref a'))) s') : codeAny (model prog w) A (.call (.ref 156) ⟨[.ref a, .int z t], []⟩) R s := by
  refine enter (ns := ["asked", "size", "held", "used", "rows", "clock", "found", "slot"]) (gs := ["list", "range", "len", "min"]) (vals := [some (.ref a), some (.int z t), none, none, none, none, none, none]) D C (by exact rfl) (by exact rfl) (BindsTo.of_eq (by exact rfl)) (by exact rfl) (by decide +kernel) ⟨rfl, rfl, trivial⟩ ?_
  intro env A' L s₁ S F O
  walk_at "go"
  rename_i r t1 t2 s2 F2 hr2
  refine ls_range F2 hr2 hz4 ?_
  intro H hv hc s3 F3 hh
  walk_at "go"
  rename_i s4 F4
  refine x_comp (gs' := []) (by decide +kernel) (by exact rfl) (fun _ => rfl) (sw_true S (by decide +kernel) (by decide +kernel) (by decide +kernel)) ?_
  walk_at "go"
  rename_i r3 t3 t4 s5 F5 hr5
  refine comp_range S (gs' := []) (by decide +kernel) F5 hr5 (small_one hz4) (rs_one z) (Nat.le_trans hz4 (by decide)) (fun i B us => IntsAre us ((List.range i).map fun (i : Nat) => 0 - (i : Int))) .nil ?_ ?_
  · rintro Cc i v B' I Dd us m io s' SC ⟨hlt, t', rfl⟩ g hI hle F'
    refine wpAny_tests_nil (Br.t rfl ?_)
    walk_at "go"
    rename_i F7
    refine CTurn.ok F7 ?_
    rw [nat_one, List.range_succ, List.map_append]
    exact ints_snoc hI _ _
  rintro U Dd B' us m s' g hI hle g' hD hC hC0 hDC hlD hn
  refine comp_stores S F5 (by walk_at "put") g g' hD hC hC0 hDC hlD hn ?_
  intro s6 hk6 hD' F6
  clear hk6 hD' hlD hn hDC hC0 hC hD g' g hr5 hr2 F F2 F3 F4 F5 C
  have hlen := ints_len hi
  have hvz : vs.length ≤ 1000 := hlen ▸ hz
  have hvl' : vs.length ≤ 1000000 := Nat.le_trans hvz (by decide)
  clear hz
  walk_at "go"
  rename_i Rr s8 F8 hnR s9 F9 t5 s10 F10 rr t6 t7 s11 F11 hr11
  clear F6 F8 F9 F10
  generalize eh : ((List.range z).map fun (i : Nat) => (i : Int)) = h0 at hh h
  generalize eu : ((List.range z).map fun (i : Nat) => 0 - (i : Int)) = u0 at hI h
  have lh : h0.length = z := by rw [← eh, List.length_map, List.length_range]
  have lu : u0.length = z := by rw [← eu, List.length_map, List.length_range]
  clear eh eu
  refine for_range1 F11 hr11 hvz (fun i B' vals' N' => ∃ (hv uv rv : List Value) (hc uc rc : Nat) (v6 v7 v8 : Option Value), vals' = [some (.ref a), some (.int z t), some (.ref H), some (.ref Dd), some (.ref Rr), v6, v7, v8] ∧
    N' = [(Rr, lst rv rc), (Dd, lst uv uc), (H, lst hv hc)] ∧ IntsAre hv (cEnd h0 u0 0 (l.take i)).1 ∧ IntsAre uv (cEnd h0 u0 0 (l.take i)).2 ∧ RowsC s.heap B'.heap rv (cRun h0 u0 0 (l.take i)) ∧ rv.length = i) ⟨hv, us, [], hc, m, 0, none, none, none, rfl, rfl, hh, hI, .nil, rfl⟩ ?_ ?_
  · clear hr11 hh hI F11
    rintro i tk I B' vals' N' io s' hlt g K hK ⟨hv, uv, rv, hc, uc, rc, v6, v7, v8, rfl, rfl, hh, hI, hrw, hrl⟩ F
    clear h
    obtain ⟨x, hx⟩ : ∃ x, l[i]? = some x := ⟨l[i]'(hlen ▸ hlt), List.getElem?_eq_getElem (hlen ▸ hlt)⟩
    obtain ⟨xt, hxv⟩ := ints_at hi hx
    have hidx := ixN hxv hvl'
    have htk : l.take (i + 1) = l.take i ++ [x] := by rw [List.take_add_one, hx]; rfl
    have ecl : (i : Int) + 1 = ((0 : Nat) : Int) + ((l.take i).length : Nat) + 1 := by
      rw [List.length_take, Nat.min_eq_left (Nat.le_of_lt (hlen ▸ hlt))]
      exact (congrArg (· + (1 : Int)) (Int.zero_add _)).symm
    have hrz : rv.length ≤ sizeLine := by rw [hrl]; exact Nat.le_trans (Nat.le_of_lt hlt) (Nat.le_trans hvz (by decide))
    obtain ⟨lh', lu'⟩ := cEnd_len (l.take i) h0 u0 0
    rw [lh] at lh'
    rw [lu] at lu'
    have e1 := congrArg Prod.fst (cEnd_snoc x (l.take i) h0 u0 0)
    have e2 := congrArg Prod.snd (cEnd_snoc x (l.take i) h0 u0 0)
    have e3 := cRun_snoc x (l.take i) h0 u0 0
    rw [← htk] at e1 e2 e3
    dsimp only at e1 e2
    rw [← ecl] at e2
    generalize cEnd h0 u0 0 (l.take i) = ce at hh hI lh' lu' e1 e2 e3
    obtain ⟨hd, ud⟩ := ce
    dsimp only at hh hI lh' lu' e1 e2 e3
    have hhl := (ints_len hh).trans lh'
    have hul := (ints_len hI).trans lu'
    have hl' : Lst B'.heap a vs := hl.grow g
    have hhz : hd.length ≤ 1000 := lh' ▸ hz4
    have huz : ud.length ≤ 1000 := lu' ▸ hz4
    clear hxv hx hvl' hvz hlt hlen lh lu hi hl ecl htk
    walk_at "go"
    rename_i s12 F12 s13 F13
    refine th_join (P := fun s' => ∃ tk', Fx b0 A' k B' L ["asked", "size", "held", "used", "rows", "clock", "found", "slot"] [some (.ref a), some (.int z t), some (.ref H), some (.ref Dd), some (.ref Rr), some (.int (i : Int) tk), some (.bool (hd.any (· == x))), some (.int (slotOf hd ud x : Nat) tk')]
      [(I, io), (Rr, lst rv rc), (Dd, lst uv uc), (H, lst hv hc)] s') (x_both (fun hf => ?_) (fun hf => ?_)) ?_
    · walk_at "go"
      refine ix_list F13 (F13.lst (by walk_at "mem")) hh hhz (j := slotOf hd ud x) (by rw [slot_yes hf]; exact posOf_at (mem_any hf)) (by rw [slot_yes hf]; exact fun i => posOf_no) ?_
      intro t' s' F'
      walk_at "go"
      exact ⟨_, by assumption⟩
    · walk_at "go"
      refine mn_list F13 (F13.lst (by walk_at "mem")) hI (lu'.symm ▸ hz1) ?_
      intro M tM s14 F14 hM1 hM2
      walk_at "go"
      refine ix_list F14 (F14.lst (by walk_at "mem")) hI huz (j := slotOf hd ud x) (by rw [slot_no hf hM1 hM2]; exact posOf_at hM1) (by rw [slot_no hf hM1 hM2]; exact fun i => posOf_no) ?_
      intro t' s' F'
      walk_at "go"
      exact ⟨_, by assumption⟩
    · rintro s14 ⟨tk', F14⟩
      clear F13 F12 F
      have hsl := slot_lt (x := x) lh' lu' hz1
      have hk1 : 0 ≤ ((slotOf hd ud x : Nat) : Int) ∧ ((slotOf hd ud x : Nat) : Int) < hv.length := ⟨Int.natCast_nonneg _, by rw [hhl]; exact Int.ofNat_lt.mpr hsl⟩
      have hk2 : 0 ≤ ((slotOf hd ud x : Nat) : Int) ∧ ((slotOf hd ud x : Nat) : Int) < uv.length := ⟨Int.natCast_nonneg _, by rw [hul]; exact Int.ofNat_lt.mpr hsl⟩
      have hk3 : hv.length ≤ 1000 := hhl ▸ hz4
      have hk4 : uv.length ≤ 1000 := hul ▸ hz4
      have hk5 : (hv.set ((slotOf hd ud x : Nat) : Int).toNat (.int x xt)).length ≤ sizeLine := by rw [List.length_set]; exact Nat.le_trans hk3 (by decide)
      clear hsl hz1 hz4 hhz huz lh' lu'
      walk_at "go"
      rename_i s15 F15 tt s17 F17 s18 F18 cp cn s19 F19 n1 rw s20 F20 n2 s21 F21
      clear F14 F15 F17 F18 F19 F20
      obtain ⟨B2, g2, F22, hm2, _⟩ := F21.settle 2
      simp only [List.drop_succ_cons, List.drop_zero] at F22
      have hrow : Lst B2.heap rw [.bool (hd.any (· == x)), .ref cp] := ⟨0, hm2 (rw, _) (.head _)⟩
      have hcp : Lst B2.heap cp (hv.set ((slotOf hd ud x : Nat) : Int).toNat (.int x xt)) := ⟨_, hm2 (cp, _) (.tail _ (.head _))⟩
      rw [Int.toNat_natCast] at hcp F22
      have orw : s.heap.get? rw = none := g.there (F21.news _ (.head _)).2.1
      have ocp : s.heap.get? cp = none := g.there (F21.news _ (.tail _ (.head _))).2.1
      refine hK _ _ (Turn.from g2 (Turn.next F22 ⟨_, _, _, _, _, _, _, _, _, rfl, rfl, ?_, ?_, ?_, ?_⟩))
      · rw [e1]; exact ints_set hh _ _ _
      · rw [e2]; exact ints_set hI _ _ _
      · rw [e3]; exact (hrw.grow g2).snoc hrow hcp (ints_set hh _ _ _) orw ocp
      · rw [List.length_append, hrl]; rfl
  · rintro B' vals' N' s' g ⟨hv, uv, rv, hc, uc, rc, v6, v7, v8, rfl, rfl, hh', hI', hrw, hrl⟩ F
    walk_at "go"
    have e : l.take vs.length = l := by rw [hlen]; exact List.take_length
    rw [e] at hrw
    exact h _ rv rc _ (g.trans F.grow) (F.get (.head _)) (g.there (F.news _ (.head _)).2.1) (hrw.grow F.grow)
theorem RowsC.at {old h : Heap} {vs : List Value} {rows : List (Bool × List Int)} (r : RowsC old h vs rows) : ∀ {k : Nat} {f : Bool} {hd : List Int}, rows[k]? = some (f, hd) → ∃ a c us, vs[k]? = some (.ref a) ∧ Lst h a [.bool f, .ref c] ∧ Lst h c us ∧ IntsAre us hd := by
  induction r with
  | nil => intro k f hd e; cases e
  | cons l c i _ _ _ ih =>
    intro k f hd e
    cases k with
    | zero => cases e; exact ⟨_, _, _, rfl, l, c, i⟩
    | succ k => exact ih (k := k) e
theorem RefsB.at {old h : Heap} {vs : List Value} {shs : List (List Bt)} (r : RefsB old h vs shs) : ∀ {k : Nat} {sh : List Bt}, shs[k]? = some sh → ∃ a, vs[k]? = some (.ref a) ∧ Lst h a (mkB sh) := by
  induction r with
  | nil => intro k sh e; cases e
  | cons l _ _ ih =>
    intro k sh e
    cases k with
    | zero => cases e; exact ⟨_, rfl, l⟩
    | succ k => exact ih (k := k) e
/-- the pages at the numbers -/
noncomputable def sel (pg : List Bt) (hd : List Int) : List Bt := hd.filterMap fun i => pg[i.toNat]?
theorem sel_snoc {pg : List Bt} {hd : List Int} {i : Int} {p : Bt} (h : pg[i.toNat]? = some p) : sel pg (hd ++ [i]) = sel pg hd ++ [p] := by
  unfold sel; rw [List.filterMap_append]; simp [h]
theorem sel_len (pg : List Bt) (hd : List Int) : (sel pg hd).length ≤ hd.length := List.length_filterMap_le ..
theorem Cel.compS {env : Env} {L C c : Addr} {ns gs gs' : List Str} {scope : Scope} {x y : Str} {cl : List (Str × Addr)} (SC : Sc (compEnvC scope cl C env) C [x] gs') (S : Sc env L ns gs) (h : Cel env y c) (hf : scope.names.lookup y = some .free) (hc : cl.lookup y = some c) : Cel (compEnvC scope cl C env) y c := Cel.comp S h hf hc
/-- what one turn of _law_agree asks -/
structure AgreeAt (pg : List Bt) (z : Nat) (j : Nat) (sh : List Bt) (less more : Bool × List Int) : Prop where
  found : less.1 = decide (j < z)
  in1 : ∀ i ∈ less.2, 0 ≤ i ∧ i < 4
  in2 : ∀ i ∈ more.2, 0 ≤ i ∧ i < 4
  len1 : less.2.length ≤ 10
  len2 : more.2.length ≤ 10
  lens : sh.length ≤ 10
  same : cmpB (sel pg less.2) (sh.take z) = true
  other : cmpB (sel pg more.2) (sh.take z) = false
  diff : ∃ q p, rmAll (sel pg less.2).reverse (sel pg more.2) = some [q] ∧ sh[z]? = some p ∧ q.1.toList = p.1.toList
theorem clos_pages {scope : Scope} {env : Env} {c : Addr} (hn : scope.names = [((".0" : Str), NameKind.local), (("number" : Str), NameKind.local), (("pages" : Str), NameKind.free)]) (hec : env.cells = [(("pages" : Str), c)]) : closureFor scope env = pure [(("pages" : Str), c)] := by
  unfold closureFor
  rw [hn]
  obtain ⟨e1, e2, e3, e4, e5, e6, e7, e8, e9⟩ := env
  cases hec
  rfl
theorem sign_of {l : List UInt8} {i j : Nat} (h : l[i]? = some (65 + j).toUInt8) (hj : j < 4) : ((l.getD (i : Int).toNat 0).toNat : Int) - 65 = (j : Int) := sign_val h hj
theorem page_ix {pg : List Bt} (h4 : pg.length = 4) {x : Int} (h : 0 ≤ x ∧ x < 4) : ∃ p, pg[x.toNat]? = some p ∧ 0 ≤ x ∧ x < 2 ^ 63 ∧ (mkB pg)[x.toNat]? = some (.bytes p.1 p.2) := by
  have hx : x.toNat < pg.length := by omega
  exact ⟨pg[x.toNat], List.getElem?_eq_getElem hx, h.1, by omega, by unfold mkB; rw [List.getElem?_map, List.getElem?_eq_getElem hx]; rfl⟩
theorem sp_agree {prog : Program} {w : World} {b0 : Heap} {A : Around} {k : Nat} {s : Shared} {R : Result → Shared → Prop} {p sa la ma : Addr} {pg : List Bt} {sv lv mv : List Value} {shs : List (List Bt)} {rows rows' : List (Bool × List Int)} {sg : Array UInt8} {tg tz : Tok} {z : Nat} {old1 old2 old3 : Heap}
    (D : Std w b0) (C : Cx b0 A (k + 3) s) (hp : Lst s.heap p (mkB pg)) (h4 : pg.length = 4) (hs : Lst s.heap sa sv) (hsr : RefsB old1 s.heap sv shs) (hl : Lst s.heap la lv) (hlr : RowsC old2 s.heap lv rows) (hm : Lst s.heap ma mv) (hmr : RowsC old3 s.heap mv rows') (hz : z ≤ 10) (hsz : shs.length ≤ 1000)
    (hl1 : shs.length = rows.length) (hl2 : shs.length = rows'.length) (hsg : sg.size ≤ 1000) (h8 : ∀ (i : Nat) (sh : List Bt), shs[i]? = some sh → ∃ (j : Nat) (r r' : Bool × List Int), sg.toList[i]? = some (65 + j).toUInt8 ∧ j < 4 ∧ rows[i]? = some r ∧ rows'[i]? = some r' ∧ AgreeAt pg z j sh r r')
    (h : ∀ s', Grow b0 s s' → R (.ok (.ret (.bool true))) s') : codeAny (model prog w) A (.call (.ref 161) ⟨[.ref p, .ref sa, .bytes sg tg, .int z tz, .ref la, .ref ma], []⟩) R s := by
  refine enterC (cn := "pages") (cv := .ref p) (ns := ["shelves", "signs", "size", "less", "more", "k", "small", "large"]) (gs := ["range", "len", "_compare_args_orderless", "unorderable_list_difference"]) (vals := [some (.ref sa), some (.bytes sg tg), some (.int z tz), some (.ref la), some (.ref ma), none, none, none]) D C (by exact rfl) (by exact rfl) (by exact rfl) (by exact rfl) (by decide +kernel) (fun _ => rfl) (by decide +kernel) (by decide +kernel) ⟨rfl, rfl, rfl, rfl, rfl, trivial⟩ rfl ?_
  intro env A' L c B s₁ S F hec hcel gB hcB
  have hsB := hs.grow gB
  have hsl := hsr.length
  have hz0 : sv.length ≤ 1000 := hsl ▸ hsz
  have hz2 : sv.length ≤ 1000000 := Nat.le_trans hz0 (by decide)
  have hlz : lv.length ≤ 1000000 := hlr.length.trans hl1.symm ▸ Nat.le_trans hsz (by decide)
  have hmz : mv.length ≤ 1000000 := hmr.length.trans hl2.symm ▸ Nat.le_trans hsz (by decide)
  clear hl1 hl2
  walk_at "go"
  rename_i t1 s2 F2 r t2 t3 s3 F3 hr3
  refine for_range1 F3 hr3 hz0 (fun i B' vals' N' => ∃ (v6 v7 v8 : Option Value), vals' = [some (.ref sa), some (.bytes sg tg), some (.int z tz), some (.ref la), some (.ref ma), v6, v7, v8] ∧ N' = []) ⟨none, none, none, rfl, rfl⟩ ?_ ?_
  · rintro i tk I B' vals' N' io s' hlt g K hK ⟨v6, v7, v8, rfl, rfl⟩ F
    clear F3 F2 hr3 h
    rw [hsl] at hlt
    obtain ⟨sh, hsh⟩ : ∃ sh, shs[i]? = some sh := ⟨shs[i]'hlt, List.getElem?_eq_getElem hlt⟩
    obtain ⟨j, ⟨f, hd⟩, ⟨f', hd'⟩, hj, hj4, hr1, hr2, AG⟩ := h8 i sh hsh
    have gg := gB.trans g
    have hpB := hp.grow gg
    have hsB := hs.grow gg
    have hlB := hl.grow gg
    have hmB := hm.grow gg
    have hcB' := isCell_grow hcB g
    obtain ⟨a1, hav1, ha1⟩ := (hsr.grow gg).at hsh
    obtain ⟨b1, c1, us1, hbv1, hb1, hc1, hi1⟩ := (hlr.grow gg).at hr1
    obtain ⟨b2, c2, us2, hbv2, hb2, hc2, hi2⟩ := (hmr.grow gg).at hr2
    have hx1 := ixN hav1 hz2
    have hx2 := ixN hbv1 hlz
    have hx3 := ixN hbv2 hmz
    have hu1 := Nat.le_trans (Nat.le_of_eq (ints_len hi1)) AG.len1
    have hu2 := Nat.le_trans (Nat.le_of_eq (ints_len hi2)) AG.len2
    have hlt2 : i < sg.size := by
      have := (List.getElem?_eq_some_iff.mp hj).1
      rwa [Array.length_toList] at this
    have hix := bxN hlt2 hsg
    have egd := sign_of hj hj4
    clear h8 hz0 hz2 hlz hmz hsz hlt hsl hav1 hbv1 hbv2 hlt2 hj hr1 hr2 hsh hsg
    walk_at "go"
    rename_i s4 F4
    refine x_comp (gs' := []) (cl := [(("pages" : Str), c)]) (by decide +kernel) (clos_pages (by exact rfl) hec) (fun _ => rfl) (sw_true S (by decide +kernel) (by decide +kernel) (by decide +kernel)) ?_
    walk_at "go"
    rename_i tq s4' F4'
    refine comp_list S (gs' := []) (by decide +kernel) F4' (F4'.old hc1) (Nat.le_trans hu1 (by decide)) (fun i _ us => us = mkB (sel pg (hd.take i))) rfl ?_ ?_
    · rintro Cc i' v B2 I2 D2 us m io2 s5 SC hv g2 rfl hle F5
      obtain ⟨x, tx, hx, rfl⟩ := ints_get' hi1 hv
      obtain ⟨pp, hpp, hix2⟩ := page_ix h4 (AG.in1 x (List.mem_of_getElem? hx))
      have hcC := Cel.compS SC S hcel (by decide +kernel) (by simp)
      have hc2' := isCell_grow (isCell_grow hcB' F4'.grow) g2
      have hp2' : Lst B2.heap p (mkB pg) := (hpB.grow F4'.grow).grow g2
      refine wpAny_tests_nil (Br.t rfl ?_)
      walk_at "go"
      refine CTurn.ok F5 ?_
      show _ = mkB (sel pg (hd.take (i' + 1)))
      rw [List.take_add_one, hx, Option.toList_some, sel_snoc hpp, mkB_snoc]
    rintro Cc SM B2 us m s5 g2 hI2 hle2 g2' hD2 hC2 hC02 hDC2 hlD2 hn2
    have e2 : hd.take us1.length = hd := by rw [ints_len hi1]; exact List.take_length
    rw [e2] at hI2
    subst hI2
    refine comp_stores S F4' (by walk_at "put") g2 g2' hD2 hC2 hC02 hDC2 hlD2 hn2 ?_
    intro s6 hk6 hD6 F6
    clear F4' hk6 hD6 hlD2 hn2 hDC2 hC02 hC2 hD2 g2' g2 F4 F
    refine x_comp (gs' := []) (cl := [(("pages" : Str), c)]) (by decide +kernel) (clos_pages (by exact rfl) hec) (fun _ => rfl) (sw_true S (by decide +kernel) (by decide +kernel) (by decide +kernel)) ?_
    walk_at "go"
    rename_i tq' s6' F6'
    refine comp_list S (gs' := []) (by decide +kernel) F6' (F6'.old hc2) (Nat.le_trans hu2 (by decide)) (fun i _ us => us = mkB (sel pg (hd'.take i))) rfl ?_ ?_
    · rintro Cc i' v B2 I2 D2 us m io2 s5 SC hv g2 rfl hle F5
      obtain ⟨x, tx, hx, rfl⟩ := ints_get' hi2 hv
      obtain ⟨pp, hpp, hix2⟩ := page_ix h4 (AG.in2 x (List.mem_of_getElem? hx))
      have hcC := Cel.compS SC S hcel (by decide +kernel) (by simp)
      have hc2' := isCell_grow (isCell_grow hcB' F6'.grow) g2
      have hp2' : Lst B2.heap p (mkB pg) := (hpB.grow F6'.grow).grow g2
      refine wpAny_tests_nil (Br.t rfl ?_)
      walk_at "go"
      refine CTurn.ok F5 ?_
      show _ = mkB (sel pg (hd'.take (i' + 1)))
      rw [List.take_add_one, hx, Option.toList_some, sel_snoc hpp, mkB_snoc]
    rintro Cc LG B2 us m s5 g2 hI2 hle2 g2' hD2 hC2 hC02 hDC2 hlD2 hn2
    have e2 : hd'.take us2.length = hd' := by rw [ints_len hi2]; exact List.take_length
    rw [e2] at hI2
    subst hI2
    refine comp_stores S F6' (by walk_at "put") g2 g2' hD2 hC2 hC02 hDC2 hlD2 hn2 ?_
    intro s7 hk7 hD7 F7
    clear F6' hk7 hD7 hlD2 hn2 hDC2 hC02 hC2 hD2 g2' g2 F6
    have hfb : (!(f == decide (((sg.toList.getD (i : Int).toNat 0).toNat : Int) - 65 < (z : Int)))) = false := by
      rw [egd, show f = decide (j < z) from AG.found, show decide ((j : Int) < (z : Int)) = decide (j < z) from decide_eq_decide.mpr Int.ofNat_lt, beq_self_eq_true]; rfl
    have hzs : (mkB sh).length ≤ 1000 := by rw [len_mkB]; exact Nat.le_trans AG.lens (by decide)
    have et : (mkB sh).take ((z : Nat) : Int).toNat = mkB (sh.take z) := by rw [Int.toNat_natCast, mkB, mkB, List.map_take]
    have hs1 := Nat.le_trans (sel_len pg hd) (Nat.le_trans AG.len1 (show 10 ≤ 1000 by decide))
    have hs2 := Nat.le_trans (sel_len pg hd') (Nat.le_trans AG.len2 (show 10 ≤ 1000 by decide))
    have hst : (sh.take z).length ≤ 1000 := Nat.le_trans (List.length_take_le' z sh) (Nat.le_trans AG.lens (by decide))
    walk_at "go"
    rename_i X1 s8 F8
    rw [et] at F8
    refine go_compare (ps := sel pg hd) (qs := sh.take z) D F8 (F8.lst (by walk_at "mem")) (F8.lst (by walk_at "mem")) hs1 hst ?_
    intro s9 F9
    have hs' := AG.same
    have ho' := AG.other
    dsimp only at hs' ho'
    rw [hs']
    clear F8 F7
    walk_at "go"
    rename_i X2 s10 F10
    rw [et] at F10
    refine go_compare (ps := sel pg hd') (qs := sh.take z) D F10 (F10.lst (by walk_at "mem")) (F10.lst (by walk_at "mem")) hs2 hst ?_
    intro s11 F11
    rw [ho']
    clear F10 F9
    walk_at "go"
    have F12 := (F11.sub (List.Sublist.cons _ (List.Sublist.cons _ (List.Sublist.refl _)))).perm (List.Perm.swap _ _ _)
    clear F11
    obtain ⟨q, pz, hrm, hshz, hqp⟩ := AG.diff
    dsimp only at hrm
    have nd := F12.nodup
    have hpz := ixN (i := z) (show (mkB sh)[z]? = some (.bytes pz.1 pz.2) by unfold mkB; rw [List.getElem?_map, hshz]; rfl) (Nat.le_trans hzs (by decide))
    have N1 := F12.news _ (.head _)
    have N2 := F12.news _ (.tail _ (.head _))
    refine ⟨F12.cx.stays, sp_uld (k := k + 1) (ps := sel pg hd) (qs := sel pg hd') (rs := [q]) D F12.cx N1.1 N2.1 N1.2.2.1 N2.2.2.1 (nodup_at nd 1 2 rfl rfl (by decide)) hs1 hs2 hrm ?_⟩
    intro t M n' m' s12 g12 ht hM hnt hnM ha hb
    have F13 := F12.change2 g12 ha hb rfl rfl (fun _ z => by cases z) (fun _ z => by cases z)
    have F14 := F13.own (t := M) F12 (fun p hp => .inl (by simpa using List.mem_map_of_mem (f := (·.1)) hp)) hnM hM rfl
    have hMt : M ≠ t := fun z => by
      rw [z, ht] at hM
      have := congrArg Obj.cls (Option.some.inj hM)
      simp at this
    have F15 := F14.own (t := t) F12 (fun p hp => by
      rcases List.mem_cons.mp hp with rfl | hp
      · exact .inr hMt
      · exact .inl (by simpa using List.mem_map_of_mem (f := (·.1)) hp)) hnt ht rfl
    clear F12 F13 F14 hb ha hM ht g12 N1 N2
    show wpAny _ _ _ _ _ _
    walk_at "go"
    rename_i Y1 s13 F16 hn1 Y2 s14 F17 hn2 Y3 s15 F18
    clear F15 F16 F17
    have nd := F18.nodup
    refine op_neT (p1 := []) (p2 := [q]) (q1 := []) (q2 := [pz]) F18 (F18.get (by walk_at "mem")) (F18.get (by walk_at "mem")) (F18.lst (vs := []) (by walk_at "mem")) (F18.lst (by walk_at "mem")) (F18.lst (vs := []) (by walk_at "mem")) (F18.lst (vs := [.bytes pz.1 pz.2]) (by walk_at "mem")) rfl (by simp [hqp]) ?_ ?_ ?_
    · exact nodup_at nd 5 3 rfl rfl (by decide)
    · exact nodup_at nd 7 2 rfl rfl (by decide)
    walk_at "go"
    refine hK _ _ (Turn.next (F18.sub ?_) ⟨_, _, _, rfl, rfl⟩)
    iterate 7 refine List.Sublist.cons _ ?_
    exact List.Sublist.refl _
  · rintro B' vals' N' s' g ⟨v6, v7, v8, rfl, rfl⟩ F
    walk_at "go"
    exact h _ ((gB.trans g).trans F.grow)
/-- the four numbers -/
noncomputable def Sm (i : Int) : Prop := i = 0 ∨ i = 1 ∨ i = 2 ∨ i = 3
noncomputable def AllSm (l : List Int) : Prop := ∀ i ∈ l, Sm i
/-- pages told apart by their bytes -/
noncomputable def Apart (f : Int → Bt) : Prop := ∀ i j, Sm i → Sm j → ((f i).1.toList = (f j).1.toList ↔ i = j)
noncomputable def dedIS (acc : List Int) (x : Int) : List Int := if acc.any (· == x) then acc else acc ++ [x]
noncomputable def dedI (l : List Int) : List Int := l.foldl dedIS []
noncomputable def rmI (t : List Int) (x : Int) : Option (List Int) := (t.findIdx? (· == x)).map t.eraseIdx
noncomputable def rmAllI : List Int → List Int → Option (List Int)
  | [], t => some t
  | p :: r, t => (rmI t p).bind (rmAllI r)
noncomputable def cmpI (ps qs : List Int) : Bool := match rmAllI (dedI ps) (dedI qs) with
  | some t => t.isEmpty
  | none => false
theorem AllSm.cons {x : Int} {l : List Int} (h : AllSm (x :: l)) : Sm x ∧ AllSm l := ⟨h x (.head _), fun i hi => h i (.tail _ hi)⟩
theorem AllSm.sub {l m : List Int} (h : AllSm l) (s : ∀ x ∈ m, x ∈ l) : AllSm m := fun i hi => h i (s i hi)
theorem hasB_map {f : Int → Bt} (hf : Apart f) {x : Int} (hx : Sm x) : ∀ {acc : List Int}, AllSm acc → hasB (f x).1 (acc.map f) = acc.any (· == x)
  | [], _ => rfl
  | y :: r, h => by
    obtain ⟨hy, hr⟩ := h.cons
    have ih := hasB_map hf hx hr
    unfold hasB at ih ⊢
    simp only [List.map_cons, List.any_cons, ih]
    congr 1
    by_cases e : y = x
    · subst e; simp
    · rw [decide_eq_false (fun q => e ((hf y x hy hx).mp q))]
      simp [e]
theorem dedI_sub : ∀ (l acc : List Int), ∀ x ∈ l.foldl dedIS acc, x ∈ acc ∨ x ∈ l
  | [], acc, x, h => .inl h
  | y :: l, acc, x, h => by
    rcases dedI_sub l _ x h with h | h
    · unfold dedIS at h
      split at h
      · exact .inl h
      · rcases List.mem_append.mp h with h | h
        · exact .inl h
        · rw [List.mem_singleton.mp h]; exact .inr (.head _)
    · exact .inr (.tail _ h)
theorem dedup_fold {f : Int → Bt} (hf : Apart f) : ∀ (l acc : List Int), AllSm l → AllSm acc → (l.map f).foldl dedupStep (acc.map f) = (l.foldl dedIS acc).map f
  | [], _, _, _ => rfl
  | x :: l, acc, hl, ha => by
    obtain ⟨hx, hr⟩ := hl.cons
    simp only [List.map_cons, List.foldl_cons]
    have e : dedupStep (acc.map f) (f x) = (dedIS acc x).map f := by
      unfold dedupStep dedIS
      rw [hasB_map hf hx ha]
      split <;> simp
    rw [e]
    refine dedup_fold hf l _ hr fun i hi => ?_
    unfold dedIS at hi
    split at hi
    · exact ha i hi
    · rcases List.mem_append.mp hi with hi | hi
      · exact ha i hi
      · rw [List.mem_singleton.mp hi]; exact hx
theorem dedup_map {f : Int → Bt} (hf : Apart f) {l : List Int} (hl : AllSm l) : dedupB (l.map f) = (dedI l).map f := by
  have := dedup_fold hf l [] hl (fun i hi => by cases hi)
  simpa [dedupB, dedI] using this
theorem dedI_small {l : List Int} (hl : AllSm l) : AllSm (dedI l) := fun i hi => by
  rcases dedI_sub l [] i hi with h | h
  · cases h
  · exact hl i h
theorem find_map {f : Int → Bt} (hf : Apart f) {x : Int} (hx : Sm x) : ∀ {t : List Int}, AllSm t → (t.map f).findIdx? (fun p => p.1.toList == (f x).1.toList) = t.findIdx? (· == x)
  | [], _ => rfl
  | y :: r, h => by
    obtain ⟨hy, hr⟩ := h.cons
    have ih := find_map hf hx hr
    have e : ((f y).1.toList == (f x).1.toList) = (y == x) := by
      by_cases e : y = x
      · subst e; simp
      · rw [beq_eq_false_iff_ne.mpr (fun q => e ((hf y x hy hx).mp q)), beq_eq_false_iff_ne.mpr e]
    simp only [List.map_cons, List.findIdx?_cons, e, ih]
theorem rm_map {f : Int → Bt} (hf : Apart f) {x : Int} (hx : Sm x) {t : List Int} (ht : AllSm t) : rmB (t.map f) (f x).1 = (rmI t x).map (List.map f) := by
  unfold rmB rmI
  rw [find_map hf hx ht]
  cases t.findIdx? (· == x) with
  | none => rfl
  | some j => simp [eraseIdx_mapB]
theorem rmI_small {x : Int} {t t' : List Int} (ht : AllSm t) (h : rmI t x = some t') : AllSm t' := by
  unfold rmI at h
  cases e : t.findIdx? (· == x) with
  | none => rw [e] at h; cases h
  | some j =>
    rw [e] at h
    have : t.eraseIdx j = t' := Option.some.inj h
    subst this
    exact ht.sub fun x hx => List.mem_of_mem_eraseIdx hx
theorem rmAll_map {f : Int → Bt} (hf : Apart f) : ∀ (l t : List Int), AllSm l → AllSm t → rmAll (l.map f) (t.map f) = (rmAllI l t).map (List.map f)
  | [], _, _, _ => rfl
  | x :: l, t, hl, ht => by
    obtain ⟨hx, hr⟩ := hl.cons
    simp only [List.map_cons, rmAll, rmAllI]
    rw [rm_map hf hx ht]
    cases e : rmI t x with
    | none => rfl
    | some t' => exact rmAll_map hf l t' hr (rmI_small ht e)
theorem cmp_map {f : Int → Bt} (hf : Apart f) {l t : List Int} (hl : AllSm l) (ht : AllSm t) : cmpB (l.map f) (t.map f) = cmpI l t := by
  unfold cmpB cmpI
  rw [dedup_map hf hl, dedup_map hf ht, rmAll_map hf _ _ (dedI_small hl) (dedI_small ht)]
  cases rmAllI (dedI l) (dedI t) with
  | none => rfl
  | some t' => simp
noncomputable def mtf (st : List Int) (x : Int) : List Int := x :: st.filter (· != x)
/-- all orders of a list -/
noncomputable def insAll (x : Int) : List Int → List (List Int)
  | [] => [[x]]
  | y :: r => (x :: y :: r) :: (insAll x r).map (y :: ·)
noncomputable def orders : List Int → List (List Int)
  | [] => [[]]
  | x :: r => (orders r).flatMap (insAll x)
noncomputable def perms : List (List Int) := orders [0, 1, 2, 3]
noncomputable def four : List Int := [0, 1, 2, 3]
theorem sm_four {x : Int} (h : Sm x) : x ∈ four := by
  rcases h with rfl | rfl | rfl | rfl <;> decide
theorem four_sm {x : Int} (h : x ∈ four) : Sm x := by
  simp only [four, List.mem_cons, List.not_mem_nil, or_false] at h; exact h
theorem perm_start : ([0, 1, 2, 3] : List Int) ∈ perms := by decide
theorem perm_facts : ∀ st ∈ perms, (∀ y ∈ st, y ∈ four) ∧ st.length = 4 ∧ ∀ x ∈ four, x ∈ st ∧ mtf st x ∈ perms ∧ dedI (x :: st) = mtf st x ∧ (st.takeWhile (· != x)).length = posOf st x ∧ ∀ y ∈ four, y ≠ x → (mtf st y).takeWhile (· != x) = y :: (st.takeWhile (· != x)).filter (· != y) := by decide +kernel
theorem scan_front (x y : Int) : ∀ (r acc : List Int), scan x r (y :: acc.filter (· != y)) = y :: (scan x r acc).filter (· != y)
  | [], _ => rfl
  | z :: r, acc => by
    unfold scan
    by_cases e : z = x
    · rw [if_pos e, if_pos e]
    · rw [if_neg e, if_neg e]
      by_cases ey : z = y
      · subst ey
        have h1 : (z :: acc.filter (· != z)).any (· == z) = true := by simp
        rw [if_pos h1]
        by_cases ha : acc.any (· == z) = true
        · rw [if_pos ha]; exact scan_front x z r acc
        · rw [if_neg ha, ← scan_front x z r (acc ++ [z])]
          congr 2
          simp [List.filter_append]
      · have h1 : (y :: acc.filter (· != y)).any (· == z) = acc.any (· == z) := by
          have : (y == z) = false := by simpa using fun q => ey q.symm
          simp only [List.any_cons, this, Bool.false_or, List.any_filter]
          congr 1
          funext w
          by_cases ew : w = z
          · subst ew; simp [ey]
          · simp [ew]
        rw [h1]
        by_cases ha : acc.any (· == z) = true
        · rw [if_pos ha, if_pos ha]; exact scan_front x y r acc
        · rw [if_neg ha, if_neg ha, ← scan_front x y r (acc ++ [z])]
          congr 2
          simp [List.filter_append, ey]
/-- the past rp, the latest first, and the stack st tell the same -/
noncomputable def Past (rp st : List Int) : Prop := ∀ x ∈ four, scan x rp [] = st.takeWhile (· != x)
theorem past_start : Past [0, 1, 2, 3] [0, 1, 2, 3] := by unfold Past; decide +kernel
theorem past_step {rp st : List Int} (hs : st ∈ perms) (h : Past rp st) {y : Int} (hy : y ∈ four) : Past (y :: rp) (mtf st y) := by
  intro x hx
  unfold scan
  by_cases e : y = x
  · subst e
    rw [if_pos rfl]
    simp [mtf]
  · rw [if_neg e]
    have h1 : (if ([] : List Int).any (· == y) then [] else [] ++ [y]) = y :: ([] : List Int).filter (· != y) := by simp
    rw [h1, scan_front, h x hx, ((perm_facts st hs).2.2 x hx).2.2.2.2 y hy e]
noncomputable def gI : List Int → List Int → List Nat
  | _, [] => []
  | st, x :: r => posOf st x :: gI (mtf st x) r
noncomputable def stks : List Int → List Int → List (List Int)
  | _, [] => []
  | st, x :: r => mtf st x :: stks (mtf st x) r
theorem gI_len : ∀ (l st : List Int), (gI st l).length = l.length
  | [], _ => rfl
  | _ :: l, _ => by simp [gI, gI_len l]
theorem stks_len : ∀ (l st : List Int), (stks st l).length = l.length
  | [], _ => rfl
  | _ :: l, _ => by simp [stks, stks_len l]
theorem gaps_gI : ∀ (l : List Int) {rp st : List Int}, st ∈ perms → Past rp st → AllSm l → gapsOf rp l = (gI st l).map fun (n : Nat) => (n : Int)
  | [], _, _, _, _, _ => rfl
  | x :: l, rp, st, hs, hp, hl => by
    obtain ⟨hx, hr⟩ := hl.cons
    have hx' := sm_four hx
    have P := (perm_facts st hs).2.2 x hx'
    simp only [gapsOf, gI, List.map_cons, hp x hx', P.2.2.2.1, gaps_gI l P.2.1 (past_step hs hp hx') hr]
theorem gI_lt : ∀ (l : List Int) {st : List Int}, st ∈ perms → AllSm l → ∀ j ∈ gI st l, j < 4
  | [], _, _, _, j, h => by cases h
  | x :: l, st, hs, hl, j, h => by
    obtain ⟨hx, hr⟩ := hl.cons
    have P := (perm_facts st hs).2.2 x (sm_four hx)
    rcases List.mem_cons.mp h with rfl | h
    · have := posOf_lt P.1; rw [(perm_facts st hs).2.1] at this; exact this
    · exact gI_lt l P.2.1 hr j h
theorem perm_small {st : List Int} (h : st ∈ perms) : AllSm st := fun i hi => four_sm ((perm_facts st h).1 i hi)
theorem next_map {f : Int → Bt} (hf : Apart f) {st : List Int} (hs : st ∈ perms) {x : Int} (hx : Sm x) : nextShelf (st.map f) (posOf st x) = (mtf st x).map f := by
  have P := (perm_facts st hs).2.2 x (sm_four hx)
  unfold nextShelf
  rw [List.getElem?_map, posOf_at P.1]
  show dedupB ((x :: st).map f) = _
  rw [dedup_map hf (fun i hi => by rcases List.mem_cons.mp hi with rfl | hi; exact hx; exact perm_small hs i hi), P.2.2.1]
theorem shelves_map {f : Int → Bt} (hf : Apart f) : ∀ (l : List Int) {st : List Int}, st ∈ perms → AllSm l → shelvesOf (st.map f) (gI st l) = (stks st l).map (List.map f)
  | [], _, _, _ => rfl
  | x :: l, st, hs, hl => by
    obtain ⟨hx, hr⟩ := hl.cons
    have P := (perm_facts st hs).2.2 x (sm_four hx)
    simp only [gI, shelvesOf, stks, List.map_cons, next_map hf hs hx, shelves_map hf l P.2.1 hr]
theorem last_map {f : Int → Bt} (hf : Apart f) : ∀ (l : List Int) {st : List Int}, st ∈ perms → AllSm l → ∀ i, (lastShelf (st.map f) ((gI st l).take i)).length = 4
  | _, st, hs, _, 0 => by simp [lastShelf, (perm_facts st hs).2.1]
  | [], st, hs, _, i + 1 => by simp [lastShelf, gI, (perm_facts st hs).2.1]
  | x :: l, st, hs, hl, i + 1 => by
    obtain ⟨hx, hr⟩ := hl.cons
    have P := (perm_facts st hs).2.2 x (sm_four hx)
    have := last_map hf l P.2.1 hr i
    simpa [lastShelf, gI, next_map hf hs hx] using this
/-- the slot by the stack -/
noncomputable def slotS (z : Nat) (st held : List Int) (x : Int) : Nat := if held.any (· == x) then posOf held x else posOf held (st.getD (z - 1) 0)
theorem insAll_mid (x : Int) : ∀ (a b : List Int), a ++ x :: b ∈ insAll x (a ++ b)
  | [], [] => by simp [insAll]
  | [], y :: b => by simp [insAll]
  | y :: a, b => by
    have := insAll_mid x a b
    simp only [List.cons_append, insAll, List.mem_cons, List.mem_map]
    exact .inr ⟨_, this, rfl⟩
theorem mem_orders : ∀ {m l : List Int}, l.Perm m → l ∈ orders m
  | [], l, h => by rw [List.perm_nil.mp h]; simp [orders]
  | x :: r, l, h => by
    obtain ⟨a, b, rfl⟩ := List.append_of_mem (h.symm.subset (.head _))
    have h2 : (a ++ b).Perm r := List.Perm.cons_inv (List.perm_middle.symm.trans h)
    exact List.mem_flatMap.mpr ⟨_, mem_orders h2, insAll_mid x a b⟩
theorem getD_set_self {l : List Int} {m : Nat} {v : Int} (h : m < l.length) : (l.set m v).getD m 0 = v := by
  rw [List.getD_eq_getElem?_getD, List.getElem?_set, if_pos rfl, if_pos h]; rfl
theorem getD_set_ne {l : List Int} {m s : Nat} {v : Int} (h : s ≠ m) : (l.set m v).getD s 0 = l.getD s 0 := by
  rw [List.getD_eq_getElem?_getD, List.getD_eq_getElem?_getD, List.getElem?_set, if_neg (Ne.symm h)]
theorem mtf_top (st : List Int) (x : Int) : posOf (mtf st x) x = 0 := by simp [mtf, posOf]
theorem mtf_ord : ∀ st ∈ perms, ∀ x ∈ four, ∀ y ∈ four, y ≠ x → 0 < posOf (mtf st x) y ∧ ∀ y' ∈ four, y' ≠ x → (posOf (mtf st x) y' < posOf (mtf st x) y ↔ posOf st y' < posOf st y) := by decide +kernel
noncomputable def chk (z : Nat) (st held : List Int) (x : Int) : Bool :=
  let m := slotS z st held x
  let l := posOf held (st.getD (z - 1) 0)
  Nat.beq held.length z && Nat.blt m z && Nat.blt l z && (held.set m x).isPerm ((mtf st x).take z) && (held.any (· == x) == Nat.blt (posOf st x) z) &&
  (List.range z).all fun s => four.contains (held.getD s 0) && (Nat.beq s m || !(held.getD s 0 == x)) && (Nat.beq s l || Nat.blt (posOf st (held.getD s 0)) (posOf st (held.getD l 0)))
theorem chk_all : ([1, 2, 3, 4].all fun z => perms.all fun st => (orders (st.take z)).all fun held => four.all fun x => chk z st held x) = true := by decide +kernel
theorem chk_at {z : Nat} (hz : 1 ≤ z ∧ z ≤ 4) {st held : List Int} (hs : st ∈ perms) (hh : held ∈ orders (st.take z)) {x : Int} (hx : x ∈ four) : chk z st held x = true := by
  have h := chk_all
  simp only [List.all_eq_true] at h
  refine h z ?_ st hs held hh x hx
  have : z = 1 ∨ z = 2 ∨ z = 3 ∨ z = 4 := by omega
  rcases this with rfl | rfl | rfl | rfl <;> decide
structure Chk (z : Nat) (st held : List Int) (x : Int) (m l : Nat) : Prop where
  len : held.length = z
  lt : m < z
  lt' : l < z
  mem : held.set m x ∈ orders ((mtf st x).take z)
  found : held.any (· == x) = decide (posOf st x < z)
  top : posOf (mtf st x) ((held.set m x).getD m 0) = 0
  up : ∀ s, s < z → s ≠ m → 0 < posOf (mtf st x) ((held.set m x).getD s 0)
  low : ∀ s, s < z → s ≠ l → posOf st (held.getD s 0) < posOf st (held.getD l 0)
  same : ∀ s, s < z → s ≠ m → (held.set m x).getD s 0 = held.getD s 0
  ord : ∀ s s', s < z → s' < z → s ≠ m → s' ≠ m → (posOf (mtf st x) (held.getD s' 0) < posOf (mtf st x) (held.getD s 0) ↔ posOf st (held.getD s' 0) < posOf st (held.getD s 0))
theorem chk_is {z : Nat} (hz : 1 ≤ z ∧ z ≤ 4) {st held : List Int} (hs : st ∈ perms) (hh : held ∈ orders (st.take z)) {x : Int} (hx : x ∈ four) : Chk z st held x (slotS z st held x) (posOf held (st.getD (z - 1) 0)) := by
  have h := chk_at hz hs hh hx
  unfold chk at h
  simp only [Bool.and_eq_true, List.all_eq_true, List.mem_range, Bool.or_eq_true, beq_iff_eq, List.contains_iff_mem, Nat.beq_eq, Nat.blt_eq, Bool.not_eq_true', beq_eq_false_iff_ne] at h
  obtain ⟨⟨⟨⟨⟨h1, h2⟩, h3⟩, h4⟩, h5⟩, h7⟩ := h
  have hin : ∀ s, s < z → held.getD s 0 ∈ four := fun s hs => (h7 s hs).1.1
  have hne : ∀ s, s < z → s ≠ slotS z st held x → held.getD s 0 ≠ x := fun s hs hm => ((h7 s hs).1.2).resolve_left hm
  refine ⟨h1, h2, h3, mem_orders (List.isPerm_iff.mp h4), ?_, ?_, fun s hs' hm => ?_, fun s hs hm => ((h7 s hs).2).resolve_left hm, fun s hs hm => getD_set_ne hm, fun s s' hs1 hs2 hm hm' => ?_⟩
  · rw [h5]
    by_cases q : posOf st x < z
    · rw [decide_eq_true q]; exact Nat.blt_eq.mpr q
    · rw [decide_eq_false q]
      cases e : Nat.blt (posOf st x) z with
      | false => rfl
      | true => exact absurd (Nat.blt_eq.mp e) q
  · rw [getD_set_self (by omega)]; exact mtf_top st x
  · rw [getD_set_ne hm]; exact (mtf_ord st hs x hx _ (hin s hs') (hne s hs' hm)).1
  · exact (mtf_ord st hs x hx _ (hin s hs1) (hne s hs1 hm)).2 _ (hin s' hs2) (hne s' hs2 hm')
/-- a cache and the stack -/
structure CI (z : Nat) (st held used : List Int) (c : Nat) : Prop where
  inP : st ∈ perms
  inO : held ∈ orders (st.take z)
  len : used.length = z
  ord : ∀ s s' : Nat, s < z → s' < z → (used.getD s 0 < used.getD s' 0 ↔ posOf st (held.getD s' 0) < posOf st (held.getD s 0))
  le : ∀ s : Nat, s < z → used.getD s 0 ≤ c
theorem posOf_is {l : List Int} {v : Int} {m : Nat} (h : l[m]? = some v) (hn : ∀ i, i < m → l[i]? ≠ some v) : posOf l v = m := by
  have hm : v ∈ l := List.mem_of_getElem? h
  have h1 := posOf_at hm
  rcases Nat.lt_trichotomy (posOf l v) m with q | q | q
  · exact absurd h1 (hn _ q)
  · exact q
  · exact absurd h (posOf_no q)
theorem CI.slot {z : Nat} (hz : 1 ≤ z ∧ z ≤ 4) {st held used : List Int} {c : Nat} (I : CI z st held used c) {x : Int} (hx : x ∈ four) : slotOf held used x = slotS z st held x := by
  have K := chk_is hz I.inP I.inO hx
  unfold slotOf slotS
  by_cases hf : held.any (· == x) = true
  · rw [if_pos hf, if_pos hf]
  · rw [if_neg hf, if_neg hf]
    generalize posOf held (st.getD (z - 1) 0) = l at K ⊢
    have hl := I.len
    have at_ : ∀ s, s < z → used[s]? = some (used.getD s 0) := fun s hs => by
      rw [List.getD_eq_getElem?_getD, List.getElem?_eq_getElem (by omega)]; rfl
    have hmin : ∀ s, s < z → s ≠ l → used.getD l 0 < used.getD s 0 := fun s hs hn => (I.ord l s K.lt' hs).mpr (K.low s hs hn)
    have hm : minOf used = used.getD l 0 := by
      unfold minOf
      have : used.min? = some (used.getD l 0) := List.min?_eq_some_iff.mpr ⟨List.mem_of_getElem? (at_ l K.lt'), fun y hy => by
        obtain ⟨s, hs⟩ := List.getElem?_of_mem hy
        have hsl : s < z := by have := (List.getElem?_eq_some_iff.mp hs).1; omega
        have := at_ s hsl
        rw [hs] at this
        have : y = used.getD s 0 := Option.some.inj this
        by_cases e : s = l
        · subst e; omega
        · have := hmin s hsl e; omega⟩
      rw [this]; rfl
    rw [hm]
    refine posOf_is (at_ l K.lt') fun i hi q => ?_
    have hil : i < z := by have := K.lt'; omega
    rw [at_ i hil] at q
    have h1 := hmin i hil (by omega)
    have h2 := Option.some.inj q
    omega
theorem CI.step {z : Nat} (hz : 1 ≤ z ∧ z ≤ 4) {st held used : List Int} {c : Nat} (I : CI z st held used c) {x : Int} (hx : x ∈ four) :
    CI z (mtf st x) (held.set (slotOf held used x) x) (used.set (slotOf held used x) (c + 1)) (c + 1) := by
  have K := chk_is hz I.inP I.inO hx
  rw [I.slot hz hx]
  generalize slotS z st held x = m at K ⊢
  have hl := I.len
  refine ⟨((perm_facts st I.inP).2.2 x hx).2.1, K.mem, by simp [hl], fun s s' hs hs' => ?_, fun s hs => ?_⟩
  · by_cases e : s = m
    · by_cases e' : s' = m
      · subst e; subst e'; simp
      · subst e
        rw [getD_set_self (by omega), getD_set_ne e', K.top]
        have := I.le s' hs'
        constructor
        · intro q; omega
        · intro q; omega
    · by_cases e' : s' = m
      · subst e'
        rw [getD_set_self (by omega), getD_set_ne e, K.top]
        have := I.le s hs
        have := K.up s hs e
        constructor
        · intro _; omega
        · intro _; omega
      · rw [getD_set_ne e, getD_set_ne e', K.same s hs e, K.same s' hs' e', K.ord s s' hs hs' e e']
        exact I.ord s s' hs hs'
  · by_cases e : s = m
    · subst e; rw [getD_set_self (by omega)]; omega
    · rw [getD_set_ne e]; have := I.le s hs; omega
theorem CI.found {z : Nat} (hz : 1 ≤ z ∧ z ≤ 4) {st held used : List Int} {c : Nat} (I : CI z st held used c) {x : Int} (hx : x ∈ four) : held.any (· == x) = decide (posOf st x < z) := (chk_is hz I.inP I.inO hx).found
theorem start_ord : ∀ z ∈ [1, 2, 3, 4], ∀ s, s < z → ∀ s', s' < z → (((List.range z).map fun (i : Nat) => 0 - (i : Int)).getD s 0 < ((List.range z).map fun (i : Nat) => 0 - (i : Int)).getD s' 0 ↔ posOf [0, 1, 2, 3] (((List.range z).map fun (i : Nat) => (i : Int)).getD s' 0) < posOf [0, 1, 2, 3] (((List.range z).map fun (i : Nat) => (i : Int)).getD s 0)) := by decide +kernel
theorem start_le : ∀ z ∈ [1, 2, 3, 4], ∀ s, s < z → ((List.range z).map fun (i : Nat) => 0 - (i : Int)).getD s 0 ≤ ((0 : Nat) : Int) := by decide +kernel
theorem CI.start {z : Nat} (hz : 1 ≤ z ∧ z ≤ 4) : CI z [0, 1, 2, 3] ((List.range z).map fun (i : Nat) => (i : Int)) ((List.range z).map fun (i : Nat) => 0 - (i : Int)) 0 := by
  have hm : z ∈ [1, 2, 3, 4] := by
    have : z = 1 ∨ z = 2 ∨ z = 3 ∨ z = 4 := by omega
    rcases this with rfl | rfl | rfl | rfl <;> decide
  refine ⟨by decide, ?_, by simp, fun s s' hs hs' => start_ord z hm s hs s' hs', fun s hs => start_le z hm s hs⟩
  have : z = 1 ∨ z = 2 ∨ z = 3 ∨ z = 4 := by omega
  rcases this with rfl | rfl | rfl | rfl <;> decide
theorem b64v_low {x : Int} (h : 0 ≤ x ∧ x < 4) : b64v (65 + x) = x := by unfold b64v; rw [if_pos (by omega)]; omega
theorem tab_low {x : Int} (h : 0 ≤ x ∧ x < 4) : tabI x = 65 + x := by
  have : x = 0 ∨ x = 1 ∨ x = 2 ∨ x = 3 := by omega
  rcases this with rfl | rfl | rfl | rfl <;> decide
theorem four_less {a b c d : Int} {r : List Int} (h : (a :: b :: c :: d :: r).length % 4 = 0) : r.length % 4 = 0 := by
  simp only [List.length_cons] at h; omega
theorem low_facts {x : Int} (h : 0 ≤ x ∧ x < 4) : x / 16 = 0 ∧ x % 16 = x ∧ x / 4 = 0 ∧ x % 4 = x := by
  have : x = 0 ∨ x = 1 ∨ x = 2 ∨ x = 3 := by omega
  rcases this with rfl | rfl | rfl | rfl <;> decide
theorem dec_block {a b c d : Int} (ha : 0 ≤ a ∧ a < 4) (hb : 0 ≤ b ∧ b < 4) (hc : 0 ≤ c ∧ c < 4) (hd : 0 ≤ d ∧ d < 4) (acc : List Int) :
    decStep (decStep (decStep (decStep (0, 0, acc) (65 + a)) (65 + b)) (65 + c)) (65 + d) = (0, 0, acc ++ [4 * a, 16 * b, 64 * c + d]) := by
  show ((0 : Int), (0 : Int), ((acc ++ [b64v (65 + a) * 4 + b64v (65 + b) / 16]) ++ [b64v (65 + b) % 16 * 16 + b64v (65 + c) / 4]) ++ [b64v (65 + c) % 4 * 64 + b64v (65 + d)]) = _
  rw [b64v_low ha, b64v_low hb, b64v_low hc, b64v_low hd, (low_facts hb).1, (low_facts hb).2.1, (low_facts hc).2.2.1, (low_facts hc).2.2.2, Int.add_zero, Int.add_zero, Int.mul_comm a, Int.mul_comm b, Int.mul_comm c, List.append_assoc, List.append_assoc]
  rfl
theorem dec_fold : ∀ (F acc : List Int), F.length % 4 = 0 → (∀ x ∈ F, 0 ≤ x ∧ x < 4) → (F.map (65 + ·)).foldl decStep (0, 0, acc) = (0, 0, acc ++ octI F)
  | [], acc, _, _ => by rw [show octI [] = [] from rfl, List.append_nil]; rfl
  | [_], _, h, _ => nomatch h
  | [_, _], _, h, _ => nomatch h
  | [_, _, _], _, h, _ => nomatch h
  | a :: b :: c :: d :: r, acc, h, hr => by
    have ih := dec_fold r (acc ++ [4 * a, 16 * b, 64 * c + d]) (four_less h) fun x hx => hr x (.tail _ (.tail _ (.tail _ (.tail _ hx))))
    rw [List.append_assoc] at ih
    exact (congrArg (fun st => (r.map (65 + ·)).foldl decStep st) (dec_block (hr a (.head _)) (hr b (.tail _ (.head _))) (hr c (.tail _ (.tail _ (.head _)))) (hr d (.tail _ (.tail _ (.tail _ (.head _))))) acc)).trans ih
theorem lc_mod (lc : Int) {x : Int} (h : 0 ≤ x ∧ x < 256) : (lc * 256 + x) % 65536 = lc % 256 * 256 + x := by omega
theorem lc_low (y : Int) {x : Int} (h : 0 ≤ x ∧ x < 256) : (y * 256 + x) % 256 = x := by omega
theorem sx_a (y : Int) {a : Int} (h : 0 ≤ a ∧ a < 4) : (y * 256 + 4 * a) / 4 % 64 = a := by omega
theorem sx_b (y : Int) {b : Int} (h : 0 ≤ b ∧ b < 4) : (4 * y * 256 + 16 * b) / 16 % 64 = b := by omega
theorem sx_c (y : Int) {c d : Int} (h : 0 ≤ c ∧ c < 4) (h' : 0 ≤ d ∧ d < 4) : (16 * y * 256 + (64 * c + d)) / 64 % 64 = c := by omega
theorem sx_d (y c : Int) {d : Int} (h' : 0 ≤ d ∧ d < 4) : (16 * y * 256 + (64 * c + d)) % 64 = d := by omega
theorem enc_block {a b c d : Int} (ha : 0 ≤ a ∧ a < 4) (hb : 0 ≤ b ∧ b < 4) (hc : 0 ≤ c ∧ c < 4) (hd : 0 ≤ d ∧ d < 4) (acc : List Int) (lc : Int) :
    encStep (encStep (encStep (0, lc, acc) (4 * a)) (16 * b)) (64 * c + d) = (0, 16 * b * 256 + (64 * c + d), acc ++ [65 + a, 65 + b, 65 + c, 65 + d]) := by
  have k1 : (lc * 256 + 4 * a) % 65536 = lc % 256 * 256 + 4 * a := lc_mod lc (by omega)
  have k2 : ((lc % 256 * 256 + 4 * a) * 256 + 16 * b) % 65536 = 4 * a * 256 + 16 * b := by rw [lc_mod _ (by omega), lc_low _ (by omega)]
  have k3 : ((4 * a * 256 + 16 * b) * 256 + (64 * c + d)) % 65536 = 16 * b * 256 + (64 * c + d) := by rw [lc_mod _ (by omega), lc_low _ (by omega)]
  have s1 : encStep (0, lc, acc) (4 * a) = (2, lc % 256 * 256 + 4 * a, acc ++ [65 + a]) := by
    show ((2 : Int), (lc * 256 + 4 * a) % 65536, acc ++ [tabI ((lc * 256 + 4 * a) % 65536 / 4 % 64)]) = _
    rw [k1, sx_a _ ha, tab_low ha]
  have s2 : encStep (2, lc % 256 * 256 + 4 * a, acc ++ [65 + a]) (16 * b) = (4, 4 * a * 256 + 16 * b, acc ++ [65 + a] ++ [65 + b]) := by
    show ((4 : Int), ((lc % 256 * 256 + 4 * a) * 256 + 16 * b) % 65536, acc ++ [65 + a] ++ [tabI (((lc % 256 * 256 + 4 * a) * 256 + 16 * b) % 65536 / 16 % 64)]) = _
    rw [k2, sx_b _ hb, tab_low hb]
  have s3 : encStep (4, 4 * a * 256 + 16 * b, acc ++ [65 + a] ++ [65 + b]) (64 * c + d) = (0, 16 * b * 256 + (64 * c + d), acc ++ [65 + a] ++ [65 + b] ++ [65 + c, 65 + d]) := by
    show ((0 : Int), ((4 * a * 256 + 16 * b) * 256 + (64 * c + d)) % 65536, acc ++ [65 + a] ++ [65 + b] ++ [tabI (((4 * a * 256 + 16 * b) * 256 + (64 * c + d)) % 65536 / 64 % 64), tabI (((4 * a * 256 + 16 * b) * 256 + (64 * c + d)) % 65536 % 64)]) = _
    rw [k3, sx_c _ hc hd, sx_d _ _ hd, tab_low hc, tab_low hd]
  rw [s1, s2, s3, List.append_assoc, List.append_assoc]
  rfl
theorem enc_fold : ∀ (F acc : List Int) (lc : Int), F.length % 4 = 0 → (∀ x ∈ F, 0 ≤ x ∧ x < 4) → ∃ lc', (octI F).foldl encStep (0, lc, acc) = (0, lc', acc ++ F.map (65 + ·))
  | [], acc, lc, _, _ => ⟨lc, by rw [List.map_nil, List.append_nil]; rfl⟩
  | [_], _, _, h, _ => nomatch h
  | [_, _], _, _, h, _ => nomatch h
  | [_, _, _], _, _, h, _ => nomatch h
  | a :: b :: c :: d :: r, acc, lc, h, hr => by
    obtain ⟨lc', ih⟩ := enc_fold r (acc ++ [65 + a, 65 + b, 65 + c, 65 + d]) (16 * b * 256 + (64 * c + d)) (four_less h) fun x hx => hr x (.tail _ (.tail _ (.tail _ (.tail _ hx))))
    rw [List.append_assoc] at ih
    exact ⟨lc', (congrArg (fun st => (octI r).foldl encStep st) (enc_block (hr a (.head _)) (hr b (.tail _ (.head _))) (hr c (.tail _ (.tail _ (.head _)))) (hr d (.tail _ (.tail _ (.tail _ (.head _))))) acc lc)).trans ih⟩
theorem octs_arr {l : List Int} (h : ∀ p ∈ l, 0 ≤ p ∧ p < 256) : octs (byteArr l) = l := by
  unfold octs byteArr
  simp only [List.map_map]
  conv => rhs; rw [← List.map_id l]
  refine List.map_congr_left fun p hp => ?_
  have := h p hp
  simp
  omega
theorem s65 {F : List Int} (hr : ∀ x ∈ F, 0 ≤ x ∧ x < 4) : ∀ p ∈ F.map (65 + ·), 0 ≤ p ∧ p < 256 := fun p hp => by
  obtain ⟨x, hx, rfl⟩ := List.mem_map.mp hp
  have := hr x hx; omega
theorem dec_filled {F : List Int} (h4 : F.length % 4 = 0) (hr : ∀ x ∈ F, 0 ≤ x ∧ x < 4) : decB (byteArr (F.map (65 + ·))) = byteArr (octI F) := by
  unfold decB decI
  rw [octs_arr (s65 hr), dec_fold F [] h4 hr]
  simp
theorem enc_filled {F : List Int} (h4 : F.length % 4 = 0) (hr : ∀ x ∈ F, 0 ≤ x ∧ x < 4) : encB (byteArr (octI F)) = byteArr (F.map (65 + ·)) := by
  unfold encB encI
  rw [octs_arr (octI_range F hr)]
  obtain ⟨lc, e⟩ := enc_fold F [] 0 h4 hr
  rw [e]; simp
theorem octI_len : ∀ F : List Int, F.length % 4 = 0 → 4 * (octI F).length = 3 * F.length
  | [], _ => rfl
  | [_], h => by simp at h
  | [_, _], h => by simp at h
  | [_, _, _], h => by simp at h
  | a :: b :: c :: d :: r, h => by
    have ih := octI_len r (by simp at h; omega)
    simp only [octI, List.length_cons]
    omega
theorem arr_size (l : List Int) : (byteArr l).size = l.length := by simp [byteArr]
theorem filled_ok {F : List Int} (h4 : F.length % 4 = 0) (hr : ∀ x ∈ F, 0 ≤ x ∧ x < 4) (hz : F.length ≤ 1000) : (byteArr (F.map (65 + ·))).size ≤ 1000 ∧ (byteArr (F.map (65 + ·))).size % 4 = 0 ∧ ∀ x ∈ octs (byteArr (F.map (65 + ·))), x ≠ 61 ∧ b64v x < 64 := by
  refine ⟨by rw [arr_size]; simpa using hz, by rw [arr_size]; simpa using h4, fun x hx => ?_⟩
  rw [octs_arr (s65 hr)] at hx
  obtain ⟨y, hy, rfl⟩ := List.mem_map.mp hx
  have := hr y hy
  rw [b64v_low this]; omega
theorem oct_ok {F : List Int} (h4 : F.length % 4 = 0) (hz : F.length ≤ 1000) : (byteArr (octI F)).size ≤ 1000 ∧ (byteArr (octI F)).size % 3 = 0 := by
  have := octI_len F h4
  rw [arr_size]; omega
-- the four pages
theorem page_apart : ∀ i ∈ four, ∀ j ∈ four, ((page i).toList = (page j).toList ↔ i = j) := by decide +kernel
theorem page_ok : ∀ i ∈ four, (page i).size ≤ 1000 ∧ (page i).size % 4 = 0 ∧ ∀ x ∈ octs (page i), x ≠ 61 ∧ b64v x < 64 := by decide +kernel
theorem page_back : ∀ i ∈ four, 0 < (decB (page i)).size ∧ (decB (page i)).size ≤ 1000 ∧ (((decB (page i)).toList.getD 0 0).toNat : Int) = i := by decide +kernel
/-- pages with their tokens -/
noncomputable def pgF (pg : List Bt) (i : Int) : Bt := pg.getD i.toNat (#[], 0)
noncomputable def Pages (pg : List Bt) : Prop := pg.length = 4 ∧ ∀ i ∈ four, (pgF pg i).1 = page i
theorem Pages.apart {pg : List Bt} (h : Pages pg) : Apart (pgF pg) := fun i j hi hj => by
  rw [h.2 i (sm_four hi), h.2 j (sm_four hj)]
  exact page_apart i (sm_four hi) j (sm_four hj)
theorem Pages.is {pg : List Bt} (h : Pages pg) : pg = four.map (pgF pg) := by
  obtain ⟨hl, _⟩ := h
  match pg, hl with
  | [a, b, c, d], _ => rfl
theorem Pages.at {pg : List Bt} (h : Pages pg) {i : Int} (hi : i ∈ four) : pg[i.toNat]? = some (pgF pg i) := by
  obtain ⟨hl, _⟩ := h
  have : i.toNat < pg.length := by have := four_sm hi; unfold Sm at this; omega
  unfold pgF
  rw [List.getD_eq_getElem?_getD, List.getElem?_eq_getElem this]; rfl
theorem Pages.sel {pg : List Bt} (h : Pages pg) : ∀ {hd : List Int}, AllSm hd → sel pg hd = hd.map (pgF pg)
  | [], _ => rfl
  | x :: r, hx => by
    obtain ⟨h1, h2⟩ := hx.cons
    have ih := h.sel h2
    unfold Mine.sel at ih ⊢
    rw [List.filterMap_cons, h.at (sm_four h1), List.map_cons, ih]
noncomputable def agr (z : Nat) (st h1 h2 : List Int) : Bool :=
  cmpI h1 (st.take z) && !cmpI h2 (st.take z) && (rmAllI h1.reverse h2 == (st[z]?.map fun y => [y])) && (st[z]?).isSome && h1.all four.contains && h2.all four.contains && decide (h1.length ≤ 10) && decide (h2.length ≤ 10)
theorem agr_all : ([1, 2, 3].all fun z => perms.all fun st => (orders (st.take z)).all fun h1 => (orders (st.take (z + 1))).all fun h2 => agr z st h1 h2) = true := by decide +kernel
structure Agr (z : Nat) (st h1 h2 : List Int) : Prop where
  same : cmpI h1 (st.take z) = true
  other : cmpI h2 (st.take z) = false
  diff : ∃ y, rmAllI h1.reverse h2 = some [y] ∧ st[z]? = some y
  in1 : AllSm h1
  in2 : AllSm h2
  len1 : h1.length ≤ 10
  len2 : h2.length ≤ 10
theorem agr_is {z : Nat} (hz : 1 ≤ z ∧ z ≤ 3) {st h1 h2 : List Int} (hs : st ∈ perms) (m1 : h1 ∈ orders (st.take z)) (m2 : h2 ∈ orders (st.take (z + 1))) : Agr z st h1 h2 := by
  have h := agr_all
  simp only [List.all_eq_true] at h
  have hm : z ∈ [1, 2, 3] := by
    have : z = 1 ∨ z = 2 ∨ z = 3 := by omega
    rcases this with rfl | rfl | rfl <;> decide
  have h := h z hm st hs h1 m1 h2 m2
  unfold agr at h
  simp only [Bool.and_eq_true, decide_eq_true_eq, List.all_eq_true, beq_iff_eq, List.contains_iff_mem, Bool.not_eq_true'] at h
  obtain ⟨⟨⟨⟨⟨⟨⟨a1, a2⟩, a3⟩, a4⟩, a5⟩, a6⟩, a7⟩, a8⟩ := h
  obtain ⟨y, hy⟩ := Option.isSome_iff_exists.mp a4
  exact ⟨a1, a2, ⟨y, by rw [a3, hy]; rfl, hy⟩, fun i hi => four_sm (a5 i hi), fun i hi => four_sm (a6 i hi), a7, a8⟩
theorem sm_range {i : Int} (h : Sm i) : 0 ≤ i ∧ i < 4 := by unfold Sm at h; omega
theorem agree_at {pg : List Bt} (hp : Pages pg) {z : Nat} (hz : 1 ≤ z ∧ z ≤ 3) {st held used held2 used2 : List Int} {c : Nat} {x : Int} (hx : x ∈ four) (I : CI z st held used c) (J : CI (z + 1) st held2 used2 c) :
    AgreeAt pg z (posOf st x) ((mtf st x).map (pgF pg)) (held.any (· == x), held.set (slotOf held used x) x) (held2.any (· == x), held2.set (slotOf held2 used2 x) x) := by
  have I' := I.step ⟨hz.1, by omega⟩ hx
  have J' := J.step ⟨by omega, by omega⟩ hx
  have G := agr_is hz I'.inP I'.inO J'.inO
  have hst := perm_small I'.inP
  have htk : AllSm ((mtf st x).take z) := hst.sub fun y hy => List.mem_of_mem_take hy
  refine ⟨I.found ⟨hz.1, by omega⟩ hx, fun i hi => sm_range (G.in1 i hi), fun i hi => sm_range (G.in2 i hi), G.len1, G.len2, ?_, ?_, ?_, ?_⟩
  · rw [List.length_map, (perm_facts _ I'.inP).2.1]; omega
  · show cmpB (Mine.sel pg (held.set (slotOf held used x) x)) (((mtf st x).map (pgF pg)).take z) = true
    rw [hp.sel G.in1, ← List.map_take, cmp_map hp.apart G.in1 htk]; exact G.same
  · show cmpB (Mine.sel pg (held2.set (slotOf held2 used2 x) x)) (((mtf st x).map (pgF pg)).take z) = false
    rw [hp.sel G.in2, ← List.map_take, cmp_map hp.apart G.in2 htk]; exact G.other
  · obtain ⟨y, h1, h2⟩ := G.diff
    refine ⟨pgF pg y, pgF pg y, ?_, ?_, rfl⟩
    · show rmAll (Mine.sel pg (held.set (slotOf held used x) x)).reverse (Mine.sel pg (held2.set (slotOf held2 used2 x) x)) = _
      rw [hp.sel G.in1, hp.sel G.in2, ← List.map_reverse, rmAll_map hp.apart _ _ (G.in1.sub fun i hi => List.mem_reverse.mp hi) G.in2, h1]
      rfl
    · rw [List.getElem?_map, h2]; rfl
theorem agree_run {pg : List Bt} (hp : Pages pg) {z : Nat} (hz : 1 ≤ z ∧ z ≤ 3) : ∀ (l : List Int) {st held used held2 used2 : List Int} {c : Nat}, AllSm l → CI z st held used c → CI (z + 1) st held2 used2 c → ∀ (i : Nat) (sh : List Bt), ((stks st l).map (List.map (pgF pg)))[i]? = some sh →
    ∃ (j : Nat) (r r' : Bool × List Int), (gI st l)[i]? = some j ∧ j < 4 ∧ (cRun held used c l)[i]? = some r ∧ (cRun held2 used2 c l)[i]? = some r' ∧ AgreeAt pg z j sh r r'
  | [], _, _, _, _, _, _, _, _, _, i, sh, h => by simp [stks] at h
  | x :: l, st, held, used, held2, used2, c, hl, I, J, i, sh, h => by
    obtain ⟨hx, hr⟩ := hl.cons
    have hx' := sm_four hx
    cases i with
    | zero =>
      simp only [stks, List.map_cons, List.getElem?_cons_zero, Option.some.injEq] at h
      subst h
      refine ⟨posOf st x, _, _, rfl, ?_, rfl, rfl, agree_at hp hz hx' I J⟩
      have := posOf_lt ((perm_facts st I.inP).2.2 x hx').1
      rw [(perm_facts st I.inP).2.1] at this; exact this
    | succ i =>
      simp only [stks, List.map_cons, List.getElem?_cons_succ] at h
      obtain ⟨j, r, r', h1, h2, h3, h4, h5⟩ := agree_run hp hz l hr (I.step ⟨hz.1, by omega⟩ hx') (J.step ⟨by omega, by omega⟩ hx') i sh h
      exact ⟨j, r, r', by simpa [gI] using h1, h2, by simpa [cRun] using h3, by simpa [cRun] using h4, h5⟩
theorem cRun_len : ∀ (l held used : List Int) (c : Nat), (cRun held used c l).length = l.length
  | [], _, _, _ => rfl
  | _ :: l, _, _, _ => by simp [cRun, cRun_len l]
/-- the k-th shelf begins with the k-th wish -/
theorem stks_at : ∀ (l st : List Int) (i : Nat) (x : Int), l[i]? = some x → ∃ r, (stks st l)[i]? = some (x :: r)
  | [], _, _, _, h => by simp at h
  | y :: l, st, 0, x, h => by
    simp at h; subst h
    exact ⟨_, rfl⟩
  | y :: l, st, i + 1, x, h => by
    obtain ⟨r, e⟩ := stks_at l (mtf st y) i x (by simpa using h)
    exact ⟨r, by simpa [stks] using e⟩
theorem pages_snoc {pg : List Bt} {i : Nat} {t : Tok} (hpl : pg.length = i) (hpj : ∀ j < i, (pg.getD j (#[], 0)).1 = page (j : Nat)) : ∀ j < i + 1, ((pg ++ [(page (i : Nat), t)]).getD j (#[], 0)).1 = page (j : Nat) := fun j hj => by
  rw [List.getD_eq_getElem?_getD]
  by_cases e : j < i
  · rw [List.getElem?_append_left (hpl ▸ e), ← List.getD_eq_getElem?_getD]
    exact hpj j e
  · obtain rfl : j = i := Nat.le_antisymm (Nat.le_of_lt_succ hj) (Nat.not_lt.mp e)
    rw [List.getElem?_append_right (Nat.le_of_eq hpl), hpl, Nat.sub_self]
    rfl
theorem succ_sub (i : Nat) : ((i + 1 : Nat) : Int) - 1 = (i : Int) := by omega
/-- what the script asks for -/
noncomputable def askOf (sc : List Int) : List Int := [2, 0, 2] ++ (sc.take 9).map fun x => x.fmod 4
theorem ask_small (sc : List Int) : AllSm (askOf sc) := fun i hi => by
  unfold askOf at hi
  rcases List.mem_append.mp hi with hi | hi
  · simp only [List.mem_cons, List.not_mem_nil, or_false] at hi
    unfold Sm; omega
  · obtain ⟨x, _, rfl⟩ := List.mem_map.mp hi
    have h1 := Int.fmod_nonneg_of_pos x (show (0 : Int) < 4 by decide)
    have h2 := Int.fmod_lt_of_pos x (show (0 : Int) < 4 by decide)
    unfold Sm; omega
theorem ask_len (sc : List Int) : (askOf sc).length ≤ 12 := by
  unfold askOf
  simp only [List.length_append, List.length_map, List.length_take, List.length_cons, List.length_nil]
  omega
/-- the gaps filled up to fours -/
noncomputable def fillOf (g : List Int) : List Int := g ++ List.replicate ((-(g.length : Int)).fmod 4).toNat 0
theorem fill_four (g : List Int) : (fillOf g).length % 4 = 0 := by
  unfold fillOf
  have h1 := Int.fmod_nonneg_of_pos (-(g.length : Int)) (show (0 : Int) < 4 by decide)
  have h2 : (-(g.length : Int)).fmod 4 = (-(g.length : Int)) % 4 := Int.fmod_eq_emod_of_nonneg _ (by decide)
  rw [h2] at h1 ⊢
  simp only [List.length_append, List.length_replicate]
  omega
theorem fill_small {g : List Int} (h : ∀ x ∈ g, 0 ≤ x ∧ x < 4) : ∀ x ∈ fillOf g, 0 ≤ x ∧ x < 4 := fun x hx => by
  unfold fillOf at hx
  rcases List.mem_append.mp hx with hx | hx
  · exact h x hx
  · have := (List.mem_replicate.mp hx).2
    omega
theorem fill_len (g : List Int) : (fillOf g).length ≤ g.length + 3 := by
  unfold fillOf
  have h2 : (-(g.length : Int)).fmod 4 = (-(g.length : Int)) % 4 := Int.fmod_eq_emod_of_nonneg _ (by decide)
  rw [h2]
  simp only [List.length_append, List.length_replicate]
  omega
theorem sign_at {g : List Nat} {i j : Nat} (h : g[i]? = some j) (hj : j < 4) : (byteArr ((fillOf (g.map fun (n : Nat) => (n : Int))).map (65 + ·))).toList[i]? = some (65 + j).toUInt8 := by
  have hi : i < g.length := (List.getElem?_eq_some_iff.mp h).1
  unfold byteArr fillOf
  simp only [List.getElem?_map]
  rw [List.getElem?_append_left (by simpa using hi), List.getElem?_map, h]
  simp only [Option.map_some]
  congr 2
theorem gap_small {st l : List Int} (hs : st ∈ perms) (hl : AllSm l) : ∀ x ∈ (gI st l).map (fun (n : Nat) => (n : Int)), 0 ≤ x ∧ x < 4 := fun x hx => by
  obtain ⟨j, hj, rfl⟩ := List.mem_map.mp hx
  have := gI_lt l hs hl j hj
  omega
section
variable {prog : Program} {w : World} {A : Around} {E : Value → Shared → Prop} {s s₀ s' : Shared} {env : Env} {ns gs : List Str} {b0 : Heap} {k : Nat} {B : Shared} {L : Addr} {vals vals' : List (Option Value)} {N N' : Ledger}
theorem st_cell {x : Str} {c : Addr} {o : Obj} {v0 : Option Value} {v : Value} {Q : Unit → Shared → Prop} (S : Sc env L ns gs) (C : Cel env x c) (F : Fx b0 A k B L ns vals ((c, o) :: N) s) (hd : o.data = .cell v0) (q : ∀ o' s', o'.data = .cell (some v) → Fx b0 A k B L ns vals ((c, o') :: N) s' → Q () s') :
    wpAny (model prog w) A (storeName env x v) Q E s := by
  have hc := F.news _ (.head _)
  refine wpAny_storeName_cell S.kind C.kind C.at_ ⟨o, hc.1, hd⟩ fun h' hv hs => ?_
  obtain ⟨o', ho', hd'⟩ := hv
  exact q o' _ hd' ((F.change (h' := h') (o' := o') (fun b ob hb e => (hs.2 b hb).trans e) ho' (by rw [hd']; rfl) (fun _ vs => by rw [hd']; exact fun q => by cases q) s.toks))
/-- store into a cell, and be done with it -/
theorem st_cellB {x : Str} {c : Addr} {o : Obj} {v0 : Option Value} {v : Value} {Q : Unit → Shared → Prop} (S : Sc env L ns gs) (C : Cel env x c) (F : Fx b0 A k B L ns vals ((c, o) :: N) s) (hd : o.data = .cell v0) (q : ∀ B' s', Grow b0 B B' → B'.heap.IsCell c (some v) → Fx b0 A k B' L ns vals N s' → Q () s') :
    wpAny (model prog w) A (storeName env x v) Q E s :=
  st_cell S C F hd fun o' s' hd' F' => by
    obtain ⟨B', g, F2, h1, _⟩ := F'.settle 1
    exact q B' s' g ⟨o', h1 _ (.head _), hd'⟩ F2
theorem RefsB.based {old h h' : Heap} (hb : ∀ b o, h.get? b = some o → old.get? b = none → h'.get? b = some o) {vs : List Value} {shs : List (List Bt)} (r : RefsB old h vs shs) : RefsB old h' vs shs := by
  induction r with
  | nil => exact .nil
  | cons l o _ ih => exact .cons (let ⟨n, e⟩ := l; ⟨n, hb _ _ e o⟩) o ih
theorem RowsC.based {old h h' : Heap} (hb : ∀ b o, h.get? b = some o → old.get? b = none → h'.get? b = some o) {vs : List Value} {rows : List (Bool × List Int)} (r : RowsC old h vs rows) : RowsC old h' vs rows := by
  induction r with
  | nil => exact .nil
  | cons l c i oa oc _ ih => exact .cons (let ⟨n, e⟩ := l; ⟨n, hb _ _ e oa⟩) (let ⟨n, e⟩ := c; ⟨n, hb _ _ e oc⟩) i oa oc ih
theorem ints_take {vs : List Value} {l : List Int} (h : IntsAre vs l) (n : Nat) : IntsAre (vs.take n) (l.take n) := by
  refine ints_mk (by simp [ints_len h]) fun i v hv => ?_
  rw [List.getElem?_take] at hv ⊢
  split at hv
  · rename_i hi
    rw [if_pos hi]; exact ints_get' h hv
  · cases hv
end
/-- the law's statements behind the first n -/
noncomputable def lawTail (w : World) (n : Nat) : List Stmt := match (KK w).lookup 166 with
  | some ⟨_, _, .func fd, _⟩ => (match fd.body with
    | .stmts b => b.drop n
    | _ => [])
  | _ => []
theorem tail_eq {prog : Program} {w : World} {A : Around} {E : Value → Shared → Prop} {s : Shared} {env : Env} {Q : Flow → Shared → Prop} {n : Nat} {t : Stmt} {r : List Stmt} (h : lawTail w n = t :: r) (q : wpAny (model prog w) A (execs (t :: r) env) Q E s) : wpAny (model prog w) A (execs (lawTail w n) env) Q E s := by rw [h]; exact q
theorem eq_tail {prog : Program} {w : World} {A : Around} {E : Value → Shared → Prop} {s : Shared} {env : Env} {Q : Flow → Shared → Prop} {n : Nat} {r : List Stmt} (h : r = lawTail w n) (q : wpAny (model prog w) A (execs (lawTail w n) env) Q E s) : wpAny (model prog w) A (execs r env) Q E s := by rw [h]; exact q
theorem sw_false {env : Env} {L : Addr} {ns gs : List Str} {elt iter : Expr} {x y : Str} {c : Addr} {px py pos : Pos} {ifs : List Expr} {scope : Scope} {line : Nat} (S : Sc env L ns gs) (C : Cel env y c) :
    swapsWith (.ListComp elt [⟨.Name x px, iter, ifs, 0⟩] scope pos) (some (.Name y py)) line env = pure false := by
  unfold swapsWith
  simp only [Env.blockKind, S.kind, C.kind]
  rfl
theorem ints_zeros (n : Nat) (t : Tok) : IntsAre (List.replicate n [Value.int 0 t]).flatten (List.replicate n 0) := by
  induction n with
  | zero => exact .nil
  | succ n ih => simpa [List.replicate_succ] using IntsAre.cons 0 t ih
theorem law_one {prog : Program} {w : World} {b0 : Heap} {A : Around} {k : Nat} {s B : Shared} {env : Env} {L a c1 : Addr} {o1 : Obj} {vs : List Value} {sc : List Int} {M : Ledger} {Q : Flow → Shared → Prop}
    (D : Std w b0) (S : Sc env L ["script", "gaps", "filled", "octets"] ["_law_gaps", "len", "b64decode", "bytes", "_law_octets", "range", "b64encode", "_law_shelves"])
    (F : Fx b0 A (k + 16) B L ["script", "gaps", "filled", "octets"] [some (.ref a), none, none, none] ((c1, o1) :: M) s) (C1 : Cel env "asked" c1) (d1 : o1.data = .cell none)
    (hl : B.heap.IsList a vs.toArray) (hi : IntsAre vs sc) (hz : sc.length ≤ 63)
    (h : ∀ B' s' q qv t v1 v2 v3, Grow b0 B B' → B'.heap.IsCell c1 (some (.ref q)) → Lst B'.heap q qv → IntsAre qv (askOf sc) →
      Fx b0 A (k + 16) B' L ["script", "gaps", "filled", "octets"] [v1, v2, v3, some (.bytes (byteArr (octI (fillOf ((gI [0, 1, 2, 3] (askOf sc)).map fun (n : Nat) => (n : Int))))) t)] M s' → wpAny (model prog w) A (execs (lawTail w 5) env) Q No s') :
    wpAny (model prog w) A (execs (lawTail w 0) env) Q No s := by
  have hvl := ints_len hi
  have hvz : vs.length ≤ 1000 := hvl ▸ Nat.le_trans hz (by decide)
  clear hz
  refine tail_eq (by exact rfl) ?_
  walk_at "go"
  rename_i p s2 F2 np
  refine ev_comp (gs' := []) (cl := []) (by decide +kernel) (by exact rfl) (fun _ => rfl) ?_
  walk_at "go"
  rename_i s3 F3
  refine SliceAt.mkI F3 (F3.grow.list hl) (by decide) hvz ?_
  intro sl s4 F4
  refine comp_list S (gs' := []) (by decide +kernel) F4 (F4.lst (.head _)) (Nat.le_trans (List.length_take_le' _ _) (Nat.le_trans hvz (by decide))) (fun i _ us => IntsAre us (((sc.take 9).take i).map fun x => x.fmod 4)) .nil ?_ ?_
  · rintro Cc i v B2 I2 D2 us m io2 s5 SC hv g2 hI hle F5
    obtain ⟨x, tx, hx, rfl⟩ := ints_get' (ints_take hi 9) hv
    refine wpAny_tests_nil (Br.t rfl ?_)
    walk_at "go"
    rename_i F6
    refine CTurn.ok F6 ?_
    rw [List.take_add_one, hx, Option.toList_some, List.map_append]
    exact ints_snoc hI _ _
  rintro Cc Dd B2 us m s5 g2 hI hle g2' hD2 hC2 hC02 hDC2 hlD2 hn2
  refine comp_ends F4 g2 g2' hD2 hC2 hC02 hDC2 hlD2 hn2 ?_
  intro s6 g6 hD6 F6
  have hIl : us.length ≤ 9 := by
    rw [ints_len hI, List.length_map]; exact Nat.le_trans (List.length_take_le' _ _) (List.length_take_le 9 sc)
  have e9 : ((sc.take 9).take ((vs.take (9 : Int).toNat)).length).map (fun x => x.fmod 4) = (sc.take 9).map fun x => x.fmod 4 := by
    rw [List.take_of_length_le (by rw [List.length_take, List.length_take, hvl]; exact Nat.le_refl _)]
  rw [e9] at hI
  clear hlD2 hn2 hDC2 hC02 hC2 hD2 hD6 g6 g2' g2 hle e9
  walk_at "go"
  rename_i q s7 F7 nq
  clear F6 F4 F3 F2 F
  obtain ⟨B1, g1, F8, hm1, _⟩ := F7.settle 4
  simp only [List.drop_succ_cons, List.drop_zero] at F8
  obtain ⟨qv, hq, hqi⟩ : ∃ qv, Lst B1.heap q qv ∧ IntsAre qv (askOf sc) := ⟨_, ⟨_, hm1 (q, _) (.head _)⟩, .cons 2 _ (.cons 0 _ (.cons 2 _ hI))⟩
  clear hm1 F7
  refine st_cellB S C1 F8 d1 ?_
  intro B2 s9 g2 hc1 F9
  have hq2 := hq.grow g2
  have hz2 := ask_len sc
  clear hq F8
  walk_at "go"
  have hsm := ask_small sc
  have hgg := gaps_gI (askOf sc) perm_start past_start hsm
  have hgs := gap_small perm_start hsm
  have hgl := gI_len (askOf sc) [0, 1, 2, 3]
  refine ⟨F9.cx.stays, sp_gaps D F9.cx (hq2.grow F9.grow) hqi (Nat.le_trans hz2 (by decide)) hsm ?_⟩
  intro ga gv gn s10 g10 hge hgn hgi
  rw [hgg] at hgi
  have F10 := F9.later g10
  obtain ⟨B3, g3, F11, hb3⟩ := F10.rest (a := ga) F9
  have hG : Lst B3.heap ga gv := ⟨_, hb3 _ _ hge hgn⟩
  have hq3 := hq2.grow g3
  have hc3 := isCell_grow hc1 g3
  clear F10 F9 hq2 hc1 hb3 hge hgn hgg
  have hgvl := ints_len hgi
  generalize hGG : (gI [0, 1, 2, 3] (askOf sc)).map (fun (n : Nat) => (n : Int)) = G at *
  have hGl : G.length = (askOf sc).length := by rw [← hGG]; simp [hgl]
  have hgz : gv.length ≤ 12 := by rw [hgvl, hGl]; exact hz2
  have hz4 : gv.length ≤ 1000000 := Nat.le_trans hgz (by decide)
  show wpAny _ _ _ _ _ _
  walk_at "go"
  rename_i z0 sz Fz nz tA sA FA tB sB FB tC sC FC tD sD FD
  have hf1 := Int.fmod_nonneg_of_pos (-(gv.length : Int)) (show (0 : Int) < 4 by decide)
  have hf2 := Int.fmod_lt_of_pos (-(gv.length : Int)) (show (0 : Int) < 4 by decide)
  refine op_mulL FD (FD.lst (by walk_at "mem")) ⟨hf1, Int.le_of_lt (Int.lt_of_lt_of_le hf2 (by decide))⟩ (Nat.le_of_ble_eq_true rfl) ?_
  intro z1 s11 F12
  obtain ⟨zs, hzs, hzi⟩ : ∃ zs, zs = (List.replicate ((-(gv.length : Int)).fmod 4).toNat [Value.int 0 _]).flatten ∧ IntsAre zs (List.replicate ((-(gv.length : Int)).fmod 4).toNat 0) := ⟨_, rfl, ints_zeros _ _⟩
  rw [← hzs] at F12
  have hzl := ints_len hzi
  rw [List.length_replicate] at hzl
  have hz5 : gv.length + zs.length ≤ sizeLine := Nat.le_trans (Nat.add_le_add hgz (show zs.length ≤ 4 by rw [hzl]; exact Int.toNat_le.mpr (Int.le_of_lt hf2))) (by decide)
  have hfi : IntsAre (gv ++ zs) (fillOf G) := by
    unfold fillOf
    rw [← hgvl]
    exact hgi.append hzi
  have hfl := fill_len G
  have hfr := fill_small hgs
  have hf4 := fill_four G
  have hFz : (fillOf G).length ≤ 1000 := Nat.le_trans hfl (by rw [hGl]; exact Nat.le_trans (Nat.add_le_add_right hz2 3) (by decide))
  generalize hFF : fillOf G = FL at *
  clear hzs Fz FA FB FC FD
  walk_at "go"
  rename_i fl s12 F13 nfl s13 F14
  obtain ⟨B4, g4, F15, hm4, _⟩ := F14.settle 3
  simp only [List.drop_succ_cons, List.drop_zero] at F15
  have hFLl : Lst B4.heap fl (gv ++ zs) := ⟨_, hm4 (fl, _) (.head _)⟩
  have hq4 := hq3.grow g4
  have hc4 := isCell_grow hc3 g4
  clear F14 F13 F12 F11 hm4 hq3 hc3 hG
  have hfvl := ints_len hfi
  refine ev_comp (gs' := []) (cl := []) (by decide +kernel) (by exact rfl) (fun _ => rfl) ?_
  walk_at "go"
  refine comp_list S (gs' := []) (by decide +kernel) F15 (F15.old hFLl) (hfvl ▸ Nat.le_trans hFz (by decide)) (fun i _ us => IntsAre us ((FL.take i).map (65 + ·))) .nil ?_ ?_
  · rintro Cc i v B2 I2 D2 us m io2 s5 SC hv g2 hI hle F5
    obtain ⟨x, tx, hx, rfl⟩ := ints_get' hfi hv
    refine wpAny_tests_nil (Br.t rfl ?_)
    walk_at "go"
    rename_i F6
    refine CTurn.ok F6 ?_
    rw [List.take_add_one, hx, Option.toList_some, List.map_append]
    exact ints_snoc hI _ _
  rintro Cx1 Dx B5 us2 m2 s14 g5 hI2 hle2 g5' hD5 hC5 hC05 hDC5 hlD5 hn5
  refine comp_ends F15 g5 g5' hD5 hC5 hC05 hDC5 hlD5 hn5 ?_
  intro s15 g6 hD6 F16
  rw [hfvl, List.take_length] at hI2
  clear hlD5 hn5 hDC5 hC05 hC5 hD5 hD6 g6 g5' g5 hle2
  walk_at "go"
  refine mk_bytes F16 (F16.lst (.head _)) hI2 (by rw [List.length_map]; exact Nat.le_trans hFz (by decide)) (s65 hfr) ?_
  intro t6 s16 F17
  walk_at "go"
  refine go_dec D F17 (filled_ok hf4 hfr hFz) ?_
  intro t7 s17 F18
  rw [dec_filled hf4 hfr]
  clear F17 F16
  walk_at "go"
  rename_i s18 F19
  refine ⟨F19.cx.stays, sp_octets D F19.cx (hFLl.grow F19.grow) hfi hFz hf4 hfr ?_⟩
  intro t8 s19 g19
  have F20 := F19.later g19
  clear F19 F18 F15
  show wpAny _ _ _ _ _ _
  walk_at "go"
  refine x_else (by simp) ?_
  walk_at "go"
  refine eq_tail (n := 5) (by exact rfl) ?_
  exact h B4 _ q qv _ _ _ _ ((((g1.trans g2).trans g3)).trans g4) hc4 hq4 hqi (F20.sub (List.sublist_cons_self _ _))
theorem law_two {prog : Program} {w : World} {b0 : Heap} {A : Around} {k : Nat} {s B : Shared} {env : Env} {L c1 c2 c3 c4 q : Addr} {o2 o3 o4 : Obj} {qv : List Value} {l : List Int} {t : Tok} {v1 v2 v3 : Option Value} {M : Ledger} {Q : Flow → Shared → Prop}
    (D : Std w b0) (S : Sc env L ["script", "gaps", "filled", "octets"] ["_law_gaps", "len", "b64decode", "bytes", "_law_octets", "range", "b64encode", "_law_shelves"])
    (FF : Fx b0 A (k + 16) B L ["script", "gaps", "filled", "octets"] [v1, v2, v3, some (.bytes (byteArr (octI (fillOf ((gI [0, 1, 2, 3] l).map fun (n : Nat) => (n : Int))))) t)] ((c2, o2) :: (c3, o3) :: (c4, o4) :: M) s)
    (C1 : Cel env "asked" c1) (C2 : Cel env "pages" c2) (C3 : Cel env "signs" c3) (C4 : Cel env "shelves" c4) (d2 : o2.data = .cell none) (d3 : o3.data = .cell none) (d4 : o4.data = .cell none)
    (hc1 : B.heap.IsCell c1 (some (.ref q))) (hq : Lst B.heap q qv) (hqi : IntsAre qv l) (hsm : AllSm l) (hz : l.length ≤ 12)
    (h : ∀ B' s' P pg tg sa sv old, Grow b0 B B' → B'.heap.IsCell c2 (some (.ref P)) → Lst B'.heap P (mkB pg) → Pages pg → B'.heap.IsCell c3 (some (.bytes (byteArr ((fillOf ((gI [0, 1, 2, 3] l).map fun (n : Nat) => (n : Int))).map (65 + ·))) tg)) →
      B'.heap.IsCell c4 (some (.ref sa)) → Lst B'.heap sa sv → RefsB old B'.heap sv ((stks [0, 1, 2, 3] l).map (List.map (pgF pg))) →
      Fx b0 A (k + 16) B' L ["script", "gaps", "filled", "octets"] [v1, v2, v3, some (.bytes (byteArr (octI (fillOf ((gI [0, 1, 2, 3] l).map fun (n : Nat) => (n : Int))))) t)] M s' → wpAny (model prog w) A (execs (lawTail w 8) env) Q No s') :
    wpAny (model prog w) A (execs (lawTail w 5) env) Q No s := by
  have hgs := gap_small perm_start hsm
  have hgl := gI_len l [0, 1, 2, 3]
  refine tail_eq (by exact rfl) ?_
  refine x_assign ?_ (sw_false S C2)
  refine ev_comp (gs' := ["_law_page"]) (cl := []) (by decide +kernel) (by exact rfl) (fun _ => rfl) ?_
  walk_at "go"
  rename_i t1 s1 F1 r t2 t3 s2 F2 hr2
  refine comp_range S (gs' := ["_law_page"]) (n := 4) (by decide +kernel) F2 hr2 (by decide) (by decide) (by decide) (fun i _ us => ∃ pg : List Bt, us = mkB pg ∧ pg.length = i ∧ ∀ j < i, (pg.getD j (#[], 0)).1 = page (j : Nat)) ⟨[], rfl, rfl, fun j hj => by omega⟩ ?_ ?_
  · rintro Cc i v B2 I2 D2 us m io2 s5 SC ⟨hi4, tx, rfl⟩ g2 ⟨pg, rfl, hpl, hpj⟩ hle F5
    refine wpAny_tests_nil (Br.t rfl ?_)
    walk_at "go"
    rw [nat_one] at F5 ⊢
    refine ⟨F5.cx.stays, sp_page (k := k + 12) D F5.cx (i : Nat) tx ⟨Int.natCast_nonneg i, Int.ofNat_lt.mpr hi4⟩ ?_⟩
    intro t' s' g'
    refine CTurn.ok (F5.later g') ?_
    refine ⟨pg ++ [(page (i : Nat), t')], by simp [mkB], by rw [List.length_append, hpl]; rfl, pages_snoc hpl hpj⟩
  rintro Cc P B2 us m s5 g2 ⟨pg, rfl, hpl, hpj⟩ hle2 g2' hD2 hC2 hC02 hDC2 hlD2 hn2
  refine comp_ends F2 g2 g2' hD2 hC2 hC02 hDC2 hlD2 hn2 ?_
  intro s6 g6 hD6 F6
  have hPg : Pages pg := by
    refine ⟨hpl, fun i hi => ?_⟩
    have h0 := hpj 0 (by decide)
    have h1 := hpj 1 (by decide)
    have h2 := hpj 2 (by decide)
    have h3 := hpj 3 (by decide)
    have := four_sm hi
    unfold Sm at this
    unfold pgF
    rcases this with rfl | rfl | rfl | rfl
    · exact h0
    · exact h1
    · exact h2
    · exact h3
  clear hlD2 hn2 hDC2 hC02 hC2 hD2 hD6 g6 g2' g2 hle2 hpj
  obtain ⟨B3, g3, F7, hm3, _⟩ := F6.settle 1
  simp only [List.drop_succ_cons, List.drop_zero] at F7
  have hP : Lst B3.heap P (mkB pg) := ⟨_, hm3 (P, _) (.head _)⟩
  clear F6 F2 F1 FF hm3
  refine st_cellB S C2 F7 d2 ?_
  intro B4 s8 g4 hc2 F8
  clear F7
  have hP4 := hP.grow g4
  clear hP
  walk_at "go"
  have hf4 := fill_four ((gI [0, 1, 2, 3] l).map fun (n : Nat) => (n : Int))
  have hfr := fill_small hgs
  have hfl := fill_len ((gI [0, 1, 2, 3] l).map fun (n : Nat) => (n : Int))
  rw [List.length_map, hgl] at hfl
  have hFz := Nat.le_trans hfl (Nat.le_trans (Nat.add_le_add_right hz 3) (show 12 + 3 ≤ 1000 by decide))
  clear hfl
  refine go_enc D F8 (oct_ok hf4 hFz) ?_
  intro tg s9 F9
  rw [enc_filled hf4 hfr]
  clear F8
  refine st_cellB S C3 F9 d3 ?_
  intro B5 s10 g5 hc3 F10
  clear F9
  have hP5 := hP4.grow g5
  have hc25 := isCell_grow hc2 g5
  have gB5 := (g3.trans g4).trans g5
  have hc15 := isCell_grow hc1 gB5
  have hq5 := hq.grow gB5
  have hql := ints_len hqi
  have hqz : qv.length ≤ 1000 := hql ▸ Nat.le_trans hz (by decide)
  have hqz' : qv.length ≤ 1000000 := Nat.le_trans hqz (by decide)
  clear hP4 hc2 hc1 hq
  walk_at "go"
  rename_i t9 s11 F11
  refine ⟨F11.cx.stays, sp_shelves (k := k + 14) (js := gI [0, 1, 2, 3] l) D F11.cx (hP5.grow F11.grow) hPg.1 (by rw [hql, hgl]) hqz (fun i j hij => ⟨gI_lt l perm_start hsm j (List.mem_of_getElem? hij), sign_at hij (gI_lt l perm_start hsm j (List.mem_of_getElem? hij))⟩) (by rw [arr_size, List.length_map]; exact hFz) (fun i => by
    rw [hPg.is]; exact last_map hPg.apart l perm_start hsm i) ?_⟩
  intro sa sv sn s12 g12 hse hsn hR
  have hR' : RefsB s11.heap s12.heap sv ((stks [0, 1, 2, 3] l).map (List.map (pgF pg))) := by
    have := shelves_map hPg.apart l perm_start hsm
    rw [← this]
    have e : pg = List.map (pgF pg) [0, 1, 2, 3] := hPg.is
    rw [← e]; exact hR
  have F12 := F11.later g12
  obtain ⟨B6, g6, F13, hb⟩ := F12.rest (a := sa) F11
  have hsa : Lst B6.heap sa sv := ⟨sn, hb _ _ hse hsn⟩
  have hR6 := hR'.based hb
  have hP6 := hP5.grow g6
  have hc26 := isCell_grow hc25 g6
  have hc36 := isCell_grow hc3 g6
  clear F12 F11 F10 hb hR hR' hse hsn hP5 hc25 hc3
  show wpAny _ _ _ _ _ _
  refine st_cellB S C4 F13 d4 ?_
  intro B7 s14 g7 hc4 F14
  refine eq_tail (n := 8) (by exact rfl) ?_
  exact h B7 _ P pg tg sa sv _ (gB5.trans (g6.trans g7)) (isCell_grow hc26 g7) (hP6.grow g7) hPg (isCell_grow hc36 g7) hc4 (hsa.grow g7) (hR6.grow g7) F14
theorem clos_asked {scope : Scope} {env : Env} {c : Addr} (hn : scope.names = [((".0" : Str), NameKind.local), (("size" : Str), NameKind.local), (("_law_cache" : Str), NameKind.globalImplicit), (("asked" : Str), NameKind.free)]) (h : env.cells.lookup ("asked" : Str) = some c) : closureFor scope env = pure [(("asked" : Str), c)] := by
  unfold closureFor
  rw [hn]
  have e : cellOf env "asked" = pure c := by unfold cellOf; rw [h]
  simp only [List.forIn_cons, List.forIn_nil]
  simp [e]
theorem clos_four {scope : Scope} {env : Env} {c2 c3 c4 c5 : Addr} (hn : scope.names = [((".0" : Str), NameKind.local), (("size" : Str), NameKind.local), (("_law_agree" : Str), NameKind.globalImplicit), (("pages" : Str), NameKind.free), (("runs" : Str), NameKind.free), (("shelves" : Str), NameKind.free), (("signs" : Str), NameKind.free)])
    (h2 : env.cells.lookup ("pages" : Str) = some c2) (h3 : env.cells.lookup ("signs" : Str) = some c3) (h4 : env.cells.lookup ("shelves" : Str) = some c4) (h5 : env.cells.lookup ("runs" : Str) = some c5) : closureFor scope env = pure [(("signs" : Str), c3), (("shelves" : Str), c4), (("runs" : Str), c5), (("pages" : Str), c2)] := by
  unfold closureFor
  rw [hn]
  have e2 : cellOf env "pages" = pure c2 := by unfold cellOf; rw [h2]
  have e3 : cellOf env "signs" = pure c3 := by unfold cellOf; rw [h3]
  have e4 : cellOf env "shelves" = pure c4 := by unfold cellOf; rw [h4]
  have e5 : cellOf env "runs" = pure c5 := by unfold cellOf; rw [h5]
  simp only [List.forIn_cons, List.forIn_nil]
  simp [e2, e3, e4, e5]
theorem one_to {n i : Nat} {x : Int} (h : ((List.range n).map fun (j : Nat) => ((j + 1 : Nat) : Int))[i]? = some x) : i < n ∧ x = ((i + 1 : Nat) : Int) := by
  have hi : i < n := by have := (List.getElem?_eq_some_iff.mp h).1; simpa using this
  refine ⟨hi, ?_⟩
  rw [List.getElem?_map, List.getElem?_range hi] at h
  exact (Option.some.inj h).symm
/-- the run of the cache of z pages, none of it the elder heap's -/
noncomputable def Run (old h : Heap) (l : List Int) (z : Nat) (v : Value) : Prop := ∃ a rv, v = .ref a ∧ Lst h a rv ∧ old.get? a = none ∧ RowsC old h rv (cRun ((List.range z).map fun (i : Nat) => (i : Int)) ((List.range z).map fun (i : Nat) => 0 - (i : Int)) 0 l)
theorem Run.grow {b0 old : Heap} {s s' : Shared} {l : List Int} {z : Nat} {v : Value} (r : Run old s.heap l z v) (g : Grow b0 s s') : Run old s'.heap l z v :=
  let ⟨a, rv, e, hl, ho, hr⟩ := r
  ⟨a, rv, e, hl.grow g, ho, hr.grow g⟩
theorem Run.based {old h h' : Heap} {l : List Int} {z : Nat} {v : Value} (r : Run old h l z v) (hb : ∀ b o, h.get? b = some o → old.get? b = none → h'.get? b = some o) : Run old h' l z v :=
  let ⟨a, rv, e, ⟨n, hl⟩, ho, hr⟩ := r
  ⟨a, rv, e, ⟨n, hb _ _ hl ho⟩, ho, hr.based hb⟩
theorem RowsC.older {old old' h : Heap} (hb : ∀ b, old'.get? b = none → old.get? b = none) {vs : List Value} {rows : List (Bool × List Int)} (r : RowsC old' h vs rows) : RowsC old h vs rows := by
  induction r with
  | nil => exact .nil
  | cons l c i oa oc _ ih => exact .cons l c i (hb _ oa) (hb _ oc) ih
noncomputable def Runs (old h : Heap) (l : List Int) (us : List Value) : Prop := ∀ (j : Nat) (v : Value), us[j]? = some v → Run old h l (j + 1) v
theorem Runs.grow {b0 old : Heap} {s s' : Shared} {l : List Int} {us : List Value} (r : Runs old s.heap l us) (g : Grow b0 s s') : Runs old s'.heap l us := fun j v e => (r j v e).grow g
theorem Runs.based {old h h' : Heap} {l : List Int} {us : List Value} (r : Runs old h l us) (hb : ∀ b o, h.get? b = some o → old.get? b = none → h'.get? b = some o) : Runs old h' l us := fun j v e => (r j v e).based hb
theorem Runs.snoc {old h : Heap} {l : List Int} {us : List Value} {v : Value} (r : Runs old h l us) (x : Run old h l (us.length + 1) v) : Runs old h l (us ++ [v]) := fun j u e => by
  by_cases hj : j < us.length
  · rw [List.getElem?_append_left hj] at e; exact r j u e
  · have hl := (List.getElem?_eq_some_iff.mp e).1
    have : j = us.length := by simp at hl; omega
    subst this
    rw [List.getElem?_append_right (Nat.le_refl _), Nat.sub_self] at e
    simp at e
    subst e; exact x
theorem Fx.settleN {b0 : Heap} {A : Around} {k : Nat} {B s s₀ : Shared} {L : Addr} {ns : List Str} {vals vals' : List (Option Value)} {N N₀ : Ledger} (F : Fx b0 A k B L ns vals N s) (F₀ : Fx b0 A k B L ns vals' N₀ s₀) (n : Nat) (h : ∀ p ∈ N.drop n, p ∈ N₀) :
    ∃ B', Grow b0 B B' ∧ Fx b0 A k B' L ns vals (N.drop n) s ∧ (∀ p ∈ N.take n, B'.heap.get? p.1 = some p.2) ∧ ∀ b o, s.heap.get? b = some o → s₀.heap.get? b = none → B'.heap.get? b = some o := by
  obtain ⟨B', g, F', h1, h2⟩ := F.settle n
  refine ⟨B', g, F', h1, fun b o e hn => h2 b o e (fun q => ?_) fun q => ?_⟩
  · obtain ⟨m, ⟨oL, _, _, eL, _⟩, _⟩ := F₀.ns
    rw [← q, hn] at eL; cases eL
  · obtain ⟨p, hp, rfl⟩ := List.mem_map.mp q
    have := (F₀.news p (h p hp)).1; rw [hn] at this; cases this
theorem CTurn.mk {b0 : Heap} {A : Around} {k : Nat} {B B' s : Shared} {C : Addr} {x : Str} {v : Value} {Inv : Nat → Shared → List Value → Prop} {i : Nat} {I : Addr} {io : Obj} {D : Addr} {us us' : List Value} {m : Nat} (g : Grow b0 B B') (h : Inv i B' us') (F : Fx b0 A k B' C [x] [some v] [(I, io), (D, lst us m)] s) : CTurn b0 A k C x v Inv i B I io D us m us' s := ⟨B', g, h, F⟩
theorem agree_sign {pg : List Bt} (hp : Pages pg) {z : Nat} (hz : 1 ≤ z ∧ z ≤ 3) {l : List Int} (hl : AllSm l) (i : Nat) (sh : List Bt) (h : ((stks [0, 1, 2, 3] l).map (List.map (pgF pg)))[i]? = some sh) :
    ∃ (j : Nat) (r r' : Bool × List Int), (byteArr ((fillOf ((gI [0, 1, 2, 3] l).map fun (n : Nat) => (n : Int))).map (65 + ·))).toList[i]? = some (65 + j).toUInt8 ∧ j < 4 ∧ (cRun ((List.range z).map fun (i : Nat) => (i : Int)) ((List.range z).map fun (i : Nat) => 0 - (i : Int)) 0 l)[i]? = some r ∧
      (cRun ((List.range (z + 1)).map fun (i : Nat) => (i : Int)) ((List.range (z + 1)).map fun (i : Nat) => 0 - (i : Int)) 0 l)[i]? = some r' ∧ AgreeAt pg z j sh r r' := by
  obtain ⟨j, r, r', h1, h2, h3, h4, h5⟩ := agree_run hp hz l hl (CI.start ⟨hz.1, by omega⟩) (CI.start (z := z + 1) ⟨by omega, by omega⟩) i sh h
  exact ⟨j, r, r', sign_at h1 h2, h2, h3, h4, h5⟩
theorem law_three {prog : Program} {w : World} {b0 : Heap} {A : Around} {k : Nat} {s B : Shared} {env : Env} {L c1 c2 c3 c4 c5 q P sa : Addr} {o5 : Obj} {qv sv : List Value} {l : List Int} {pg : List Bt} {tg : Tok} {v1 v2 v3 v4 : Option Value} {M : Ledger} {old : Heap} {Q : Flow → Shared → Prop}
    (D : Std w b0) (S : Sc env L ["script", "gaps", "filled", "octets"] ["_law_gaps", "len", "b64decode", "bytes", "_law_octets", "range", "b64encode", "_law_shelves"])
    (F : Fx b0 A (k + 16) B L ["script", "gaps", "filled", "octets"] [v1, v2, v3, v4] ((c5, o5) :: M) s)
    (C1 : Cel env "asked" c1) (C2 : Cel env "pages" c2) (C3 : Cel env "signs" c3) (C4 : Cel env "shelves" c4) (C5 : Cel env "runs" c5) (d5 : o5.data = .cell none)
    (hc1 : B.heap.IsCell c1 (some (.ref q))) (hq : Lst B.heap q qv) (hqi : IntsAre qv l) (hsm : AllSm l) (hz : l.length ≤ 12)
    (hc2 : B.heap.IsCell c2 (some (.ref P))) (hP : Lst B.heap P (mkB pg)) (hPg : Pages pg) (hc3 : B.heap.IsCell c3 (some (.bytes (byteArr ((fillOf ((gI [0, 1, 2, 3] l).map fun (n : Nat) => (n : Int))).map (65 + ·))) tg)))
    (hc4 : B.heap.IsCell c4 (some (.ref sa))) (hsa : Lst B.heap sa sv) (hR : RefsB old B.heap sv ((stks [0, 1, 2, 3] l).map (List.map (pgF pg))))
    (h : ∀ s', Grow b0 B s' → Q (.ret (.bool true)) s') :
    wpAny (model prog w) A (execs (lawTail w 8) env) Q No s := by
  have hgs := gap_small perm_start hsm
  have hgl := gI_len l [0, 1, 2, 3]
  have hsl := stks_len l [0, 1, 2, 3]
  have hsvl := hR.length
  rw [List.length_map, hsl] at hsvl
  refine tail_eq (by exact rfl) ?_
  walk_at "go"
  refine ev_comp (gs' := ["b64decode"]) (cl := []) (by decide +kernel) (by exact rfl) (fun _ => rfl) ?_
  walk_at "go"
  refine comp_list S (gs' := ["b64decode"]) (by decide +kernel) F (F.old hsa) (hsvl ▸ Nat.le_trans hz (by decide)) (fun i _ us => IntsAre us (l.take i)) .nil ?_ ?_
  · rintro Cc i v B2 I2 D2 us m io2 s5 SC hv g2 hI hle F5
    have hil : i < l.length := hsvl ▸ (List.getElem?_eq_some_iff.mp hv).1
    obtain ⟨x, hx⟩ : ∃ x, l[i]? = some x := ⟨l[i], List.getElem?_eq_getElem hil⟩
    have hx4 := sm_four (hsm x (List.mem_of_getElem? hx))
    obtain ⟨r, hst⟩ := stks_at l [0, 1, 2, 3] i x hx
    have hsh : ((stks [0, 1, 2, 3] l).map (List.map (pgF pg)))[i]? = some ((x :: r).map (pgF pg)) := by rw [List.getElem?_map, hst]; rfl
    obtain ⟨a1, ha1, hl1⟩ := hR.at hsh
    obtain rfl : v = .ref a1 := Option.some.inj (hv.symm.trans ha1)
    have hl2 : Lst B2.heap a1 (mkB ((x :: r).map (pgF pg))) := (hl1.grow F.grow).grow g2
    have ix : 0 ≤ (0 : Int) ∧ (0 : Int) < 2 ^ 63 ∧ (mkB ((x :: r).map (pgF pg)))[(0 : Int).toNat]? = some (.bytes (pgF pg x).1 (pgF pg x).2) := ⟨by decide, by decide, rfl⟩
    have pok := page_ok x hx4
    have pbk := page_back x hx4
    have epg := hPg.2 x hx4
    have ib : 0 ≤ (0 : Int) ∧ (0 : Int) < ((decB (page x)).size : Int) ∧ (decB (page x)).size ≤ 1000000 := ⟨Int.le_refl 0, Int.ofNat_lt.mpr pbk.1, Nat.le_trans pbk.2.1 (by decide)⟩
    refine wpAny_tests_nil (Br.t rfl ?_)
    walk_at "go"
    rename_i ty s6 F6
    refine go_dec D F6 (by rw [epg]; exact pok) ?_
    intro t' s7 F7
    rw [epg]
    clear F6 F5
    walk_at "go"
    rename_i ts s8 F8
    refine CTurn.ok F8 ?_
    have e0 : (((decB (page x)).toList.getD (0 : Int).toNat 0).toNat : Int) = x := pbk.2.2
    rw [e0, List.take_add_one, hx, Option.toList_some]
    exact ints_snoc hI _ _
  rintro Cc X1 B2 us m s5 g2 hI hle2 g2' hD2 hC2 hC02 hDC2 hlD2 hn2
  refine comp_ends F g2 g2' hD2 hC2 hC02 hDC2 hlD2 hn2 ?_
  intro s6 g6 hD6 F6
  rw [hsvl, List.take_length] at hI
  clear hlD2 hn2 hDC2 hC02 hC2 hD2 hD6 g6 g2' g2 hle2
  walk_at "go"
  refine op_neI F6 (F6.lst (.head _)) (F6.old hq) hI hqi ?_
  walk_at "go"
  refine x_else (by simp) ?_
  walk_at "go"
  have F7 := F6.sub (List.sublist_cons_self _ _)
  clear F6 F
  refine x_assign ?_ (sw_false S C5)
  refine ev_comp (gs' := ["_law_cache"]) (cl := [("asked", c1)]) (by decide +kernel) (clos_asked (by exact rfl) C1.at_) (fun _ => rfl) ?_
  walk_at "go"
  rename_i T1 W1 G1 T2 W2 G2 T3 W3 G3 T4 W4 G4 ls s8 F8 nls
  clear G1 G2 G3 G4
  have hli : IntsAre [Value.int 1 T1, .int 2 T2, .int 3 T3, .int 4 T4] ((List.range 4).map fun (j : Nat) => ((j + 1 : Nat) : Int)) := .cons 1 _ (.cons 2 _ (.cons 3 _ (.cons 4 _ .nil)))
  refine comp_list S (gs' := ["_law_cache"]) (by decide +kernel) F8 (F8.lst (.head _)) (by simp) (fun i B us => us.length = i ∧ Runs s8.heap B.heap l us) ⟨rfl, fun j v e => by simp at e⟩ ?_ ?_
  · rintro Cc i v B2 I2 D2 us m io2 s9 SC hv g2 ⟨hul, hRs⟩ hle F5
    obtain ⟨x, tx, hx, rfl⟩ := ints_get' hli hv
    obtain ⟨hi4, rfl⟩ := one_to hx
    have hcC := Cel.compS SC S C1 (by decide +kernel) (by simp)
    have hc1' := isCell_grow (isCell_grow hc1 F8.grow) g2
    have hq' := (hq.grow F8.grow).grow g2
    refine wpAny_tests_nil (Br.t rfl ?_)
    walk_at "go"
    refine ⟨F5.cx.stays, sp_cache D F5.cx (hq'.grow F5.grow) hqi (Nat.le_trans hz (by decide)) (Nat.succ_le_succ (Nat.zero_le i)) (Nat.le_trans hi4 (by decide)) ?_⟩
    intro a' us' n s10 g10 hget hnew hrw
    have F6 := F5.later g10
    obtain ⟨B3, g3, F9, hb⟩ := F6.rest (a := a') F5
    have old8 : ∀ b, s9.heap.get? b = none → s8.heap.get? b = none := fun b hb => (g2.trans F5.grow).there hb
    have hRun : Run s8.heap B3.heap l (us.length + 1) (.ref a') := by
      rw [hul]
      exact ⟨a', us', rfl, ⟨n, hb _ _ hget hnew⟩, old8 _ hnew, (hrw.based hb).older old8⟩
    exact CTurn.mk g3 ⟨by simp [hul], (hRs.grow g3).snoc hRun⟩ F9
  rintro Cc2 RR B2 us2 m2 s9 g2 ⟨hul, hRs⟩ hle2 g2' hD2 hC2 hC02 hDC2 hlD2 hn2
  refine comp_ends F8 g2 g2' hD2 hC2 hC02 hDC2 hlD2 hn2 ?_
  intro s10 g6 hD6 F9
  have hRs9 := hRs.grow g6
  have hul4 : us2.length = 4 := hul
  obtain ⟨B3, g3, F10, hm3, hb3⟩ := F9.settleN F8 2 (fun p hp => List.mem_cons_of_mem _ hp)
  simp only [List.drop_succ_cons, List.drop_zero] at F10
  have hRR : Lst B3.heap RR us2 := ⟨_, hm3 (RR, _) (.head _)⟩
  have hRs3 := hRs9.based hb3
  clear hlD2 hn2 hDC2 hC02 hC2 hD2 hD6 g6 g2' g2 hle2 hRs hRs9 hm3 hb3
  clear F9 F8 F7
  refine st_cellB S C5 F10 d5 ?_
  intro B4 s11 g4 hc5 F11
  have gB := g3.trans g4
  have hc2 := isCell_grow hc2 gB
  have hc3 := isCell_grow hc3 gB
  have hc4 := isCell_grow hc4 gB
  have hP := hP.grow gB
  have hsa := hsa.grow gB
  have hR := hR.grow gB
  have hRR := hRR.grow g4
  have hRs := hRs3.grow g4
  clear F10 hRs3
  walk_at "go"
  refine ev_comp (gs' := ["_law_agree"]) (cl := [("signs", c3), ("shelves", c4), ("runs", c5), ("pages", c2)]) (by decide +kernel) (clos_four (by exact rfl) C2.at_ C3.at_ C4.at_ C5.at_) (fun _ => rfl) ?_
  walk_at "go"
  rename_i U1 Y1 J1 U2 Y2 J2 U3 Y3 J3 zs s12 F12 nzs
  clear J1 J2 J3
  have hzi : IntsAre [Value.int 1 U1, .int 2 U2, .int 3 U3] ((List.range 3).map fun (j : Nat) => ((j + 1 : Nat) : Int)) := .cons 1 _ (.cons 2 _ (.cons 3 _ .nil))
  refine comp_list S (gs' := ["_law_agree"]) (by decide +kernel) F12 (F12.lst (.head _)) (by simp) (fun i B us => us = []) rfl ?_ ?_
  · rintro Cc i v B5 I2 D2 us m io2 s13 SC hv g5 rfl hle F5
    obtain ⟨x, tx, hx, rfl⟩ := ints_get' hzi hv
    obtain ⟨hi3, rfl⟩ := one_to hx
    have gg := F12.grow.trans g5
    have hC2 := Cel.compS SC S C2 (by decide +kernel) (by exact rfl)
    have hC3 := Cel.compS SC S C3 (by decide +kernel) (by exact rfl)
    have hC4 := Cel.compS SC S C4 (by decide +kernel) (by exact rfl)
    have hC5 := Cel.compS SC S C5 (by decide +kernel) (by exact rfl)
    have kc2 := isCell_grow hc2 gg
    have kc3 := isCell_grow hc3 gg
    have kc4 := isCell_grow hc4 gg
    have kc5 := isCell_grow hc5 gg
    have kR := hRR.grow gg
    have kRs := hRs.grow gg
    obtain ⟨u1, hu1⟩ : ∃ u, us2[i]? = some u := ⟨us2[i]'(hul4.symm ▸ Nat.lt_succ_of_lt hi3), List.getElem?_eq_getElem (hul4.symm ▸ Nat.lt_succ_of_lt hi3)⟩
    obtain ⟨u2, hu2⟩ : ∃ u, us2[i + 1]? = some u := ⟨us2[i + 1]'(hul4.symm ▸ Nat.succ_lt_succ hi3), List.getElem?_eq_getElem (hul4.symm ▸ Nat.succ_lt_succ hi3)⟩
    obtain ⟨a1, r1, rfl, hl1, _, hr1⟩ := kRs i u1 hu1
    obtain ⟨a2, r2, rfl, hl2, _, hr2⟩ := kRs (i + 1) u2 hu2
    have hu4 : us2.length ≤ 1000000 := by rw [hul4]; decide
    have ix1 := ixJ hu1 (succ_sub i) hu4
    have ix2 := ixN hu2 hu4
    refine wpAny_tests_one ?_
    walk_at "go"
    rename_i t8 s14 F6 t9 s15 F7
    have hfl := fill_len ((gI [0, 1, 2, 3] l).map fun (n : Nat) => (n : Int))
    rw [List.length_map, hgl] at hfl
    have hFz := Nat.le_trans hfl (Nat.le_trans (Nat.add_le_add_right hz 3) (show 12 + 3 ≤ 1000 by decide))
    refine ⟨F7.cx.stays, sp_agree (k := k + 13) (z := i + 1) D F7.cx ((hP.grow gg).grow F7.grow) hPg.1 ((hsa.grow gg).grow F7.grow) ((hR.grow gg).grow F7.grow) (hl1.grow F7.grow) (hr1.grow F7.grow) (hl2.grow F7.grow) (hr2.grow F7.grow) (Nat.le_trans hi3 (by decide))
      (by rw [List.length_map, hsl]; exact Nat.le_trans hz (by decide)) (by rw [List.length_map, hsl, cRun_len]) (by rw [List.length_map, hsl, cRun_len]) (by rw [arr_size, List.length_map]; exact hFz) (fun i' sh hsh => agree_sign hPg ⟨Nat.succ_le_succ (Nat.zero_le i), hi3⟩ hsm i' sh hsh) ?_⟩
    intro s16 g16
    have F8 := F7.later g16
    show wpAny _ _ _ _ _ _
    walk_at "go"
    exact CTurn.ok F8 rfl
  rintro Cc3 R3 B5 us3 m3 s13 g5 rfl hle5 g5' hD5 hC5' hC05 hDC5 hlD5 hn5
  refine comp_ends F12 g5 g5' hD5 hC5' hC05 hDC5 hlD5 hn5 ?_
  intro s14 g7 hD7 F13
  clear hlD5 hn5 hDC5 hC05 hC5' hD5 hD7 g7 g5' g5 hle5 F12 F11
  walk_at "go"
  rename_i R4 s15 F14 nR4
  refine op_eqI F14 (F14.lst (vs := []) (by walk_at "mem")) (F14.lst (vs := []) (by walk_at "mem")) .nil .nil ?_
  exact h _ (gB.trans F14.grow)
/-- the law's own frame, as its call begins -/
theorem start_fx {s₁ : Shared} {h₁ : Heap} {tk : Nat} {m : Str → Option Value} {env : Env} {cells : Ledger} {ns : List Str} {vals : List (Option Value)} (F : Fr s₁.heap s₁.heap.objs.size h₁ m) (N : News s₁.heap s₁.heap.objs.size h₁ cells) (hloc : Loc m ns vals)
    (hfr : env.frame = some s₁.heap.objs.size) (hk : env.scope.kind ≠ .module) (hc : ∀ p ∈ cells, dictD p.2.data = false) (nd : (s₁.heap.objs.size :: cells.map (·.1)).Nodup) :
    Fx s₁.heap (callerA.deeper env) 16 s₁ s₁.heap.objs.size ns vals cells { s₁ with heap := h₁, toks := tk } := by
  have hnew : s₁.heap.get? s₁.heap.objs.size = none := Heap.get?_none_of_le (Nat.le_refl _)
  refine ⟨⟨F.keep, ?_, (by show 1 + claimMargin + 1 + 16 < recursionLimit; decide), (by show 4 + 3 + 4 * 16 + 8 < cLine; decide), rfl⟩, Grow.of_keeps F.keep, ⟨m, F.ns, hloc⟩, hnew, hnew, fun p hp => ?_, nd⟩
  · refine ⟨[env], rfl, ?_⟩
    obtain ⟨o, es, ep, ho', hd', _⟩ := F.ns
    refine ⟨⟨hk, ⟨_, o, hfr, hnew, ho', fun vs => by rw [hd']; exact fun q => by cases q⟩, trivial⟩, fun env' he L hL => ?_⟩
    obtain rfl := List.mem_singleton.mp he
    rw [hfr] at hL
    exact ⟨o, by rw [← Option.some.inj hL]; exact ho', by rw [hd']; rfl⟩
  · obtain ⟨h1, h2, h3⟩ := N p hp
    exact ⟨h1, h3, h3, hc p hp⟩
theorem law_all {prog : Program} {w : World} {b0 : Heap} {A : Around} {k : Nat} {s B : Shared} {env : Env} {L a c1 c2 c3 c4 c5 : Addr} {o1 o2 o3 o4 o5 : Obj} {vs : List Value} {sc : List Int} {Q : Flow → Shared → Prop}
    (D : Std w b0) (S : Sc env L ["script", "gaps", "filled", "octets"] ["_law_gaps", "len", "b64decode", "bytes", "_law_octets", "range", "b64encode", "_law_shelves"])
    (F : Fx b0 A (k + 16) B L ["script", "gaps", "filled", "octets"] [some (.ref a), none, none, none] [(c1, o1), (c2, o2), (c3, o3), (c4, o4), (c5, o5)] s)
    (C1 : Cel env "asked" c1) (C2 : Cel env "pages" c2) (C3 : Cel env "signs" c3) (C4 : Cel env "shelves" c4) (C5 : Cel env "runs" c5)
    (d1 : o1.data = .cell none) (d2 : o2.data = .cell none) (d3 : o3.data = .cell none) (d4 : o4.data = .cell none) (d5 : o5.data = .cell none)
    (hl : B.heap.IsList a vs.toArray) (hi : IntsAre vs sc) (hz : sc.length ≤ 63)
    (h : ∀ s', Grow b0 B s' → Q (.ret (.bool true)) s') : wpAny (model prog w) A (execs (lawTail w 0) env) Q No s := by
  refine law_one D S F C1 d1 hl hi hz ?_
  intro B1 s1 q qv t v1 v2 v3 g1 hc1 hq hqi F1
  refine law_two D S F1 C1 C2 C3 C4 d2 d3 d4 hc1 hq hqi (ask_small sc) (ask_len sc) ?_
  intro B2 s2 P pg tg sa sv old g2 hc2 hP hPg hc3 hc4 hsa hR F2
  exact law_three D S F2 C1 C2 C3 C4 C5 d5 (isCell_grow hc1 g2) (hq.grow g2) hqi (ask_small sc) (ask_len sc) hc2 hP hPg hc3 hc4 hsa hR fun s' g3 => h s' ((g1.trans g2).trans g3)
theorem flow_no {prog : Program} {w : World} {A : Around} {t : Sem Flow} {s : Shared} {Q : Flow → Shared → Prop} {E : Value → Shared → Prop} (h : wpAny (model prog w) A t Q No s) : wpAny (model prog w) A t Q E s := wpAny_mono h (fun _ _ x => x) fun _ _ x => x.elim
theorem nodup6 (n : Nat) : [n, n + 1 + 1 + 1 + 1 + 1, n + 1 + 1 + 1 + 1, n + 1 + 1 + 1, n + 1 + 1, n + 1].Nodup :=
  have h : ([0, 5, 4, 3, 2, 1] : List Nat).Pairwise (· ≠ ·) := by decide
  (List.pairwise_map.mpr (h.imp fun {a b} q e => q (Nat.add_left_cancel e)) : (([0, 5, 4, 3, 2, 1] : List Nat).map (n + ·)).Pairwise (· ≠ ·))
theorem law_start {prog : Program} {w : World} {s₁ : Shared} {h₁ : Heap} {tk : Nat} {m : Str → Option Value} {env : Env} {a c1 c2 c3 c4 c5 : Addr} {o1 o2 o3 o4 o5 : Obj} {vs : List Value} {sc : List Int} {Q : Flow → Shared → Prop} {E : Value → Shared → Prop} (D : Std w s₁.heap)
    (F : Fr s₁.heap s₁.heap.objs.size h₁ m) (N : News s₁.heap s₁.heap.objs.size h₁ [(c5, o5), (c4, o4), (c3, o3), (c2, o2), (c1, o1)]) (hm : m "script" = some (.ref a)) (e1 : c1 = s₁.heap.objs.size + 1) (e2 : c2 = c1 + 1) (e3 : c3 = c2 + 1) (e4 : c4 = c3 + 1) (e5 : c5 = c4 + 1)
    (d5 : o5.data = .cell none) (d4 : o4.data = .cell none) (d3 : o3.data = .cell none) (d2 : o2.data = .cell none) (d1 : o1.data = .cell none)
    (S : Sc env s₁.heap.objs.size ["script", "gaps", "filled", "octets"] ["_law_gaps", "len", "b64decode", "bytes", "_law_octets", "range", "b64encode", "_law_shelves"]) (hfr : env.frame = some s₁.heap.objs.size)
    (C1 : Cel env "asked" c1) (C2 : Cel env "pages" c2) (C3 : Cel env "signs" c3) (C4 : Cel env "shelves" c4) (C5 : Cel env "runs" c5)
    (hl : s₁.heap.IsList a vs.toArray) (hi : IntsAre vs sc) (hz : sc.length ≤ 63) (h : ∀ s', Grow s₁.heap s₁ s' → Q (.ret (.bool true)) s') :
    wpAny (model prog w) (callerA.deeper env) (execs (lawTail w 0) env) Q E { s₁ with heap := h₁, toks := tk } := by
  have F0 := start_fx (env := env) (tk := tk) (ns := ["script", "gaps", "filled", "octets"]) (vals := [some (.ref a), none, none, none]) F N ⟨hm, trivial⟩ hfr (by rw [S.kind]; decide) (by
    intro p hp
    simp only [List.mem_cons, List.not_mem_nil, or_false] at hp
    rcases hp with rfl | rfl | rfl | rfl | rfl
    · show dictD o5.data = _; rw [d5]; rfl
    · show dictD o4.data = _; rw [d4]; rfl
    · show dictD o3.data = _; rw [d3]; rfl
    · show dictD o2.data = _; rw [d2]; rfl
    · show dictD o1.data = _; rw [d1]; rfl) (by
    subst e1 e2 e3 e4 e5
    exact nodup6 _)
  have F1 : Fx s₁.heap (callerA.deeper env) (0 + 16) s₁ s₁.heap.objs.size ["script", "gaps", "filled", "octets"] [some (.ref a), none, none, none] [(c1, o1), (c2, o2), (c3, o3), (c4, o4), (c5, o5)] { s₁ with heap := h₁, toks := tk } :=
    F0.perm (List.reverse_perm [(c5, o5), (c4, o4), (c3, o3), (c2, o2), (c1, o1)])
  exact flow_no (law_all D S F1 C1 C2 C3 C4 C5 d1 d2 d3 d4 d5 hl hi hz h)
end Mine
set_option maxHeartbeats 8000000 in
theorem PySem.Challenge.cw_qh0042_01_holds : PySem.Challenge.rw_qh0042_01.Holds := by
  refine Mine.hd ?_
  k_go0
  rename_i w s₀ s₁ mg mb G Y fa o pm doc ho hg KX X V GL T B TE TW aM oM M aC aD hcd sc hs hlay0 hL1 hr1 hl2 as1 as2 a vs as3 hL ra w1 r0 hI hr hlen htr K0 hD h₁ tk F o5 o4 o3 o2 o1 d5 d4 d3 d2 d1 N X0
  clear X V GL B TE TW M hcd hs hlay0 hL1 hr1 hl2 ra w1 r0 hr htr K0 hD Y X0 ho
  have D : Mine.Std w s₁.heap := ⟨KX, _, _, _, _, topRead_of T⟩
  refine Mine.law_start D F N rfl rfl rfl rfl rfl rfl d5 d4 d3 d2 d1 (Mine.Sc.of rfl (by exact rfl) rfl rfl rfl) rfl ⟨rfl, rfl, by decide⟩ ⟨rfl, rfl, by decide⟩ ⟨rfl, rfl, by decide⟩ ⟨rfl, rfl, by decide⟩ ⟨rfl, rfl, by decide⟩ hL hI (by omega) ?_
  intro s' g
  refine ⟨.inl ⟨.bool true, .bool true, [], rfl, fun cls => ?_, .bool true, ?_, fun _ => ⟨.nil, fun _ h => nomatch h⟩⟩, fun b o e => g.keep b o e (.inr (by rw [e]; rfl)), g.os, g.gens.trans hg⟩
  · rfl
  · wrow_post
