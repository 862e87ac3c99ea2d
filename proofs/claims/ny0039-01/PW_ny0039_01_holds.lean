import PyProof.Rows.All
import Wide.All
import OpenK.AllK
import Wide.FinOn
import PySem.Challenge.RW_ny0039_01
open PySem PySem.W PyProof.Rows PySem.Calls
set_option Elab.async false
set_option maxRecDepth 100000
set_option maxHeartbeats 16000000
namespace Mine
set_option maxRecDepth 100000 in
set_option maxHeartbeats 8000000 in
open_top hd for PySem.Challenge.rw_ny0039_01
end Mine

section
namespace Mine

/-- every object of g stands in h -/
abbrev Sub (g h : Heap) : Prop := ∀ b o, g.get? b = some o → h.get? b = some o
theorem Sub.refl (h : Heap) : Sub h h := fun _ _ e => e
theorem Sub.trans {a b c : Heap} (x : Sub a b) (y : Sub b c) : Sub a c := fun i o e => y i o (x i o e)

/-- h's objects at the places that p names, and no others -/
noncomputable def only (h : Heap) (p : Addr → Prop) : Heap :=
  open Classical in hideAll h ((List.range h.objs.size).filter fun a => decide (¬ p a))
theorem only_get {h : Heap} {p : Addr → Prop} {a : Addr} {o : Obj} (e : h.get? a = some o) (hp : p a) : (only h p).get? a = some o := by
  classical
  refine hideAll_get _ e fun q => ?_
  have := (List.mem_filter.mp q).2
  simp at this
  exact this hp
theorem only_of {h : Heap} {p : Addr → Prop} {a : Addr} {o : Obj} (e : (only h p).get? a = some o) : h.get? a = some o ∧ p a := by
  classical
  have e' : h.get? a = some o := of_hideAll _ e
  refine ⟨e', Classical.byContradiction fun hp => ?_⟩
  have : (only h p).get? a = none := hideAll_none _ (List.mem_filter.mpr ⟨List.mem_range.mpr (Heap.lt_size e'), by simpa using hp⟩)
  rw [this] at e; cases e

/-- a frame at L with the names m: b the state at the start (its heap is kept), f the frozen new objects, mu the new objects that may turn -/
structure Fm (b : Shared) (f : Heap) (L : Addr) (m : Str → Option Value) (mu : List (Addr × Obj)) (s : Shared) : Prop where
  gens : s.gens = b.gens
  os : s.os = b.os
  ns : s.heap.Ns L m
  keep : Sub b.heap s.heap
  sub : Sub f s.heap
  offb : b.heap.get? L = none
  offf : f.get? L = none
  new : ∀ a o, f.get? a = some o → b.heap.get? a = none
  mus : ∀ p ∈ mu, s.heap.get? p.1 = some p.2 ∧ b.heap.get? p.1 = none ∧ f.get? p.1 = none ∧ p.1 ≠ L
  nd : (mu.map (·.1)).Nodup

/-- s' comes behind s, all of s's heap kept, f new -/
structure Fresh (s : Shared) (f : Heap) (s' : Shared) : Prop where
  gens : s'.gens = s.gens
  os : s'.os = s.os
  keep : Sub s.heap s'.heap
  sub : Sub f s'.heap
  new : ∀ a o, f.get? a = some o → s.heap.get? a = none

section
variable {b s s' : Shared} {f : Heap} {L : Addr} {m m' : Str → Option Value} {mu : List (Addr × Obj)}

theorem Fm.fresh (F : Fm b f L m mu s) : Fresh b f s := ⟨F.gens, F.os, F.keep, F.sub, F.new⟩
theorem Fm.isL (F : Fm b f L m mu s) : ∃ o, s.heap.get? L = some o := let ⟨o, _, _, h, _⟩ := F.ns; ⟨o, h⟩

theorem Fm.same (F : Fm b f L m mu s) (hh : s'.heap = s.heap) (hg : s'.gens = s.gens) (ho : s'.os = s.os) : Fm b f L m mu s' := by
  refine ⟨hg.trans F.gens, ho.trans F.os, ?_, ?_, ?_, F.offb, F.offf, F.new, ?_, F.nd⟩ <;> rw [hh]
  · exact F.ns
  · exact F.keep
  · exact F.sub
  · exact F.mus
theorem Fm.tok (F : Fm b f L m mu s) (k : Nat) : Fm b f L m mu { s with toks := k } := F.same rfl rfl rfl

theorem Fm.after (F : Fm b f L m mu s) (hk : Sub s.heap s'.heap) (hg : s'.gens = s.gens) (ho : s'.os = s.os) : Fm b f L m mu s' :=
  ⟨hg.trans F.gens, ho.trans F.os, F.ns.keeps hk, F.keep.trans hk, F.sub.trans hk, F.offb, F.offf, F.new,
    fun p hp => ⟨hk _ _ (F.mus p hp).1, (F.mus p hp).2⟩, F.nd⟩

theorem Fm.store (F : Fm b f L m mu s) {h' : Heap} (hn : h'.Ns L m') (hs : Heap.SameBut L s.heap h') (hh : s'.heap = h') (hg : s'.gens = s.gens) (ho : s'.os = s.os) : Fm b f L m' mu s' := by
  have ne : ∀ {a o} {g : Heap}, g.get? L = none → g.get? a = some o → a ≠ L := fun hn ha e => by rw [e, hn] at ha; cases ha
  refine ⟨hg.trans F.gens, ho.trans F.os, ?_, ?_, ?_, F.offb, F.offf, F.new, ?_, F.nd⟩ <;> rw [hh]
  · exact hn
  · exact fun a o e => (hs.2 a (ne F.offb e)).trans (F.keep a o e)
  · exact fun a o e => (hs.2 a (ne F.offf e)).trans (F.sub a o e)
  · exact fun p hp => ⟨(hs.2 _ (F.mus p hp).2.2.2).trans (F.mus p hp).1, (F.mus p hp).2⟩

/-- the entry at a of the list, its object turned -/
inductive Upd (a : Addr) (o o' : Obj) : List (Addr × Obj) → List (Addr × Obj) → Prop
  | head {r} : Upd a o o' ((a, o) :: r) ((a, o') :: r)
  | tail {p r r'} : Upd a o o' r r' → Upd a o o' (p :: r) (p :: r')
theorem Upd.mem {a : Addr} {o o' : Obj} {l l' : List (Addr × Obj)} (u : Upd a o o' l l') : (a, o) ∈ l := by
  induction u with
  | head => exact .head _
  | tail _ ih => exact .tail _ ih
theorem Upd.map {a : Addr} {o o' : Obj} {l l' : List (Addr × Obj)} (u : Upd a o o' l l') : l'.map (·.1) = l.map (·.1) := by
  induction u with
  | head => rfl
  | tail _ ih => simp [ih]
theorem Upd.of {a : Addr} {o o' : Obj} {l l' : List (Addr × Obj)} (u : Upd a o o' l l') (nd : (l.map (·.1)).Nodup) : ∀ p ∈ l', p = (a, o') ∨ (p ∈ l ∧ p.1 ≠ a) := by
  induction u with
  | head =>
    intro p hp
    rcases List.mem_cons.mp hp with rfl | hp
    · exact .inl rfl
    · refine .inr ⟨.tail _ hp, fun e => ?_⟩
      simp only [List.map_cons, List.nodup_cons] at nd
      exact nd.1 (e ▸ List.mem_map_of_mem hp)
  | @tail q r r' u ih =>
    intro p hp
    simp only [List.map_cons, List.nodup_cons] at nd
    rcases List.mem_cons.mp hp with rfl | hp
    · exact .inr ⟨.head _, fun e => nd.1 (e ▸ List.mem_map_of_mem (f := (·.1)) u.mem)⟩
    · exact (ih nd.2 p hp).imp id fun ⟨x, y⟩ => ⟨.tail _ x, y⟩

theorem Fm.upd (F : Fm b f L m mu s) {a : Addr} {o o' : Obj} {mu' : List (Addr × Obj)} (u : Upd a o o' mu mu') {h' : Heap} (hs : Heap.ExtBut a s.heap h') (ho' : h'.get? a = some o')
    (hh : s'.heap = h') (hg : s'.gens = s.gens) (hos : s'.os = s.os) : Fm b f L m mu' s' := by
  have M := F.mus _ u.mem
  have ne : ∀ {c x} {g : Heap}, g.get? a = none → g.get? c = some x → c ≠ a := fun hn ha e => by rw [e, hn] at ha; cases ha
  refine ⟨hg.trans F.gens, hos.trans F.os, ?_, ?_, ?_, F.offb, F.offf, F.new, ?_, by rw [u.map]; exact F.nd⟩ <;> rw [hh]
  · exact F.ns.extBut hs (Ne.symm M.2.2.2)
  · exact fun c x e => hs c x (ne M.2.1 e) (F.keep c x e)
  · exact fun c x e => hs c x (ne M.2.2.1 e) (F.sub c x e)
  · intro p hp
    rcases u.of F.nd p hp with rfl | ⟨hp, hn⟩
    · exact ⟨ho', M.2⟩
    · exact ⟨hs _ _ hn (F.mus p hp).1, (F.mus p hp).2⟩

/-- a new object -/
theorem Fm.push (F : Fm b f L m mu s) (o : Obj) (hf : o.isFreed = false := by rfl) : Fm b f L m ((s.heap.objs.size, o) :: mu) { s with heap := s.heap.push o } := by
  have F' : Fm b f L m mu { s with heap := s.heap.push o } := F.after (fun a x e => Heap.get?_push_of_some _ e) rfl rfl
  have no : ∀ {g : Heap}, Sub g s.heap → g.get? s.heap.objs.size = none := fun {g} hg => by
    cases q : g.get? s.heap.objs.size with
    | none => rfl
    | some o' => exact absurd (Heap.lt_size (hg _ _ q)) (Nat.lt_irrefl _)
  obtain ⟨oL, hL⟩ := F.isL
  refine ⟨F'.gens, F'.os, F'.ns, F'.keep, F'.sub, F'.offb, F'.offf, F'.new, ?_, ?_⟩
  · intro p hp
    rcases List.mem_cons.mp hp with rfl | hp
    · exact ⟨Heap.get?_push_size _ hf, no F.keep, no F.sub, Nat.ne_of_gt (Heap.lt_size hL)⟩
    · exact F'.mus p hp
  · simp only [List.map_cons, List.nodup_cons]
    refine ⟨fun q => ?_, F.nd⟩
    obtain ⟨p, hp, e⟩ := List.mem_map.mp q
    exact absurd (Heap.lt_size (F.mus p hp).1) (by rw [e]; exact Nat.lt_irrefl _)

/-- an entry is frozen -/
theorem Fm.freeze {a : Addr} {o : Obj} (F : Fm b f L m ((a, o) :: mu) s) : ∃ f', Sub f f' ∧ f'.get? a = some o ∧ Fm b f' L m mu s := by
  have M := F.mus _ (.head _)
  have nd := F.nd
  simp only [List.map_cons, List.nodup_cons] at nd
  refine ⟨only s.heap fun c => c = a ∨ ∃ x, f.get? c = some x, fun c x e => only_get (F.sub c x e) (.inr ⟨x, e⟩), only_get M.1 (.inl rfl), ?_⟩
  have off : ∀ {c}, c ≠ a → f.get? c = none → (only s.heap fun c => c = a ∨ ∃ x, f.get? c = some x).get? c = none := fun {c} h1 h2 => by
    cases q : (only s.heap fun c => c = a ∨ ∃ x, f.get? c = some x).get? c with
    | none => rfl
    | some y =>
      rcases (only_of q).2 with h | ⟨x, h⟩
      · exact absurd h h1
      · rw [h2] at h; cases h
  refine ⟨F.gens, F.os, F.ns, F.keep, fun c x e => (only_of e).1, F.offb, off (Ne.symm M.2.2.2) F.offf, fun c x e => ?_, fun p hp => ?_, nd.2⟩
  · rcases (only_of e).2 with rfl | ⟨y, h⟩
    · exact M.2.1
    · exact F.new _ _ h
  · have P := F.mus p (.tail _ hp)
    exact ⟨P.1, P.2.1, off (fun e => nd.1 (e ▸ List.mem_map_of_mem hp)) P.2.2.1, P.2.2.2⟩

/-- what a call has made joins the frozen part -/
theorem Fm.join {f₂ : Heap} (F : Fm b f L m mu s) (G : Fresh s f₂ s') : ∃ f', Sub f f' ∧ Sub f₂ f' ∧ Fm b f' L m mu s' := by
  have F' : Fm b f L m mu s' := F.after G.keep G.gens G.os
  obtain ⟨oL, hL⟩ := F.isL
  refine ⟨only s'.heap fun c => (∃ x, f.get? c = some x) ∨ ∃ x, f₂.get? c = some x, fun c x e => only_get (F'.sub c x e) (.inl ⟨x, e⟩), fun c x e => only_get (G.sub c x e) (.inr ⟨x, e⟩), ?_⟩
  have off : ∀ {c y}, s.heap.get? c = some y → f.get? c = none → (only s'.heap fun c => (∃ x, f.get? c = some x) ∨ ∃ x, f₂.get? c = some x).get? c = none := fun {c y} h1 h2 => by
    cases q : (only s'.heap fun c => (∃ x, f.get? c = some x) ∨ ∃ x, f₂.get? c = some x).get? c with
    | none => rfl
    | some z =>
      rcases (only_of q).2 with ⟨x, h⟩ | ⟨x, h⟩
      · rw [h2] at h; cases h
      · have := G.new _ _ h; rw [h1] at this; cases this
  refine ⟨F'.gens, F'.os, F'.ns, F'.keep, fun c x e => (only_of e).1, F.offb, off hL F.offf, fun c x e => ?_, fun p hp => ?_, F.nd⟩
  · rcases (only_of e).2 with ⟨y, h⟩ | ⟨y, h⟩
    · exact F.new _ _ h
    · cases q : b.heap.get? c with
      | none => rfl
      | some z => have := G.new _ _ h; rw [F.keep _ _ q] at this; cases this
  · have P := F'.mus p hp
    exact ⟨P.1, P.2.1, off (F.mus p hp).1 P.2.2.1, P.2.2.2⟩

/-- an entry is forgotten -/
theorem Fm.drop {p : Addr × Obj} (F : Fm b f L m (p :: mu) s) : Fm b f L m mu s := by
  have nd := F.nd
  simp only [List.map_cons, List.nodup_cons] at nd
  exact ⟨F.gens, F.os, F.ns, F.keep, F.sub, F.offb, F.offf, F.new, fun q hq => F.mus q (.tail _ hq), nd.2⟩

/-- the base made smaller -/
theorem Fm.base {b' : Shared} (F : Fm b f L m mu s) (hs : Sub b'.heap b.heap) (hg : b.gens = b'.gens) (ho : b.os = b'.os) : Fm b' f L m mu s := by
  have off : ∀ {c}, b.heap.get? c = none → b'.heap.get? c = none := fun {c} h => by
    cases q : b'.heap.get? c with
    | none => rfl
    | some z => rw [hs _ _ q] at h; cases h
  exact ⟨F.gens.trans hg, F.os.trans ho, F.ns, hs.trans F.keep, F.sub, off F.offb, F.offf, fun a o e => off (F.new a o e), fun p hp => let ⟨x, y, z, t⟩ := F.mus p hp; ⟨x, off y, z, t⟩, F.nd⟩

/-- an entry of mu is put into the base (and held still) -/
theorem Fm.hold {a : Addr} {o : Obj} (F : Fm b f L m ((a, o) :: mu) s) : ∃ h₁, Sub b.heap h₁ ∧ h₁.get? a = some o ∧ (∀ c x, h₁.get? c = some x → c = a ∨ b.heap.get? c = some x) ∧ Fm { b with heap := h₁ } f L m mu s := by
  have M := F.mus _ (.head _)
  have nd := F.nd
  simp only [List.map_cons, List.nodup_cons] at nd
  have off : ∀ {c}, c ≠ a → b.heap.get? c = none → (only s.heap fun c => c = a ∨ ∃ x, b.heap.get? c = some x).get? c = none := fun {c} h1 h2 => by
    cases q : (only s.heap fun c => c = a ∨ ∃ x, b.heap.get? c = some x).get? c with
    | none => rfl
    | some y =>
      rcases (only_of q).2 with h | ⟨x, h⟩
      · exact absurd h h1
      · rw [h2] at h; cases h
  refine ⟨only s.heap fun c => c = a ∨ ∃ x, b.heap.get? c = some x, fun c x e => only_get (F.keep c x e) (.inr ⟨x, e⟩), only_get M.1 (.inl rfl), fun c x e => ?_, ?_⟩
  · obtain ⟨e1, e2⟩ := only_of e
    rcases e2 with e2 | ⟨y, e2⟩
    · exact .inl e2
    · refine .inr ?_
      have := F.keep _ _ e2
      rw [e1] at this
      cases this
      exact e2
  · refine ⟨F.gens, F.os, F.ns, fun c x e => (only_of e).1, F.sub, off (Ne.symm M.2.2.2) F.offb, F.offf, fun c x e => off ?_ (F.new c x e), fun p hp => ?_, nd.2⟩
    · intro q; rw [q, M.2.2.1] at e; cases e
    · have P := F.mus p (.tail _ hp)
      exact ⟨P.1, off (fun e => nd.1 (e ▸ List.mem_map_of_mem hp)) P.2.1, P.2.2.1, P.2.2.2⟩
end
end Mine
end

section
namespace Mine

section
variable {b s s' : Shared} {f : Heap} {L : Addr} {m m' : Str → Option Value} {mu : List (Addr × Obj)}

theorem Fm.unhold {h₁ : Heap} {a : Addr} {o : Obj} (F : Fm { b with heap := h₁ } f L m mu s) (hs : Sub b.heap h₁) (ha : h₁.get? a = some o) (hb : b.heap.get? a = none) : Fm b f L m ((a, o) :: mu) s := by
  have F' : Fm b f L m mu s := F.base (b := { b with heap := h₁ }) hs rfl rfl
  refine ⟨F'.gens, F'.os, F'.ns, F'.keep, F'.sub, F'.offb, F'.offf, F'.new, fun p hp => ?_, ?_⟩
  · rcases List.mem_cons.mp hp with rfl | hp
    · refine ⟨F.keep _ _ ha, hb, ?_, fun e => ?_⟩
      · cases q : f.get? a with
        | none => rfl
        | some z => have : h₁.get? a = none := F.new _ _ q; rw [ha] at this; cases this
      · have : h₁.get? L = none := F.offb
        have e' : a = L := e
        rw [← e', ha] at this; cases this
    · exact F'.mus p hp
  · simp only [List.map_cons, List.nodup_cons]
    refine ⟨fun q => ?_, F.nd⟩
    obtain ⟨p, hp, e⟩ := List.mem_map.mp q
    have : h₁.get? p.1 = none := (F.mus p hp).2.1
    rw [e, ha] at this; cases this

theorem Fm.dropExt {a : Addr} {o : Obj} {h' : Heap} (F : Fm b f L m ((a, o) :: mu) s) (hs : Heap.ExtBut a s.heap h') (hh : s'.heap = h') (hg : s'.gens = s.gens) (ho : s'.os = s.os) : Fm b f L m mu s' := by
  have M := F.mus _ (.head _)
  have nd := F.nd
  simp only [List.map_cons, List.nodup_cons] at nd
  have ne : ∀ {c x} {g : Heap}, g.get? a = none → g.get? c = some x → c ≠ a := fun hn ha e => by rw [e, hn] at ha; cases ha
  refine ⟨hg.trans F.gens, ho.trans F.os, ?_, ?_, ?_, F.offb, F.offf, F.new, ?_, nd.2⟩ <;> rw [hh]
  · exact F.ns.extBut hs (Ne.symm M.2.2.2)
  · exact fun c x e => hs c x (ne M.2.1 e) (F.keep c x e)
  · exact fun c x e => hs c x (ne M.2.2.1 e) (F.sub c x e)
  · exact fun p hp => ⟨hs _ _ (fun e => nd.1 (e ▸ List.mem_map_of_mem hp)) (F.mus p (.tail _ hp)).1, (F.mus p (.tail _ hp)).2⟩
theorem Fm.updS {a : Addr} {o o' : Obj} {h' : Heap} (F : Fm b f L m ((a, o) :: mu) s) (hs : Heap.ExtBut a s.heap h') (ho' : h'.get? a = some o') (hh : s'.heap = h') (hg : s'.gens = s.gens) (ho : s'.os = s.os) :
    Fm b f L m ((a, o') :: mu) s' := F.upd .head hs ho' hh hg ho
end

/-- the list that a loop goes over: it stands still -/
def Stands (b : Shared) (f : Heap) (ax : Addr) (items : List Value) : Prop := b.heap.IsList ax items.toArray ∨ f.IsList ax items.toArray
theorem Stands.at {b s : Shared} {f : Heap} {ax L : Addr} {items : List Value} {m : Str → Option Value} {mu : List (Addr × Obj)} (S : Stands b f ax items) (F : Fm b f L m mu s) : s.heap.IsList ax items.toArray := by
  rcases S with ⟨o, ho, r⟩ | ⟨o, ho, r⟩
  · exact ⟨o, F.keep _ _ ho, r⟩
  · exact ⟨o, F.sub _ _ ho, r⟩
theorem Stands.mono {b : Shared} {f f' : Heap} {ax : Addr} {items : List Value} (S : Stands b f ax items) (h : Sub f f') : Stands b f' ax items := by
  rcases S with x | ⟨o, ho, r⟩
  · exact .inl x
  · exact .inr ⟨o, h _ _ ho, r⟩

section
variable {prog : Program} {w : World} {A : Around} {E : Value → Shared → Prop} {b s : Shared} {f : Heap} {m : Str → Option Value} {mu : List (Addr × Obj)} {env : Env}

/-- the turn's end of a loop -/
def TurnEnd (J : Nat → Heap → (Str → Option Value) → List (Addr × Obj) → Prop) (i : Nat) (b₁ : Shared) (f₁ : Heap) (L : Addr) (Q : Flow → Shared → Prop) (fl : Flow) (s' : Shared) : Prop :=
  match fl with
  | .next | .cont => ∃ f' m' mu', Sub f₁ f' ∧ Fm b₁ f' L m' mu' s' ∧ J (i + 1) f' m' mu'
  | .brk => Q .next s'
  | .ret v => Q (.ret v) s'

theorem loop_list {target : Expr} {body : List Stmt} {ax : Addr} {items : List Value} {Q : Flow → Shared → Prop}
    (J : Nat → Heap → (Str → Option Value) → List (Addr × Obj) → Prop) (hh : A.handled = none)
    (F : Fm b f env.locals m mu s) (hl : Stands b f ax items) (h0 : J 0 f m mu)
    (step : ∀ E' i v b₁ f₁ m₁ mu₁ s₁, items[i]? = some v → Sub b.heap b₁.heap → b₁.gens = b.gens → b₁.os = b.os → Sub f f₁ → Fm b₁ f₁ env.locals m₁ mu₁ s₁ → J i f₁ m₁ mu₁ →
      wpAny (model prog w) A (assign target env v) (fun _ s₂ => wpAny (model prog w) A (execs body env) (TurnEnd J i b₁ f₁ env.locals Q) E' s₂) E' s₁)
    (done : ∀ f₁ m₁ mu₁ s₁, Sub f f₁ → Fm b f₁ env.locals m₁ mu₁ s₁ → J items.length f₁ m₁ mu₁ → Q .next s₁)
    (ht : ∀ it v, letOwnedTupleGo target it v = pure () := by intro _ _; rfl) :
    wpAny (model prog w) A (pyIter (.ref ax)) (fun it s₂ => codeAny (model prog w) A (.forLoop target it body [] env) (fun r s' => match r with | .ok f => Q f s' | .error e => cameBackBy (model prog w) A env E e s') s₂) E s := by
  refine wpAny_pyIter_list (hl.at F) ?_
  have F0 := F.push { cls := .type "list_iterator", data := .fields #[.ref ax, .int 0 0] }
  generalize s.heap.objs.size = it at F0 ⊢
  refine codeAny_forLoop (fun n s' => ∃ i f₁ m₁ mu₁ o, n = items.length + 1 - i ∧ i ≤ items.length ∧ o.cls = .type "list_iterator" ∧ o.data = .fields #[.ref ax, .int i 0] ∧ Sub f f₁ ∧ Fm b f₁ env.locals m₁ ((it, o) :: mu₁) s' ∧ J i f₁ m₁ mu₁) ?_ (items.length + 1)
    ⟨0, f, m, mu, _, rfl, Nat.zero_le _, rfl, rfl, Sub.refl _, F0, h0⟩ (fun v => ht _ v)
  rintro n s' ⟨i, f₁, m₁, mu₁, o, rfl, hi, hc, hd, hsub, F₁, hJ⟩
  have hL := (hl.mono hsub).at F₁
  have hit : s'.heap.IsListIter it ax i := ⟨o, (F₁.mus _ (.head _)).1, hc, hd⟩
  cases hv : items[i]? with
  | none =>
    have hlen : i = items.length := Nat.le_antisymm hi (by simpa using hv)
    refine wpAny_pyNext_list_end hh hit hL (by simpa using hv) fun h' he => wpAny_execs_nil ?_
    exact done f₁ m₁ mu₁ _ hsub (F₁.dropExt he rfl rfl rfl) (hlen ▸ hJ)
  | some v =>
    have hlt : i < items.length := (List.getElem?_eq_some_iff.mp hv).1
    refine wpAny_pyNext_list_item hit hL (by simpa using hv) fun h' hit' hs' => ?_
    obtain ⟨o', ho', hc', hd'⟩ := hit'
    have F₂ := F₁.updS (s' := { s' with heap := h' }) hs'.extBut ho' rfl rfl rfl
    obtain ⟨h₁, hb₁, ha₁, _, F₃⟩ := F₂.hold
    refine wpAny_mono (step _ i v { b with heap := h₁ } f₁ m₁ mu₁ _ hv hb₁ rfl rfl hsub F₃ hJ) (fun _ s₂ h₂ => ?_) fun _ _ e => e
    refine wpAny_mono h₂ (fun fl s₃ h₃ => ?_) fun _ _ e => e
    have goOn : (∃ f' m' mu', Sub f₁ f' ∧ Fm { b with heap := h₁ } f' env.locals m' mu' s₃ ∧ J (i + 1) f' m' mu') → ∃ m, m < items.length + 1 - i ∧ ∃ i f₁ m₁ mu₁ o, m = items.length + 1 - i ∧ i ≤ items.length ∧ o.cls = .type "list_iterator" ∧ o.data = .fields #[.ref ax, .int i 0] ∧ Sub f f₁ ∧ Fm b f₁ env.locals m₁ ((it, o) :: mu₁) s₃ ∧ J i f₁ m₁ mu₁ := by
      rintro ⟨f', m', mu', hs, F₄, hJ'⟩
      exact ⟨_, by omega, i + 1, f', m', mu', o', rfl, hlt, hc', hd', hsub.trans hs, F₄.unhold hb₁ ha₁ (F₂.mus _ (.head _)).2.1, hJ'⟩
    cases fl with
    | next => exact goOn h₃
    | cont => exact goOn h₃
    | brk => exact h₃
    | ret v => exact h₃

/-- a while, by an invariant and a measure -/
theorem loop_while {test : Expr} {body : List Stmt} {Q : Flow → Shared → Prop}
    (J : Nat → Heap → (Str → Option Value) → List (Addr × Obj) → Prop) (n : Nat)
    (F : Fm b f env.locals m mu s) (h0 : J n f m mu)
    (step : ∀ E' n f₁ m₁ mu₁ s₁, Sub f f₁ → Fm b f₁ env.locals m₁ mu₁ s₁ → J n f₁ m₁ mu₁ →
      wpAny (model prog w) A (isTrue test env (eval test env)) (fun t s₂ => if t then wpAny (model prog w) A (execs body env) (fun fl s' => match fl with
          | .next | .cont => ∃ k f' m' mu', k < n ∧ Sub f₁ f' ∧ Fm b f' env.locals m' mu' s' ∧ J k f' m' mu'
          | .brk => Q .next s'
          | .ret v => Q (.ret v) s') E' s₂ else Q .next s₂) E' s₁) :
    codeAny (model prog w) A (.whileLoop test body [] env) (fun r s' => match r with | .ok f => Q f s' | .error e => cameBackBy (model prog w) A env E e s') s := by
  refine codeAny_whileLoop (fun n s' => ∃ f₁ m₁ mu₁, Sub f f₁ ∧ Fm b f₁ env.locals m₁ mu₁ s' ∧ J n f₁ m₁ mu₁) ?_ n ⟨f, m, mu, Sub.refl _, F, h0⟩
  rintro n s' ⟨f₁, m₁, mu₁, hs, F₁, hJ⟩
  refine wpAny_mono (step _ n f₁ m₁ mu₁ s' hs F₁ hJ) (fun t s₂ h₂ => ?_) fun _ _ e => e
  cases t with
  | false =>
    simp only [Bool.false_eq_true, if_false] at h₂ ⊢
    exact wpAny_execs_nil h₂
  | true =>
    simp only [if_true] at h₂ ⊢
    refine wpAny_mono h₂ (fun fl s₃ h₃ => ?_) fun _ _ e => e
    have goOn : (∃ k f' m' mu', k < n ∧ Sub f₁ f' ∧ Fm b f' env.locals m' mu' s₃ ∧ J k f' m' mu') → ∃ k, k < n ∧ ∃ f₁ m₁ mu₁, Sub f f₁ ∧ Fm b f₁ env.locals m₁ mu₁ s₃ ∧ J k f₁ m₁ mu₁ :=
      fun ⟨k, f', m', mu', hk, hs', F', hJ'⟩ => ⟨k, hk, f', m', mu', hs.trans hs', F', hJ'⟩
    cases fl with
    | next => exact goOn h₃
    | cont => exact goOn h₃
    | brk => exact h₃
    | ret v => exact h₃
end
end Mine
end

section
namespace Mine

theorem empty_get (a : Addr) : ({} : Heap).get? a = none := by unfold Heap.get?; simp

section
variable {prog : Program} {w : World} {A : Around} {E : Value → Shared → Prop} {R : Result → Shared → Prop} {s : Shared}

theorem compLoop_any {elt target iter : Expr} {ifs : List Expr} {scope : Scope} {pos : Pos} {it acc : Value} {env : Env} (I : Nat → Shared → Prop)
    (turn : ∀ n s, I n s → wpAny (model prog w) A (pyNext it) (fun r s₁ => match r with
      | none => R (.ok .next) s₁
      | some v => wpAny (model prog w) A (letOwnedTupleGo target it v) (fun _ s₁ => wpAny (model prog w) A (assign target env v) (fun _ s₂ =>
          wpAny (model prog w) A (forIn ifs true fun c r => if r = true then do let ok ← isTrue c env (eval c env); pure (ForInStep.yield ok) else pure (ForInStep.yield r)) (fun ok s₃ =>
            if ok = true then wpAny (model prog w) A (eval elt env) (fun x s₄ =>
              wpAny (model prog w) A (call (.builtin "list.append") [acc, x]) (fun _ s₅ => ∃ m, m < n ∧ I m s₅) (notedBy (model prog w) A env fun e s' => R (.error e) s') s₄) (notedBy (model prog w) A env fun e s' => R (.error e) s') s₃
            else ∃ m, m < n ∧ I m s₃) (notedBy (model prog w) A env fun e s' => R (.error e) s') s₂) (notedBy (model prog w) A env fun e s' => R (.error e) s') s₁) (notedBy (model prog w) A env fun e s' => R (.error e) s') s₁)
        (notedBy (model prog w) A env fun e s' => R (.error e) s') s)
    (n : Nat) (h : I n s) :
    codeAny (model prog w) A (.compLoop (.ListComp elt [⟨target, iter, ifs, 0⟩] scope pos) 0 it acc env) R s := by
  refine codeAny_loop rfl I (fun n s hI => ?_) n h
  show wpAny _ A ((compTurn (.ListComp elt [⟨target, iter, ifs, 0⟩] scope pos) 0 it acc env).onRaise (fun x => do noteFrame x env; theTreesLotGoes x)) _ _ s
  refine wpAny_noted ?_
  rw [compTurn_list]
  refine wpAny_bind (wpAny_standAt (wpAny_bind (wpAny_mono (turn n s hI) (fun r s₁ h₁ => ?_) fun _ _ h' => h')))
  cases r with
  | none => exact wpAny_pure h₁
  | some v =>
    refine wpAny_bind (wpAny_mono h₁ (fun _ s₀ h₀' => ?_) fun _ _ h' => h')
    refine wpAny_bind (wpAny_mono h₀' (fun _ s₂ h₂ => ?_) fun _ _ h' => h')
    refine wpAny_bind (wpAny_mono h₂ (fun ok s₃ h₃ => ?_) fun _ _ h' => h')
    cases ok with
    | false =>
      simp only [Bool.false_eq_true, if_false] at h₃ ⊢
      exact wpAny_pure ⟨rfl, h₃⟩
    | true =>
      simp only [if_true] at h₃ ⊢
      exact wpAny_bind (wpAny_bind (wpAny_mono h₃ (fun x s₄ h₄ => wpAny_bind (wpAny_mono h₄ (fun _ s₅ h₅ => wpAny_pure (wpAny_pure ⟨rfl, h₅⟩)) fun _ _ h' => h')) fun _ _ h' => h'))
end

abbrev tests (ifs : List Expr) (env : Env) : Sem Bool := forIn ifs true fun c r => if r = true then do let ok ← isTrue c env (eval c env); pure (ForInStep.yield ok) else pure (ForInStep.yield r)

section
variable {prog : Program} {w : World} {A : Around} {E : Value → Shared → Prop} {b s : Shared} {f : Heap} {L : Addr} {m : Str → Option Value} {mu mu' : List (Addr × Obj)} {Q : Value → Shared → Prop}
/-- a list of mu's is turned -/
theorem Fm.seq {l : Addr} {vs ws : List Value} {n : Nat} {g : Array Value → Array Value} (F : Fm b f L m mu s) (U : Upd l (listOf vs.toArray n) (listOf ws.toArray (n + 1)) mu mu') (hg : g vs.toArray = ws.toArray) (hn : ws.length ≠ vs.length) :
    Fm b f L m mu' { s with heap := s.heap.update l (Obj.mapSeq g) } := by
  refine F.upd U (Heap.SameBut.update ..).extBut ?_ rfl rfl rfl
  have q := PySem.IsL.update (F.mus _ U.mem).1 g
  rw [hg, if_neg (by simpa using hn)] at q
  exact q
theorem lstAppend {l : Addr} {vs : List Value} {n : Nat} {x : Value} (F : Fm b f L m mu s) (U : Upd l (listOf vs.toArray n) (listOf (vs ++ [x]).toArray (n + 1)) mu mu') (hz : vs.length ≤ sizeLine)
    (h : ∀ s', Fm b f L m mu' s' → Q .none s') : wpAny (model prog w) A (call (.builtin "list.append") [.ref l, x]) Q E s :=
  call_meets PySem.F.slot_list_append (PySem.IsL.isList (F.mus _ U.mem).1).typeIs PySem.F.entry_list_append (PySem.F.args_list_append_2 _ _) (PySem.list_append l vs.toArray n x (by simpa using hz))
    ⟨(F.mus _ U.mem).1, h _ (F.seq U (by simp) (by simp))⟩
end

section
variable {prog : Program} {w : World} {A : Around} {E : Value → Shared → Prop} {s : Shared} {env : Env}

/-- targets that the kit's own tuples do not trouble -/
def TargetOk (target : Expr) (items : List Value) : Prop := (∀ it v, letOwnedTupleGo target it v = pure ()) ∨ ((∃ es k p, target = .Tuple es k p) ∧ ∀ v ∈ items, ∃ a, v = .ref a)

theorem comp_list {elt target iter : Expr} {ifs : List Expr} {scope : Scope} {cl : List (Str × Addr)} {pos : Pos} {RR : Value → Addr → Result → Shared → Prop} {ax : Addr} {items : List Value}
    (J : Nat → List Value → Heap → List (Addr × Obj) → Prop) (hh : A.handled = none) (b₂ : Shared) (hb : Sub b₂.heap s.heap) (hg : s.gens = b₂.gens) (ho : s.os = b₂.os)
    (hl : b₂.heap.IsList ax items.toArray) (hsz : items.length ≤ sizeLine) (mu₀ : List (Addr × Obj)) (hmu : ∀ p ∈ mu₀, s.heap.get? p.1 = some p.2 ∧ b₂.heap.get? p.1 = none) (hnd : (mu₀.map (·.1)).Nodup)
    (hcell : ∀ y ∈ scope.names, y.2 ≠ .cell) (hkind : scope.kind = .function) (ht : TargetOk target items)
    (h0 : J 0 [] {} mu₀)
    (step : ∀ E' L i v b₃ f m mu ys s, items[i]? = some v → Sub b₂.heap b₃.heap → b₃.gens = b₂.gens → b₃.os = b₂.os → Fm b₃ f L m mu s → J i ys f mu →
      wpAny (model prog w) A (assign target (compEnvC scope cl L env) v) (fun _ s₂ => wpAny (model prog w) A (tests ifs (compEnvC scope cl L env)) (fun ok s₃ =>
        if ok then wpAny (model prog w) A (eval elt (compEnvC scope cl L env)) (fun x s₄ => ∃ f' m' mu', Sub f f' ∧ Fm b₃ f' L m' mu' s₄ ∧ J (i + 1) (ys ++ [x]) f' mu') E' s₃
        else ∃ f' m' mu', Sub f f' ∧ Fm b₃ f' L m' mu' s₃ ∧ J (i + 1) ys f' mu') E' s₂) E' s)
    (done : ∀ r L m n ys f mu s', J items.length ys f mu → Fm b₂ f L m ((r, listOf ys.toArray n) :: mu) s' → s.heap.get? r = none → s.heap.get? L = none → ys.length ≤ items.length → RR (.ref r) L (.ok .next) s') :
    wpAny (model prog w) A (pyIter (.ref ax)) (fun it s₂ => wpAny (model prog w) A (newList []) (fun acc s₃ =>
      wpAny (model prog w) A (newFunctionEnv scope env.globals cl [] env.qual none .none (some env)) (fun cenv s₄ =>
        codeAny (model prog w) A (.compStart (.ListComp elt [⟨target, iter, ifs, 0⟩] scope pos) 0 it acc { cenv with scope := relabel scope env }) (RR acc cenv.locals) s₄) E s₃) E s₂) E s := by
  have hls : s.heap.IsList ax items.toArray := let ⟨o, ho, r⟩ := hl; ⟨o, hb _ _ ho, r⟩
  refine wpAny_pyIter_list hls (wpAny_newObj_type (hd := by size_fits) (wpAny_newFunctionEnv hcell (by intro y hy; simp at hy) (fun h₁ hns₁ hsb₁ => ?_) hkind))
  dsimp only at hns₁ hsb₁ ⊢
  generalize hH1 : s.heap.push { cls := .type "list_iterator", data := .fields #[.ref ax, .int 0 0] } = H1 at hns₁ hsb₁ ⊢
  have hD : H1.objs.size = s.heap.objs.size + 1 := by rw [← hH1, Heap.size_push]
  generalize hH2 : H1.push { cls := .type "list", dict := none, data := .seq ([] : List Value).toArray } = H2 at hns₁ hsb₁ ⊢
  have hC : H2.objs.size = s.heap.objs.size + 2 := by rw [← hH2, Heap.size_push, hD]
  have old : ∀ c o, s.heap.get? c = some o → h₁.get? c = some o := fun c o e =>
    hsb₁.extBut c o (Nat.ne_of_lt (by have := ltN (Heap.lt_size e); omega)) (Heap.get?_push_of_some _ (hH2 ▸ Heap.get?_push_of_some _ (hH1 ▸ Heap.get?_push_of_some _ e)))
  have fresh : ∀ a, s.heap.objs.size ≤ a → s.heap.get? a = none := fun a ha => by
    cases e : s.heap.get? a with
    | none => rfl
    | some o' => exact absurd (Heap.lt_size e) (Nat.not_lt.mpr ha)
  have freshb : ∀ a, s.heap.objs.size ≤ a → b₂.heap.get? a = none := fun a ha => by
    cases e : b₂.heap.get? a with
    | none => rfl
    | some o' => have := hb _ _ e; rw [fresh a ha] at this; cases this
  have hit : h₁.get? s.heap.objs.size = some { cls := .type "list_iterator", data := .fields #[.ref ax, .int 0 0] } :=
    hsb₁.extBut _ _ (Nat.ne_of_lt (by omega)) (Heap.get?_push_of_some _ (hH2 ▸ Heap.get?_push_of_some _ (hH1 ▸ Heap.get?_push_size _ rfl)))
  have hacc : h₁.get? H1.objs.size = some { cls := .type "list", dict := none, data := .seq ([] : List Value).toArray } :=
    hsb₁.extBut _ _ (Nat.ne_of_lt (by omega)) (Heap.get?_push_of_some _ (hH2 ▸ Heap.get?_push_size _ rfl))
  have F0 : Fm b₂ {} H2.objs.size (fun x => ([] : List (Str × Value)).reverse.lookup x) ((H1.objs.size, { cls := .type "list", dict := none, data := .seq ([] : List Value).toArray }) :: (s.heap.objs.size, { cls := .type "list_iterator", data := .fields #[.ref ax, .int 0 0] }) :: mu₀)
      { s with heap := h₁, toks := s.toks + ([] : List (Str × Value)).length } := by
    refine ⟨hg, ho, hns₁, hb.trans old, fun c o e => ?_, freshb _ (by omega), empty_get _, fun a o e => ?_, fun p hp => ?_, ?_⟩
    · rw [empty_get] at e; cases e
    · rw [empty_get] at e; cases e
    · rcases List.mem_cons.mp hp with rfl | hp
      · exact ⟨hacc, freshb _ (by omega), empty_get _, Nat.ne_of_lt (by show H1.objs.size < H2.objs.size; omega)⟩
      rcases List.mem_cons.mp hp with rfl | hp
      · exact ⟨hit, freshb _ (by omega), empty_get _, Nat.ne_of_lt (by show s.heap.objs.size < H2.objs.size; omega)⟩
      · have := ltN (Heap.lt_size (hmu p hp).1)
        exact ⟨old _ _ (hmu p hp).1, (hmu p hp).2, empty_get _, Nat.ne_of_lt (by omega)⟩
    · simp only [List.map_cons, List.nodup_cons, List.mem_cons, List.mem_map, not_or, not_exists, not_and]
      refine ⟨⟨Nat.ne_of_gt (by show s.heap.objs.size < H1.objs.size; omega), fun p hp e => ?_⟩, fun p hp e => ?_, hnd⟩
      · have := ltN (Heap.lt_size (hmu p hp).1); have e' : p.1 = H1.objs.size := e; rw [e'] at this; omega
      · have := ltN (Heap.lt_size (hmu p hp).1); have e' : p.1 = s.heap.objs.size := e; rw [e'] at this; omega
  have hrn := fresh H1.objs.size (by omega)
  have hLn := fresh H2.objs.size (by omega)
  generalize H1.objs.size = r at F0 hrn ⊢
  generalize H2.objs.size = L at F0 hLn ⊢
  generalize s.heap.objs.size = it at F0 ⊢
  generalize hs₄ : ({ s with heap := h₁, toks := s.toks + ([] : List (Str × Value)).length } : Shared) = s₄ at F0 ⊢
  have loop : codeAny (model prog w) A (.compLoop (.ListComp elt [⟨target, iter, ifs, 0⟩] scope pos) 0 (.ref it) (.ref r) (compEnvC scope cl L env)) (RR (.ref r) L) s₄ := by
    refine compLoop_any (fun n s' => ∃ i f₁ m₁ mu₁ q oi ys, n = items.length + 1 - i ∧ i ≤ items.length ∧ ys.length ≤ i ∧ oi.cls = .type "list_iterator" ∧ oi.data = .fields #[.ref ax, .int i 0] ∧
      Fm b₂ f₁ L m₁ ((r, listOf ys.toArray q) :: (it, oi) :: mu₁) s' ∧ J i ys f₁ mu₁) ?_ (items.length + 1)
      ⟨0, {}, _, mu₀, _, _, [], rfl, Nat.zero_le _, Nat.le_refl _, rfl, rfl, F0, h0⟩
    rintro n s' ⟨i, f₁, m₁, mu₁, q, oi, ys, rfl, hi, hys, hci, hdi, F₁, hJ⟩
    have hL : s'.heap.IsList ax items.toArray := let ⟨o, ho, r⟩ := hl; ⟨o, F₁.keep _ _ ho, r⟩
    have hit : s'.heap.IsListIter it ax i := ⟨oi, (F₁.mus _ (.tail _ (.head _))).1, hci, hdi⟩
    cases hv : items[i]? with
    | none =>
      have hlen : i = items.length := Nat.le_antisymm hi (by simpa using hv)
      refine wpAny_pyNext_list_end hh hit hL (by simpa using hv) fun h' he => ?_
      have F₂ : Fm b₂ f₁ L m₁ ((it, oi) :: (r, listOf ys.toArray q) :: mu₁) s' := ⟨F₁.gens, F₁.os, F₁.ns, F₁.keep, F₁.sub, F₁.offb, F₁.offf, F₁.new, fun p hp => F₁.mus p (by
        rcases List.mem_cons.mp hp with rfl | hp
        · exact .tail _ (.head _)
        rcases List.mem_cons.mp hp with rfl | hp
        · exact .head _
        · exact .tail _ (.tail _ hp)), by
          have := F₁.nd
          simp only [List.map_cons, List.nodup_cons, List.mem_cons, not_or] at this ⊢
          exact ⟨⟨fun e => this.1.1 e.symm, this.2.1⟩, this.1.2, this.2.2⟩⟩
      exact done r L m₁ q ys f₁ mu₁ _ (hlen ▸ hJ) (F₂.dropExt he rfl rfl rfl) hrn hLn (hlen ▸ hys)
    | some v =>
      have hlt : i < items.length := (List.getElem?_eq_some_iff.mp hv).1
      refine wpAny_pyNext_list_item hit hL (by simpa using hv) fun h' hit' hs' => ?_
      obtain ⟨oi', hoi', hci', hdi'⟩ := id hit'
      have F₂ : Fm b₂ f₁ L m₁ ((r, listOf ys.toArray q) :: (it, oi') :: mu₁) { s' with heap := h' } := F₁.upd (.tail .head) hs'.extBut hoi' rfl rfl rfl
      obtain ⟨h₁, hb₁, ha₁, _, F₃⟩ := F₂.hold
      obtain ⟨h₂, hb₂, ha₂, _, F₄⟩ := F₃.hold
      have back : ∀ {f' m' mu' s₃}, Fm { b₂ with heap := h₂ } f' L m' mu' s₃ → Fm b₂ f' L m' ((r, listOf ys.toArray q) :: (it, oi') :: mu') s₃ := fun F₅ =>
        (Fm.unhold (b := { b₂ with heap := h₁ }) F₅ hb₂ ha₂ (F₃.mus _ (.head _)).2.1).unhold hb₁ ha₁ (F₂.mus _ (.head _)).2.1
      have go : wpAny (model prog w) A (letOwnedTupleGo target (.ref it) v) (fun _ s₁ => s₁ = { s' with heap := h' }) (notedBy (model prog w) A (compEnvC scope cl L env) fun e s' => RR (.ref r) L (.error e) s') { s' with heap := h' } := by
        rcases ht with ht | ⟨⟨es, k, p, rfl⟩, ht⟩
        · rw [ht]; exact wpAny_pure rfl
        · obtain ⟨a, rfl⟩ := ht v (List.mem_of_getElem? hv)
          exact wpAny_letOwnedTupleGo_listiter hit' rfl
      refine wpAny_mono go (fun _ s₁ e₁ => ?_) fun _ _ e => e
      subst e₁
      refine wpAny_mono (step _ L i v { b₂ with heap := h₂ } f₁ m₁ mu₁ ys _ hv (hb₁.trans hb₂) rfl rfl F₄ hJ) (fun _ s₂ q₂ => ?_) fun _ _ e => e
      refine wpAny_mono q₂ (fun ok s₃ q₃ => ?_) fun _ _ e => e
      cases ok with
      | false =>
        simp only [Bool.false_eq_true, if_false] at q₃ ⊢
        obtain ⟨f', m', mu', hs, F₅, hJ'⟩ := q₃
        exact ⟨_, by omega, i + 1, f', m', mu', q, oi', ys, rfl, hlt, by omega, hci', hdi', back F₅, hJ'⟩
      | true =>
        simp only [if_true] at q₃ ⊢
        refine wpAny_mono q₃ (fun x s₄ q₄ => ?_) fun _ _ e => e
        obtain ⟨f', m', mu', hs, F₅, hJ'⟩ := q₄
        refine lstAppend (back F₅) .head (by omega) fun s₅ F₆ => ?_
        exact ⟨_, by omega, i + 1, f', m', mu', q + 1, oi', ys ++ [x], rfl, hlt, by simp; omega, hci', hdi', F₆, hJ'⟩
  have hit : s₄.heap.IsListIter it ax 0 := ⟨_, (F0.mus _ (.tail _ (.head _))).1, rfl, rfl⟩
  exact codeAny_compStart_list loop (wpAny_pyIter_listiter hit loop)
end
end Mine
end

section
namespace Mine

theorem fill : Mine.hd.heap_39 = Mine.hd.heap_39 ∧ PySem.Challenge.rw_ny0039_01 = PySem.Challenge.rw_ny0039_01 := by
  k_fill
  exact ⟨rfl, rfl⟩

/-- what stands of the top at a heap -/
structure Cx (w : World) (mean : ExcName → Option Value) (mg mb : Str → Option Value) (h : Heap) : Prop where
  X : (hd.heap_39 w.params).In h
  T : Top hd.view_39 (looseW hd.view_39 []) mean mg mb h
theorem Cx.mono {w : World} {mean : ExcName → Option Value} {mg mb : Str → Option Value} {h h' : Heap} (C : Cx w mean mg mb h) (k : Sub h h') : Cx w mean mg mb h' := ⟨C.X.keeps k, C.T.keeps k⟩

/-- room for n calls -/
structure Rm (A : Around) (n : Nat) : Prop where
  handled : A.handled = none
  depth : A.depth + n < recursionLimit
  units : A.units + 4 * n + 20 < cLine
theorem Rm.deeper {A : Around} {n : Nat} {env : Env} (R : Rm A (n + 1)) : Rm (A.deeper env) n := ⟨R.handled, by have := R.depth; show A.depth + 1 + n < _; omega, by have := R.units; show A.units + 3 + 4 * n + 20 < _; omega⟩
theorem Rm.less {A : Around} {n k : Nat} (R : Rm A n) (h : k ≤ n) : Rm A k := ⟨R.handled, by have := R.depth; omega, by have := R.units; omega⟩
theorem Rm.room {A : Around} {n : Nat} (R : Rm A n) : A.depth < recursionLimit := by have := R.depth; omega

section
variable {prog : Program} {w : World} {A : Around} {E : Value → Shared → Prop} {b s : Shared} {f : Heap} {m : Str → Option Value} {mu : List (Addr × Obj)} {env : Env}
  {mean : ExcName → Option Value} {mg mb : Str → Option Value} {K : Frag}

/-- a def of the text is entered -/
theorem enter {name qual : Str} {params : Arguments} {body : List Stmt} {scope : Scope} {dV kV doc pm cdv ct oc : Value} {an od : Option Addr} {osl : Array (Option Value)} {fn : Addr} {args : List Value} {kw : List (Str × Value)} {binds : List (Str × Value)} {Q : Value → Shared → Prop}
    (X : K.In s.heap) (hlim : s.heap.NoLimit) (hroom : A.depth < recursionLimit)
    (ho : K.lookup fn = some ⟨oc, od, .func (fnOf name qual params body scope dV kV doc pm an cdv ct), osl⟩) (hcd : codeIn K cdv qual = true)
    (hbind : BindsTo s (fnOf name qual params body scope dV kV doc pm an cdv ct) ⟨args, kw⟩ binds) (hloc : ∀ y ∈ binds, scope.names.lookup y.1 = some .local)
    (h : ∀ L s₁, Fm s {} L (fun x => binds.reverse.lookup x) [] s₁ →
      wpAny (model prog w) (A.deeper (envOf qual scope L fn cdv)) (execs body (envOf qual scope L fn cdv)) (fun fl s' => Q (match fl with | .ret v => v | _ => .none) s') (fun _ _ => False) s₁)
    (hco : scope.isCoroutine = false := by rfl) (hgen : scope.isGenerator = false := by rfl) (hk : scope.kind = .function := by rfl) (hcell : ∀ x ∈ scope.names, x.2 ≠ .cell := by decide) :
    wpAny (model prog w) A (call (.ref fn) args kw) Q E s := by
  refine wpAny_call (codeAny_call_def (fd := fnOf name qual params body scope dV kV doc pm an cdv ct) (body := body) (binds := binds) hroom (X _ _ ho) rfl hlim (codeRec_of X hcd) rfl hbind hcell hloc (fun h₁ hns hk₁ => ?_) hco hgen hk)
  have no : s.heap.get? s.heap.objs.size = none := by
    cases q : s.heap.get? s.heap.objs.size with
    | none => rfl
    | some o' => exact absurd (Heap.lt_size q) (Nat.lt_irrefl _)
  have F : Fm s {} s.heap.objs.size (fun x => binds.reverse.lookup x) [] { s with heap := h₁, toks := s.toks + binds.length } :=
    ⟨rfl, rfl, hns, hk₁, (fun c o e => by rw [empty_get] at e; cases e), no, empty_get _, (fun c o e => by rw [empty_get] at e; cases e), (fun _ hp => nomatch hp), .nil⟩
  exact wpAny_mono (h _ _ F) (fun fl s' hq => hq) fun _ _ x => x.elim

section names
variable {x : Str} {pos : Pos} {v : Value} {Q : Value → Shared → Prop} {M : Model}
theorem ldL (F : Fm b f env.locals m mu s) (hv : m x = some v) (h : Q v s) (hk : env.scope.kind = .function := by rfl) (hl : env.kindOf x = some .local := by rfl)
    (hd : (x == ("__debug__" : Str)) = false := by decide) : wpAny M A (eval (.Name x pos) env) Q E s := wpAny_Name (wpAny_loadName_local hk hl F.ns hv h) hd
theorem ldLn (F : Fm b f env.locals m mu s) (hv : m x = some v) (h : Q v s) (hk : env.scope.kind = .function := by rfl) (hl : env.kindOf x = some .local := by rfl) :
    wpAny M A (loadName env x) Q E s := wpAny_loadName_local hk hl F.ns hv h
theorem ldG (F : Fm b f env.locals m mu s) (C : Cx w mean mg mb b.heap) (e : nsIn (hd.heap_39 w.params) mainGlobals x = some (some v)) (h : Q v s)
    (hk : env.scope.kind = .function := by rfl) (hx : env.kindOf x = some .globalImplicit := by rfl) (hg : env.globals = mainGlobals := by rfl) (hd : (x == ("__debug__" : Str)) = false := by decide) :
    wpAny M A (eval (.Name x pos) env) Q E s :=
  Name_function_global hk hx (loadGlobal_global (env := env) (by rw [hg]; exact C.T.g.keeps F.keep) (mg_of C.X C.T.g e) h) hd
theorem ldB (F : Fm b f env.locals m mu s) (C : Cx w mean mg mb b.heap) (e : nsIn (hd.heap_39 w.params) mainGlobals x = some none) (hb : bootBuiltins x = some v) (h : Q v s)
    (hk : env.scope.kind = .function := by rfl) (hx : env.kindOf x = some .globalImplicit := by rfl) (hg : env.globals = mainGlobals := by rfl) (hgb : env.builtins = builtinsNs := by rfl) (hn : x ≠ "__name__" := by decide) (hd : (x == ("__debug__" : Str)) = false := by decide) :
    wpAny M A (eval (.Name x pos) env) Q E s :=
  Name_function_global hk hx (loadGlobal_builtin (env := env) (by rw [hg]; exact C.T.g.keeps F.keep) (mg_none_of C.X C.T.g e) (by rw [hgb]; exact C.T.b.keeps F.keep) (by rw [C.T.builtins x hn]; exact hb) h) hd
theorem stL {Q : Unit → Shared → Prop} (F : Fm b f env.locals m mu s) (h : ∀ s', Fm b f env.locals (fun y => if y = x then some v else m y) mu s' → Q () s')
    (hl : env.kindOf x = some .local := by rfl) (hp : (env.scope.kind == .class || (env.scope.kind == .module && env.locals != env.globals)) = false := by rfl) : wpAny M A (storeName env x v) Q E s :=
  wpAny_storeName_local hl F.ns (fun _ hn hs => h _ (F.store hn hs rfl rfl rfl)) hp
end names

section ops
variable {Q : Value → Shared → Prop} {L : Addr}
theorem kInt {M : Model} {i k pos} (F : Fm b f L m mu s) (h : ∀ t s', Fm b f L m mu s' → Q (.int i t) s') : wpAny M A (eval (.Constant (.int i) k pos) env) Q E s := wpAny_Constant_int (h _ _ (F.tok _))
theorem kStr {M : Model} {x : Str} {k pos} (F : Fm b f L m mu s) (h : ∀ t s', Fm b f L m mu s' → Q (.str x t) s') : wpAny M A (eval (.Constant (.str x) k pos) env) Q E s := wpAny_Constant_str (h _ _ (F.tok _))
variable {i j : Int} {t u : Tok} {x y : Str}
theorem oAdd (F : Fm b f L m mu s) (h : ∀ t s', Fm b f L m mu s' → Q (.int (i + j) t) s') : wpAny (model prog w) A (binaryOp .Add (.int i t) (.int j u)) Q E s := add_int (h _ _ (F.tok _))
theorem oSub (F : Fm b f L m mu s) (h : ∀ t s', Fm b f L m mu s' → Q (.int (i - j) t) s') : wpAny (model prog w) A (binaryOp .Sub (.int i t) (.int j u)) Q E s := sub_int (h _ _ (F.tok _))
theorem oMod (F : Fm b f L m mu s) (hj : 0 < j) (h : ∀ t s', Fm b f L m mu s' → Q (.int (i % j) t) s') : wpAny (model prog w) A (binaryOp .Mod (.int i t) (.int j u)) Q E s :=
  mod_int' (by omega) (by rw [Int.fmod_eq_emod_of_nonneg _ (by omega)]; exact h _ _ (F.tok _))
theorem oDiv (F : Fm b f L m mu s) (hj : 0 < j) (hj' : j < 1000) (h : ∀ t s', Fm b f L m mu s' → Q (.int (i / j) t) s') : wpAny (model prog w) A (binaryOp .FloorDiv (.int i t) (.int j u)) Q E s :=
  floordiv_int (by omega) (by rw [Int.fdiv_eq_ediv_of_nonneg _ (by omega)]; exact h _ _ (F.tok _)) (.inl (PyProof.noPylong_small (by omega)))
theorem oSubB {p q : Bool} (F : Fm b f L m mu s) (h : ∀ t s', Fm b f L m mu s' → Q (.int (b2i p - b2i q) t) s') : wpAny (model prog w) A (binaryOp .Sub (.bool p) (.bool q)) Q E s := sub_bool (h _ _ (F.tok _))
theorem oCat (F : Fm b f L m mu s) (hz : x.length + y.length ≤ 100000) (h : ∀ t s', Fm b f L m mu s' → Q (.str (x ++ y) t) s') : wpAny (model prog w) A (binaryOp .Add (.str x t) (.str y u)) Q E s :=
  PyProof.Rows.add_str (fun _ _ => h _ _ (F.tok _)) (hsz := by rw [sizeLine_eq]; omega)
theorem oICat (F : Fm b f L m mu s) (hz : x.length + y.length ≤ 100000) (h : ∀ t s', Fm b f L m mu s' → Q (.str (x ++ y) t) s') : wpAny (model prog w) A (inplaceOp .Add (.str x t) (.str y u)) Q E s :=
  PyProof.Rows.iadd_str (fun _ _ => h _ _ (F.tok _)) (hsz := by rw [sizeLine_eq]; omega)
end ops
end
end Mine
end

section
namespace Mine

theorem Fm.storeX {b s s' : Shared} {f : Heap} {L : Addr} {m m' : Str → Option Value} {mu : List (Addr × Obj)} (F : Fm b f L m mu s) {h' : Heap} (hn : h'.Ns L m') (hs : Heap.ExtBut L s.heap h') (hh : s'.heap = h') (hg : s'.gens = s.gens) (ho : s'.os = s.os) : Fm b f L m' mu s' := by
  have ne : ∀ {a o} {g : Heap}, g.get? L = none → g.get? a = some o → a ≠ L := fun hn ha e => by rw [e, hn] at ha; cases ha
  refine ⟨hg.trans F.gens, ho.trans F.os, ?_, ?_, ?_, F.offb, F.offf, F.new, ?_, F.nd⟩ <;> rw [hh]
  · exact hn
  · exact fun a o e => hs a o (ne F.offb e) (F.keep a o e)
  · exact fun a o e => hs a o (ne F.offf e) (F.sub a o e)
  · exact fun p hp => ⟨hs _ _ (F.mus p hp).2.2.2 (F.mus p hp).1, (F.mus p hp).2⟩

theorem Fm.fresh0 {b s : Shared} {f : Heap} {L : Addr} {m : Str → Option Value} {mu : List (Addr × Obj)} (F : Fm b f L m mu s) : Fresh b {} s :=
  ⟨F.gens, F.os, F.keep, (fun c o e => by rw [empty_get] at e; cases e), (fun c o e => by rw [empty_get] at e; cases e)⟩
theorem Fm.call {b s s' : Shared} {f f₂ : Heap} {L : Addr} {m : Str → Option Value} {mu : List (Addr × Obj)} (F : Fm b f L m mu s) (G : Fresh s f₂ s') : Fm b f L m mu s' := F.after G.keep G.gens G.os
/-- what a value is: an int, a text, None, or a pair of such -/
inductive Imm where
  | int (i : Int)
  | str (x : Str)
  | none
inductive Dt where
  | imm (i : Imm)
  | pair (a b : Imm)
def Imm.Is : Imm → Value → Prop
  | .int i, v => ∃ t, v = .int i t
  | .str x, v => ∃ t, v = .str x t
  | .none, v => v = .none
def VIs (h : Heap) (v : Value) : Dt → Prop
  | .imm i => i.Is v
  | .pair a b => ∃ c x y, v = .ref c ∧ h.IsTuple c #[x, y] ∧ a.Is x ∧ b.Is y
inductive All2 {α β : Type} (R : α → β → Prop) : List α → List β → Prop
  | nil : All2 R [] []
  | cons {a b as bs} : R a b → All2 R as bs → All2 R (a :: as) (b :: bs)
theorem isTuple_mono {g h : Heap} {a : Addr} {vs : Array Value} (x : g.IsTuple a vs) (k : Sub g h) : h.IsTuple a vs := let ⟨o, ho, r⟩ := x; ⟨o, k _ _ ho, r⟩
theorem isList_mono {g h : Heap} {a : Addr} {vs : Array Value} (x : g.IsList a vs) (k : Sub g h) : h.IsList a vs := let ⟨o, ho, r⟩ := x; ⟨o, k _ _ ho, r⟩
theorem VIs.mono {g h : Heap} {v : Value} {d : Dt} (x : VIs g v d) (k : Sub g h) : VIs h v d := by
  cases d with
  | imm i => exact x
  | pair a b =>
    obtain ⟨c, x, y, e, ht, r⟩ := x
    exact ⟨c, x, y, e, isTuple_mono ht k, r⟩
section
variable {α β : Type} {R S : α → β → Prop}
theorem All2.mono {as : List α} {bs : List β} (x : All2 R as bs) (k : ∀ a b, R a b → S a b) : All2 S as bs := by
  induction x with
  | nil => exact .nil
  | cons h _ ih => exact .cons (k _ _ h) ih
theorem All2.length {as : List α} {bs : List β} (x : All2 R as bs) : as.length = bs.length := by
  induction x with
  | nil => rfl
  | cons _ _ ih => simp [ih]
theorem All2.append {as as' : List α} {bs bs' : List β} (x : All2 R as bs) (y : All2 R as' bs') : All2 R (as ++ as') (bs ++ bs') := by
  induction x with
  | nil => exact y
  | cons h _ ih => exact .cons h ih
theorem All2.snoc {as : List α} {bs : List β} {a : α} {b : β} (x : All2 R as bs) (h : R a b) : All2 R (as ++ [a]) (bs ++ [b]) := x.append (.cons h .nil)
theorem All2.get {as : List α} {bs : List β} (x : All2 R as bs) {i : Nat} {b : β} (h : bs[i]? = some b) : ∃ a, as[i]? = some a ∧ R a b := by
  induction x generalizing i with
  | nil => simp at h
  | cons hr _ ih =>
    cases i with
    | zero => simp at h; subst h; exact ⟨_, rfl, hr⟩
    | succ i => simpa using ih (by simpa using h)
theorem All2.get' {as : List α} {bs : List β} (x : All2 R as bs) {i : Nat} {a : α} (h : as[i]? = some a) : ∃ b, bs[i]? = some b ∧ R a b := by
  induction x generalizing i with
  | nil => simp at h
  | cons hr _ ih =>
    cases i with
    | zero => simp at h; subst h; exact ⟨_, rfl, hr⟩
    | succ i => simpa using ih (by simpa using h)
theorem All2.take {as : List α} {bs : List β} (x : All2 R as bs) (n : Nat) : All2 R (as.take n) (bs.take n) := by
  induction x generalizing n with
  | nil => simp; exact .nil
  | cons h _ ih =>
    cases n with
    | zero => exact .nil
    | succ n => exact .cons h (ih n)
theorem All2.drop {as : List α} {bs : List β} (x : All2 R as bs) (n : Nat) : All2 R (as.drop n) (bs.drop n) := by
  induction x generalizing n with
  | nil => simp; exact .nil
  | cons h r ih =>
    cases n with
    | zero => exact .cons h r
    | succ n => exact ih n
end
/-- a list of such things at a -/
def LIs (h : Heap) (a : Addr) (ds : List Dt) : Prop := ∃ (vs : List Value) (n : Nat), h.get? a = some (listOf vs.toArray n) ∧ All2 (VIs h) vs ds
theorem isL {h : Heap} {a : Addr} {vs : List Value} {n : Nat} (x : h.get? a = some (listOf vs.toArray n)) : h.IsList a vs.toArray := ⟨_, x, rfl, n, rfl⟩
theorem LIs.mono {g h : Heap} {a : Addr} {ds : List Dt} (x : LIs g a ds) (k : Sub g h) : LIs h a ds := let ⟨vs, n, hl, r⟩ := x; ⟨vs, n, k _ _ hl, r.mono fun _ _ y => y.mono k⟩
abbrev sDt (x : Str) : Dt := .imm (.str x)
abbrev iDt (x : Int) : Dt := .imm (.int x)
/-- a list of texts -/
abbrev SIs (h : Heap) (a : Addr) (xs : List Str) : Prop := LIs h a (xs.map sDt)
abbrev IIs (h : Heap) (a : Addr) (xs : List Int) : Prop := LIs h a (xs.map iDt)

/-- bare things are what they are at any heap -/
theorem imms_any {g g' : Heap} {vs : List Value} {is : List Imm} (h : All2 (VIs g) vs (is.map .imm)) : All2 (VIs g') vs (is.map .imm) := by
  generalize hd : is.map Dt.imm = ds at h
  induction h generalizing is with
  | nil => exact .nil
  | cons hr _ ih =>
    cases is with
    | nil => cases hd
    | cons i is =>
      simp only [List.map_cons, List.cons.injEq] at hd
      obtain ⟨rfl, hd⟩ := hd
      exact .cons hr (ih hd)
theorem strs_any {g g' : Heap} {vs : List Value} {xs : List Str} (h : All2 (VIs g) vs (xs.map sDt)) : All2 (VIs g') vs (xs.map sDt) := by
  have e : xs.map sDt = (xs.map Imm.str).map Dt.imm := by simp [sDt]
  rw [e] at h ⊢
  exact imms_any h
theorem ints_any {g g' : Heap} {vs : List Value} {xs : List Int} (h : All2 (VIs g) vs (xs.map iDt)) : All2 (VIs g') vs (xs.map iDt) := by
  have e : xs.map iDt = (xs.map Imm.int).map Dt.imm := by simp [iDt]
  rw [e] at h ⊢
  exact imms_any h

section
variable {prog : Program} {w : World} {A : Around} {E : Value → Shared → Prop} {b s : Shared} {f : Heap} {m : Str → Option Value} {mu : List (Addr × Obj)} {env : Env} {L : Addr}
  {mean : ExcName → Option Value} {mg mb : Str → Option Value} {Q : Value → Shared → Prop}

theorem seqIdx {k : Int} {n : Nat} (h0 : 0 ≤ k) (h : k.toNat < n) : seqIndex? k n = some k.toNat := by
  have e : (if k < 0 then k + n else k) = k := if_neg (by omega)
  unfold seqIndex?
  simp only [e]
  rw [if_pos (by simp; omega)]
theorem oLen {l : Addr} {vs : List Value} (F : Fm b f L m mu s) (hl : s.heap.IsList l vs.toArray) (hz : vs.length ≤ 100000) (h : ∀ t s', Fm b f L m mu s' → Q (.int vs.length t) s') :
    wpAny (model prog w) A (call (.builtin "len") [.ref l]) Q E s :=
  len_list hl (by simp; omega) (by simpa using h _ _ (F.tok _))
theorem oItem {value slice : Expr} {l : Addr} {vs : List Value} {k : Int} {u : Tok} {v : Value} (hl : s.heap.IsList l vs.toArray) (h0 : 0 ≤ k) (h1 : k < 2 ^ 63) (hx : vs[k.toNat]? = some v) (h : Q v s)
    (hs : subscripted slice false (.ref l) (.int k u) = operate [.ref l, .int k u] (getItem (.ref l) (.int k u)) := by with_unfolding_all rfl) :
    wpAny (model prog w) A (subscriptTail value slice (.ref l) (.int k u)) Q E s :=
  tail_any hl.typeIs slot_list_getitem.lookup (wpAny_getItem_list hl h0 h1 (by simpa using hx) h) hs
theorem oItemT {value slice : Expr} {l : Addr} {vs : List Value} {k : Int} {u : Tok} {v : Value} (hl : s.heap.IsTuple l vs.toArray) (h0 : 0 ≤ k) (h1 : k < 2 ^ 63) (hx : vs[k.toNat]? = some v) (h : Q v s)
    (hs : subscripted slice false (.ref l) (.int k u) = operate [.ref l, .int k u] (getItem (.ref l) (.int k u)) := by with_unfolding_all rfl) :
    wpAny (model prog w) A (subscriptTail value slice (.ref l) (.int k u)) Q E s := by
  refine item_tupleT (j := k.toNat) (hl : IsTup s.heap l vs.toArray) (by omega) h1 ?_ (by simpa using hx) h hs
  have hq := (List.getElem?_eq_some_iff.mp hx).1
  exact seqIdx h0 (by simpa using hq)
theorem oItemS {value slice : Expr} {x : Str} {t : Tok} {k : Int} {u : Tok} {c : Nat} (F : Fm b f L m mu s) (h0 : 0 ≤ k) (h1 : k < 2 ^ 63) (hx : x.cps[k.toNat]? = some c) (h : ∀ t s', Fm b f L m mu s' → Q (.str ⟨#[c]⟩ t) s')
    (hs : subscripted slice false (.str x t) (.int k u) = operate [.str x t, .int k u] (getItem (.str x t) (.int k u)) := by with_unfolding_all rfl) :
    wpAny (model prog w) A (subscriptTail value slice (.str x t) (.int k u)) Q E s := by
  refine tail_any (typeIs_str s x t) PySem.F.slot_str_getitem.lookup (getItem_str ?_ ?_ (h _ _ (F.tok _))) hs
  · simp; omega
  · have hq := (Array.getElem?_eq_some_iff.mp hx).1
    rw [seqIdx h0 (by exact hq)]
    exact hx

theorem asPair {a a' : Str} {pa pb tp : Pos} {kk : Nat} {T : Addr} {x y : Value} {Q : Unit → Shared → Prop} (hh : A.handled = none) (F : Fm b f env.locals m mu s) (ht : s.heap.IsTuple T #[x, y])
    (h : ∀ s', Fm b f env.locals (fun z => if z = a' then some y else if z = a then some x else m z) mu s' → Q () s')
    (ha : env.kindOf a = some .local := by rfl) (hb : env.kindOf a' = some .local := by rfl) (hp : (env.scope.kind == .class || (env.scope.kind == .module && env.locals != env.globals)) = false := by rfl) :
    wpAny (model prog w) A (assign (.Tuple [.Name a pa, .Name a' pb] kk tp) env (.ref T)) Q E s :=
  kcp_assign hh ht ha hb hp F.ns fun _ _ hn hk => h _ (F.storeX hn (fun c o hc e => hk c o hc e) rfl rfl rfl)

theorem asSwap {a a' : Str} {T : Addr} {x y : Value} {Q : Unit → Shared → Prop} (hh : A.handled = none) (F : Fm b f env.locals m mu s) (ht : s.heap.IsTuple T #[x, y])
    (h : ∀ s', Fm b f env.locals (fun z => if z = a then some x else if z = a' then some y else m z) mu s' → Q () s')
    (ha : env.kindOf a = some .local := by rfl) (hb : env.kindOf a' = some .local := by rfl) (hp : (env.scope.kind == .class || (env.scope.kind == .module && env.locals != env.globals)) = false := by rfl) :
    wpAny (model prog w) A (unpackItems (.ref T) [a, a'].length none) (fun items s₂ => wpAny (model prog w) A (assignInOrder ([a, a'].reverse.map fun n => bindName env n) items.reverse) Q E s₂) E s := by
  refine wpAny_unpackItems_tuple (items := #[x, y]) hh ht fun h' he => ?_
  have F' : Fm b f env.locals m mu { s with heap := h' } := F.after (fun c o e => he c o (Nat.ne_of_lt (Heap.lt_size e)) e) rfl rfl
  refine assignInOrder_cons (wpAny_bindName (stL F' (fun s₂ F₂ => ?_) hb hp))
  refine assignInOrder_cons (wpAny_bindName (stL F₂ (fun s₃ F₃ => ?_) ha hp))
  exact assignInOrder_nil (h _ F₃)
/-- a new tuple, frozen -/
theorem newTup {vs : List Value} (F : Fm b f L m mu s) (hz : vs.length ≤ 100000) (h : ∀ a f' s', Sub f f' → Fm b f' L m mu s' → f'.IsTuple a vs.toArray → Q (.ref a) s') : wpAny (model prog w) A (newTuple vs) Q E s := by
  refine wpAny_newObj_type ?_ (by show vs.toArray.size ≤ sizeLine; rw [List.size_toArray, sizeLine_eq]; omega)
  obtain ⟨f', hs, ha, F'⟩ := (F.push { cls := .type "tuple", data := .seq vs.toArray }).freeze
  exact h _ f' _ hs F' ⟨_, ha, rfl, _, rfl⟩
/-- a new list, not frozen -/
theorem newLst {vs : List Value} (F : Fm b f L m mu s) (hz : vs.length ≤ 100000) (h : ∀ a s', Fm b f L m ((a, listOf vs.toArray 0) :: mu) s' → Q (.ref a) s') : wpAny (model prog w) A (newList vs) Q E s := by
  refine wpAny_newObj_type ?_ (by show vs.toArray.size ≤ sizeLine; rw [List.size_toArray, sizeLine_eq]; omega)
  exact h _ _ (F.push { cls := .type "list", data := .seq vs.toArray })
theorem eTuple {M : Model} {elts : List Expr} {k : Nat} {pos : Pos}
    (h : wpAny M A (spliced (backTo pos (starEach elts env))) (fun vs s₁ => wpAny M A (newTuple vs) Q E s₁) E s) : wpAny M A (eval (.Tuple elts k pos) env) Q E s := Tuple_ h
theorem eList {M : Model} {elts : List Expr} {pos : Pos}
    (h : wpAny M A (spliced (backTo pos (starEach elts env))) (fun vs s₁ => wpAny M A (newList vs) Q E s₁) E s) : wpAny M A (eval (.List elts pos) env) Q E s := List_ h
/-- a call of a def of the text -/
theorem cDef {fn : Addr} {pos : Pos} {e : Expr} {rest : List Expr} {o : Obj} {fd : FuncData} (C : Cx w mean mg mb b.heap) (ho : (hd.heap_39 w.params).lookup fn = some o) (hd' : o.data = .func fd)
    (h : wpAny (model prog w) A (spliced (backTo pos (starEach (e :: rest) env))) (fun vs s₁ => Sub b.heap s₁.heap ∧ wpAny (model prog w) A (call (.ref fn) vs) Q E s₁) E s)
    (he : starEach (e :: rest) env = (false, eval e env) :: starEach rest env := by rfl) :
    wpAny (model prog w) A (callWith pos (.ref fn) [] (backTo pos (starEach (e :: rest) env)) []) Q E s :=
  callWith_def (o := o) (fd := fd) hd' (wpAny_mono h (fun _ _ h₁ => ⟨h₁.1 _ _ (C.X _ _ ho), h₁.2⟩) fun _ _ x => x) he
end
end Mine
end

section
namespace Mine

theorem pickUpto (vs : List Value) (k : Nat) : slicePick vs.toArray none (some k) none = (vs.take k).toArray := by
  by_cases h : k ≤ vs.length
  · rw [slicePick_upto _ _ (by simpa using h)]
  · have e : sliceBounds none (some (k : Int)) none vs.toArray.size = sliceBounds none (some (vs.length : Int)) none vs.toArray.size := by
      simp only [sliceBounds, Option.getD_none, List.size_toArray]
      have h1 : ¬ ((k : Int) < 0) := by omega
      have h2 : ¬ ((vs.length : Int) < 0) := by omega
      have h3 : min (k : Int) (vs.length : Int) = vs.length := by omega
      simp only [h1, h2, if_false, show (1 : Int) > 0 by decide, if_true, h3]
      congr 2
      omega
    have q := slicePick_upto vs.toArray vs.length (by simp)
    unfold slicePick at q ⊢
    rw [e, q]
    simp [List.take_of_length_le (Nat.le_of_lt (Nat.lt_of_not_le h))]
theorem pickRun (vs : List Value) (a b : Nat) (hb : b ≤ vs.length) (hab : a ≤ b) : slicePick vs.toArray (some a) (some b) none = ((vs.drop a).take (b - a)).toArray := slicePick_run _ a b (by simpa using hb) hab

theorem fitsIdx {k : Nat} (h : k ≤ 1000000) : Builtin.List.listFitsIndex (k : Int) = true := by
  unfold Builtin.List.listFitsIndex
  rw [Bool.and_eq_true]
  exact ⟨decide_eq_true (by omega), decide_eq_true (by omega)⟩

section
variable {prog : Program} {w : World} {A : Around} {E : Value → Shared → Prop} {b s : Shared} {f : Heap} {m : Str → Option Value} {mu mu' : List (Addr × Obj)} {env : Env} {L : Addr}
  {mean : ExcName → Option Value} {mg mb : Str → Option Value} {Q : Value → Shared → Prop}

/-- a list's method -/
theorem gmL {name : Str} {id : String} {pl : Sem Bool} {l : Addr} {its : Array Value} {n : Nat} {Q : Value × List Value → Shared → Prop} (hl : s.heap.get? l = some (listOf its n)) (slot : Slot "list" name id) (hty : typeOf (.builtin id) = pure (.type "method_descriptor"))
    (h : Q (.builtin id, [.ref l]) s) : wpAny (model prog w) A (getMethod (.ref l) name pl) Q E s :=
  getMethod_builtin ⟨_, hl, rfl⟩ PySem.F.plainAttrs_list slot hty (fun a e => by cases e; exact ⟨_, hl, rfl⟩) h
theorem lstInsert {l : Addr} {vs : List Value} {n : Nat} {x : Value} {k : Nat} {t : Tok} (F : Fm b f L m mu s) (hk : k ≤ vs.length) (U : Upd l (listOf vs.toArray n) (listOf (vs.take k ++ x :: vs.drop k).toArray (n + 1)) mu mu') (hz : vs.length ≤ 100000)
    (h : ∀ s', Fm b f L m mu' s' → Q .none s') : wpAny (model prog w) A (call (.builtin "list.insert") [.ref l, .int k t, x]) Q E s := by
  have hf := fitsIdx (k := k) (by omega)
  have hz' : vs.toArray.size ≤ sizeLine := by rw [sizeLine_eq, List.size_toArray]; omega
  generalize hki : (k : Int) = ki at hf ⊢
  refine call_meets PySem.F.slot_list_insert (isL (F.mus _ U.mem).1).typeIs PySem.F.entry_list_insert (PySem.F.args_list_insert_3 _ _ _)
    (PySem.AutoSeq1.list_insert_list_int_val_1 l vs.toArray n ki t x (by rw [hf]; exact Bool.false_ne_true) hz') ⟨(F.mus _ U.mem).1, h _ (F.seq U ?_ ?_)⟩
  all_goals subst hki
  · have e : (if (k : Int) < 0 then ((k : Int) + (vs.toArray.size : Int)).toNat else min (k : Int).toNat vs.toArray.size) = k := by
      rw [if_neg (by omega)]
      simp
      omega
    show (vs.toArray.extract 0 (if (k : Int) < 0 then ((k : Int) + (vs.toArray.size : Int)).toNat else min (k : Int).toNat vs.toArray.size)).push x ++ vs.toArray.extract (if (k : Int) < 0 then ((k : Int) + (vs.toArray.size : Int)).toNat else min (k : Int).toNat vs.toArray.size) = _
    rw [e, kl_ins_eq]
  · rw [List.length_append, List.length_cons, List.length_take, List.length_drop]
    omega
theorem lstPop {l : Addr} {vs : List Value} {n : Nat} {x : Value} {pos : Pos} (F : Fm b f L m mu s) (U : Upd l (listOf (vs ++ [x]).toArray n) (listOf vs.toArray (n + 1)) mu mu') (hz : vs.length ≤ 100000)
    (h : ∀ s', Fm b f L m mu' s' → Q x s') : wpAny (model prog w) A (callWith pos (.builtin "list.pop") [.ref l] [] []) Q E s := by
  refine PySem.P.pop_list (items := (vs ++ [x]).toArray) (n := n) (F.mus _ U.mem).1 (by simp) (h _ (F.seq U ?_ (by simp))) (by rw [sizeLine_eq]; simp; omega)
  apply Array.toList_inj.mp
  simp [Array.eraseIdxIfInBounds]
  rw [List.eraseIdx_append_of_length_le (Nat.le_refl _)]
  simp
/-- a new list out of two -/
theorem oAddL {l l' : Addr} {vs ws : List Value} {n n' : Nat} (F : Fm b f L m mu s) (hl : s.heap.get? l = some (listOf vs.toArray n)) (hl' : s.heap.get? l' = some (listOf ws.toArray n')) (hz : vs.length + ws.length ≤ 100000)
    (h : ∀ a s', Fm b f L m ((a, listOf (vs ++ ws).toArray 0) :: mu) s' → Q (.ref a) s') : wpAny (model prog w) A (binaryOp .Add (.ref l) (.ref l')) Q E s := by
  refine PySem.P.add_list (n := n) (n2 := n') hl hl' ?_ (by rw [sizeLine_eq]; simp; omega)
  have F' := F.push (listOf (vs ++ ws).toArray 0)
  have e : vs.toArray ++ ws.toArray = (vs ++ ws).toArray := by simp
  rw [e]
  exact h _ _ F'
theorem iaddL {l l' : Addr} {vs ws : List Value} {n n' : Nat} (hl : s.heap.get? l = some (listOf vs.toArray n)) (hl' : s.heap.get? l' = some (listOf ws.toArray n')) (hz : vs.length + ws.length ≤ 100000)
    (h : Q (.ref l) { s with heap := s.heap.update l (Obj.mapSeq fun x => x ++ ws.toArray) }) : wpAny (model prog w) A (inplaceOp .Add (.ref l) (.ref l')) Q E s := by
  unfold inplaceOp
  refine wpAny_holding ?_
  have ha : s.TypeIs (.ref l) "list" := (isL hl).typeIs
  have hb : s.TypeIs (.ref l') "list" := (isL hl').typeIs
  have hlk : typeLookup (.type "list") (dunderI "add") = pure (some (.builtin "list.__iadd__")) := PySem.F.slot_list_iadd.lookup
  have hq : isSeqSlot (some (.builtin "list.__iadd__")) = true := by decide +kernel
  have hfi : fillsInplaceSlot (.type "list") "add" (Operator.Add == .Add) = pure false := by
    unfold fillsInplaceSlot
    show (typeLookup (.type "list") (dunderI "add") >>= fun fi => pure (fi.isSome && !isSeqSlot fi)) = pure false
    rw [hlk]
    show pure (Option.isSome (some (Value.builtin "list.__iadd__")) && !isSeqSlot (some (.builtin "list.__iadd__"))) = (pure false : Sem Bool)
    rw [hq]; rfl
  have hsi : seqSlot? (.type "list") (dunderI "add") = pure (some (.builtin "list.__iadd__")) := PySem.seqSlot_of hlk hq
  refine wpAny_bind (wpAny_typeOf ha (wpAny_bind (wpAny_of_eq hfi ?_)))
  show wpAny _ A (if false = true then _ else _) Q E s
  rw [if_neg Bool.false_ne_true]
  refine wpAny_bind (wpAny_binaryOp1_none (nm := "add") ha hb noFill_list_add ?_)
  refine wpAny_bind (wpAny_of_eq hsi ?_)
  refine wpAny_bind (wpAny_rule ?_)
  refine call_meets PySem.F.slot_list_iadd ha PySem.F.entry_list_iadd (PySem.F.args_list_iadd_2 _ _) (PySem.AutoSeq1.list___iadd___list_list_0 l vs.toArray n l' ws.toArray n' ?_ ?_ ?_) ⟨hl, hl', h⟩
  · simp [Builtin.List.listTooLong, sizeLine_eq]; omega
  · rw [sizeLine_eq]; simp; omega
  · rw [sizeLine_eq]; simp; omega
/-- a slice of a list: new -/
theorem eSlice {value : Expr} {lower upper : Option Expr} {p pos : Pos}
    (h : wpAny (model prog w) A (eval value env) (fun o s₁ => wpAny (model prog w) A (evalPart lower env) (fun vl s₂ => wpAny (model prog w) A (evalPart upper env) (fun vu s₃ => ∃ (l : Addr) (vs ws : List Value) (lo hi : Option Int), o = .ref l ∧ s₃.heap.IsList l vs.toArray ∧ IsPart vl lo ∧ IsPart vu hi ∧ vs.length ≤ 100000 ∧
      slicePick vs.toArray lo hi none = ws.toArray ∧ ∃ b f L m mu, Fm b f L m mu s₃ ∧ ∀ a s', Fm b f L m ((a, listOf ws.toArray 0) :: mu) s' → Q (.ref a) s') E s₂) E s₁) E s) :
    wpAny (model prog w) A (eval (.Subscript value (.Slice lower upper none p) pos) env) Q E s := by
  refine Subscript_ (wpAny_mono h (fun o s₁ h₁ => ?_) fun _ _ x => x)
  refine wpAny_Slice (wpAny_mono h₁ (fun vl s₂ h₂ => wpAny_mono h₂ (fun vu s₃ h₃ => ?_) fun _ _ x => x) fun _ _ x => x)
  obtain ⟨l, vs, ws, lo, hi, rfl, hl, pl, pu, hz, hp, b, f, L, m, mu, F, hQ⟩ := h₃
  rw [evalPart_none]
  refine wpAny_pure ?_
  have F' := (F.push { cls := .type "slice", data := .fields #[vl, vu, .none] }).drop
  refine tail_any (Heap.IsList.typeIs (s := { s₃ with heap := s₃.heap.push { cls := .type "slice", data := .fields #[vl, vu, .none] } }) (hl.push _)) slot_list_getitem.lookup (ops := [.ref s₃.heap.objs.size, .ref l])
    (wpAny_getItem_list_slice (hl.push _) (Heap.IsSliceOf.new ..) pl pu .none (by simp) ?_ (by rw [sizeLine_eq]; simp; omega)) rfl
  rw [hp]
  exact hQ _ _ (F'.push (listOf ws.toArray 0))
/-- a text in a list of texts -/
theorem oInS {l : Addr} {vs : List Value} {xs : List Str} {n : Nat} {x : Str} {t : Tok} {g : Heap} (hl : s.heap.get? l = some (listOf vs.toArray n)) (hv : All2 (VIs g) vs (xs.map sDt)) (h : Q (.bool (decide (x ∈ xs))) s) :
    wpAny (model prog w) A (compareOp .In (.str x t) (.ref l)) Q E s := by
  refine PySem.SeqRoads2.in_list (items := vs.toArray) (n := n) (fun v => match v with | .str y _ => y.cps.toList == x.cps.toList | _ => false) ?_ hl ?_
  · intro y hy
    obtain ⟨i, hi, rfl⟩ := Array.mem_iff_getElem.mp hy
    obtain ⟨d, hd, hr⟩ := hv.get' (i := i) (a := vs.toArray[i]) (by simp at hi ⊢)
    simp only [List.getElem?_map, Option.map_eq_some_iff] at hd
    obtain ⟨z, _, rfl⟩ := hd
    obtain ⟨u, e⟩ := hr
    rw [e]
    exact PySem.SeqRoads2.EqGives.str z x u t
  · have e : (vs.toArray.any fun v => match v with | .str y _ => y.cps.toList == x.cps.toList | _ => false) = decide (x ∈ xs) := by
      rw [List.any_toArray]
      clear hl h
      generalize hds : xs.map sDt = ds at hv
      induction hv generalizing xs with
      | nil =>
        cases xs with
        | nil => rfl
        | cons _ _ => cases hds
      | @cons v d vs ds hr _ ih =>
        cases xs with
        | nil => cases hds
        | cons y ys =>
          simp only [List.map_cons, List.cons.injEq] at hds
          obtain ⟨rfl, hds⟩ := hds
          obtain ⟨u, rfl⟩ := hr
          rw [List.any_cons, ih hds]
          have q : (y.cps.toList == x.cps.toList) = decide (x = y) := by
            rw [Bool.eq_iff_iff]
            simp only [beq_iff_eq, decide_eq_true_eq]
            constructor
            · intro e
              obtain ⟨c⟩ := x; obtain ⟨d⟩ := y
              congr 1
              exact (Array.toList_inj.mp e).symm
            · rintro rfl; rfl
          show (y.cps.toList == x.cps.toList || decide (x ∈ ys)) = _
          rw [q, Bool.eq_iff_iff]
          simp
    rw [e]; exact h
/-- the truth of a list -/
theorem truthyL {l : Addr} {vs : List Value} {Q : Bool → Shared → Prop} (F : Fm b f L m mu s) (hl : s.heap.IsList l vs.toArray) (hz : vs.length ≤ 100000) (h : ∀ s', Fm b f L m mu s' → Q (decide (vs ≠ [])) s') :
    wpAny (model prog w) A (truthy (.ref l)) Q E s := by
  refine wpAny_truthy_list hl (by simp; omega) ?_
  have e : (!vs.toArray.isEmpty) = decide (vs ≠ []) := by cases vs <;> simp
  rw [e]
  exact h _ (F.tok _)
end
end Mine
end

section
namespace Mine

section
variable {prog : Program} {w : World} {A : Around} {E : Value → Shared → Prop} {b s : Shared} {f : Heap} {m : Str → Option Value} {mu mu' : List (Addr × Obj)} {env : Env} {L : Addr}
  {mean : ExcName → Option Value} {mg mb : Str → Option Value} {Q : Value → Shared → Prop} {K : Frag}

/-- a comprehension, behind its source -/
def CompGo (M : Model) (A : Around) (E : Value → Shared → Prop) (env : Env) (scope : Scope) (cl : List (Str × Addr)) (e : Expr) (use : Option (Value → Sem Unit)) (Q : Value → Shared → Prop) (x : Value) (s₁ : Shared) : Prop :=
  wpAny M A (pyIter x) (fun it s₂ => wpAny M A (newList []) (fun acc s₃ => wpAny M A (newFunctionEnv scope env.globals cl [] env.qual none .none (some env)) (fun cenv s₄ =>
    codeAny M A (.compStart e 0 it acc { cenv with scope := relabel scope env }) (compPost M A E use Q acc cenv.locals) s₄) E s₃) E s₂) E s₁

theorem eComp {M : Model} {elt target iter : Expr} {ifs : List Expr} {scope : Scope} {cl : List (Str × Addr)} {pos : Pos} (hclos : closureFor scope env = pure cl)
    (h : wpAny M A (eval iter env) (CompGo M A E env scope cl (.ListComp elt [⟨target, iter, ifs, 0⟩] scope pos) none Q) E s)
    (hkind : scope.kind = .function := by rfl) (hnames : ∀ y ∈ scope.names, y.2 = .local → scope.names.lookup y.1 = some .local := by decide) (hs : ∀ x, foldedSetIterable iter env x = pure x := by intro _; rfl) :
    wpAny M A (eval (.ListComp elt [⟨target, iter, ifs, 0⟩] scope pos) env) Q E s := by
  rw [eval_ListComp]
  exact wpAny_comprehension_free (use := none) rfl hs hclos hkind hnames h

/-- a comprehension that turns nothing of what stood before: what it gives is new -/
theorem compGo {elt target iter : Expr} {ifs : List Expr} {scope : Scope} {cl : List (Str × Addr)} {pos : Pos} {ax : Addr} {items : List Value}
    (J : Nat → List Value → Heap → Prop) (hh : A.handled = none) (hl : s.heap.IsList ax items.toArray) (hsz : items.length ≤ 100000) (ht : TargetOk target items)
    (hcell : ∀ y ∈ scope.names, y.2 ≠ .cell) (hkind : scope.kind = .function) (h0 : J 0 [] {})
    (step : ∀ E' L i v b₃ f m ys s₁, items[i]? = some v → Sub s.heap b₃.heap → b₃.gens = s.gens → b₃.os = s.os → Fm b₃ f L m [] s₁ → J i ys f →
      wpAny (model prog w) A (assign target (compEnvC scope cl L env) v) (fun _ s₂ => wpAny (model prog w) A (tests ifs (compEnvC scope cl L env)) (fun ok s₃ =>
        if ok then wpAny (model prog w) A (eval elt (compEnvC scope cl L env)) (fun x s₄ => ∃ f' m', Sub f f' ∧ Fm b₃ f' L m' [] s₄ ∧ J (i + 1) (ys ++ [x]) f') E' s₃
        else ∃ f' m', Sub f f' ∧ Fm b₃ f' L m' [] s₃ ∧ J (i + 1) ys f') E' s₂) E' s₁)
    (done : ∀ r ys n f f' s', J items.length ys f → Sub f f' → f'.get? r = some (listOf ys.toArray n) → Fresh s f' s' → ys.length ≤ items.length → Q (.ref r) s') :
    CompGo (model prog w) A E env scope cl (.ListComp elt [⟨target, iter, ifs, 0⟩] scope pos) none Q (.ref ax) s := by
  refine comp_list (RR := fun acc C => compPost (model prog w) A E none Q acc C) (fun i ys f mu => mu = [] ∧ J i ys f) hh s (Sub.refl _) rfl rfl hl (by rw [sizeLine_eq]; omega) [] (fun _ hp => nomatch hp) .nil hcell hkind ht ⟨rfl, h0⟩ ?_ ?_
  · rintro E' L i v b₃ f m mu ys s₁ hv hb hg ho F ⟨rfl, hJ⟩
    refine wpAny_mono (step E' L i v b₃ f m ys s₁ hv hb hg ho F hJ) (fun _ s₂ h₂ => wpAny_mono h₂ (fun ok s₃ h₃ => ?_) fun _ _ e => e) fun _ _ e => e
    cases ok with
    | false =>
      simp only [Bool.false_eq_true, if_false] at h₃ ⊢
      obtain ⟨f', m', hs, F', hJ'⟩ := h₃
      exact ⟨f', m', [], hs, F', rfl, hJ'⟩
    | true =>
      simp only [if_true] at h₃ ⊢
      refine wpAny_mono h₃ (fun x s₄ h₄ => ?_) fun _ _ e => e
      obtain ⟨f', m', hs, F', hJ'⟩ := h₄
      exact ⟨f', m', [], hs, F', rfl, hJ'⟩
  · rintro r L m n ys f mu s' ⟨rfl, hJ⟩ F hr hL hlen
    obtain ⟨f', hs, hr', F'⟩ := F.freeze
    refine ⟨m, F'.ns, fun h' hs' => done r ys n f f' _ hJ hs hr' ?_ hlen⟩
    have ne : ∀ {a o} {g : Heap}, g.get? L = none → g.get? a = some o → a ≠ L := fun hn ha e => by rw [e, hn] at ha; cases ha
    exact ⟨F'.gens, F'.os, fun a o e => (hs'.2 a (ne hL e)).trans (F'.keep a o e), fun a o e => (hs'.2 a (ne F'.offf e)).trans (F'.sub a o e), F'.new⟩

theorem emp_sub (g : Heap) : Sub ({} : Heap) g := fun c o e => by rw [empty_get] at e; cases e

theorem cellsAre_map {cm : Str → Option Value} {cs : List (Str × Addr)} {cells : List (Addr × Obj)} (Y : CellsAre cm cs cells) : cells.map (·.1) = cs.map (·.2) := by
  induction Y with
  | nil => rfl
  | cons _ _ ih => simp [ih]
/-- a def with cells is entered -/
theorem enterC {name qual : Str} {params : Arguments} {body : List Stmt} {scope : Scope} {dV kV doc pm cdv ct oc : Value} {an od : Option Addr} {osl : Array (Option Value)} {fn : Addr} {args : List Value} {kw : List (Str × Value)} {binds : List (Str × Value)}
    (X : K.In s.heap) (hlim : s.heap.NoLimit) (hroom : A.depth < recursionLimit)
    (ho : K.lookup fn = some ⟨oc, od, .func (fnOf name qual params body scope dV kV doc pm an cdv ct), osl⟩) (hcd : codeIn K cdv qual = true)
    (hbind : BindsTo s (fnOf name qual params body scope dV kV doc pm an cdv ct) ⟨args, kw⟩ binds)
    (hkind : (binds.all fun y => scope.names.lookup y.1 == some .local || scope.names.lookup y.1 == some .cell) = true) (hnd : ((cellsFrom 0 scope.names []).map (·.1)).Nodup)
    (h : ∀ L s₁ cells, Fm s {} L (bindL (envOfC qual scope L fn cdv).kindOf binds fun _ => none) cells s₁ → CellsAre (bindC (envOfC qual scope L fn cdv).kindOf binds fun _ => none) (cellsFrom (L + 1) scope.names []) cells →
      wpAny (model prog w) (A.deeper (envOfC qual scope L fn cdv)) (execs body (envOfC qual scope L fn cdv)) (fun fl s' => Q (match fl with | .ret v => v | _ => .none) s') (fun _ _ => False) s₁)
    (hco : scope.isCoroutine = false := by rfl) (hgen : scope.isGenerator = false := by rfl) (hk : scope.kind = .function := by rfl) :
    wpAny (model prog w) A (call (.ref fn) args kw) Q E s := by
  refine wpAny_call (codeAny_call_function (fd := fnOf name qual params body scope dV kV doc pm an cdv ct) hroom (X _ _ ho) rfl hco hgen rfl (codeRec_of X hcd) (hbind _ _ _ _ ?_))
  refine wpAny_newFunctionEnv_cells hk (kindsX hkind _) fun env' he s' x => ?_
  subst he
  refine ⟨hlim.keeps x.toInCall.keep, codeAny_func ?_⟩
  obtain ⟨h₁, tk, rfl, _⟩ := x.done
  have hk₁ := x.toInCall.keep
  obtain ⟨cells, NC, Y⟩ := Cl.news (h₀ := s.heap) (Nat.le_refl _) fun n c hm => ⟨x.cell n c (lookup_of_mem_nodup (cellsFrom_names scope.names 0 (s.heap.objs.size + 1) [] [] rfl ▸ hnd) hm), x.above n c hm⟩
  have no : s.heap.get? s.heap.objs.size = none := by
    cases q : s.heap.get? s.heap.objs.size with
    | none => rfl
    | some o' => exact absurd (Heap.lt_size q) (Nat.lt_irrefl _)
  refine wpAny_mono (h s.heap.objs.size _ cells ⟨rfl, rfl, x.toInCall.ns, hk₁, emp_sub _, no, empty_get _, (fun c o e => by rw [empty_get] at e; cases e), fun p hp => ⟨(NC p hp).1, ?_, empty_get _, (NC p hp).2.1⟩, ?_⟩ Y) (fun fl s' hl => hl) fun _ _ y => y.elim
  · exact (NC p hp).2.2
  · rw [cellsAre_map Y]
    exact List.pairwise_map.mpr x.apart
/-- one list more is laid behind a list of mu's -/
theorem lstIAdd {l l' : Addr} {vs ws : List Value} {n n' : Nat} {mu' : Nat → List (Addr × Obj)} (F : Fm b f L m mu s) (U : ∀ k, Upd l (listOf vs.toArray n) (listOf (vs ++ ws).toArray k) mu (mu' k)) (hl' : s.heap.get? l' = some (listOf ws.toArray n')) (hz : vs.length + ws.length ≤ 100000)
    (h : ∀ k s', Fm b f L m (mu' k) s' → Q (.ref l) s') : wpAny (model prog w) A (inplaceOp .Add (.ref l) (.ref l')) Q E s := by
  refine iaddL (F.mus _ (U 0).mem).1 hl' hz ?_
  have q := PySem.IsL.update (F.mus _ (U 0).mem).1 (fun x => x ++ ws.toArray)
  have e : vs.toArray ++ ws.toArray = (vs ++ ws).toArray := by simp
  rw [e] at q
  exact h _ _ (F.upd (U _) (Heap.SameBut.update ..).extBut q rfl rfl rfl)
theorem str_eq_iff {x y : Str} : (x.cps.toList == y.cps.toList) = true ↔ x = y := by
  simp only [beq_iff_eq]
  constructor
  · intro e
    obtain ⟨c⟩ := x; obtain ⟨d⟩ := y
    congr 1
    exact Array.toList_inj.mp e
  · rintro rfl; rfl
/-- where a text is first met in a list of texts -/
theorem oIndexS {l : Addr} {vs : List Value} {xs : List Str} {n : Nat} {x : Str} {t : Tok} {g : Heap} {j : Nat} (F : Fm b f L m mu s) (hl : s.heap.get? l = some (listOf vs.toArray n)) (hv : All2 (VIs g) vs (xs.map sDt)) (hj : xs[j]? = some x)
    (hno : ∀ i, i < j → xs[i]? ≠ some x) (hz : vs.length ≤ 100000) (h : ∀ t s', Fm b f L m mu s' → Q (.int j t) s') : wpAny (model prog w) A (call (.builtin "list.index") [.ref l, .str x t]) Q E s := by
  have hlen : vs.length = xs.length := by simpa using hv.length
  have hjl : j < vs.toArray.size := by have := (List.getElem?_eq_some_iff.mp hj).1; simp; omega
  have at' : ∀ i (hi : i < vs.toArray.size), ∃ z u, vs.toArray[i] = .str z u ∧ xs[i]? = some z := fun i hi => by
    obtain ⟨d, hd, hr⟩ := hv.get' (i := i) (a := vs.toArray[i]) (by simp at hi ⊢)
    simp only [List.getElem?_map, Option.map_eq_some_iff] at hd
    obtain ⟨z, hz, rfl⟩ := hd
    obtain ⟨u, e⟩ := hr
    exact ⟨z, u, e, hz⟩
  refine call_meets PySem.F.slot_list_index (isL hl).typeIs PySem.F.entry_list_index (PySem.F.args_list_index_2 _ _) (PySem.MeetsSeq.list_index l vs.toArray n _ (fun v => match v with | .str y _ => y.cps.toList == x.cps.toList | _ => false) ?_ j hjl (by simp at hjl; omega) ?_ ?_) ⟨hl, h _ _ (F.tok _)⟩
  · intro y hy
    obtain ⟨i, hi, rfl⟩ := Array.mem_iff_getElem.mp hy
    obtain ⟨z, u, e, _⟩ := at' i hi
    rw [e]
    exact PySem.SeqRoads2.EqGives.str z x u t
  · obtain ⟨z, u, e, hz'⟩ := at' j hjl
    rw [hj] at hz'
    cases hz'
    rw [e]
    exact str_eq_iff.mpr rfl
  · intro i hi hij
    obtain ⟨z, u, e, hz'⟩ := at' i hi
    rw [e]
    cases q : (z.cps.toList == x.cps.toList) with
    | false => exact q
    | true =>
      have := str_eq_iff.mp q
      subst this
      exact absurd hz' (hno i hij)
/-- a cell is read -/
theorem ldC {M : Model} {x : Str} {pos : Pos} {v : Value} {c : Addr} {o : Obj} (F : Fm b f L m mu s) (hm : (c, o) ∈ mu) (ho : o.data = .cell (some v)) (h : Q v s) (hc : env.cells.lookup x = some c := by rfl)
    (hk : env.scope.kind = .function := by rfl) (hl : env.kindOf x = some .cell := by rfl) (hd : (x == ("__debug__" : Str)) = false := by decide) : wpAny M A (eval (.Name x pos) env) Q E s :=
  wpAny_Name (wpAny_loadName_cell hk hl hc ⟨o, (F.mus _ hm).1, ho⟩ h) hd
theorem ldCn {M : Model} {x : Str} {v : Value} {c : Addr} {o : Obj} (F : Fm b f L m mu s) (hm : (c, o) ∈ mu) (ho : o.data = .cell (some v)) (h : Q v s) (hc : env.cells.lookup x = some c := by rfl)
    (hk : env.scope.kind = .function := by rfl) (hl : env.kindOf x = some .cell := by rfl) : wpAny M A (loadName env x) Q E s :=
  wpAny_loadName_cell hk hl hc ⟨o, (F.mus _ hm).1, ho⟩ h
/-- a cell that stands still is read -/
theorem ldCb {M : Model} {x : Str} {pos : Pos} {v : Value} {c : Addr} (hm : s.heap.IsCell c (some v)) (h : Q v s) (hc : env.cells.lookup x = some c := by rfl)
    (hk : env.scope.kind = .function := by rfl) (hl : env.kindOf x = some .cell := by rfl) (hd : (x == ("__debug__" : Str)) = false := by decide) : wpAny M A (eval (.Name x pos) env) Q E s :=
  wpAny_Name (wpAny_loadName_cell hk hl hc hm h) hd
/-- a cell is stored into -/
theorem stC {M : Model} {x : Str} {v : Value} {c : Addr} {o : Obj} {v₀ : Option Value} {mu' : Obj → List (Addr × Obj)} {Q : Unit → Shared → Prop} (F : Fm b f L m mu s) (ho : o.data = .cell v₀) (U : ∀ o', Upd c o o' mu (mu' o'))
    (h : ∀ o' s', o'.data = .cell (some v) → Fm b f L m (mu' o') s' → Q () s') (hc : env.cells.lookup x = some c := by rfl) (hk : env.scope.kind = .function := by rfl) (hl : env.kindOf x = some .cell := by rfl) :
    wpAny M A (storeName env x v) Q E s := by
  refine wpAny_storeName_cell hk hl hc ⟨o, (F.mus _ (U o).mem).1, ho⟩ fun h' hx hs => ?_
  obtain ⟨o', ho', hd'⟩ := hx
  exact h o' _ hd' (F.upd (U o') hs.extBut ho' rfl rfl rfl)
end
end Mine
end

section
open PySem.Builtin PySem.Builtin.Str
namespace Mine

theorem strValues_all (g : Heap) (l : List (Str × Tok)) : All2 (VIs g) (strValues l) ((l.map (·.1)).map sDt) := by
  induction l with
  | nil => exact .nil
  | cons p l ih => exact .cons ⟨_, rfl⟩ ih
theorem all_strValues {g : Heap} {vs : List Value} {xs : List Str} (h : All2 (VIs g) vs (xs.map sDt)) : ∃ l : List (Str × Tok), vs = strValues l ∧ l.map (·.1) = xs := by
  generalize hd : xs.map sDt = ds at h
  induction h generalizing xs with
  | nil =>
    cases xs with
    | nil => exact ⟨[], rfl, rfl⟩
    | cons _ _ => cases hd
  | cons hr _ ih =>
    cases xs with
    | nil => cases hd
    | cons x xs =>
      simp only [List.map_cons, List.cons.injEq] at hd
      obtain ⟨rfl, hd⟩ := hd
      obtain ⟨t, rfl⟩ := hr
      obtain ⟨l, e1, e2⟩ := ih hd
      exact ⟨(x, t) :: l, by rw [e1]; rfl, by rw [List.map_cons, e2]⟩

section
variable {prog : Program} {w : World} {A : Around} {E : Value → Shared → Prop} {b s : Shared} {f : Heap} {m : Str → Option Value} {mu mu' : List (Addr × Obj)} {env : Env} {L : Addr}
  {mean : ExcName → Option Value} {mg mb : Str → Option Value} {Q : Value → Shared → Prop} {K : Frag} {x y : Str} {t u : Tok}

theorem Fm.pushTok (F : Fm b f L m mu s) (o : Obj) (k : Nat) (hf : o.isFreed = false := by rfl) : Fm b f L m ((s.heap.objs.size, o) :: mu) { s with heap := s.heap.push o, toks := k } := (F.push o hf).tok k

theorem oSplit (F : Fm b f L m mu s) (hy : (y.length == 0) = false) (hz : x.length ≤ 100000) (h : ∀ a l s', l.map (·.1) = Txt.split x y → Fm b f L m ((a, listOf (strValues l).toArray 0) :: mu) s' → Q (.ref a) s') :
    wpAny (model prog w) A (call (.builtin "str.split") [.str x t, .str y u]) Q E s := by
  have hsz : x.length ≤ sizeLine := by rw [sizeLine_eq]; omega
  have hsz2 : (partsBetween x (occurrences x y 0 x.length (x.length + 1)) y.length).length ≤ sizeLine := by
    have e1 := StrLaws.occ_length_le x y 0 x.length (x.length + 1)
    rw [length_partsBetween, sizeLine_eq]; omega
  cases h1 : (decide (x.length < y.length) || decide (Builtin.Str.strKind x < Builtin.Str.strKind y))
  · cases hf : (occurrences x y 0 x.length (x.length + 1)).isEmpty
    · refine call_meets PySem.F.slot_str_split (typeIs_str _ _ _) PySem.F.entry_str_split (PySem.F.args_str_split_2 _ _) (meets_str_split_sep x y t u h1 hy hf hsz hsz2) ?_
      show wants Q E _ { s with toks := _, heap := s.heap.push { cls := .type "list", data := .seq (strsFrom s.toks (partsBetween x (occurrences x y 0 x.length (x.length + 1)) y.length)).toArray } }
      rw [strsFrom_eq]
      exact h _ (numbered s.toks _) _ ((numbered_texts _ _).trans ((if_neg (ne_true_of_eq_false h1)).trans (if_neg (ne_true_of_eq_false hf))).symm) (F.pushTok _ _)
    · exact call_meets PySem.F.slot_str_split (typeIs_str _ _ _) PySem.F.entry_str_split (PySem.F.args_str_split_2 _ _) (meets_str_split_not_found x y t u h1 hy hf)
        (h _ [(x, t)] _ ((if_neg (ne_true_of_eq_false h1)).trans (if_pos hf)).symm (F.push _))
  · exact call_meets PySem.F.slot_str_split (typeIs_str _ _ _) PySem.F.entry_str_split (PySem.F.args_str_split_2 _ _) (meets_str_split_cannot_occur x y t u h1)
      (h _ [(x, t)] _ (if_pos h1).symm (F.push _))
theorem oJoin {l : Addr} {vs : List Value} {xs : List Str} {g : Heap} (F : Fm b f L m mu s) (hl : s.heap.IsList l vs.toArray) (hv : All2 (VIs g) vs (xs.map sDt)) (hok : JoinOk x xs = true) (h : ∀ t s', Fm b f L m mu s' → Q (.str (Txt.join x xs) t) s') :
    wpAny (model prog w) A (call (.builtin "str.join") [.str x t, .ref l]) Q E s := by
  obtain ⟨ls, rfl, e⟩ := all_strValues hv
  exact PySem.SC.join hl e hok fun _ _ => h _ _ (F.tok _)
theorem oNegItem {value slice : Expr} {l : Addr} {vs : List Value} {v : Value} (hl : s.heap.IsList l (vs ++ [v]).toArray) (h : Q v s)
    (hs : subscripted slice false (.ref l) (.int (-1) u) = operate [.ref l, .int (-1) u] (getItem (.ref l) (.int (-1) u)) := by with_unfolding_all rfl) :
    wpAny (model prog w) A (subscriptTail value slice (.ref l) (.int (-1) u)) Q E s := by
  refine tail_any hl.typeIs slot_list_getitem.lookup (wpAny_getItem_list_neg hl (by decide) (by simp; omega) (by decide) ?_ h) hs
  have e : (-1 + ((vs ++ [v]).toArray.size : Int)).toNat = vs.length := by simp; omega
  rw [e]
  simp
theorem oTruthS {Q : Bool → Shared → Prop} (F : Fm b f L m mu s) (hz : x.length ≤ 100000) (h : ∀ s', Fm b f L m mu s' → Q (decide (x.length ≠ 0)) s') : wpAny (model prog w) A (truthy (.str x t)) Q E s := by
  refine PySem.P.truthy_str (by omega) ?_
  have e : ((x.length : Int) != 0) = decide (x.length ≠ 0) := by
    rw [Bool.eq_iff_iff]
    simp
  rw [e]
  exact h _ (F.tok _)
theorem oLenT {l : Addr} {vs : List Value} (F : Fm b f L m mu s) (hl : s.heap.IsTuple l vs.toArray) (hz : vs.length ≤ 100000) (h : ∀ t s', Fm b f L m mu s' → Q (.int vs.length t) s') :
    wpAny (model prog w) A (call (.builtin "len") [.ref l]) Q E s :=
  len_tuple (hl : IsTup s.heap l vs.toArray) (by simp; omega) (by simpa using h _ _ (F.tok _))
/-- p[:k] of a text -/
theorem eSliceS {value e : Expr} {p pos : Pos}
    (h : wpAny (model prog w) A (eval value env) (fun o s₁ => wpAny (model prog w) A (eval e env) (fun vu s₂ => ∃ (x : Str) (t : Tok) (j : Int) (u : Tok), o = .str x t ∧ vu = .int j u ∧ x.length ≤ 100000 ∧
      ∃ b f L m mu, Fm b f L m mu s₂ ∧ ∀ t' s', Fm b f L m mu s' → Q (.str (Txt.slice x none (some j)) t') s') E s₁) E s) :
    wpAny (model prog w) A (eval (.Subscript value (.Slice none (some e) none p) pos) env) Q E s := by
  refine Subscript_ (wpAny_mono h (fun o s₁ h₁ => ?_) fun _ _ x => x)
  refine wpAny_Slice ?_
  rw [evalPart_none, evalPart_some]
  refine wpAny_pure (wpAny_mono h₁ (fun vu s₂ h₂ => wpAny_pure ?_) fun _ _ x => x)
  obtain ⟨x, t, j, u, rfl, rfl, hz, b, f, L, m, mu, F, hQ⟩ := h₂
  have F' := (F.push { cls := .type "slice", data := .fields #[.none, .int j u, .none] }).drop
  refine tail_any (typeIs_str _ x t) PySem.F.slot_str_getitem.lookup (ops := [.ref s₂.heap.objs.size, .str x t]) ?_ rfl
  exact wpAny_getItem_str_slice (l := none) (u := some (j, u)) (st := none) ⟨_, Heap.get?_push_size _ rfl, rfl, rfl⟩ rfl
    (post_val_or_str ⟨Nat.le_trans (Txt.slice_le x _ _) (by rw [sizeLine_eq]; omega), fun t' k => hQ t' _ (F'.tok k)⟩)
end
end Mine
end

section
namespace Mine
section
variable {prog : Program} {w : World} {A : Around} {E : Value → Shared → Prop} {s : Shared} {mean : ExcName → Option Value} {mg mb : Str → Option Value} {Q : Value → Shared → Prop}

def coll (x y : Str) : Int := b2i (decide (y.cps.toList < x.cps.toList)) - b2i (decide (x.cps.toList < y.cps.toList))

theorem strcoll_spec {x y : Str} {t u : Tok} (C : Cx w mean mg mb s.heap) (R : Rm A 1) (h : ∀ t s', Fresh s {} s' → Q (.int (coll x y) t) s') :
    wpAny (model prog w) A (call (.ref 90) [.str x t, .str y u]) Q E s := by
  refine enter C.X C.T.nolimit R.room (by k_is) (by k_is) (BindsTo.of_eq rfl) (locs rfl) ?_
  intro L s₁ F
  refine wpAny_execs_cons (wpAny_Return_some (wpAny_BinOp (wpAny_Compare1 ?_)))
  refine ldL F rfl (ldL F rfl (PySem.P.gt_str (wpAny_Compare1 ?_)))
  refine ldL F rfl (ldL F rfl (PyProof.Rows.lt_str (oSubB F ?_)))
  intro t s' F'
  exact h _ _ F'.fresh

theorem text_spec {x : Int} {t : Tok} (hx : x < 1000) (C : Cx w mean mg mb s.heap) (R : Rm A 1) (h : ∀ (y : Str) t s', y.length ≤ x.toNat → Fresh s {} s' → Q (.str y t) s') :
    wpAny (model prog w) A (call (.ref 97) [.int x t]) Q E s := by
  refine enter C.X C.T.nolimit R.room (by k_is) (by k_is) (BindsTo.of_eq rfl) (locs rfl) ?_
  intro L s₁ F
  refine wpAny_execs_cons (wpAny_Assign_Name (kStr F fun t₁ s₂ F₂ => stL F₂ fun s₃ F₃ => ?_))
  refine wpAny_execs_cons (wpAny_While ?_)
  refine loop_while (fun n f m mu => f = {} ∧ mu = [] ∧ ∃ (z : Int) (tz : Tok) (y : Str) (ty : Tok), m "x" = some (.int z tz) ∧ m "text" = some (.str y ty) ∧ n = z.toNat ∧ y.length + z.toNat ≤ x.toNat) x.toNat F₃ ⟨rfl, rfl, x, t, PySem.Str.ofString "", t₁, rfl, rfl, rfl, by simp [show (PySem.Str.ofString "").length = 0 from rfl]⟩ ?_
  rintro E' n f₁ m₁ mu₁ s₄ hs F₄ ⟨rfl, rfl, z, tz, y, ty, ex, ey, rfl, hb⟩
  refine wpAny_isTrue_Compare1 (ldL F₄ ex (kInt F₄ fun t₅ s₅ F₅ => gt_int (wpAny_truthy_bool ?_)))
  by_cases hz : 0 < z
  · rw [if_pos (by simpa using hz)]
    refine wpAny_execs_cons (wpAny_AugAssign_Name (ldLn F₅ ey (Subscript_ (kStr F₅ fun t₆ s₆ F₆ => ?_))))
    refine wpAny_BinOp (wpAny_BinOp (ldL F₆ ex (kInt F₆ fun t₇ s₇ F₇ => oSub F₇ fun t₈ s₈ F₈ => kInt F₈ fun t₉ s₉ F₉ => oMod F₉ (by decide) fun t₁₀ s₁₀ F₁₀ => ?_)))
    have hm := Int.emod_nonneg (z - 1) (b := 5) (by decide)
    have hm' := Int.emod_lt_of_pos (z - 1) (b := 5) (by decide)
    obtain ⟨c, hc⟩ : ∃ c, (PySem.Str.ofString "-./0a").cps[((z - 1) % 5).toNat]? = some c := by
      refine ⟨_, Array.getElem?_eq_getElem ?_⟩
      show _ < 5
      omega
    refine oItemS F₁₀ hm (by omega) hc fun t₁₁ s₁₁ F₁₁ => ?_
    have hl : (PySem.Str.mk #[c]).length = 1 := rfl
    refine oICat F₁₁ (by omega) fun t₁₂ s₁₂ F₁₂ => stL F₁₂ fun s₁₃ F₁₃ => ?_
    refine wpAny_execs_cons (wpAny_Assign_Name (wpAny_BinOp (wpAny_BinOp (ldL F₁₃ ex (kInt F₁₃ fun t₇ s₇ F₇ => oSub F₇ fun t₈ s₈ F₈ => kInt F₈ fun t₉ s₉ F₉ => oDiv F₉ (by decide) (by decide) fun t₁₀ s₁₀ F₁₀ => stL F₁₀ fun s₁₄ F₁₄ => ?_)))))
    refine wpAny_execs_nil ⟨_, _, _, _, ?_, Sub.refl _, F₁₄, rfl, rfl, (z - 1) / 5, _, y ++ PySem.Str.mk #[c], _, rfl, rfl, rfl, ?_⟩
    · have := Int.ediv_le_self 5 (a := z - 1) (by omega)
      omega
    · rw [PySem.Str.length_append, hl]
      have := Int.ediv_le_self 5 (a := z - 1) (by omega)
      omega
  · rw [if_neg (by simpa using hz)]
    refine wpAny_execs_cons (wpAny_Return_some (ldL F₅ ey ?_))
    exact h _ _ _ (by omega) F₅.fresh
end
end Mine
end

section
namespace Mine

/-- the order of texts -/
abbrev SLt (x y : Str) : Prop := x.cps.toList < y.cps.toList
theorem slt_asymm {x y : Str} (h : SLt x y) : ¬ SLt y x := List.lt_asymm h
theorem coll_neg {x y : Str} : coll x y < 0 ↔ SLt x y := by
  unfold coll
  by_cases h : SLt x y
  · have h' := slt_asymm h
    simp [h, h', b2i]
  · by_cases h' : SLt y x <;> simp [h, h', b2i]
def Sorted (xs : List Str) : Prop := xs.Pairwise fun a b => ¬ SLt b a
theorem Sorted.at {xs : List Str} (h : Sorted xs) (i j : Nat) (a b : Str) (hij : i ≤ j) (ha : xs[i]? = some a) (hb : xs[j]? = some b) : ¬ SLt b a := by
  rcases Nat.eq_or_lt_of_le hij with rfl | hlt
  · rw [ha] at hb; cases hb
    exact List.lt_irrefl _
  · obtain ⟨hi, rfl⟩ := List.getElem?_eq_some_iff.mp ha
    obtain ⟨hj, rfl⟩ := List.getElem?_eq_some_iff.mp hb
    exact List.pairwise_iff_getElem.mp h i j hi hj hlt
/-- the place of x in the row -/
def PlaceOf (xs : List Str) (x : Str) (k : Nat) : Prop := k ≤ xs.length ∧ (∀ (i : Nat) (y : Str), i < k → xs[i]? = some y → SLt y x) ∧ (∀ (i : Nat) (y : Str), k ≤ i → xs[i]? = some y → ¬ SLt y x)
theorem slt_of_le_lt {x y z : Str} (h : ¬ SLt y x) (h' : SLt y z) : SLt x z := by
  rcases Classical.em (SLt x y) with q | q
  · exact List.lt_trans q h'
  · have : x.cps.toList = y.cps.toList := List.le_antisymm (List.not_lt.mp h) (List.not_lt.mp q)
    show x.cps.toList < _
    rw [this]; exact h'

section
variable {prog : Program} {w : World} {A : Around} {E : Value → Shared → Prop} {s : Shared} {mean : ExcName → Option Value} {mg mb : Str → Option Value} {Q : Value → Shared → Prop}

theorem place_spec {row : Addr} {xs : List Str} {x : Str} {t : Tok} (hl : SIs s.heap row xs) (hz : xs.length ≤ 1000) (hso : Sorted xs) (C : Cx w mean mg mb s.heap) (R : Rm A 2)
    (h : ∀ (k : Nat) t s', PlaceOf xs x k → Fresh s {} s' → Q (.int k t) s') :
    wpAny (model prog w) A (call (.ref 118) [.ref row, .str x t]) Q E s := by
  obtain ⟨vs, nv, hl, hvs⟩ := hl
  replace hl := isL hl
  have hlen : vs.length = xs.length := by simpa using hvs.length
  refine enter (binds := [("row", .ref row), ("text", .str x t)]) C.X C.T.nolimit R.room (by k_is) (by k_is) (BindsTo.of_eq rfl) (locs rfl) ?_
  intro L s₁ F
  refine wpAny_execs_cons <| Assign_Tuple_swapped (names := ["low", "high"]) <| Tuple_ <| args_cons <| kInt F fun t₁ s₂ F₂ => args_cons <| Call_ <| ldB F₂ C (by k_is) bootS_len <| callWith_builtin1 <| args_cons <| ldL F₂ rfl <| args_nil <|
    oLen F₂ (isList_mono hl F₂.keep) (by omega) fun t₃ s₃ F₃ => args_nil <| newTup F₃ (by simp) fun a f₄ s₄ hs F₄ hT => asSwap R.handled F₄ (isTuple_mono hT F₄.sub) fun s₅ F₅ => ?_
  refine wpAny_execs_cons (wpAny_While ?_)
  refine loop_while (fun n f m mu => mu = [] ∧ ∃ (lo hi : Nat) (tl th : Tok), m "low" = some (.int lo tl) ∧ m "high" = some (.int hi th) ∧ m "row" = some (.ref row) ∧ m "text" = some (.str x t) ∧ n = hi - lo ∧ lo ≤ hi ∧ hi ≤ xs.length ∧
      (∀ (i : Nat) (y : Str), i < lo → xs[i]? = some y → SLt y x) ∧ (∀ (i : Nat) (y : Str), hi ≤ i → xs[i]? = some y → ¬ SLt y x)) xs.length F₅
    ⟨rfl, 0, xs.length, t₁, t₃, rfl, by rw [← hlen]; rfl, rfl, rfl, rfl, Nat.zero_le _, Nat.le_refl _, fun i y hi => absurd hi (Nat.not_lt_zero _), fun i y hi e => absurd (List.getElem?_eq_some_iff.mp e).1 (by omega)⟩ ?_
  rintro E' n f₁ m₁ mu₁ s₆ hs₆ F₆ ⟨rfl, lo, hi, tl, th, el, eh, er, et, rfl, hle, hhi, hlo1, hhi1⟩
  refine wpAny_isTrue_Compare1 (ldL F₆ el (ldL F₆ eh (lt_int (wpAny_truthy_bool ?_))))
  by_cases hz : (lo : Int) < hi
  · rw [if_pos (by simpa using hz)]
    have hz' : lo < hi := by omega
    refine wpAny_execs_cons (wpAny_Assign_Name (wpAny_BinOp (wpAny_BinOp (ldL F₆ el (ldL F₆ eh (oAdd F₆ fun t₇ s₇ F₇ => kInt F₇ fun t₈ s₈ F₈ => oDiv F₈ (by decide) (by decide) fun t₉ s₉ F₉ => stL F₉ fun s₁₀ F₁₀ => ?_))))))
    have hm : ((lo : Int) + hi) / 2 = ((lo + hi) / 2 : Nat) := by omega
    generalize hmid : (lo + hi) / 2 = mid at hm
    rw [hm] at F₁₀
    have hmx : mid < xs.length := by omega
    obtain ⟨v, hv, tv, rfl⟩ := hvs.get (i := mid) (b := sDt (xs[mid])) (by simp [hmx])
    refine wpAny_execs_cons <| wpAny_If <| wpAny_isTrue_Compare1 <| Call_ <| ldG F₁₀ C (by k_is) <| cDef C (by k_is) rfl <| args_cons <| Subscript_ <| ldL F₁₀ er <| ldL F₁₀ rfl <| oItem (isList_mono hl F₁₀.keep) (by omega) (by omega) hv <|
      args_cons <| ldL F₁₀ et <| args_nil ⟨F₁₀.keep, ?_⟩
    refine strcoll_spec (C.mono F₁₀.keep) R.deeper fun t₁₁ s₁₁ G₁₁ => ?_
    have F₁₁ := F₁₀.call G₁₁
    refine kInt F₁₁ fun t₁₂ s₁₂ F₁₂ => lt_int (wpAny_truthy_bool ?_)
    have hget : xs[mid]? = some xs[mid] := List.getElem?_eq_getElem hmx
    by_cases hc : coll xs[mid] x < 0
    · rw [if_pos (by simpa using hc)]
      refine wpAny_execs_cons (wpAny_Assign_Name (wpAny_BinOp (ldL F₁₂ rfl (kInt F₁₂ fun t₁₃ s₁₃ F₁₃ => oAdd F₁₃ fun t₁₄ s₁₄ F₁₄ => stL F₁₄ fun s₁₅ F₁₅ => ?_))))
      refine wpAny_execs_nil (wpAny_execs_nil ⟨hi - (mid + 1), _, _, _, by omega, Sub.refl _, F₁₅, rfl, mid + 1, hi, _, _, rfl, eh, er, et, rfl, by omega, hhi, fun i y hi' e => ?_, hhi1⟩)
      have hme := coll_neg.mp hc
      exact slt_of_le_lt (hso.at i mid y xs[mid] (by omega) e hget) hme
    · rw [if_neg (by simpa using hc)]
      refine wpAny_execs_cons (wpAny_Assign_Name (ldL F₁₂ rfl (stL F₁₂ fun s₁₅ F₁₅ => ?_)))
      refine wpAny_execs_nil (wpAny_execs_nil ⟨mid - lo, _, _, _, by omega, Sub.refl _, F₁₅, rfl, lo, mid, _, _, el, rfl, er, et, rfl, by omega, by omega, hlo1, fun i y hi' e hy => ?_⟩)
      exact hc (coll_neg.mpr (slt_of_le_lt (hso.at mid i xs[mid] y hi' hget e) hy))
  · rw [if_neg (by simpa using hz)]
    refine wpAny_execs_cons (wpAny_Return_some (ldL F₆ el ?_))
    have : lo = hi := by omega
    subst this
    exact h lo _ _ ⟨hhi, hlo1, hhi1⟩ F₆.fresh0
end
end Mine
end

section
namespace Mine

theorem sorted_insert {ys : List Str} {x : Str} {k : Nat} (h : Sorted ys) (p : PlaceOf ys x k) : Sorted (ys.take k ++ x :: ys.drop k) := by
  obtain ⟨hk, h1, h2⟩ := p
  have m1 : ∀ y ∈ ys.take k, SLt y x := fun y hy => by
    obtain ⟨i, hi, rfl⟩ := List.mem_iff_getElem.mp hy
    simp at hi
    exact h1 i _ (by omega) (by rw [List.getElem_take, List.getElem?_eq_getElem])
  have m2 : ∀ y ∈ ys.drop k, ¬ SLt y x := fun y hy => by
    obtain ⟨i, hi, rfl⟩ := List.mem_iff_getElem.mp hy
    simp at hi
    exact h2 (k + i) _ (by omega) (by rw [List.getElem_drop, List.getElem?_eq_getElem])
  have hs : (ys.take k ++ ys.drop k).Pairwise fun a b => ¬ SLt b a := by rw [List.take_append_drop]; exact h
  obtain ⟨s1, s2, s3⟩ := List.pairwise_append.mp hs
  refine List.pairwise_append.mpr ⟨s1, List.pairwise_cons.mpr ⟨m2, s2⟩, fun a ha c hc => ?_⟩
  rcases List.mem_cons.mp hc with rfl | hc
  · exact slt_asymm (m1 a ha)
  · exact s3 a ha c hc

section
variable {prog : Program} {w : World} {A : Around} {E : Value → Shared → Prop} {s : Shared} {mean : ExcName → Option Value} {mg mb : Str → Option Value} {Q : Value → Shared → Prop}

theorem row_spec {ta : Addr} {xs : List Str} (hl : SIs s.heap ta xs) (hz : xs.length ≤ 1000) (C : Cx w mean mg mb s.heap) (R : Rm A 3)
    (h : ∀ a (ys : List Str) f s', Fresh s f s' → SIs f a ys → Sorted ys → (∀ x, x ∈ ys ↔ x ∈ xs) → ys.length = xs.length → Q (.ref a) s') :
    wpAny (model prog w) A (call (.ref 125) [.ref ta]) Q E s := by
  obtain ⟨vs, nv, hl, hvs⟩ := hl
  have hlen : vs.length = xs.length := by simpa using hvs.length
  refine enter (binds := [("texts", .ref ta)]) C.X C.T.nolimit R.room (by k_is) (by k_is) (BindsTo.of_eq rfl) (locs rfl) ?_
  intro L s₁ F
  refine wpAny_execs_cons <| wpAny_Assign_Name <| List_ <| args_nil <| newLst F (by simp) fun r s₂ F₂ => stL F₂ fun s₃ F₃ => ?_
  refine wpAny_execs_cons <| wpAny_For <| ldL F₃ rfl <| ?_
  refine loop_list (items := vs) (fun i f m mu => f = {} ∧ m "row" = some (.ref r) ∧ ∃ (us : List Value) (n : Nat) (ys : List Str), mu = [(r, listOf us.toArray n)] ∧ All2 (VIs {}) us (ys.map sDt) ∧ Sorted ys ∧ (∀ x, x ∈ ys ↔ x ∈ xs.take i) ∧ ys.length = i)
    R.handled F₃ (.inl (isL hl)) ⟨rfl, rfl, [], 0, [], rfl, .nil, .nil, by simp, rfl⟩ ?_ ?_
  · rintro E' i v b₁ f₁ m₁ mu₁ s₄ hv hb hg ho hs F₄ ⟨rfl, er, us, n, ys, rfl, hus, hso, hmem, hly⟩
    have hix : i < xs.length := by have := (List.getElem?_eq_some_iff.mp hv).1; omega
    obtain ⟨d, hd, hr⟩ := hvs.get' hv
    simp only [List.getElem?_map, Option.map_eq_some_iff] at hd
    obtain ⟨x, hx, rfl⟩ := hd
    obtain ⟨tx, rfl⟩ := hr
    have hlu : us.length = ys.length := by simpa using hus.length
    have C₁ : Cx w mean mg mb b₁.heap := C.mono hb
    refine wpAny_assign_Name <| stL F₄ fun s₅ F₅ => ?_
    have hget := (F₅.mus _ (.head _)).1
    refine wpAny_execs_cons <| wpAny_Expr <| MethodCall_ <| ldL F₅ er <| gmL hget PySem.F.slot_list_insert PySem.F.type_list_insert <| callWith_method1 <| args_cons <| Call_ <| ldG F₅ C₁ (by k_is) <| cDef C₁ (by k_is) rfl <| args_cons <| ldL F₅ er <|
      args_cons <| ldL F₅ rfl <| args_nil ⟨F₅.keep, ?_⟩
    refine place_spec (xs := ys) ⟨us, n, hget, strs_any hus⟩ (by omega) hso (C₁.mono F₅.keep) (R.deeper.less (by decide)) fun k tk s₆ hp G₆ => ?_
    have F₆ := F₅.call G₆
    refine args_cons <| ldL F₆ rfl <| args_nil <| lstInsert F₆ (by have := hp.1; omega) .head (by omega) fun s₇ F₇ => ?_
    refine wpAny_execs_nil ⟨_, _, _, Sub.refl _, F₇, rfl, er, _, _, ys.take k ++ x :: ys.drop k, rfl, ?_, sorted_insert hso hp, fun z => ?_, ?_⟩
    · rw [List.map_append, List.map_cons, List.map_take, List.map_drop]
      exact (hus.take k).append (.cons ⟨tx, rfl⟩ (hus.drop k))
    · have e : xs.take (i + 1) = xs.take i ++ [x] := by rw [List.take_add_one, hx]; rfl
      rw [e, List.mem_append, List.mem_append, List.mem_cons, List.mem_singleton, ← hmem]
      have : z ∈ ys ↔ z ∈ ys.take k ∨ z ∈ ys.drop k := by rw [← List.mem_append, List.take_append_drop]
      rw [this]
      constructor
      · rintro (q | q | q)
        · exact .inl (.inl q)
        · exact .inr q
        · exact .inl (.inr q)
      · rintro ((q | q) | q)
        · exact .inl q
        · exact .inr (.inr q)
        · exact .inr (.inl q)
    · simp
      have := hp.1
      omega
  · rintro f₁ m₁ mu₁ s₄ hs F₄ ⟨rfl, er, us, n, ys, rfl, hus, hso, hmem, hly⟩
    refine wpAny_execs_cons <| wpAny_Return_some <| ldL F₄ er ?_
    obtain ⟨f', hs', hr, F₅⟩ := F₄.freeze
    refine h r ys f' s₄ F₅.fresh ⟨us, n, hr, hus.mono fun _ _ y => y.mono hs'⟩ hso (fun x => ?_) (by omega)
    rw [hmem, List.take_of_length_le (by omega)]

theorem stretch_spec {row : Addr} {xs : List Str} {x y : Str} {t u : Tok} (hl : SIs s.heap row xs) (hz : xs.length ≤ 1000) (hso : Sorted xs) (hxy : SLt x y) (C : Cx w mean mg mb s.heap) (R : Rm A 3)
    (h : ∀ a (ys : List Str) f s', Fresh s f s' → SIs f a ys → (∀ z, z ∈ ys ↔ z ∈ xs ∧ ¬ SLt z x ∧ SLt z y) → ys.length ≤ xs.length → Q (.ref a) s') :
    wpAny (model prog w) A (call (.ref 132) [.ref row, .str x t, .str y u]) Q E s := by
  have hl0 := hl
  obtain ⟨vs, nv, hl, hvs⟩ := hl
  have hlen : vs.length = xs.length := by simpa using hvs.length
  refine enter (binds := [("row", .ref row), ("first", .str x t), ("behind", .str y u)]) C.X C.T.nolimit R.room (by k_is) (by k_is) (BindsTo.of_eq rfl) (locs rfl) ?_
  intro L s₁ F
  refine wpAny_execs_cons <| wpAny_Return_some <| eSlice <| ldL F rfl ?_
  rw [evalPart_some, evalPart_some]
  refine Call_ <| ldG F C (by k_is) <| cDef C (by k_is) rfl <| args_cons <| ldL F rfl <| args_cons <| ldL F rfl <| args_nil ⟨F.keep, ?_⟩
  refine place_spec (hl0.mono F.keep) hz hso (C.mono F.keep) (R.deeper.less (by decide)) fun k₁ t₁ s₂ p₁ G₂ => ?_
  have F₂ := F.call G₂
  refine Call_ <| ldG F₂ C (by k_is) <| cDef C (by k_is) rfl <| args_cons <| ldL F₂ rfl <| args_cons <| ldL F₂ rfl <| args_nil ⟨F₂.keep, ?_⟩
  refine place_spec (hl0.mono F₂.keep) hz hso (C.mono F₂.keep) (R.deeper.less (by decide)) fun k₂ t₂ s₃ p₂ G₃ => ?_
  have F₃ := F₂.call G₃
  have hk : k₁ ≤ k₂ := by
    refine Nat.le_of_not_lt fun q => ?_
    have hk2 : k₂ < xs.length := by have := p₁.1; omega
    have e := List.getElem?_eq_getElem hk2
    exact p₂.2.2 k₂ _ (Nat.le_refl _) e (List.lt_trans (p₁.2.1 k₂ _ q e) hxy)
  refine ⟨row, vs, (vs.drop k₁).take (k₂ - k₁), some k₁, some k₂, rfl, isL (F₃.keep _ _ hl), .int _ _, .int _ _, by omega, pickRun vs k₁ k₂ (by have := p₂.1; omega) hk, _, _, _, _, _, F₃, fun a s₄ F₄ => ?_⟩
  obtain ⟨f', hs', hr, F₅⟩ := F₄.freeze
  refine h a ((xs.drop k₁).take (k₂ - k₁)) f' s₄ F₅.fresh ⟨_, _, hr, ?_⟩ (fun z => ?_) (by simp; omega)
  · rw [List.map_take, List.map_drop]
    exact ((strs_any hvs).drop k₁).take (k₂ - k₁)
  · constructor
    · intro hz'
      obtain ⟨i, hi, rfl⟩ := List.mem_iff_getElem.mp hz'
      simp at hi
      have e : xs[k₁ + i]? = some ((xs.drop k₁).take (k₂ - k₁))[i] := by
        rw [List.getElem_take, List.getElem_drop, List.getElem?_eq_getElem]
      exact ⟨List.mem_of_getElem? e, p₁.2.2 _ _ (by omega) e, p₂.2.1 _ _ (by omega) e⟩
    · rintro ⟨hm, h1, h2⟩
      obtain ⟨i, hi, rfl⟩ := List.mem_iff_getElem.mp hm
      have e := List.getElem?_eq_getElem hi
      have q1 : k₁ ≤ i := Nat.le_of_not_lt fun q => h1 (p₁.2.1 i _ q e)
      have q2 : i < k₂ := Nat.lt_of_not_le fun q => p₂.2.2 i _ q e h2
      refine List.mem_iff_getElem.mpr ⟨i - k₁, by simp; omega, ?_⟩
      rw [List.getElem_take, List.getElem_drop]
      congr 1
      omega
end
end Mine
end

section
namespace Mine

def dHead : List Str := ["a", "-", "0"]
def dTail : List Str := ["", "a", "/a", "/-"]
/-- a directory and its crooked spelling -/
def Good (p c : Str) : Prop := ∃ h ∈ dHead, ∃ t ∈ dTail, p = h ++ t ∧ c ∈ ([p, "./" ++ p, p ++ "/", "a/../" ++ p, Txt.replace p "/" "//", p ++ "/."] : List Str)
theorem dHead_len : ∀ h ∈ dHead, h.length = 1 := by decide +kernel
theorem dTail_len : ∀ h ∈ dTail, h.length ≤ 2 := by decide +kernel

section
variable {prog : Program} {w : World} {A : Around} {E : Value → Shared → Prop} {s : Shared} {mean : ExcName → Option Value} {mg mb : Str → Option Value} {Q : Value → Shared → Prop}

theorem directory_spec {x : Int} {t : Tok} (C : Cx w mean mg mb s.heap) (R : Rm A 1)
    (h : ∀ a (p c : Str) f s', Good p c → Fresh s f s' → VIs f (.ref a) (.pair (.str p) (.str c)) → Q (.ref a) s') :
    wpAny (model prog w) A (call (.ref 104) [.int x t]) Q E s := by
  refine enter (binds := [("x", .int x t)]) C.X C.T.nolimit R.room (by k_is) (by k_is) (BindsTo.of_eq rfl) (locs rfl) ?_
  intro L s₁ F
  refine wpAny_execs_cons <| wpAny_Assign_Name <| wpAny_BinOp <| Subscript_ <| kStr F fun t₂ s₂ F₂ => wpAny_BinOp <| ldL F₂ rfl <| kInt F₂ fun t₃ s₃ F₃ => oMod F₃ (by decide) fun t₄ s₄ F₄ => ?_
  have i0 := Int.emod_nonneg x (b := 3) (by decide)
  have i1 := Int.emod_lt_of_pos x (b := 3) (by decide)
  obtain ⟨c, hc, hch⟩ : ∃ c, (PySem.Str.ofString "a-0").cps[(x % 3).toNat]? = some c ∧ PySem.Str.mk #[c] ∈ dHead := by
    have : (x % 3).toNat = 0 ∨ (x % 3).toNat = 1 ∨ (x % 3).toNat = 2 := by omega
    rcases this with e | e | e <;> rw [e]
    · exact ⟨97, by decide +kernel, by decide +kernel⟩
    · exact ⟨45, by decide +kernel, by decide +kernel⟩
    · exact ⟨48, by decide +kernel, by decide +kernel⟩
  refine oItemS F₄ i0 (by omega) hc fun t₅ s₅ F₅ => ?_
  refine Subscript_ <| Tuple_ <| args_cons <| kStr F₅ fun u₁ s₆ F₆ => args_cons <| kStr F₆ fun u₂ s₇ F₇ => args_cons <| kStr F₇ fun u₃ s₈ F₈ => args_cons <| kStr F₈ fun u₄ s₉ F₉ => args_nil <| newTup F₉ (by simp) fun a f₁ s₁₀ hs₁ F₁₀ hT => ?_
  refine wpAny_BinOp <| wpAny_BinOp <| ldL F₁₀ rfl <| kInt F₁₀ fun t₁₁ s₁₁ F₁₁ => oDiv F₁₁ (by decide) (by decide) fun t₁₂ s₁₂ F₁₂ => kInt F₁₂ fun t₁₃ s₁₃ F₁₃ => oMod F₁₃ (by decide) fun t₁₄ s₁₄ F₁₄ => ?_
  have j0 := Int.emod_nonneg (x / 3) (b := 4) (by decide)
  have j1 := Int.emod_lt_of_pos (x / 3) (b := 4) (by decide)
  obtain ⟨y, ty, hy, hyt⟩ : ∃ (y : Str) (ty : Tok), ([.str "" u₁, .str "a" u₂, .str "/a" u₃, .str "/-" u₄] : List Value)[(x / 3 % 4).toNat]? = some (.str y ty) ∧ y ∈ dTail := by
    have : (x / 3 % 4).toNat = 0 ∨ (x / 3 % 4).toNat = 1 ∨ (x / 3 % 4).toNat = 2 ∨ (x / 3 % 4).toNat = 3 := by omega
    rcases this with e | e | e | e <;> rw [e] <;> exact ⟨_, _, rfl, by decide +kernel⟩
  refine oItemT (isTuple_mono hT F₁₄.sub) j0 (by omega) hy ?_
  have hc1 : (PySem.Str.mk #[c]).length = 1 := rfl
  have hy2 := dTail_len y hyt
  refine oCat F₁₄ (by omega) fun t₁₅ s₁₅ F₁₅ => stL F₁₅ fun s₁₆ F₁₆ => ?_
  have hpl : (PySem.Str.mk #[c] ++ y).length ≤ 3 := by rw [PySem.Str.length_append]; omega
  have hp0 : (PySem.Str.mk #[c] ++ y).length ≠ 0 := by rw [PySem.Str.length_append]; omega
  have hgood : ∀ q ∈ ([PySem.Str.mk #[c] ++ y, "./" ++ (PySem.Str.mk #[c] ++ y), PySem.Str.mk #[c] ++ y ++ "/", "a/../" ++ (PySem.Str.mk #[c] ++ y), Txt.replace (PySem.Str.mk #[c] ++ y) "/" "//", PySem.Str.mk #[c] ++ y ++ "/."] : List Str), Good (PySem.Str.mk #[c] ++ y) q :=
    fun q hq => ⟨_, hch, _, hyt, rfl, hq⟩
  generalize PySem.Str.mk #[c] ++ y = p at F₁₆ hpl hp0 hgood
  have l1 : (PySem.Str.ofString "./").length = 2 := rfl
  have l2 : (PySem.Str.ofString "/").length = 1 := rfl
  have l3 : (PySem.Str.ofString "a/../").length = 5 := rfl
  have l4 : (PySem.Str.ofString "/.").length = 2 := rfl
  have l5 : (PySem.Str.ofString "//").length = 2 := rfl
  refine wpAny_execs_cons <| wpAny_Assign_Name <| Tuple_ <| args_cons <| ldL F₁₆ rfl <| args_cons <| wpAny_BinOp <| kStr F₁₆ fun v₁ s₁₇ F₁₇ => ldL F₁₇ rfl <| oCat F₁₇ (by omega) fun v₂ s₁₈ F₁₈ => args_cons <| wpAny_BinOp <| ldL F₁₈ rfl <| kStr F₁₈ fun v₃ s₁₉ F₁₉ => oCat F₁₉ (by omega) fun v₄ s₂₀ F₂₀ => ?_
  refine args_cons <| wpAny_BinOp <| wpAny_Constant_str <| ldL (F₂₀.tok _) rfl <| PySem.P.add_str ?_
  rw [if_neg (by rw [l3]; decide), if_neg (by simpa using hp0)]
  refine ⟨by rw [PySem.Str.length_append, sizeLine_eq]; omega, ?_⟩
  refine args_cons <| MethodCall_ <| ldL ((F₂₀.tok _).tok _) rfl <| PySem.GM.replace <| callWith_method1 <| args_cons <| wpAny_Constant_str <| args_cons <| wpAny_Constant_str <| args_nil ?_
  refine PySem.SC.replace (by simp) (by simp) (by simp) (by decide +kernel) ?_ fun v₅ k₅ => ?_
  · rw [l5]; omega
  have F₂₁ := F₂₀.tok k₅
  generalize ({ s₂₀ with toks := k₅ } : Shared) = s₂₁ at F₂₁ ⊢
  refine args_cons <| wpAny_BinOp <| ldL F₂₁ rfl <| kStr F₂₁ fun v₆ s₂₂ F₂₂ => oCat F₂₂ (by omega) fun v₇ s₂₃ F₂₃ => args_nil <| newTup F₂₃ (by simp) fun a' f₂ s₂₄ hs₂ F₂₄ hT₂ => stL F₂₄ fun s₂₅ F₂₅ => ?_
  refine wpAny_execs_cons <| wpAny_Return_some <| Tuple_ <| args_cons <| ldL F₂₅ rfl <| args_cons <| Subscript_ <| ldL F₂₅ rfl <| wpAny_BinOp <| wpAny_BinOp <| ldL F₂₅ rfl <| kInt F₂₅ fun t₂₆ s₂₆ F₂₆ => oDiv F₂₆ (by decide) (by decide) fun t₂₇ s₂₇ F₂₇ => kInt F₂₇ fun t₂₈ s₂₈ F₂₈ => oMod F₂₈ (by decide) fun t₂₉ s₂₉ F₂₉ => ?_
  have k0 := Int.emod_nonneg (x / 12) (b := 6) (by decide)
  have k1 := Int.emod_lt_of_pos (x / 12) (b := 6) (by decide)
  obtain ⟨q, tq, hq, hqt⟩ : ∃ (q : Str) (tq : Tok), ([.str p t₁₅, .str ("./" ++ p) v₂, .str (p ++ "/") v₄, .str ("a/../" ++ p) (s₂₀.toks + 1), .str (Txt.replace p "/" "//") v₅, .str (p ++ "/.") v₇] : List Value)[(x / 12 % 6).toNat]? = some (.str q tq) ∧ q ∈ ([p, "./" ++ p, p ++ "/", "a/../" ++ p, Txt.replace p "/" "//", p ++ "/."] : List Str) := by
    have : (x / 12 % 6).toNat = 0 ∨ (x / 12 % 6).toNat = 1 ∨ (x / 12 % 6).toNat = 2 ∨ (x / 12 % 6).toNat = 3 ∨ (x / 12 % 6).toNat = 4 ∨ (x / 12 % 6).toNat = 5 := by omega
    rcases this with e | e | e | e | e | e <;> rw [e] <;> exact ⟨_, _, rfl, by simp⟩
  refine oItemT (isTuple_mono hT₂ F₂₉.sub) k0 (by omega) hq <| args_nil <| newTup F₂₉ (by simp) fun a'' f₃ s₃₀ hs₃ F₃₀ hT₃ => ?_
  exact h a'' p q f₃ s₃₀ (hgood q hqt) F₃₀.fresh ⟨a'', _, _, rfl, hT₃, ⟨_, rfl⟩, ⟨_, rfl⟩⟩
end
end Mine
end

section
namespace Mine

def fileImm : Option Str → Imm
  | some y => .str y
  | none => .none
/-- an ask: a name and a file or none -/
abbrev Ask := Str × Option Str
abbrev askDt (a : Ask) : Dt := .pair (.str a.1) (fileImm a.2)
abbrev placeDt (a : Str × Str) : Dt := .pair (.str a.1) (.str a.2)

section
variable {prog : Program} {w : World} {A : Around} {E : Value → Shared → Prop} {s : Shared} {mean : ExcName → Option Value} {mg mb : Str → Option Value} {Q : Value → Shared → Prop}

theorem ask_spec {x : Int} {t : Tok} {ma pa : Addr} {ms : List Str} {ps : List (Str × Str)} (hm : SIs s.heap ma ms) (hp : LIs s.heap pa (ps.map placeDt)) (hm0 : 0 < ms.length) (hm1 : ms.length ≤ 900) (hp0 : 0 < ps.length) (hp1 : ps.length ≤ 900)
    (hml : ∀ y ∈ ms, y.length ≤ 1000) (hpl : ∀ y ∈ ps, y.1.length ≤ 1000) (C : Cx w mean mg mb s.heap) (R : Rm A 2)
    (h : ∀ a (q : Ask) f s', q.1.length ≤ 2000 → (∀ y, q.2 = some y → y.length ≤ 2000) → Fresh s f s' → VIs f (.ref a) (askDt q) → Q (.ref a) s') :
    wpAny (model prog w) A (call (.ref 111) [.int x t, .ref ma, .ref pa]) Q E s := by
  obtain ⟨vm, nm, hm, hvm⟩ := hm
  obtain ⟨vp, np, hp, hvp⟩ := hp
  have hlm : vm.length = ms.length := by simpa using hvm.length
  have hlp : vp.length = ps.length := by simpa using hvp.length
  refine enter (binds := [("x", .int x t), ("mods", .ref ma), ("places", .ref pa)]) C.X C.T.nolimit R.room (by k_is) (by k_is) (BindsTo.of_eq rfl) (locs rfl) ?_
  intro L s₁ F
  refine wpAny_execs_cons <| wpAny_Assign_Name <| wpAny_BinOp <| Subscript_ <| ldL F rfl <| wpAny_BinOp <| ldL F rfl <| Call_ <| ldB F C (by k_is) bootS_len <| callWith_builtin1 <| args_cons <| ldL F rfl <| args_nil <|
    oLen F (isList_mono (isL hm) F.keep) (by omega) fun t₂ s₂ F₂ => oMod F₂ (by omega) fun t₃ s₃ F₃ => ?_
  have i0 := Int.emod_nonneg x (b := vm.length) (by omega)
  have i1 := Int.emod_lt_of_pos x (b := vm.length) (by omega)
  have hlt : (x % (vm.length : Int)).toNat < ms.length := by omega
  obtain ⟨v, hv, tv, rfl⟩ := hvm.get (i := (x % (vm.length : Int)).toNat) (b := sDt ms[(x % (vm.length : Int)).toNat]) (by simp [hlt])
  have hy := hml ms[(x % (vm.length : Int)).toNat] (List.getElem_mem hlt)
  generalize ms[(x % (vm.length : Int)).toNat] = y at hv hy
  refine oItem (isList_mono (isL hm) F₃.keep) i0 (by omega) hv ?_
  refine Call_ <| ldG F₃ C (by k_is) <| cDef C (by k_is) rfl <| args_cons <| wpAny_BinOp <| wpAny_BinOp <| ldL F₃ rfl <| Call_ <| ldB F₃ C (by k_is) bootS_len <| callWith_builtin1 <| args_cons <| ldL F₃ rfl <| args_nil <|
    oLen F₃ (isList_mono (isL hm) F₃.keep) (by omega) fun t₄ s₄ F₄ => oDiv F₄ (by omega) (by omega) fun t₅ s₅ F₅ => kInt F₅ fun t₆ s₆ F₆ => oMod F₆ (by decide) fun t₇ s₇ F₇ => args_nil ⟨F₇.keep, ?_⟩
  have b1 := Int.emod_lt_of_pos (x / vm.length) (b := 31) (by decide)
  refine text_spec (by omega) (C.mono F₇.keep) R.deeper fun z tz s₈ hz G₈ => ?_
  have F₈ := F₇.call G₈
  refine oCat F₈ (by omega) fun t₉ s₉ F₉ => stL F₉ fun s₁₀ F₁₀ => ?_
  have hnl : (y ++ z).length ≤ 2000 := by rw [PySem.Str.length_append]; omega
  generalize y ++ z = n at F₁₀ hnl
  refine wpAny_execs_cons <| wpAny_Assign_Name <| wpAny_BinOp <| wpAny_BinOp <| ldL F₁₀ rfl <| Call_ <| ldB F₁₀ C (by k_is) bootS_len <| callWith_builtin1 <| args_cons <| ldL F₁₀ rfl <| args_nil <|
    oLen F₁₀ (isList_mono (isL hm) F₁₀.keep) (by omega) fun t₁₁ s₁₁ F₁₁ => oDiv F₁₁ (by omega) (by omega) fun t₁₂ s₁₂ F₁₂ => kInt F₁₂ fun t₁₃ s₁₃ F₁₃ => oDiv F₁₃ (by decide) (by decide) fun t₁₄ s₁₄ F₁₄ => stL F₁₄ fun s₁₅ F₁₅ => ?_
  generalize x / (vm.length : Int) / 31 = x' at F₁₅
  refine wpAny_execs_cons <| wpAny_Assign_Name <| wpAny_BinOp <| ldL F₁₅ rfl <| wpAny_BinOp <| Call_ <| ldB F₁₅ C (by k_is) bootS_len <| callWith_builtin1 <| args_cons <| ldL F₁₅ rfl <| args_nil <|
    oLen F₁₅ (isList_mono (isL hp) F₁₅.keep) (by omega) fun t₁₆ s₁₆ F₁₆ => kInt F₁₆ fun t₁₇ s₁₇ F₁₇ => oAdd F₁₇ fun t₁₈ s₁₈ F₁₈ => oMod F₁₈ (by omega) fun t₁₉ s₁₉ F₁₉ => stL F₁₉ fun s₂₀ F₂₀ => ?_
  have k0 := Int.emod_nonneg x' (b := (vp.length : Int) + 1) (by omega)
  have k1 := Int.emod_lt_of_pos x' (b := (vp.length : Int) + 1) (by omega)
  refine wpAny_execs_cons <| wpAny_If <| wpAny_isTrue_Compare1 <| ldL F₂₀ rfl <| Call_ <| ldB F₂₀ C (by k_is) bootS_len <| callWith_builtin1 <| args_cons <| ldL F₂₀ rfl <| args_nil <|
    oLen F₂₀ (isList_mono (isL hp) F₂₀.keep) (by omega) fun t₂₁ s₂₁ F₂₁ => eq_int <| wpAny_truthy_bool ?_
  by_cases hk : x' % ((vp.length : Int) + 1) = vp.length
  · rw [if_pos (by simpa using hk)]
    refine wpAny_execs_cons <| wpAny_Return_some <| Tuple_ <| args_cons <| ldL F₂₁ rfl <| args_cons <| wpAny_Constant_none <| args_nil <| newTup F₂₁ (by simp) fun a f₂ s₂₂ hs F₂₂ hT => ?_
    exact h a (n, none) f₂ s₂₂ hnl (fun _ e => by cases e) F₂₂.fresh ⟨a, _, _, rfl, hT, ⟨_, rfl⟩, rfl⟩
  · rw [if_neg (by simpa using hk)]
    refine wpAny_execs_nil ?_
    have hlt' : (x' % ((vp.length : Int) + 1)).toNat < ps.length := by omega
    obtain ⟨v, hv', c, q1, q2, rfl, hT, ⟨tq, rfl⟩, _⟩ := hvp.get (i := (x' % ((vp.length : Int) + 1)).toNat) (b := placeDt ps[(x' % ((vp.length : Int) + 1)).toNat]) (by simp [hlt'])
    have hpp := hpl ps[(x' % ((vp.length : Int) + 1)).toNat] (List.getElem_mem hlt')
    generalize ps[(x' % ((vp.length : Int) + 1)).toNat].1 = p1 at hT hpp
    refine wpAny_execs_cons <| wpAny_Return_some <| Tuple_ <| args_cons <| ldL F₂₁ rfl <| args_cons <| wpAny_BinOp <| Subscript_ <| Subscript_ <| ldL F₂₁ rfl <| ldL F₂₁ rfl <| oItem (isList_mono (isL hp) F₂₁.keep) k0 (by omega) hv' <| kInt F₂₁ fun t₂₂ s₂₂ F₂₂ =>
      oItemT (vs := [.str p1 tq, q2]) (isTuple_mono hT F₂₂.keep) (by decide) (by decide) rfl ?_
    refine Call_ <| ldG F₂₂ C (by k_is) <| cDef C (by k_is) rfl <| args_cons <| wpAny_BinOp <| wpAny_BinOp <| ldL F₂₂ rfl <| wpAny_BinOp <| Call_ <| ldB F₂₂ C (by k_is) bootS_len <| callWith_builtin1 <| args_cons <| ldL F₂₂ rfl <| args_nil <|
      oLen F₂₂ (isList_mono (isL hp) F₂₂.keep) (by omega) fun t₂₃ s₂₃ F₂₃ => kInt F₂₃ fun t₂₄ s₂₄ F₂₄ => oAdd F₂₄ fun t₂₅ s₂₅ F₂₅ => oDiv F₂₅ (by omega) (by omega) fun t₂₆ s₂₆ F₂₆ => kInt F₂₆ fun t₂₇ s₂₇ F₂₇ => oMod F₂₇ (by decide) fun t₂₈ s₂₈ F₂₈ => args_nil ⟨F₂₈.keep, ?_⟩
    have b2 := Int.emod_lt_of_pos (x' / ((vp.length : Int) + 1)) (b := 31) (by decide)
    refine text_spec (by omega) (C.mono F₂₈.keep) R.deeper fun z' tz' s₂₉ hz' G₂₉ => ?_
    have F₂₉ := F₂₈.call G₂₉
    refine oCat F₂₉ (by omega) fun t₃₀ s₃₀ F₃₀ => args_nil <| newTup F₃₀ (by simp) fun a f₂ s₃₁ hs F₃₁ hT' => ?_
    refine h a (n, some (p1 ++ z')) f₂ s₃₁ hnl (fun y e => ?_) F₃₁.fresh ⟨a, _, _, rfl, hT', ⟨_, rfl⟩, ⟨_, rfl⟩⟩
    cases e
    rw [PySem.Str.length_append]; omega
end
end Mine
end

section
namespace Mine

theorem slt_app {x y z : Str} (h : SLt y z) : SLt (x ++ y) (x ++ z) := by
  have e : ∀ a b : Str, (a ++ b).cps.toList = a.cps.toList ++ b.cps.toList := fun a b => by obtain ⟨a⟩ := a; obtain ⟨b⟩ := b; show (a ++ b).toList = _; simp
  show (x ++ y).cps.toList < (x ++ z).cps.toList
  rw [e, e]
  have h' : y.cps.toList < z.cps.toList := h
  generalize x.cps.toList = l
  induction l with
  | nil => exact h'
  | cons a l ih => exact List.cons_lt_cons_iff.mpr (.inr ⟨rfl, ih⟩)

/-- told of by the modules -/
def InOut (ns ms : List Str) (z : Str) : Prop := z = "<string>" ∨ ∃ hd ∈ ms, z ∈ ns ∧ (coll z hd = 0 ∨ (¬ SLt z (hd ++ ".") ∧ SLt z (hd ++ "/")))
def InUnder (fs ds : List Str) (z : Str) : Prop := ∃ hd ∈ ds, z ∈ fs ∧ ¬ SLt z (hd ++ "/") ∧ SLt z (hd ++ "0")
open Classical in
noncomputable def dueOne (ns fs ms ds : List Str) (q : Ask) : Int := if InOut ns ms q.1 ∨ q.2 = none ∨ ∃ y, q.2 = some y ∧ InUnder fs ds y then 1 else 0
noncomputable def dueOf (ns fs ms ds : List Str) (asks : List Ask) (n : Str) : Int := match asks.find? (fun q => q.1 == n) with
  | some q => dueOne ns fs ms ds q
  | none => 0

theorem find_first {asks : List Ask} {n : Str} (h : ∃ q ∈ asks, q.1 = n) : ∃ (j : Nat) (q : Ask), asks[j]? = some q ∧ q.1 = n ∧ (∀ i : Nat, i < j → ∀ p : Ask, asks[i]? = some p → p.1 ≠ n) ∧ asks.find? (fun q => q.1 == n) = some q := by
  induction asks with
  | nil => obtain ⟨q, hq, _⟩ := h; cases hq
  | cons a as ih =>
    by_cases e : a.1 = n
    · exact ⟨0, a, rfl, e, fun i hi => absurd hi (Nat.not_lt_zero _), by simp [e]⟩
    · obtain ⟨q, hq, hn⟩ := h
      rcases List.mem_cons.mp hq with rfl | hq
      · exact absurd hn e
      obtain ⟨j, q', h1, h2, h3, h4⟩ := ih ⟨q, hq, hn⟩
      refine ⟨j + 1, q', by simpa using h1, h2, fun i hi p hp => ?_, by simp [e, h4]⟩
      cases i with
      | zero => simp at hp; subst hp; exact e
      | succ i => exact h3 i (by omega) p (by simpa using hp)

section
variable {prog : Program} {w : World} {A : Around} {E : Value → Shared → Prop} {s : Shared} {mean : ExcName → Option Value} {mg mb : Str → Option Value} {Q : Value → Shared → Prop}

theorem due_spec {aa na fa ma da : Addr} {asks : List Ask} {ns fs ms ds : List Str} (ha : LIs s.heap aa (asks.map askDt)) (hn : SIs s.heap na ns) (hf : SIs s.heap fa fs) (hm : SIs s.heap ma ms) (hd : SIs s.heap da ds)
    (hsn : Sorted ns) (hsf : Sorted fs) (la : asks.length ≤ 100) (ln : ns.length ≤ 100) (lf : fs.length ≤ 100) (lm : ms.length ≤ 100) (ld : ds.length ≤ 100)
    (xm : ∀ y ∈ ms, y.length ≤ 1000) (xd : ∀ y ∈ ds, y.length ≤ 1000) (hin : ∀ q ∈ asks, q.1 ∈ ns) (C : Cx w mean mg mb s.heap) (R : Rm A 5)
    (h : ∀ a f s', Fresh s f s' → IIs f a (asks.map fun q => dueOf ns fs ms ds asks q.1) → Q (.ref a) s') :
    wpAny (model prog w) A (call (.ref 137) [.ref aa, .ref na, .ref fa, .ref ma, .ref da]) Q E s := by
  obtain ⟨va, n1, ha', hva⟩ := ha
  obtain ⟨vn, n2, hn', hvn⟩ := id hn
  obtain ⟨vm, n4, hm', hvm⟩ := hm
  obtain ⟨vd, n5, hd', hvd⟩ := hd
  have qa : va.length = asks.length := by simpa using hva.length
  have qn : vn.length = ns.length := by simpa using hvn.length
  have qm : vm.length = ms.length := by simpa using hvm.length
  have qd : vd.length = ds.length := by simpa using hvd.length
  refine enterC (binds := [("asks", .ref aa), ("names", .ref na), ("files", .ref fa), ("mods", .ref ma), ("directories", .ref da)]) C.X C.T.nolimit R.room (by k_is) (by k_is) (BindsTo.of_eq rfl) rfl (by decide) ?_
  intro L s₁ cells F Y
  have Y' : CellsAre (fun _ => none) [("order", L + 1 + 1 + 1 + 1 + 1), ("told", L + 1 + 1 + 1 + 1), ("under", L + 1 + 1 + 1), ("head", L + 1 + 1), ("out", L + 1)] cells := Y
  clear Y
  cases Y' with | @cons _ _ o5 _ _ d5 Y' =>
  cases Y' with | @cons _ _ o4 _ _ d4 Y' =>
  cases Y' with | @cons _ _ o3 _ _ d3 Y' =>
  cases Y' with | @cons _ _ o2 _ _ d2 Y' =>
  cases Y' with | @cons _ _ o1 _ _ d1 Y' =>
  cases Y'
  -- out = ['<string>']
  refine wpAny_execs_cons <| wpAny_Assign_Name <| List_ <| args_cons <| kStr F fun t₂ s₂ F₂ => args_nil <| newLst F₂ (by simp) fun r1 s₃ F₃ => stC F₃ d1 (fun o' => .tail (.tail (.tail (.tail (.tail .head))))) fun o1 s₄ d1 F₄ => ?_
  -- for head in mods
  refine wpAny_execs_cons <| wpAny_For <| ldL F₄ rfl <| ?_
  refine loop_list (items := vm) (fun i f m mu => f = {} ∧ m = bindL _ [("asks", .ref aa), ("names", .ref na), ("files", .ref fa), ("mods", .ref ma), ("directories", .ref da)] (fun _ => none) ∧
      ∃ (us : List Value) (n : Nat) (outs : List Str) (o5 o4 o3 o2 o1 : Obj) (v2 : Option Value), mu = [(r1, listOf us.toArray n), (L + 1 + 1 + 1 + 1 + 1, o5), (L + 1 + 1 + 1 + 1, o4), (L + 1 + 1 + 1, o3), (L + 1 + 1, o2), (L + 1, o1)] ∧
        o5.data = .cell none ∧ o4.data = .cell none ∧ o3.data = .cell none ∧ o2.data = .cell v2 ∧ o1.data = .cell (some (.ref r1)) ∧ All2 (VIs {}) us (outs.map sDt) ∧ (∀ z, z ∈ outs ↔ InOut ns (ms.take i) z) ∧ outs.length ≤ 1 + i * 300)
    R.handled F₄ (.inl (isL hm')) ⟨rfl, rfl, _, _, ["<string>"], o5, o4, o3, o2, o1, none, rfl, d5, d4, d3, d2, d1, .cons ⟨_, rfl⟩ .nil, fun z => by simp [InOut], by simp⟩ ?_ ?_
  · rintro E' i v b₁ f₁ m₁ mu₁ s₅ hv hb hg ho hs F₅ ⟨rfl, rfl, us, n, outs, o5, o4, o3, o2, o1, v2, rfl, d5, d4, d3, d2, d1, hus, hmem, hlo⟩
    have hix : i < ms.length := by have := (List.getElem?_eq_some_iff.mp hv).1; omega
    obtain ⟨d, hd, hr⟩ := hvm.get' hv
    simp only [List.getElem?_map, Option.map_eq_some_iff] at hd
    obtain ⟨x, hx, rfl⟩ := hd
    obtain ⟨tx, rfl⟩ := hr
    have hxl := xm x (List.mem_of_getElem? hx)
    have C₁ : Cx w mean mg mb b₁.heap := C.mono hb
    have hlu : us.length = outs.length := by simpa using hus.length
    refine wpAny_assign_Name <| stC F₅ d2 (fun o' => .tail (.tail (.tail (.tail .head)))) fun o2 s₆ d2 F₆ => ?_
    -- out += [name for name in names if _strcoll(name, head) == 0]
    refine wpAny_execs_cons <| wpAny_AugAssign_Name <| ldCn F₆ (.tail _ (.tail _ (.tail _ (.tail _ (.tail _ (.head _)))))) d1 <| eComp (cl := [("head", L + 1 + 1)]) (by with_unfolding_all rfl) <| ldL F₆ rfl ?_
    have hcl : s₆.heap.IsCell (L + 1 + 1) (some (.str x tx)) := ⟨o2, (F₆.mus _ (.tail _ (.tail _ (.tail _ (.tail _ (.head _)))))).1, d2⟩
    refine compGo (items := vn) (fun i ys f => f = {} ∧ All2 (VIs {}) ys (((ns.take i).filter fun z => coll z x == 0).map sDt)) R.handled (isL (F₆.keep _ _ (hb _ _ hn'))) (by omega) (.inl fun _ _ => rfl) (by decide) rfl ⟨rfl, .nil⟩ ?_ ?_
    · rintro E'' L₂ j v b₃ f₃ m₃ ys s₇ hv hb₃ hg₃ ho₃ F₇ ⟨rfl, hys⟩
      obtain ⟨d, hd, hr⟩ := hvn.get' hv
      simp only [List.getElem?_map, Option.map_eq_some_iff] at hd
      obtain ⟨z, hz, rfl⟩ := hd
      obtain ⟨tz, rfl⟩ := hr
      have C₃ : Cx w mean mg mb b₃.heap := (C₁.mono F₆.keep).mono hb₃
      have htk : ns.take (j + 1) = ns.take j ++ [z] := by rw [List.take_add_one, hz]; rfl
      refine wpAny_assign_Name <| stL F₇ fun s₈ F₈ => wpAny_tests_one <| wpAny_isTrue_Compare1 <| Call_ <| ldG F₈ C₃ (by k_is) <| cDef C₃ (by k_is) rfl <| args_cons <| ldL F₈ rfl <| args_cons <| ldCb ((hcl.keeps hb₃).keeps F₈.keep) <| args_nil ⟨F₈.keep, ?_⟩
      refine strcoll_spec (C₃.mono F₈.keep) (R.deeper.less (by decide)) fun t₉ s₉ G₉ => ?_
      have F₉ := F₈.call G₉
      refine kInt F₉ fun t₁₀ s₁₀ F₁₀ => eq_int <| wpAny_truthy_bool ?_
      by_cases hc : coll z x = 0
      · rw [if_pos (by simpa using hc)]
        refine ldL F₁₀ rfl ⟨{}, _, Sub.refl _, F₁₀, rfl, ?_⟩
        rw [htk, List.filter_append, List.map_append]
        exact hys.append (by simp only [List.filter_cons, List.filter_nil, hc]; exact .cons ⟨_, rfl⟩ .nil)
      · rw [if_neg (by simpa using hc)]
        refine ⟨{}, _, Sub.refl _, F₁₀, rfl, ?_⟩
        rw [htk, List.filter_append, List.map_append]
        have e : List.filter (fun z => coll z x == 0) [z] = [] := by simp [hc]
        rw [e]
        simpa using hys
    rintro r ys n₃ f₃ f₃' s₇ ⟨rfl, hys⟩ hs₃ hr₃ G₇ hly
    rw [List.take_of_length_le (by omega)] at hys
    have F₇ := F₆.call G₇
    refine lstIAdd (mu' := fun k => [(r1, listOf (us ++ ys).toArray k), _, _, _, _, _]) F₇ (fun k => .head) (G₇.sub _ _ hr₃) (by omega) fun k₃ s₈ F₈ => stC F₈ d1 (fun o' => .tail (.tail (.tail (.tail (.tail .head))))) fun o1 s₉ d1 F₉ => ?_
    -- out += _law_stretch(names, head + '.', head + '/')
    have ld : (PySem.Str.ofString ".").length = 1 := rfl
    have ls : (PySem.Str.ofString "/").length = 1 := rfl
    refine wpAny_execs_cons <| wpAny_AugAssign_Name <| ldCn F₉ (.tail _ (.tail _ (.tail _ (.tail _ (.tail _ (.head _)))))) d1 <| Call_ <| ldG F₉ C₁ (by k_is) <| cDef C₁ (by k_is) rfl <| args_cons <| ldL F₉ rfl <| args_cons <| wpAny_BinOp <|
      ldC F₉ (.tail _ (.tail _ (.tail _ (.tail _ (.head _))))) d2 <| kStr F₉ fun t₁₀ s₁₀ F₁₀ => oCat F₁₀ (by omega) fun t₁₁ s₁₁ F₁₁ => args_cons <| wpAny_BinOp <| ldC F₁₁ (.tail _ (.tail _ (.tail _ (.tail _ (.head _))))) d2 <| kStr F₁₁ fun t₁₂ s₁₂ F₁₂ => oCat F₁₂ (by omega) fun t₁₃ s₁₃ F₁₃ => args_nil ⟨F₁₃.keep, ?_⟩
    refine stretch_spec ((hn.mono hb).mono F₁₃.keep) (by omega) hsn (slt_app (by decide +kernel)) (C₁.mono F₁₃.keep) (R.deeper.less (by decide)) fun r₂ zs f₂ s₁₄ G₁₄ hzs hzm hzl => ?_
    have F₁₄ := F₁₃.call G₁₄
    obtain ⟨vz, nz, hz', hvz⟩ := hzs
    have qz : vz.length = zs.length := by simpa using hvz.length
    refine lstIAdd (mu' := fun k => [(r1, listOf (us ++ ys ++ vz).toArray k), _, _, _, _, _]) F₁₄ (fun k => .head) (G₁₄.sub _ _ hz') (by simp; omega) fun k₄ s₁₅ F₁₅ => stC F₁₅ d1 (fun o' => .tail (.tail (.tail (.tail (.tail .head))))) fun o1 s₁₆ d1 F₁₆ => ?_
    refine wpAny_execs_nil ⟨_, _, _, Sub.refl _, F₁₆, rfl, rfl, _, _, outs ++ (ns.filter fun z => coll z x == 0) ++ zs, _, _, _, _, _, _, rfl, d5, d4, d3, d2, d1, ?_, fun z => ?_, ?_⟩
    · rw [List.map_append, List.map_append]
      exact (hus.append hys).append (strs_any hvz)
    · have htk : ms.take (i + 1) = ms.take i ++ [x] := by rw [List.take_add_one, hx]; rfl
      rw [List.mem_append, List.mem_append, hmem, hzm, List.mem_filter, htk]
      unfold InOut
      simp only [List.mem_append, List.mem_singleton, beq_iff_eq]
      constructor
      · rintro ((q | q) | q)
        · rcases q with q | ⟨hd, hh, q⟩
          · exact .inl q
          · exact .inr ⟨hd, .inl hh, q⟩
        · exact .inr ⟨x, .inr rfl, q.1, .inl q.2⟩
        · exact .inr ⟨x, .inr rfl, q.1, .inr q.2⟩
      · rintro (q | ⟨hd, hh | rfl, q, q'⟩)
        · exact .inl (.inl (.inl q))
        · exact .inl (.inl (.inr ⟨hd, hh, q, q'⟩))
        · rcases q' with q' | q'
          · exact .inl (.inr ⟨q, q'⟩)
          · exact .inr ⟨q, q'⟩
    · have := hys.length
      simp only [List.length_map, List.length_append] at this ⊢
      omega
  · rintro f₁ m₁ mu₁ s₅ hs F₅ ⟨rfl, rfl, us, n, outs, o5, o4, o3, o2, o1, v2, rfl, d5, d4, d3, d2, d1, hus, hmem, hlo⟩
    rw [qm] at hmem hlo
    rw [List.take_of_length_le (Nat.le_refl _)] at hmem
    -- under = []
    refine wpAny_execs_cons <| wpAny_Assign_Name <| List_ <| args_nil <| newLst F₅ (by simp) fun r2 s₆ F₆ => stC F₆ d3 (fun o' => .tail (.tail (.tail (.tail .head)))) fun o3 s₇ d3 F₇ => ?_
    refine wpAny_execs_cons <| wpAny_For <| ldL F₇ rfl <| ?_
    refine loop_list (items := vd) (fun i f m mu => f = {} ∧ m = bindL _ [("asks", .ref aa), ("names", .ref na), ("files", .ref fa), ("mods", .ref ma), ("directories", .ref da)] (fun _ => none) ∧
      ∃ (ws : List Value) (k : Nat) (unds : List Str) (o5 o4 o3 o2 o1 : Obj) (v2 : Option Value), mu = [(r2, listOf ws.toArray k), (r1, listOf us.toArray n), (L + 1 + 1 + 1 + 1 + 1, o5), (L + 1 + 1 + 1 + 1, o4), (L + 1 + 1 + 1, o3), (L + 1 + 1, o2), (L + 1, o1)] ∧
        o5.data = .cell none ∧ o4.data = .cell none ∧ o3.data = .cell (some (.ref r2)) ∧ o2.data = .cell v2 ∧ o1.data = .cell (some (.ref r1)) ∧ All2 (VIs {}) ws (unds.map sDt) ∧ (∀ z, z ∈ unds ↔ InUnder fs (ds.take i) z) ∧ unds.length ≤ 1 + i * 300)
      R.handled F₇ (.inl (isL hd')) ⟨rfl, rfl, _, _, [], o5, o4, o3, o2, o1, _, rfl, d5, d4, d3, d2, d1, .nil, fun z => by simp [InUnder], by simp⟩ ?_ ?_
    · rintro E' i v b₁ f₁ m₁ mu₁ s₈ hv hb hg ho hs F₈ ⟨rfl, rfl, ws, k, unds, o5, o4, o3, o2, o1, v2, rfl, d5, d4, d3, d2, d1, hws, hmu, hlu⟩
      have hix : i < ds.length := by have := (List.getElem?_eq_some_iff.mp hv).1; omega
      obtain ⟨d, hd, hr⟩ := hvd.get' hv
      simp only [List.getElem?_map, Option.map_eq_some_iff] at hd
      obtain ⟨x, hx, rfl⟩ := hd
      obtain ⟨tx, rfl⟩ := hr
      have hxl := xd x (List.mem_of_getElem? hx)
      have C₁ : Cx w mean mg mb b₁.heap := C.mono hb
      have hlw : ws.length = unds.length := by simpa using hws.length
      have ld : (PySem.Str.ofString "0").length = 1 := rfl
      have ls : (PySem.Str.ofString "/").length = 1 := rfl
      refine wpAny_assign_Name <| stC F₈ d2 (fun o' => .tail (.tail (.tail (.tail (.tail .head))))) fun o2 s₉ d2 F₉ => ?_
      refine wpAny_execs_cons <| wpAny_AugAssign_Name <| ldCn F₉ (.tail _ (.tail _ (.tail _ (.tail _ (.head _))))) d3 <| Call_ <| ldG F₉ C₁ (by k_is) <| cDef C₁ (by k_is) rfl <| args_cons <| ldL F₉ rfl <| args_cons <| wpAny_BinOp <|
        ldC F₉ (.tail _ (.tail _ (.tail _ (.tail _ (.tail _ (.head _)))))) d2 <| kStr F₉ fun t₁₀ s₁₀ F₁₀ => oCat F₁₀ (by omega) fun t₁₁ s₁₁ F₁₁ => args_cons <| wpAny_BinOp <| ldC F₁₁ (.tail _ (.tail _ (.tail _ (.tail _ (.tail _ (.head _)))))) d2 <| kStr F₁₁ fun t₁₂ s₁₂ F₁₂ => oCat F₁₂ (by omega) fun t₁₃ s₁₃ F₁₃ => args_nil ⟨F₁₃.keep, ?_⟩
      refine stretch_spec ((hf.mono hb).mono F₁₃.keep) (by omega) hsf (slt_app (by decide +kernel)) (C₁.mono F₁₃.keep) (R.deeper.less (by decide)) fun r₂ zs f₂ s₁₄ G₁₄ hzs hzm hzl => ?_
      have F₁₄ := F₁₃.call G₁₄
      obtain ⟨vz, nz, hz', hvz⟩ := hzs
      have qz : vz.length = zs.length := by simpa using hvz.length
      refine lstIAdd (mu' := fun k => [(r2, listOf (ws ++ vz).toArray k), _, _, _, _, _, _]) F₁₄ (fun k => .head) (G₁₄.sub _ _ hz') (by omega) fun k₄ s₁₅ F₁₅ => stC F₁₅ d3 (fun o' => .tail (.tail (.tail (.tail .head)))) fun o3 s₁₆ d3 F₁₆ => ?_
      refine wpAny_execs_nil ⟨_, _, _, Sub.refl _, F₁₆, rfl, rfl, _, _, unds ++ zs, _, _, _, _, _, _, rfl, d5, d4, d3, d2, d1, ?_, fun z => ?_, ?_⟩
      · rw [List.map_append]
        exact hws.append (strs_any hvz)
      · have htk : ds.take (i + 1) = ds.take i ++ [x] := by rw [List.take_add_one, hx]; rfl
        rw [List.mem_append, hmu, hzm, htk]
        unfold InUnder
        simp only [List.mem_append, List.mem_singleton]
        constructor
        · rintro (⟨hd, hh, q⟩ | q)
          · exact ⟨hd, .inl hh, q⟩
          · exact ⟨x, .inr rfl, q⟩
        · rintro ⟨hd, hh | rfl, q⟩
          · exact .inl ⟨hd, hh, q⟩
          · exact .inr q
      · simp only [List.length_append]
        omega
    rintro f₁ m₁ mu₁ s₈ hs F₈ ⟨rfl, rfl, ws, k, unds, o5, o4, o3, o2, o1, v2, rfl, d5, d4, d3, d2, d1, hws, hmu, hlu⟩
    rw [qd] at hmu hlu
    rw [List.take_of_length_le (Nat.le_refl _)] at hmu
    have href : ∀ v ∈ va, ∃ a, v = .ref a := fun v hv => by
      obtain ⟨i, hi, rfl⟩ := List.mem_iff_getElem.mp hv
      obtain ⟨d, hd, hr⟩ := hva.get' (List.getElem?_eq_getElem hi)
      simp only [List.getElem?_map, Option.map_eq_some_iff] at hd
      obtain ⟨q, hq, rfl⟩ := hd
      obtain ⟨c, _, _, e, _⟩ := hr
      exact ⟨c, e⟩
    -- told = [..]
    refine wpAny_execs_cons <| wpAny_Assign_Name <| eComp (cl := [("under", L + 1 + 1 + 1), ("out", L + 1)]) (by with_unfolding_all rfl) <| ldL F₈ rfl ?_
    have hco : s₈.heap.IsCell (L + 1) (some (.ref r1)) := ⟨o1, (F₈.mus _ (.tail _ (.tail _ (.tail _ (.tail _ (.tail _ (.tail _ (.head _)))))))).1, d1⟩
    have hcu : s₈.heap.IsCell (L + 1 + 1 + 1) (some (.ref r2)) := ⟨o3, (F₈.mus _ (.tail _ (.tail _ (.tail _ (.tail _ (.head _)))))).1, d3⟩
    have hro : s₈.heap.get? r1 = some (listOf us.toArray n) := (F₈.mus _ (.tail _ (.head _))).1
    have hru : s₈.heap.get? r2 = some (listOf ws.toArray k) := (F₈.mus _ (.head _)).1
    refine compGo (items := va) (fun i ys f => f = {} ∧ All2 (VIs {}) ys (((asks.take i).map (dueOne ns fs ms ds)).map iDt)) R.handled (isL (F₈.keep _ _ ha')) (by omega) (.inr ⟨⟨_, _, _, rfl⟩, href⟩) (by decide) rfl ⟨rfl, .nil⟩ ?_ ?_
    · rintro E'' L₂ j v b₃ f₃ m₃ ys s₉ hv hb₃ hg₃ ho₃ F₉ ⟨rfl, hys⟩
      obtain ⟨d, hd, hr⟩ := hva.get' hv
      simp only [List.getElem?_map, Option.map_eq_some_iff] at hd
      obtain ⟨q, hq, rfl⟩ := hd
      obtain ⟨c, xn, xf, rfl, hT, ⟨tn, rfl⟩, hfi⟩ := hr
      have htk : asks.take (j + 1) = asks.take j ++ [q] := by rw [List.take_add_one, hq]; rfl
      have fin : ∀ {i : Int} {t : Tok}, i = dueOne ns fs ms ds q → All2 (VIs {}) (ys ++ [.int i t]) (((asks.take (j + 1)).map (dueOne ns fs ms ds)).map iDt) := fun e => by
        rw [htk, List.map_append, List.map_append]
        subst e
        exact hys.append (.cons ⟨_, rfl⟩ .nil)
      refine asPair R.handled F₉ (isTuple_mono (isTuple_mono hT (F₈.keep.trans hb₃)) F₉.keep) fun s₁₀ F₁₀ => wpAny_tests_nil ?_
      rw [if_pos rfl]
      have hro' := F₁₀.keep _ _ (hb₃ _ _ hro)
      have hru' := F₁₀.keep _ _ (hb₃ _ _ hru)
      refine wpAny_IfExp <| wpAny_isTrue_BoolOp <| wpAny_allTrue_Or_cons <| wpAny_isTrue_Compare1 <| ldL F₁₀ rfl <| ldCb ((hco.keeps hb₃).keeps F₁₀.keep) <| oInS hro' hus <| wpAny_truthy_bool ?_
      by_cases c1 : q.1 ∈ outs
      · rw [if_pos (by simpa using c1), if_pos rfl]
        refine kInt F₁₀ fun t₁₁ s₁₁ F₁₁ => ⟨{}, _, Sub.refl _, F₁₁, rfl, fin ?_⟩
        unfold dueOne
        rw [if_pos (.inl ((hmem _).mp c1))]
      · rw [if_neg (by simpa using c1)]
        refine wpAny_allTrue_Or_cons <| wpAny_isTrue_Compare1 <| ldL F₁₀ rfl <| wpAny_Constant_none <| is_none <| wpAny_truthy_bool ?_
        cases hqf : q.2 with
        | none =>
          rw [hqf] at hfi
          have : xf = .none := hfi
          subst this
          rw [if_pos (by decide), if_pos rfl]
          refine kInt F₁₀ fun t₁₁ s₁₁ F₁₁ => ⟨{}, _, Sub.refl _, F₁₁, rfl, fin ?_⟩
          unfold dueOne
          rw [if_pos (.inr (.inl hqf))]
        | some y =>
          rw [hqf] at hfi
          obtain ⟨ty, rfl⟩ := hfi
          rw [if_neg (by simp)]
          refine wpAny_allTrue_Or_cons <| wpAny_isTrue_Compare1 <| ldL F₁₀ rfl <| ldCb ((hcu.keeps hb₃).keeps F₁₀.keep) <| oInS hru' hws <| wpAny_truthy_bool ?_
          by_cases c2 : y ∈ unds
          · rw [if_pos (by simpa using c2), if_pos rfl]
            refine kInt F₁₀ fun t₁₁ s₁₁ F₁₁ => ⟨{}, _, Sub.refl _, F₁₁, rfl, fin ?_⟩
            unfold dueOne
            rw [if_pos (.inr (.inr ⟨y, hqf, (hmu _).mp c2⟩))]
          · rw [if_neg (by simpa using c2)]
            refine wpAny_allTrue_Or_nil ?_
            rw [if_neg (by decide)]
            refine kInt F₁₀ fun t₁₁ s₁₁ F₁₁ => ⟨{}, _, Sub.refl _, F₁₁, rfl, fin ?_⟩
            unfold dueOne
            rw [if_neg]
            rintro (e | e | ⟨y', e, e'⟩)
            · exact c1 ((hmem _).mpr e)
            · rw [hqf] at e; cases e
            · rw [hqf] at e; cases e
              exact c2 ((hmu _).mpr e')
    rintro ta ys nt f₃ f₃' s₉ ⟨rfl, hys⟩ hs₃ hta G₉ hly
    rw [List.take_of_length_le (by omega)] at hys
    obtain ⟨f₄, _, hj₄, F₉⟩ := F₈.join G₉
    replace hta := hj₄ _ _ hta
    clear hs₃ hj₄
    refine stC F₉ d4 (fun o' => .tail (.tail (.tail .head))) fun o4 s₁₀ d4 F₁₀ => ?_
    -- order = [..]
    refine wpAny_execs_cons <| wpAny_Assign_Name <| eComp (cl := []) (by with_unfolding_all rfl) <| ldL F₁₀ rfl ?_
    refine compGo (items := va) (fun i ys f => f = {} ∧ All2 (VIs {}) ys (((asks.take i).map (·.1)).map sDt)) R.handled (isL (F₁₀.keep _ _ ha')) (by omega) (.inr ⟨⟨_, _, _, rfl⟩, href⟩) (by decide) rfl ⟨rfl, .nil⟩ ?_ ?_
    · rintro E'' L₂ j v b₃ f₃ m₃ ys s₁₁ hv hb₃ hg₃ ho₃ F₁₁ ⟨rfl, hys⟩
      obtain ⟨d, hd, hr⟩ := hva.get' hv
      simp only [List.getElem?_map, Option.map_eq_some_iff] at hd
      obtain ⟨q, hq, rfl⟩ := hd
      obtain ⟨c, xn, xf, rfl, hT, ⟨tn, rfl⟩, hfi⟩ := hr
      have htk : asks.take (j + 1) = asks.take j ++ [q] := by rw [List.take_add_one, hq]; rfl
      refine asPair R.handled F₁₁ (isTuple_mono (isTuple_mono hT (F₁₀.keep.trans hb₃)) F₁₁.keep) fun s₁₂ F₁₂ => wpAny_tests_nil ?_
      rw [if_pos rfl]
      refine ldL F₁₂ rfl ⟨{}, _, Sub.refl _, F₁₂, rfl, ?_⟩
      rw [htk, List.map_append, List.map_append]
      exact hys.append (.cons ⟨_, rfl⟩ .nil)
    rintro oa zs no f₃ f₃' s₁₁ ⟨rfl, hzs⟩ hs₃ hoa G₁₁ hlz
    rw [List.take_of_length_le (by omega)] at hzs
    obtain ⟨f₅, hk₅, hj₅, F₁₁⟩ := F₁₀.join G₁₁
    replace hoa := hj₅ _ _ hoa
    replace hta := hk₅ _ _ hta
    clear hs₃ hj₅
    refine stC F₁₁ d5 (fun o' => .tail (.tail .head)) fun o5 s₁₂ d5 F₁₂ => ?_
    -- return [told[order.index(name)] for name in order]
    have hc4 : s₁₂.heap.IsCell (L + 1 + 1 + 1 + 1) (some (.ref ta)) := ⟨o4, (F₁₂.mus _ (.tail _ (.tail _ (.tail _ (.head _))))).1, d4⟩
    have hc5 : s₁₂.heap.IsCell (L + 1 + 1 + 1 + 1 + 1) (some (.ref oa)) := ⟨o5, (F₁₂.mus _ (.tail _ (.tail _ (.head _)))).1, d5⟩
    have hlz' : zs.length = asks.length := by simpa using hzs.length
    have hly' : ys.length = asks.length := by simpa using hys.length
    refine wpAny_execs_cons <| wpAny_Return_some <| eComp (cl := [("told", L + 1 + 1 + 1 + 1), ("order", L + 1 + 1 + 1 + 1 + 1)]) (by with_unfolding_all rfl) <| ldC F₁₂ (.tail _ (.tail _ (.head _))) d5 ?_
    refine compGo (items := zs) (fun i us f => f = {} ∧ All2 (VIs {}) us (((asks.take i).map fun q => dueOf ns fs ms ds asks q.1).map iDt)) R.handled (isL (F₁₂.sub _ _ hoa)) (by omega) (.inl fun _ _ => rfl) (by decide) rfl ⟨rfl, .nil⟩ ?_ ?_
    · rintro E'' L₂ i v b₃ f₃ m₃ us s₁₃ hv hb₃ hg₃ ho₃ F₁₃ ⟨rfl, hus'⟩
      obtain ⟨d, hd, hr⟩ := hzs.get' hv
      simp only [List.map_map, List.getElem?_map, Option.map_eq_some_iff] at hd
      obtain ⟨q, hq, rfl⟩ := hd
      obtain ⟨tn, rfl⟩ := hr
      have htk : asks.take (i + 1) = asks.take i ++ [q] := by rw [List.take_add_one, hq]; rfl
      obtain ⟨j, p, hp, hpn, hpf, hfind⟩ := find_first (n := q.1) ⟨q, List.mem_of_getElem? hq, rfl⟩
      have hjl := (List.getElem?_eq_some_iff.mp hp).1
      refine wpAny_assign_Name <| stL F₁₃ fun s₁₄ F₁₄ => wpAny_tests_nil ?_
      rw [if_pos rfl]
      have hoa' := F₁₄.keep _ _ (hb₃ _ _ (F₁₂.sub _ _ hoa))
      have hta' := hb₃ _ _ (F₁₂.sub _ _ hta)
      refine Subscript_ <| ldCb ((hc4.keeps hb₃).keeps F₁₄.keep) <| MethodCall_ <| ldCb ((hc5.keeps hb₃).keeps F₁₄.keep) <| gmL hoa' PySem.F.slot_list_index PySem.F.type_list_index <| callWith_method1 <| args_cons <| ldL F₁₄ rfl <| args_nil <|
        oIndexS (j := j) F₁₄ hoa' hzs (by simp [hp, hpn]) (fun i' hi' e => ?_) (by omega) fun t₁₅ s₁₅ F₁₅ => ?_
      · simp only [List.getElem?_map, Option.map_eq_some_iff] at e
        obtain ⟨p', hp', e⟩ := e
        exact hpf i' hi' p' hp' e
      obtain ⟨v, hv', tv, rfl⟩ := hys.get (i := j) (b := iDt (dueOne ns fs ms ds p)) (by simp [hp])
      refine oItem (isL (F₁₅.keep _ _ hta')) (by omega) (by omega) (by simpa using hv') ⟨{}, _, Sub.refl _, F₁₅, rfl, ?_⟩
      rw [htk, List.map_append, List.map_append]
      have e : dueOf ns fs ms ds asks q.1 = dueOne ns fs ms ds p := by unfold dueOf; rw [hfind]
      exact hus'.append (.cons ⟨tv, by show _ = Value.int (dueOf ns fs ms ds asks q.1) tv; rw [e]⟩ .nil)
    rintro ra us' nr f₃ f₃' s₁₃ ⟨rfl, hus'⟩ hs₃ hra G₁₃ hlu'
    rw [List.take_of_length_le (by omega)] at hus'
    obtain ⟨f₆, hk₆, hj₆, F₁₃⟩ := F₁₂.join G₁₃
    exact h ra f₆ s₁₃ F₁₃.fresh ⟨us', nr, hj₆ _ _ hra, ints_any hus'⟩
end
end Mine
end

section
namespace Mine

def normStep (acc : List Str) (c : Str) : List Str :=
  if c = "" ∨ c = "." then acc else if c ≠ ".." ∨ acc = [] ∨ acc.getLast? = some ".." then acc ++ [c] else acc.dropLast
def normParts (p : Str) : List Str := (Txt.split p "/").foldl normStep []
def normRes (p : Str) : Str := let r : Str := "" ++ Txt.join "/" (normParts p); if r.length ≠ 0 then r else "."
def pathOk (p : Str) : Bool := decide (p.length ≠ 0) && decide (p.length ≤ 1000) && decide ((Txt.slice p none (some 1)).cps.toList ≠ (("/" : Str)).cps.toList) && (Txt.split p "/").all (fun y => decide (y.length ≤ 1000)) && decide ((Txt.split p "/").length ≤ 1000) &&
  JoinOk "/" (normParts p) && decide ((Txt.join "/" (normParts p)).length ≤ 1000)

theorem str_len0 {x : Str} : x.length = 0 ↔ x = "" := by
  constructor
  · intro h
    obtain ⟨c⟩ := x
    have : c.size = 0 := h
    rw [Array.size_eq_zero_iff] at this
    subst this; decide +kernel
  · rintro rfl; decide +kernel

section
variable {prog : Program} {w : World} {A : Around} {E : Value → Shared → Prop} {b s : Shared} {f : Heap} {m : Str → Option Value} {mu : List (Addr × Obj)} {env : Env} {mean : ExcName → Option Value} {mg mb : Str → Option Value} {Q : Value → Shared → Prop}

theorem asTriple {a₁ a₂ a₃ : Str} {p₁ p₂ p₃ tp : Pos} {kk : Nat} {T : Addr} {x y z : Value} {Q : Unit → Shared → Prop} (hh : A.handled = none) (F : Fm b f env.locals m mu s) (ht : s.heap.IsTuple T #[x, y, z])
    (h : ∀ s', Fm b f env.locals (fun n => if n = a₃ then some z else if n = a₂ then some y else if n = a₁ then some x else m n) mu s' → Q () s')
    (h₁ : env.kindOf a₁ = some .local := by rfl) (h₂ : env.kindOf a₂ = some .local := by rfl) (h₃ : env.kindOf a₃ = some .local := by rfl) (hp : (env.scope.kind == .class || (env.scope.kind == .module && env.locals != env.globals)) = false := by rfl) :
    wpAny (model prog w) A (assign (.Tuple [.Name a₁ p₁, .Name a₂ p₂, .Name a₃ p₃] kk tp) env (.ref T)) Q E s := by
  refine wpAny_assign_Tuple hh ht rfl rfl fun h' he => ?_
  have F' : Fm b f env.locals m mu { s with heap := h' } := F.after (fun c o e => he c o (Nat.ne_of_lt (Heap.lt_size e)) e) rfl rfl
  show wpAny _ _ (assignInOrder [assign (.Name a₁ p₁) env, assign (.Name a₂ p₂) env, assign (.Name a₃ p₃) env] [x, y, z]) _ _ _
  refine assignInOrder_cons (wpAny_assign_Name (stL F' (fun s₁ F₁ => ?_) h₁ hp))
  refine assignInOrder_cons (wpAny_assign_Name (stL F₁ (fun s₂ F₂ => ?_) h₂ hp))
  refine assignInOrder_cons (wpAny_assign_Name (stL F₂ (fun s₃ F₃ => ?_) h₃ hp))
  exact assignInOrder_nil (h _ F₃)

theorem splitroot_spec {p : Str} {t : Tok} (hz : p.length ≤ 1000) (hp : (Txt.slice p none (some 1)).cps.toList ≠ (("/" : Str)).cps.toList) (C : Cx w mean mg mb s.heap) (R : Rm A 1)
    (h : ∀ a t₁ t₂ t₃ f s', Fresh s f s' → f.IsTuple a #[.str "" t₁, .str "" t₂, .str p t₃] → Q (.ref a) s') : wpAny (model prog w) A (call (.ref 42) [.str p t]) Q E s := by
  refine enter (binds := [("p", .str p t)]) C.X C.T.nolimit R.room (by k_is) (by k_is) (BindsTo.of_eq rfl) (locs rfl) ?_
  intro L s₁ F
  refine wpAny_execs_cons <| wpAny_Assign_Name <| kStr F fun t₂ s₂ F₂ => stL F₂ fun s₃ F₃ => ?_
  refine wpAny_execs_cons <| wpAny_Assign_Name <| kStr F₃ fun t₄ s₄ F₄ => stL F₄ fun s₅ F₅ => ?_
  refine wpAny_execs_cons <| wpAny_If <| wpAny_isTrue_Compare1 <| eSliceS <| ldL F₅ rfl <| kInt F₅ fun t₆ s₆ F₆ => ⟨p, _, 1, _, rfl, rfl, by omega, _, _, _, _, _, F₆, fun t₇ s₇ F₇ => ldL F₇ rfl <| PySem.P.ne_str <| wpAny_truthy_bool ?_⟩
  rw [if_pos (by simpa using hp)]
  refine wpAny_execs_cons <| wpAny_Return_some <| Tuple_ <| args_cons <| ldL F₇ rfl <| args_cons <| ldL F₇ rfl <| args_cons <| ldL F₇ rfl <| args_nil <| newTup F₇ (by simp) fun a f' s₈ hs F₈ hT => ?_
  exact h a _ _ _ f' s₈ F₈.fresh hT

theorem normpath0_spec {p : Str} {t : Tok} (hok : pathOk p = true) (C : Cx w mean mg mb s.heap) (R : Rm A 2)
    (h : ∀ t s', Fresh s {} s' → Q (.str (normRes p) t) s') : wpAny (model prog w) A (call (.ref 49) [.str p t]) Q E s := by
  simp only [pathOk, Bool.and_eq_true, decide_eq_true_eq, List.all_eq_true] at hok
  obtain ⟨⟨⟨⟨⟨⟨hp0, hp1⟩, hroot⟩, hall⟩, hnp⟩, hj⟩, hjl⟩ := hok
  refine enter (binds := [("path", .str p t)]) C.X C.T.nolimit R.room (by k_is) (by k_is) (BindsTo.of_eq rfl) (locs rfl) ?_
  intro L s₁ F
  refine wpAny_execs_cons <| wpAny_Assign_Name <| kStr F fun t₂ s₂ F₂ => stL F₂ fun s₃ F₃ => ?_
  refine wpAny_execs_cons <| wpAny_Assign_Name <| kStr F₃ fun t₄ s₄ F₄ => stL F₄ fun s₅ F₅ => ?_
  refine wpAny_execs_cons <| wpAny_Assign_Name <| kStr F₅ fun t₆ s₆ F₆ => stL F₆ fun s₇ F₇ => ?_
  refine wpAny_execs_cons <| wpAny_If <| wpAny_isTrue_Not <| wpAny_isTrue_value <| ldL F₇ rfl <| oTruthS F₇ (by omega) fun s₈ F₈ => ?_
  rw [if_neg (by simp [hp0])]
  refine wpAny_execs_nil ?_
  refine wpAny_execs_cons <| Assign_Tuple <| Call_ <| ldG F₈ C (by k_is) <| cDef C (by k_is) rfl <| args_cons <| ldL F₈ rfl <| args_nil ⟨F₈.keep, ?_⟩
  refine splitroot_spec hp1 hroot (C.mono F₈.keep) R.deeper fun a u₁ u₂ u₃ f₂ s₉ G₉ hT => ?_
  have F₉ := F₈.call G₉
  refine asTriple R.handled F₉ (isTuple_mono hT G₉.sub) fun s₁₀ F₁₀ => ?_
  refine wpAny_execs_cons <| wpAny_Assign_Name <| MethodCall_ <| ldL F₁₀ rfl <| PySem.GM.split <| callWith_method1 <| args_cons <| ldL F₁₀ rfl <| args_nil <| oSplit F₁₀ (by decide +kernel) (by omega) fun ca l s₁₁ hl F₁₁ => ?_
  obtain ⟨f₁, hf₁, hca, F₁₁⟩ := F₁₁.freeze
  refine stL F₁₁ fun s₁₂ F₁₂ => ?_
  refine wpAny_execs_cons <| wpAny_Assign_Name <| List_ <| args_nil <| newLst F₁₂ (by simp) fun r s₁₃ F₁₃ => stL F₁₃ fun s₁₄ F₁₄ => ?_
  refine wpAny_execs_cons <| wpAny_For <| ldL F₁₄ rfl <| ?_
  have hll : l.length = (Txt.split p "/").length := by rw [← hl]; simp
  refine loop_list (items := strValues l) (fun i f m mu => f = f₁ ∧ m "sep" = some (.str "/" t₂) ∧ m "dot" = some (.str "." t₄) ∧ m "dotdot" = some (.str ".." t₆) ∧ m "initial_slashes" = some (.str "" u₂) ∧ m "new_comps" = some (.ref r) ∧
      ∃ (us : List Value) (n : Nat) (ys : List Str), mu = [(r, listOf us.toArray n)] ∧ All2 (VIs {}) us (ys.map sDt) ∧ ys = ((Txt.split p "/").take i).foldl normStep [] ∧ ys.length ≤ i ∧ ∀ y ∈ ys, y.length ≤ 1000)
    R.handled F₁₄ (.inr (isL hca)) ⟨rfl, rfl, rfl, rfl, rfl, rfl, [], 0, [], rfl, .nil, rfl, Nat.le_refl _, fun _ hy => nomatch hy⟩ ?_ ?_
  · rintro E' i v b₁ f₃ m₁ mu₁ s₁₅ hv hb hg ho hs F₁₅ ⟨rfl, es, ed, ee, ei, en, us, n, ys, rfl, hus, hys, hyl, hyz⟩
    obtain ⟨d, hd, hr⟩ := (strValues_all {} l).get' hv
    rw [hl] at hd
    simp only [List.getElem?_map, Option.map_eq_some_iff] at hd
    obtain ⟨c, hc, rfl⟩ := hd
    obtain ⟨tc, rfl⟩ := hr
    have hcz := hall c (List.mem_of_getElem? hc)
    have hit : i < (Txt.split p "/").length := (List.getElem?_eq_some_iff.mp hc).1
    have htk : ((Txt.split p "/").take (i + 1)).foldl normStep [] = normStep ys c := by rw [List.take_add_one, hc, hys]; simp
    have hlu : us.length = ys.length := by simpa using hus.length
    refine wpAny_assign_Name <| stL F₁₅ fun s₁₆ F₁₆ => ?_
    refine wpAny_execs_cons <| wpAny_If <| wpAny_isTrue_BoolOp <| wpAny_allTrue_Or_cons <| wpAny_isTrue_Not <| wpAny_isTrue_value <| ldL F₁₆ rfl <| oTruthS F₁₆ (by omega) fun s₁₇ F₁₇ => ?_
    by_cases c0 : c.length = 0
    · rw [if_pos (by simp [c0]), if_pos rfl]
      refine wpAny_execs_cons <| wpAny_Continue ⟨_, _, _, Sub.refl _, F₁₇, rfl, es, ed, ee, ei, en, us, n, ys, rfl, hus, ?_, by omega, hyz⟩
      rw [htk, normStep, if_pos (.inl (str_len0.mp c0))]
    rw [if_neg (by simp [c0])]
    refine wpAny_allTrue_Or_cons <| wpAny_isTrue_Compare1 <| ldL F₁₇ rfl <| ldL F₁₇ ed <| PySem.P.eq_str <| wpAny_truthy_bool ?_
    by_cases c1 : c = "."
    · rw [if_pos (str_eq_iff.mpr c1), if_pos rfl]
      refine wpAny_execs_cons <| wpAny_Continue ⟨_, _, _, Sub.refl _, F₁₇, rfl, es, ed, ee, ei, en, us, n, ys, rfl, hus, ?_, by omega, hyz⟩
      rw [htk, normStep, if_pos (.inr c1)]
    rw [if_neg (fun e => c1 (str_eq_iff.mp e))]
    refine wpAny_allTrue_Or_nil ?_
    rw [if_neg (by decide)]
    refine wpAny_execs_nil ?_
    have hns : normStep ys c = if c ≠ ".." ∨ ys = [] ∨ ys.getLast? = some ".." then ys ++ [c] else ys.dropLast := by
      rw [normStep, if_neg]
      rintro (e | e)
      · exact c0 (str_len0.mpr e)
      · exact c1 e
    refine wpAny_execs_cons <| wpAny_If <| wpAny_mono (Q := fun tt s' => tt = decide (c ≠ ".." ∨ ys = [] ∨ ys.getLast? = some "..") ∧ Fm b₁ f₃ L (fun y => if y = "comp" then some (.str c tc) else m₁ y) [(r, listOf us.toArray n)] s') ?_ ?_ fun _ _ e => e
    · refine wpAny_isTrue_BoolOp <| wpAny_allTrue_Or_cons <| wpAny_isTrue_Compare1 <| ldL F₁₇ rfl <| ldL F₁₇ ee <| PySem.P.ne_str <| wpAny_truthy_bool ?_
      by_cases c2 : c = ".."
      · subst c2
        rw [if_neg (by simp)]
        refine wpAny_allTrue_Or_cons <| wpAny_isTrue_BoolOp <| wpAny_allTrue_And_cons <| wpAny_isTrue_Not <| wpAny_isTrue_value <| ldL F₁₇ ei <| oTruthS F₁₇ (by decide +kernel) fun s₁₈ F₁₈ => ?_
        rw [if_pos (by decide +kernel)]
        refine wpAny_allTrue_And_cons <| wpAny_isTrue_Not <| wpAny_isTrue_value <| ldL F₁₈ en <| truthyL F₁₈ (isL (F₁₈.mus _ (.head _)).1) (by omega) fun s₁₉ F₁₉ => ?_
        rcases List.eq_nil_or_concat ys with rfl | ⟨zs, z, rfl⟩
        · cases hus
          rw [if_pos (by simp)]
          refine wpAny_allTrue_And_nil ?_
          rw [if_pos rfl]
          exact ⟨by simp, F₁₉⟩
        · have hne : us ≠ [] := by intro e; rw [e] at hlu; simp at hlu
          rw [if_neg (by simp [hne]), if_neg (by decide)]
          refine wpAny_allTrue_Or_cons <| wpAny_isTrue_BoolOp <| wpAny_allTrue_And_cons <| wpAny_isTrue_value <| ldL F₁₉ en <| truthyL F₁₉ (isL (F₁₉.mus _ (.head _)).1) (by omega) fun s₂₀ F₂₀ => ?_
          rw [if_pos (by simpa using hne)]
          obtain ⟨us', u', rfl⟩ : ∃ us' u', us = us' ++ [u'] := by
            rcases List.eq_nil_or_concat us with e | ⟨a, b, e⟩
            · exact absurd e hne
            · exact ⟨a, b, by simpa using e⟩
          obtain ⟨v, hv', tv, rfl⟩ := hus.get (i := us'.length) (b := sDt z) (by
            have e : us'.length = zs.length := by simpa using hlu
            simp [e])
          have : u' = .str z tv := by simpa using hv'
          subst this
          refine wpAny_allTrue_And_cons <| wpAny_isTrue_Compare1 <| Subscript_ <| ldL F₂₀ en <| wpAny_UnaryOp <| kInt F₂₀ fun t₂₁ s₂₁ F₂₁ => neg_int ?_
          refine oNegItem (isL ((F₂₁.tok _).mus _ (.head _)).1) <| ldL (F₂₁.tok _) ee <| PySem.P.eq_str <| wpAny_truthy_bool ?_
          by_cases c3 : z = ".."
          · rw [if_pos (str_eq_iff.mpr c3)]
            refine wpAny_allTrue_And_nil ?_
            rw [if_pos rfl]
            exact ⟨by simp [c3], F₂₁.tok _⟩
          · rw [if_neg (fun e => c3 (str_eq_iff.mp e)), if_neg (by decide)]
            refine wpAny_allTrue_Or_nil ?_
            exact ⟨by simp [c3], F₂₁.tok _⟩
      · rw [if_pos (by
          have : ¬ (c.cps.toList == (PySem.Str.ofString "..").cps.toList) = true := fun e => c2 (str_eq_iff.mp e)
          simpa [bne] using this)]
        exact ⟨by simp [c2], F₁₇⟩
    rintro tt s₁₈ ⟨rfl, F₁₈⟩
    by_cases hcond : c ≠ ".." ∨ ys = [] ∨ ys.getLast? = some ".."
    · rw [if_pos hcond] at hns
      rw [if_pos (by simpa using hcond)]
      refine wpAny_execs_cons <| wpAny_Expr <| MethodCall_ <| ldL F₁₈ en <| gmL (F₁₈.mus _ (.head _)).1 PySem.F.slot_list_append PySem.F.type_list_append <| callWith_method1 <| args_cons <| ldL F₁₈ rfl <| args_nil <| lstAppend F₁₈ .head (by rw [sizeLine_eq]; omega) fun s₁₉ F₁₉ => ?_
      refine wpAny_execs_nil <| wpAny_execs_nil ⟨_, _, _, Sub.refl _, F₁₉, rfl, es, ed, ee, ei, en, _, _, ys ++ [c], rfl, ?_, by rw [htk, hns], by simp; omega, fun y hy => ?_⟩
      · rw [List.map_append]
        exact hus.append (.cons ⟨_, rfl⟩ .nil)
      · rcases List.mem_append.mp hy with hy | hy
        · exact hyz y hy
        · rw [List.mem_singleton.mp hy]; exact hcz
    · rw [if_neg hcond] at hns
      rw [if_neg (by simpa using hcond)]
      have hy0 : ys ≠ [] := fun e => hcond (.inr (.inl e))
      have hne : us ≠ [] := by intro e; rw [e] at hlu; exact hy0 (by simpa using hlu.symm)
      refine wpAny_execs_cons <| wpAny_If <| wpAny_isTrue_value <| ldL F₁₈ en <| truthyL F₁₈ (isL (F₁₈.mus _ (.head _)).1) (by omega) fun s₁₉ F₁₉ => ?_
      rw [if_pos (by simpa using hne)]
      obtain ⟨us', u', rfl⟩ : ∃ us' u', us = us' ++ [u'] := by
        rcases List.eq_nil_or_concat us with e | ⟨a, b, e⟩
        · exact absurd e hne
        · exact ⟨a, b, by simpa using e⟩
      refine wpAny_execs_cons <| wpAny_Expr <| MethodCall_ <| ldL F₁₉ en <| gmL (F₁₉.mus _ (.head _)).1 PySem.F.slot_list_pop PySem.F.type_list_pop <| ?_
      have hdl : us'.length = ys.length - 1 := by simp at hlu; omega
      have hus' : All2 (VIs {}) us' (ys.dropLast.map sDt) := by
        have q := hus.take us'.length
        rw [← List.map_take, hdl, ← List.dropLast_eq_take, ← hdl] at q
        simpa using q
      refine lstPop F₁₉ .head (by simp at hlu; omega) fun s₂₀ F₂₀ => ?_
      obtain ⟨d, hd, hr⟩ := hus.get' (i := us'.length) (a := u') (by simp)
      simp only [List.getElem?_map, Option.map_eq_some_iff] at hd
      obtain ⟨z, _, rfl⟩ := hd
      obtain ⟨tz, rfl⟩ := hr
      refine wpAny_execs_nil <| wpAny_execs_nil <| wpAny_execs_nil ⟨_, _, _, Sub.refl _, F₂₀, rfl, es, ed, ee, ei, en, _, _, ys.dropLast, rfl, hus', by rw [htk, hns], by simp; omega, fun y hy => hyz y (List.dropLast_subset _ hy)⟩
  · rintro f₃ m₁ mu₁ s₁₅ hs F₁₅ ⟨rfl, es, ed, ee, ei, en, us, n, ys, rfl, hus, hys, hyl, hyz⟩
    have hys' : ys = normParts p := by
      rw [hys, List.take_of_length_le (by simp [strValues]; omega)]; rfl
    subst hys'
    refine wpAny_execs_cons <| wpAny_Assign_Name <| ldL F₁₅ en <| stL F₁₅ fun s₁₆ F₁₆ => ?_
    refine wpAny_execs_cons <| wpAny_Assign_Name <| wpAny_BinOp <| ldL F₁₆ ei <| MethodCall_ <| ldL F₁₆ es <| PySem.GM.join <| callWith_method1 <| args_cons <| ldL F₁₆ rfl <| args_nil <| oJoin F₁₆ (isL (F₁₆.mus _ (.head _)).1) hus hj fun t₁₇ s₁₇ F₁₇ => ?_
    have l0 : (PySem.Str.ofString "").length = 0 := rfl
    refine oCat F₁₇ (by omega) fun t₁₈ s₁₈ F₁₈ => stL F₁₈ fun s₁₉ F₁₉ => ?_
    refine wpAny_execs_cons <| wpAny_Return_some <| wpAny_Or2 <| ldL F₁₉ rfl <| oTruthS F₁₉ (by rw [PySem.Str.length_append]; omega) fun s₂₀ F₂₀ => ?_
    have hres : normRes p = if (PySem.Str.ofString "" ++ Txt.join "/" (normParts p)).length ≠ 0 then PySem.Str.ofString "" ++ Txt.join "/" (normParts p) else "." := rfl
    by_cases hr : (PySem.Str.ofString "" ++ Txt.join "/" (normParts p)).length ≠ 0
    · rw [if_pos (by simpa using hr)]
      rw [if_pos hr] at hres
      have := h t₁₈ s₂₀ F₂₀.fresh0
      rw [hres] at this
      exact this
    · rw [if_neg (by simpa using hr)]
      rw [if_neg hr] at hres
      refine ldL F₂₀ ed ?_
      have := h t₄ s₂₀ F₂₀.fresh0
      rw [hres] at this
      exact this
end
end Mine
end

section
namespace Mine

theorem good_all : ∀ h ∈ dHead, ∀ t ∈ dTail, ∀ c ∈ ([h ++ t, "./" ++ (h ++ t), h ++ t ++ "/", "a/../" ++ (h ++ t), Txt.replace (h ++ t) "/" "//", h ++ t ++ "/."] : List Str), pathOk c = true ∧ normRes c = h ++ t ∧ (h ++ t).length ≤ 3 := by
  decide +kernel
theorem Good.path {p c : Str} (g : Good p c) : pathOk c = true ∧ normRes c = p ∧ p.length ≤ 3 := by
  obtain ⟨h, hh, t, ht, rfl, hc⟩ := g
  exact good_all h hh t ht c hc

section
variable {prog : Program} {w : World} {A : Around} {E : Value → Shared → Prop} {b s : Shared} {f : Heap} {m : Str → Option Value} {mu : List (Addr × Obj)} {env : Env} {mean : ExcName → Option Value} {mg mb : Str → Option Value} {Q : Value → Shared → Prop} {L : Addr} {K : Frag}

theorem is_type {M : Model} {T : String} (h : Q (.bool true) s) : wpAny M A (compareOp .Is (.type T) (.type T)) Q E s := by
  show wpAny M A (do return .bool (← isSame (.type T) (.type T))) Q E s
  have e : isSame (.type T) (.type T) = pure true := by
    show (pure (Value.type T == Value.type T) : Sem Bool) = _
    simp
  rw [e]
  exact wpAny_bind (wpAny_pure (wpAny_pure h))

theorem kind_spec {x y : Str} {t u : Tok} (C : Cx w mean mg mb s.heap) (R : Rm A 1) (h : ∀ t s', Fresh s {} s' → Q (.str "" t) s') : wpAny (model prog w) A (call (.ref 28) [.str y u, .str x t]) Q E s := by
  refine enter (binds := [("name", .str y u), ("x", .str x t)]) C.X C.T.nolimit R.room (by k_is) (by k_is) (BindsTo.of_eq rfl) (locs rfl) ?_
  intro L s₁ F
  refine wpAny_execs_cons <| wpAny_Assign_Name <| Call_ <| ldB F C (by k_is) (v := .type "type") (by decide +kernel) <| PyProof.Rows.callWith_type1 <| args_cons <| ldL F rfl <| args_nil <| call_type_of (typeIs_str _ _ _) (by decide) <| stL F fun s₂ F₂ => ?_
  refine wpAny_execs_cons <| wpAny_If <| wpAny_isTrue_Compare1 <| ldL F₂ rfl <| ldB F₂ C (by k_is) (v := .type "str") (by decide +kernel) <| is_type <| wpAny_truthy_bool ?_
  rw [if_pos rfl]
  refine wpAny_execs_cons <| wpAny_Return_some <| kStr F₂ fun t₃ s₃ F₃ => ?_
  exact h _ _ F₃.fresh0

theorem truthyD0 {d : Addr} {o : Obj} {Q : Bool → Shared → Prop} (F : Fm b f L m mu s) (hd : s.heap.get? d = some o) (ho : o = { cls := .type "dict", data := .dict #[] }) (hlo : (d == sysModules) = false) (h : ∀ s', Fm b f L m mu s' → Q false s') :
    wpAny (model prog w) A (truthy (.ref d)) Q E s := by
  subst ho
  refine wpAny_truthy_dict (knd := strKind prog w) (kvs := []) hlo ⟨_, _, _, hd, ⟨rfl, rfl, rfl⟩, rfl, fun e he => by simp at he, .nil, .nil⟩ (by decide) (h _ (F.tok _))

theorem cpath_spec {x y z a : Str} {t u v r : Tok} {T D : Addr} (hT : s.heap.IsTuple T #[.str x t]) (hD : s.heap.get? D = some { cls := .type "dict", data := .dict #[] }) (hlo : (D == sysModules) = false) (C : Cx w mean mg mb s.heap) (R : Rm A 2)
    (h : ∀ t s', Fresh s {} s' → Q (.str x t) s') : wpAny (model prog w) A (call (.ref 35) [.str y u, .str z v, .str a r, .ref T, .ref D]) Q E s := by
  refine enter (binds := [("name", .str y u), ("cname", .str z v), ("argname", .str a r), ("args", .ref T), ("kwargs", .ref D)]) C.X C.T.nolimit R.room (by k_is) (by k_is) (BindsTo.of_eq rfl) (locs rfl) ?_
  intro L s₁ F
  refine wpAny_execs_cons <| wpAny_If <| wpAny_isTrue_BoolOp <| wpAny_allTrue_And_cons <| wpAny_isTrue_Compare1 <| Call_ <| ldB F C (by k_is) bootS_len <| callWith_builtin1 <| args_cons <| ldL F rfl <| args_nil <|
    oLenT (vs := [.str x t]) F (isTuple_mono hT F.keep) (by simp) fun t₂ s₂ F₂ => kInt F₂ fun t₃ s₃ F₃ => eq_int <| wpAny_truthy_bool ?_
  rw [if_pos (by simp)]
  refine wpAny_allTrue_And_cons <| wpAny_isTrue_Not <| wpAny_isTrue_value <| ldL F₃ rfl <| truthyD0 F₃ (F₃.keep _ _ hD) rfl hlo fun s₄ F₄ => ?_
  rw [if_pos (by decide)]
  refine wpAny_allTrue_And_nil ?_
  rw [if_pos rfl]
  refine wpAny_execs_cons <| wpAny_Assign_Name <| Subscript_ <| ldL F₄ rfl <| kInt F₄ fun t₅ s₅ F₅ => oItemT (vs := [.str x t]) (isTuple_mono hT F₅.keep) (by decide) (by decide) rfl <| stL F₅ fun s₆ F₆ => wpAny_execs_nil ?_
  refine wpAny_execs_cons <| wpAny_Assign_Name <| Call_ <| ldG F₆ C (by k_is) <| cDef C (by k_is) rfl <| args_cons <| ldL F₆ rfl <| args_cons <| ldL F₆ rfl <| args_nil ⟨F₆.keep, ?_⟩
  refine kind_spec (C.mono F₆.keep) R.deeper fun t₇ s₇ G₇ => ?_
  have F₇ := F₆.call G₇
  refine stL F₇ fun s₈ F₈ => ?_
  refine wpAny_execs_cons <| wpAny_If <| wpAny_isTrue_value <| ldL F₈ rfl <| oTruthS F₈ (by decide +kernel) fun s₉ F₉ => ?_
  rw [if_neg (by decide +kernel)]
  refine wpAny_execs_nil <| wpAny_execs_cons <| wpAny_Return_some <| ldL F₉ rfl ?_
  exact h _ _ F₉.fresh0

theorem enterStar {name qual : Str} {params : Arguments} {body : List Stmt} {scope : Scope} {dV kV doc pm cdv ct oc : Value} {an od : Option Addr} {osl : Array (Option Value)} {fn : Addr} {args : List Value} {va ka : Str}
    (X : K.In s.heap) (hlim : s.heap.NoLimit) (hroom : A.depth < recursionLimit)
    (ho : K.lookup fn = some ⟨oc, od, .func (fnOf name qual params body scope dV kV doc pm an cdv ct), osl⟩) (hcd : codeIn K cdv qual = true)
    (hbind : bindArgs (fnOf name qual params body scope dV kV doc pm an cdv ct) ⟨args, []⟩ = (newTuple args >>= fun T => alloc { cls := .type "dict", data := .dict #[] } >>= fun D => pure [(va, T), (ka, .ref D)]))
    (hva : scope.names.lookup va = some .local) (hka : scope.names.lookup ka = some .local) (hz : args.length ≤ 100000)
    (h : ∀ T D L s₀ s₁, Fresh s {} s₀ → s₀.heap.IsTuple T args.toArray → s₀.heap.get? D = some { cls := .type "dict", data := .dict #[] } → (D == sysModules) = false → Fm s₀ {} L (fun x => [(va, Value.ref T), (ka, .ref D)].reverse.lookup x) [] s₁ →
      wpAny (model prog w) (A.deeper (envOf qual scope L fn cdv)) (execs body (envOf qual scope L fn cdv)) (fun fl s' => Q (match fl with | .ret v => v | _ => .none) s') (fun _ _ => False) s₁)
    (hco : scope.isCoroutine = false := by rfl) (hgen : scope.isGenerator = false := by rfl) (hk : scope.kind = .function := by rfl) (hcell : ∀ x ∈ scope.names, x.2 ≠ .cell := by decide) :
    wpAny (model prog w) A (call (.ref fn) args) Q E s := by
  refine wpAny_call (codeAny_call_function (fd := fnOf name qual params body scope dV kV doc pm an cdv ct) (body := body) hroom (X _ _ ho) rfl hco hgen rfl (codeRec_of X hcd) ?_)
  rw [hbind]
  refine wpAny_bind (wpAny_newObj_type ?_ (by show args.toArray.size ≤ sizeLine; rw [List.size_toArray, sizeLine_eq]; omega))
  refine wpAny_bind (wpAny_alloc (wpAny_pure ?_))
  have low := modules_low hlim
  generalize hT : s.heap.objs.size = T
  generalize hH : s.heap.push { cls := .type "tuple", dict := none, data := .seq args.toArray } = H
  have k1 : Sub s.heap H := fun a o e => hH ▸ Heap.get?_push_of_some _ e
  have hTs : H.get? T = some { cls := .type "tuple", dict := none, data := .seq args.toArray } := by rw [← hH, ← hT]; exact Heap.get?_push_size _ rfl
  have hHs : H.objs.size = T + 1 := by rw [← hH, Heap.size_push, hT]
  dsimp only
  generalize hD : H.objs.size = D
  generalize hH2 : H.push { cls := .type "dict", data := .dict #[] } = H2
  have k2 : Sub H H2 := fun a o e => hH2 ▸ Heap.get?_push_of_some _ e
  have hDs : H2.get? D = some { cls := .type "dict", data := .dict #[] } := by rw [← hH2, ← hD]; exact Heap.get?_push_size _ rfl
  have hne : (D == sysModules) = false := by
    have : sysModules < D := by
      have q : (sysModules : Nat) < T := by rw [← hT]; exact low
      have q' : D = T + 1 := by rw [← hD]; exact hHs
      rw [q']
      exact Nat.lt_succ_of_lt q
    exact beq_eq_false_iff_ne.mpr (Nat.ne_of_gt this)
  refine wpAny_newFunctionEnv hcell (fun x hx => ?_) (fun h₁ hns hsb => ⟨?_, codeAny_func ?_⟩) hk
  · simp only [List.mem_cons, List.not_mem_nil, or_false] at hx
    rcases hx with rfl | rfl
    · exact hva
    · exact hka
  · exact ((hlim.keeps k1).keeps k2).fresh _ hsb
  have hk₁ : Sub H2 h₁ := fun a o e => hsb.extBut a o (Nat.ne_of_lt (Heap.lt_size e)) (Heap.get?_push_of_some _ e)
  have no : H2.get? H2.objs.size = none := by
    cases q : H2.get? H2.objs.size with
    | none => rfl
    | some o' => exact absurd (Heap.lt_size q) (Nat.lt_irrefl _)
  refine wpAny_mono (h T D H2.objs.size { s with heap := H2 } _ ⟨rfl, rfl, k1.trans k2, emp_sub _, (fun c o e => by rw [empty_get] at e; cases e)⟩ ⟨_, k2 _ _ hTs, rfl, _, rfl⟩ hDs hne
    ⟨rfl, rfl, hns, hk₁, emp_sub _, no, empty_get _, (fun c o e => by rw [empty_get] at e; cases e), (fun _ hp => nomatch hp), .nil⟩) (fun _ _ x => x) fun _ _ x => x.elim

theorem normpath_spec {x : Str} {t : Tok} (hok : pathOk x = true) (C : Cx w mean mg mb s.heap) (R : Rm A 4)
    (h : ∀ t s', Fresh s {} s' → Q (.str (normRes x) t) s') : wpAny (model prog w) A (call (.ref 56) [.str x t]) Q E s := by
  refine enterStar (va := "args") (ka := "kwargs") C.X C.T.nolimit R.room (by k_is) (by k_is) (by with_unfolding_all rfl) rfl rfl (by simp) ?_
  intro T D L s₀ s₁ G₀ hT hD hlo F
  have C₀ : Cx w mean mg mb s₀.heap := C.mono G₀.keep
  refine wpAny_execs_cons <| wpAny_Return_some <| Call_ <| ldG F C₀ (by k_is) <| cDef C₀ (by k_is) rfl <| args_cons <| Call_ <| ldG F C₀ (by k_is) <| cDef C₀ (by k_is) rfl <| args_cons <| kStr F fun t₁ s₂ F₂ => args_cons <| kStr F₂ fun t₂ s₃ F₃ => args_cons <| kStr F₃ fun t₃ s₄ F₄ =>
    args_cons <| ldL F₄ rfl <| args_cons <| ldL F₄ rfl <| args_nil ⟨F₄.keep, ?_⟩
  refine cpath_spec (isTuple_mono hT F₄.keep) (F₄.keep _ _ hD) hlo (C₀.mono F₄.keep) (R.deeper.less (by decide)) fun t₅ s₅ G₅ => ?_
  have F₅ := F₄.call G₅
  refine args_nil ⟨F₅.keep, ?_⟩
  refine normpath0_spec hok (C₀.mono F₅.keep) (R.deeper.less (by decide)) fun t₆ s₆ G₆ => ?_
  have F₆ := (F₅.call G₆).fresh0
  exact h _ _ ⟨F₆.gens.trans G₀.gens, F₆.os.trans G₀.os, G₀.keep.trans F₆.keep, emp_sub _, (fun c o e => by rw [empty_get] at e; cases e)⟩
end
end Mine
end

section
namespace Mine

theorem layNew_led (t : SetTable) (es : Array (Int × Value)) (h : Int) (x : Value) : (layNew t es h x).2.1.led = t.led := by
  unfold layNew
  split
  · simp only [SetTable.orStandIn, SetTable.standIn, SetTable.put]
    (repeat' split) <;> rfl
  · rfl
theorem layNew_plain {t : SetTable} (es : Array (Int × Value)) (h : Int) (x : Value) (hp : t.plain = false) : (layNew t es h x).2.1.plain = false := by
  unfold layNew
  split
  · simp only [SetTable.orStandIn, SetTable.standIn, SetTable.put]
    (repeat' split) <;> first | exact hp | rfl
  · rfl
theorem relaid_keeps {t t' : SetTable} {hs : Array Int} {k : Nat} {o : Array Nat} (e : t.relaid hs k = some (t', o)) : t'.led = t.led ∧ t'.plain = t.plain := by
  unfold SetTable.relaid SetTable.laid at e
  cases q : SetTable.layClean (SetTable.sizeAbove k - 1) hs with
  | none => rw [q] at e; cases e
  | some ow =>
    rw [q] at e
    cases e
    exact ⟨rfl, rfl⟩
theorem relayAll_led (t : SetTable) (es : Array (Int × Value)) (k : Nat) : (relayAll t es k).2.1.led = t.led := by
  unfold relayAll
  split
  · rename_i t' order q
    dsimp only
    split
    · exact (relaid_keeps q).1
    · rfl
  · rfl
theorem relayAll_plain {t : SetTable} (es : Array (Int × Value)) (k : Nat) (hp : t.plain = false) : (relayAll t es k).2.1.plain = false := by
  unfold relayAll
  split
  · rename_i t' order q
    dsimp only
    split
    · exact (relaid_keeps q).2.trans hp
    · rfl
  · rfl

/-- a set of texts -/
def SetS (prog : Program) (w : World) (o : Obj) (S : Str → Prop) (n : Nat) : Prop :=
  o.ExactSet ∧ ∃ es ep t, o.data = .set es ep t ∧ ElemsOf (strKind prog w) es.toList ∧ (∀ x, S x ↔ ∃ e ∈ es.toList, (strKind prog w).is x e.2 = true) ∧ t.fits es.size = true ∧ es.size ≤ n ∧
    (w.params.followText "set-order" = false → t.led = true) ∧ (es.size ≠ 0 → t.plain = false)

section
variable {prog : Program} {w : World} {A : Around} {E : Value → Shared → Prop} {s : Shared}

theorem SetS.setOf {o : Obj} {S : Str → Prop} {n : Nat} {h : Heap} {a : Addr} (x : SetS prog w o S n) (ho : h.get? a = some o) (hn : n < 4000) : ∃ (B : Str → Bool) (k : Nat), h.SetOf (strKind prog w) a B k ∧ ∀ y, B y = true ↔ S y := by
  classical
  obtain ⟨hex, es, ep, t, hd, hel, hm, hf, hz, _, _⟩ := x
  exact ⟨fun y => decide (S y), es.size, ⟨o, es, ep, t, ho, hex, hd, hel, fun k => by rw [decide_eq_true_eq]; exact hm k, by unfold scanBound; omega, hf, rfl⟩, fun y => decide_eq_true_iff⟩

/-- one text more -/
theorem setAdd_s {a : Addr} {o : Obj} {S : Str → Prop} {n : Nat} {x : Str} {u : Tok} {Q : Bool → Shared → Prop} (ho : s.heap.get? a = some o) (hS : SetS prog w o S n) (hn : n < 3000)
    (h : ∀ r o' h', h'.get? a = some o' → Heap.SameBut a s.heap h' → SetS prog w o' (fun y => S y ∨ y = x) (n + 1) → Q r { s with heap := h', toks := s.toks + 1 }) :
    wpAny (model prog w) A (setAdd a (.str x u)) Q E s := by
  have hkey := strKind_is prog w x u
  have hsc : (Value.str x u).scannable = true := rfl
  unfold setAdd
  refine wpAny_holding (wpAny_bind ((strKind prog w).pyHash (k := x) hkey ?_))
  replace h : ∀ r o' h', h'.get? a = some o' → Heap.SameBut a s.heap h' → SetS prog w o' (fun y => S y ∨ y = x) (n + 1) → Q r { ({ s with toks := s.toks + 1 } : Shared) with heap := h' } := h
  have ho' : ({ s with toks := s.toks + 1 } : Shared).heap.get? a = some o := ho
  replace h : ∀ r o' h', h'.get? a = some o' → Heap.SameBut a ({ s with toks := s.toks + 1 } : Shared).heap h' → SetS prog w o' (fun y => S y ∨ y = x) (n + 1) → Q r { ({ s with toks := s.toks + 1 } : Shared) with heap := h' } := h
  clear ho
  generalize ({ s with toks := s.toks + 1 } : Shared) = s at ho' h ⊢
  obtain ⟨hex, es, ep, t, hd, hel, hmem, hf, hz, hled, hpl⟩ := hS
  have hb : es.size < scanBound := by unfold scanBound; omega
  unfold setAddHashed setAddHashedIn
  refine wpAny_holding (wpAny_bind (wpAny_setState_of ho' hd hf ?_))
  dsimp only
  rw [byScan_of hsc hb hel]
  simp only [↓reduceIte]
  unfold setAddByScan
  refine wpAny_bind (wpAny_bind (wpAny_rule (wpAny_bind (wpAny_setScan_of hkey ho' hd hf hel ?_))))
  cases hr : List.findIdx? (fun e => (strKind prog w).is x e.2) es.toList with
  | some j =>
    dsimp only
    obtain ⟨hj, hpj, _⟩ := List.findIdx?_eq_some_iff_getElem.mp hr
    have hSk : S x := (hmem x).mpr ⟨es.toList[j], List.getElem_mem hj, hpj⟩
    refine wpAny_pure (wpAny_pure ?_)
    refine h false o s.heap ho' (Heap.SameBut.refl a s.heap) ⟨hex, es, ep, t, hd, hel, fun y => ?_, hf, by omega, hled, hpl⟩
    rw [← hmem y]
    exact ⟨fun q => q.elim id fun e => e ▸ hSk, .inl⟩
  | none =>
    dsimp only
    have hperm := layNew_perm t es ((strKind prog w).hash x) (.str x u)
    have hfits := layNew_fits t es ((strKind prog w).hash x) (.str x u)
    have hl1 := layNew_led t es ((strKind prog w).hash x) (.str x u)
    have hp1 := fun q => layNew_plain (t := t) es ((strKind prog w).hash x) (.str x u) q
    generalize hL : layNew t es ((strKind prog w).hash x) (.str x u) = L at hperm hfits hl1 hp1 ⊢
    obtain ⟨es1, t1, wasDummy, gave⟩ := L
    dsimp only at hperm hfits hl1 hp1 ⊢
    rw [Array.toList_push] at hperm
    have hel1 : ElemsOf (strKind prog w) es1.toList := (hel.push hkey hsc).perm hperm
    have hmem1 : ∀ y, (S y ∨ y = x) ↔ ∃ e ∈ es1.toList, (strKind prog w).is y e.2 = true := fun y => by
      rw [hmem y]
      constructor
      · rintro (⟨e, he, q⟩ | rfl)
        · exact ⟨e, hperm.mem_iff.mpr (List.mem_append_left _ he), q⟩
        · exact ⟨_, hperm.mem_iff.mpr (List.mem_append_right _ (List.mem_singleton.mpr rfl)), hkey⟩
      · rintro ⟨e, he, q⟩
        rcases List.mem_append.mp (hperm.mem_iff.mp he) with he | he
        · exact .inl ⟨e, he, q⟩
        · rw [List.mem_singleton] at he; subst he
          exact .inr ((strKind prog w).inj _ y x q hkey)
    have hsz1 : es1.size = es.size + 1 := by rw [← Array.length_toList, hperm.length_eq, List.length_append, Array.length_toList]; rfl
    -- the tail: stored, and laid anew where it is too full
    have tail : ∀ t2 : SetTable, t2.fits es1.size = true → t2.led = t.led → t2.plain = false → ∀ g : Bool → Sem Unit, (∀ (b : Bool) (s₁ : Shared) (Q' : Unit → Shared → Prop), Q' () s₁ → wpAny (model prog w) A (g b) Q' E s₁) →
        wpAny (model prog w) A (do
          storeSet a es1 t2
          if (!wasDummy && t2.tooFull) = true then do
              g (relayAll t2 es1 (SetTable.grown es1.size)).2.2
              storeSet a (relayAll t2 es1 (SetTable.grown es1.size)).1 (relayAll t2 es1 (SetTable.grown es1.size)).2.1
              pure (some true)
            else pure (some true)) (fun r s' => match r with | some b => Q b s' | none => False) E s := by
      intro t2 hf2 hl2 hp2 g hg
      have hsl : es1.size ≤ sizeLine := by rw [sizeLine_eq]; omega
      refine wpAny_bind (wpAny_storeSet_of ho' hd ?_ hsl)
      have ho1 : (s.heap.update a (Obj.putSet es1 t2)).get? a = some { o with data := .set es1 (ep + 1) t2 } := by
        have := Heap.get?_update_self (Obj.putSet es1 t2) ho' (by rw [putSet_of es1 t2 hd]; rfl)
        rw [putSet_of es1 t2 hd] at this; exact this
      have hsb1 := Heap.SameBut.update s.heap a (Obj.putSet es1 t2)
      split
      · have hp := relayAll_perm t2 es1 (SetTable.grown es1.size)
        have hfr := relayAll_fits t2 es1 (SetTable.grown es1.size)
        have hl3 := relayAll_led t2 es1 (SetTable.grown es1.size)
        have hp3 := relayAll_plain (t := t2) es1 (SetTable.grown es1.size) hp2
        generalize relayAll t2 es1 (SetTable.grown es1.size) = Rl at hp hfr hl3 hp3 ⊢
        obtain ⟨es2, t3, gave2⟩ := Rl
        dsimp only at hp hfr hl3 hp3 ⊢
        have hsz : es2.size = es1.size := by rw [← Array.length_toList, hp.length_eq, Array.length_toList]
        refine wpAny_bind (hg _ _ _ (wpAny_bind (wpAny_storeSet_of ho1 rfl ?_ (by rw [hsz]; exact hsl))))
        refine wpAny_pure ?_
        have ho2 : ((s.heap.update a (Obj.putSet es1 t2)).update a (Obj.putSet es2 t3)).get? a = some { o with data := .set es2 (ep + 1 + 1) t3 } := by
          have := Heap.get?_update_self (Obj.putSet es2 t3) ho1 (by rw [putSet_of es2 t3 rfl]; rfl)
          rw [putSet_of es2 t3 rfl] at this; exact this
        refine h true _ _ ho2 (hsb1.trans (Heap.SameBut.update _ a _)) ⟨hex, es2, _, t3, rfl, hel1.perm hp, fun y => ?_, hfr, by omega, fun q => (hl3.trans hl2).trans (hled q), fun _ => hp3⟩
        refine (hmem1 y).trans ?_
        exact ⟨fun ⟨e, he, q⟩ => ⟨e, hp.mem_iff.mpr he, q⟩, fun ⟨e, he, q⟩ => ⟨e, hp.mem_iff.mp he, q⟩⟩
      · refine wpAny_pure ?_
        exact h true _ _ ho1 hsb1 ⟨hex, es1, _, t2, rfl, hel1, hmem1, hf2, by omega, fun q => hl2.trans (hled q), fun _ => hp2⟩
    have gw : ∀ (b : Bool) {s₁ : Shared} {Q' : Unit → Shared → Prop}, Q' () s₁ → wpAny (model prog w) A (match b with | true => rule "set.scan.the-table-gave-way" | false => pure ()) Q' E s₁ :=
      fun b s₁ Q' hq => by cases b <;> first | exact wpAny_pure hq | exact wpAny_rule hq
    refine wpAny_bind (gw _ ?_)
    split
    · refine wpAny_bind ?_
      rw [hashByValue_scannable 8 hsc]
      refine wpAny_pure ?_
      refine wpAny_mono (tail _ (SetTable.fits_plain_off hfits) hl1 rfl _ fun b s₁ Q' hq => by cases b <;> first | exact wpAny_pure hq | exact wpAny_rule hq) (fun r s' hq => ?_) fun _ _ e => e
      cases r with
      | none => exact hq.elim
      | some b => exact wpAny_pure hq
    · rename_i hpf
      refine wpAny_bind (wpAny_pure ?_)
      simp only [↓reduceIte]
      refine wpAny_mono (tail _ hfits hl1 (by simpa using hpf) _ fun b s₁ Q' hq => by cases b <;> first | exact wpAny_pure hq | exact wpAny_rule hq) (fun r s' hq => ?_) fun _ _ e => e
      cases r with
      | none => exact hq.elim
      | some b => exact wpAny_pure hq
end
end Mine
end

section
namespace Mine

abbrev freshSet (w : World) : Obj := { cls := .type "set", dict := none, data := .set #[] 0 (.fresh 0 0 (!w.params.followText "set-order")) }
theorem freshSet_is (prog : Program) (w : World) : SetS prog w (freshSet w) (fun _ => False) 0 :=
  ⟨⟨rfl, rfl, rfl⟩, #[], 0, _, rfl, (fun e he => by simp at he), (fun x => by simp), rfl, Nat.le_refl _, (fun q => by show (!w.params.followText "set-order") = true; rw [q]; rfl), fun q => absurd rfl q⟩

section
variable {prog : Program} {w : World} {A : Around} {E : Value → Shared → Prop} {R : Result → Shared → Prop} {b s : Shared} {f : Heap} {m : Str → Option Value} {mu : List (Addr × Obj)} {L : Addr} {Q : Value → Shared → Prop}

theorem set_new0 {Q₁ : Value → Shared → Prop} (h : Q₁ (.ref s.heap.objs.size) { s with heap := s.heap.push (freshSet w) }) :
    codeAny (model prog w) A (.call (.builtin "set.__new__") ⟨[.type "set"], []⟩) (wants Q₁ E) s := by
  refine codeAny_of_tree ?_
  show wpAny _ A.in1 (do checkBuiltinCall "set.__new__" ⟨[.type "set"], []⟩; again (.builtin "set.__new__" ⟨[.type "set"], []⟩)) _ _ s
  refine wpAny_bind (wpAny_of_eq PySem.F.newCall_set_0 (wpAny_pure ⟨plainId_quiet PySem.F.plain_set_new _, codeAny_builtin PySem.F.entry_set_new ?_⟩))
  rw [Around.under_plainId PySem.F.plain_set_new _]
  unfold Builtin.«set.__new__» Builtin.Frozenset.newClass
  have hsub := sub_set_self
  obtain ⟨hp, g, d, tk, os⟩ := s
  dsimp only
  wp_walk
  refine wpAny_askSetting (wpAny_pure ?_)
  dsimp only
  simp only [newObj]
  exact wpAny_bind (wpAny_alloc (wpAny_pure (wpAny_pure h)))
theorem set_new1 (a : Value) {Q₁ : Value → Shared → Prop} (h : Q₁ (.ref s.heap.objs.size) { s with heap := s.heap.push (freshSet w) }) :
    codeAny (model prog w) A (.call (.builtin "set.__new__") ⟨[.type "set", a], []⟩) (wants Q₁ E) s := by
  refine codeAny_of_tree ?_
  show wpAny _ A.in1 (do checkBuiltinCall "set.__new__" ⟨[.type "set", a], []⟩; again (.builtin "set.__new__" ⟨[.type "set", a], []⟩)) _ _ s
  refine wpAny_bind (wpAny_of_eq (PySem.F.newCall_set_1 a) (wpAny_pure ⟨plainId_quiet PySem.F.plain_set_new _, codeAny_builtin PySem.F.entry_set_new ?_⟩))
  rw [Around.under_plainId PySem.F.plain_set_new _]
  unfold Builtin.«set.__new__» Builtin.Frozenset.newClass
  have hsub := sub_set_self
  obtain ⟨hp, g, d, tk, os⟩ := s
  dsimp only
  wp_walk
  refine wpAny_askSetting (wpAny_pure ?_)
  dsimp only
  simp only [newObj]
  exact wpAny_bind (wpAny_alloc (wpAny_pure (wpAny_pure h)))

/-- a list of texts goes into a set -/
theorem upd_loop {l S I : Addr} {vs : List Value} {xs : List Str} {g : Heap} (hh : A.handled = none) (hl : Stands b f l vs) (hv : All2 (VIs g) vs (xs.map sDt)) (hz : vs.length ≤ 1000) :
    ∀ (k i : Nat) (s : Shared) (o oi : Obj), vs.length - i = k → i ≤ vs.length → Fm b f L m ((I, oi) :: (S, o) :: mu) s → oi.cls = .type "list_iterator" → oi.data = .fields #[.ref l, .int i 0] → SetS prog w o (fun y => y ∈ xs.take i) i →
      (∀ s' o', Fm b f L m ((S, o') :: mu) s' → SetS prog w o' (fun y => y ∈ xs) vs.length → R (.ok (.ret .none)) s') →
      codeAny (model prog w) A (.builtin "set.update.loop" ⟨[.ref S, .ref I], []⟩) R s := by
  intro k
  induction k with
  | zero =>
    intro i s o oi hk hi F hc hd hS hR
    have hin : i = vs.length := by omega
    refine codeAny_builtin PyProof.Rows.F.entry_set_update_loop ?_
    rw [Around.under_plainId PyProof.Rows.F.plain_set_update_loop _]
    show wpAny _ A.in1 (pyNext (.ref I) >>= _) _ _ s
    refine wpAny_bind (wpAny_pyNext_list_end (by simpa using hh) ⟨oi, (F.mus _ (.head _)).1, hc, hd⟩ (hl.at F) (by simp; omega) fun h' he => ?_)
    refine wpAny_pure (hR _ o (F.dropExt he rfl rfl rfl) ?_)
    have hlen : vs.length = xs.length := by simpa using hv.length
    rw [List.take_of_length_le (by omega)] at hS
    rw [← hin]; exact hS
  | succ k ih =>
    intro i s o oi hk hi F hc hd hS hR
    have hlt : i < vs.length := by omega
    refine codeAny_builtin PyProof.Rows.F.entry_set_update_loop ?_
    rw [Around.under_plainId PyProof.Rows.F.plain_set_update_loop _]
    show wpAny _ A.in1 (pyNext (.ref I) >>= _) _ _ s
    refine wpAny_bind (wpAny_pyNext_list_item ⟨oi, (F.mus _ (.head _)).1, hc, hd⟩ (hl.at F) (x := vs[i]) (by simp) fun h' hit hs' => ?_)
    obtain ⟨oi', hoi', hc', hd'⟩ := hit
    have F₁ : Fm b f L m ((I, oi') :: (S, o) :: mu) { s with heap := h' } := F.updS hs'.extBut hoi' rfl rfl rfl
    obtain ⟨d, hd2, hr⟩ := hv.get' (List.getElem?_eq_getElem hlt)
    simp only [List.getElem?_map, Option.map_eq_some_iff] at hd2
    obtain ⟨x, hx, rfl⟩ := hd2
    obtain ⟨tx, ex⟩ := hr
    rw [ex]
    show wpAny _ A.in1 (holding [Value.str x tx] (setAdd S (.str x tx)) >>= _) _ _ _
    refine wpAny_bind (wpAny_holding (setAdd_s (F₁.mus _ (.tail _ (.head _))).1 hS (by omega) fun r o' h₂ ho' hs₂ hS' => ?_))
    have F₂ : Fm b f L m ((I, oi') :: (S, o') :: mu) { s with heap := h₂, toks := s.toks + 1 } := F₁.upd (.tail .head) hs₂.extBut ho' rfl rfl rfl
    refine wpAny_pure ⟨plainId_quiet PyProof.Rows.F.plain_set_update_loop _, ih (i + 1) _ o' oi' (by omega) hlt F₂ hc' hd' ?_ hR⟩
    have htk : xs.take (i + 1) = xs.take i ++ [x] := by rw [List.take_add_one, hx]; rfl
    rw [htk]
    have e : (fun y => y ∈ xs.take i ++ [x]) = fun y => y ∈ xs.take i ∨ y = x := by funext y; simp
    rw [e]; exact hS'

theorem call_set_strs {l : Addr} {vs : List Value} {xs : List Str} {g : Heap} {nl : Nat} (hh : A.handled = none) (F : Fm b f L m mu s) (hl : Stands b f l vs) (hlx : s.heap.get? l = some (listOf vs.toArray nl)) (hv : All2 (VIs g) vs (xs.map sDt)) (hz : vs.length ≤ 1000)
    (h : ∀ a o s', Fm b f L m ((a, o) :: mu) s' → SetS prog w o (fun y => y ∈ xs) vs.length → Q (.ref a) s') :
    wpAny (model prog w) A (call (.type "set") [.ref l]) Q E s := by
  obtain ⟨c, tl, hmro⟩ := PySem.F.called_set.mro
  have hmade := PySem.F.called_set.made
  have hsub := PySem.F.called_set.sub
  refine wpAny_call (codeAny_of_tree ?_)
  show wpAny _ _ (callAny (.type "set") _) _ _ _
  refine wpAny_pure ⟨Code.quiet_builtin _ (by decide +kernel), codeAny_builtin PySem.F.entry_type_call ?_⟩
  rw [Around.under_plain (weight_type_call_type "set" [.ref l] []) rfl]
  have h1 := PySem.F.called_set.notType
  have h2 := PySem.F.called_set.canCreate
  have hct := PySem.F.typeCall_set_1 (.ref l)
  repeat (any_goals (first | assumption | wp_step))
  refine codeAny_mono (set_new1 (.ref l) (E := E) (Q₁ := fun obj s₁ => obj = .ref s.heap.objs.size ∧ s₁ = { s with heap := s.heap.push (freshSet w) }) ⟨rfl, rfl⟩) fun r s₁ hr => ?_
  cases r with
  | error e => exact hr
  | ok fl =>
    cases fl with
    | ret obj =>
      obtain ⟨rfl, rfl⟩ := hr
      have F₁ := F.push (freshSet w)
      have hT : Shared.TypeIs { s with heap := s.heap.push (freshSet w) } (.ref s.heap.objs.size) "set" := ⟨_, (F₁.mus _ (.head _)).1, rfl⟩
      have hS := (F₁.mus _ (.head _)).1
      have hli := PySem.F.called_set.init.lookup
      have hbi := PySem.F.called_set.init.bind (.ref s.heap.objs.size)
      repeat (any_goals (first | assumption | wp_step))
      refine codeAny_mono (codeAny_call_builtin (R := wants (fun r s₂ => r = .none ∧ Q (.ref s.heap.objs.size) s₂) E) PySem.F.called_set.init.plain PySem.F.entry_set_init (check_set_init_1 hT ?_)) fun r₂ s₂ hr₂ => ?_
      · have hol' : (s.heap.push (freshSet w)).get? l = some (listOf vs.toArray nl) := Heap.get?_push_of_some _ hlx
        have hsls := PySem.F.sub_list_set
        have hslf := PySem.F.sub_list_frozenset
        have hne : (Value.type "list" == Value.type "dict") = false := by decide
        unfold Builtin.«set.__init__» noKeywords Builtin.Frozenset.updateFrom
        generalize hPI : pyIter = PI
        wp_walk
        subst hPI
        refine wpAny_pyIter_list (hl.at F₁) (wpAny_bind (wpAny_runValue ?_))
        have F₂ := F₁.push { cls := .type "list_iterator", data := .fields #[.ref l, .int 0 0] }
        refine upd_loop (xs := xs) (by simpa using hh) hl hv hz (vs.length - 0) 0 _ _ _ rfl (Nat.zero_le _) F₂ rfl rfl (by simpa using freshSet_is prog w) fun s' o' F₃ hS' => ?_
        show wpAny _ _ _ _ _ _
        refine wpAny_pure ?_
        show wpAny _ _ (ret Value.none) _ _ _
        exact wpAny_pure ⟨rfl, h _ _ _ F₃ hS'⟩
      · cases r₂ with
        | error e => exact hr₂
        | ok fl₂ =>
          cases fl₂ with
          | ret r =>
            obtain ⟨rfl, hq⟩ := hr₂
            repeat (any_goals (first | assumption | wp_step))
          | _ => exact hr₂.elim
    | _ => exact hr.elim
end
end Mine
end

section
namespace Mine

theorem slot_set_iter : Slot "set" "__iter__" "set.__iter__" :=
  .of (owner := "set") (n := "__iter__") (by rw [typeLookup_type, builtinLookup_eq_fast]; kernel_rfl) (by decide +kernel) (by decide +kernel) (by decide +kernel)
    (by first | exact .inl (by decide +kernel) | exact .inr (by decide +kernel)) (by rw [isSubtype_type]; kernel_rfl)
theorem entry_set_iter : entryFor table "set.__iter__" = some Builtin.«frozenset.__iter__» := entryFor_alias (id' := "frozenset.__iter__") (by kernel_rfl) rfl (by decide +kernel) (by kernel_rfl)
theorem args_set_iter (a : Value) : argsOk "set.__iter__" ⟨[a], []⟩ := by unfold argsOk; kernel_rfl
theorem slot_setiter_next : Slot "set_iterator" "__next__" "set_iterator.__next__" :=
  .of (owner := "set_iterator") (n := "__next__") (by rw [typeLookup_type, builtinLookup_eq_fast]; kernel_rfl) (by decide +kernel) (by decide +kernel) (by decide +kernel)
    (by first | exact .inl (by decide +kernel) | exact .inr (by decide +kernel)) (by rw [isSubtype_type]; kernel_rfl)
theorem entry_setiter_next : entryFor table "set_iterator.__next__" = some Builtin.«set_iterator.__next__» := entryFor_of_tree (by kernel_rfl)
theorem args_setiter_next (a : Value) : argsOk "set_iterator.__next__" ⟨[a], []⟩ := by unfold argsOk; kernel_rfl

theorem erase_perm {α : Type} : ∀ (l : List α) (i : Nat) (h : i < l.length), (l[i] :: l.eraseIdx i).Perm l
  | x :: l, 0, _ => .refl _
  | x :: l, i + 1, h => by
    have ih := erase_perm l i (by simpa using h)
    simp only [List.getElem_cons_succ, List.eraseIdx_cons_succ]
    exact (List.Perm.swap _ _ _).trans (ih.cons x)
theorem pick_go {α : Type} (next : Nat → Nat) : ∀ (n k : Nat) (left : List α) (out : Array α), left.length ≤ n → (pickOrder.go next n k left out).toList.Perm (out.toList ++ left)
  | 0, k, left, out, hl => by
    have : left = [] := List.length_eq_zero_iff.mp (by omega)
    subst this
    unfold pickOrder.go
    simp
  | n + 1, k, left, out, hl => by
    unfold pickOrder.go
    cases hq : left[next k % left.length]? with
    | none =>
      have : left = [] := by
        cases left with
        | nil => rfl
        | cons x l =>
          have := List.getElem?_eq_none_iff.mp hq
          exact absurd this (Nat.not_le.mpr (Nat.mod_lt _ (by simp)))
      subst this
      simp
    | some x =>
      obtain ⟨hi, rfl⟩ := List.getElem?_eq_some_iff.mp hq
      refine (pick_go next n (k + 1) _ _ (by rw [List.length_eraseIdx_of_lt hi]; omega)).trans ?_
      rw [Array.toList_push, List.append_assoc]
      exact List.Perm.append_left _ (erase_perm _ _ hi)
theorem pick_perm {α : Type} (next : Nat → Nat) (xs : Array α) : (pickOrder next xs).toList.Perm xs.toList := by
  unfold pickOrder
  simpa using pick_go next xs.size 0 xs.toList #[] (by simp)

section
variable {prog : Program} {w : World} {A : Around} {E : Value → Shared → Prop} {R : Result → Shared → Prop} {b s : Shared} {f : Heap} {m : Str → Option Value} {mu : List (Addr × Obj)} {L : Addr} {Q : Value → Shared → Prop}

theorem wpAny_chosen {M : Model} {src : Source} {n : Nat} {Q : Nat → Shared → Prop} (hn : n ≠ 0) (h : ∀ i d, i < n → Q i { s with drawn := d }) : wpAny M A (choose src n) Q E s := fun Γ p _ => by
  show Sem.wp M Γ (.choose src n .pure) _ _ p s
  rw [Sem.wp_choose]
  refine ⟨hn, ?_⟩
  rw [Sem.wp_pure]
  exact h _ _ (Nat.mod_lt _ (Nat.pos_of_ne_zero hn))

theorem wpAny_drawOrder {M : Model} {α : Type} : ∀ (n : Nat) (xs : List α) (s : Shared) (Q : List α → Shared → Prop), xs.length ≤ n → (∀ ys d, ys.Perm xs → Q ys { s with drawn := d }) → wpAny M A (drawOrder n xs) Q E s
  | 0, xs, s, Q, hl, h => by
    have : xs = [] := List.length_eq_zero_iff.mp (by omega)
    subst this
    unfold drawOrder
    exact wpAny_pure (h [] s.drawn .nil)
  | n + 1, [], s, Q, _, h => by
    unfold drawOrder
    exact wpAny_pure (h [] s.drawn .nil)
  | n + 1, x :: xs, s, Q, hl, h => by
    unfold drawOrder
    refine wpAny_bind (wpAny_chosen (by simp) fun i d hi => ?_)
    rw [List.getElem?_eq_getElem hi]
    dsimp only
    refine wpAny_bind (wpAny_drawOrder n _ _ _ (by rw [List.length_eraseIdx_of_lt hi]; simp at hl ⊢; omega) fun ys d' hp => ?_)
    refine wpAny_pure (h _ d' ?_)
    exact ((List.Perm.cons _ hp)).trans (erase_perm _ i hi)

/-- a set's iterator, i items given, zs the items in its order -/
structure SetIt (w : World) (g : Heap) (a : Addr) (es : Array (Int × Value)) (ep : Nat) (t : SetTable) (zs : List Value) (i : Nat) (oi : Obj) : Prop where
  cls : oi.cls = .type "set_iterator"
  data : ∃ first, oi.data = .fields #[first, .int i 0, .ref a, .int es.size 0, .int ep 0] ∧
    ((∃ (T : Addr) (ps : List Nat), first = .ref T ∧ g.IsTuple T ((ps.map fun (p : Nat) => Value.int p 0).toArray) ∧ ps.length = zs.length ∧ ∀ (j p : Nat), ps[j]? = some p → ∃ e, es[p]? = some e ∧ zs[j]? = some e.2) ∨
     (∃ slot : Nat, first = .int slot 0 ∧ w.params.followText "set-order" = true ∧ zs = ((pickOrder (w.params.setOrder a ep) es).toList.map (·.2))) ∨
     (∃ slot : Nat, first = .int slot 0 ∧ w.params.followText "set-order" = false ∧ es.size ≤ 1 ∧ (es.size ≠ 0 → t.led = true) ∧ zs = es.toList.map (·.2) ∧ ∀ p, t.place[0]? = some p → slot = if i = 0 then 0 else p + 1))

theorem below_one (p j : Nat) : SetTable.below #[p] j = if p < j then 1 else 0 := by
  unfold SetTable.below
  show SetTable.below.go #[p] j 1 0 1 = _
  unfold SetTable.below.go
  simp
  unfold SetTable.below.go
  split <;> rfl
theorem below_nil (j : Nat) : SetTable.below #[] j = 0 := by
  unfold SetTable.below
  show SetTable.below.go #[] j 0 0 0 = _
  unfold SetTable.below.go
  rfl

theorem setNext_text {a : Addr} {o : Obj} {es : Array (Int × Value)} {ep : Nat} {t : SetTable} {slot given : Nat} {Q : Option (Value × Nat) → Shared → Prop} (ho : s.heap.get? a = some o) (hd : o.data = .set es ep t) (hf : t.fits es.size = true)
    (ht : w.params.followText "set-order" = true) (h : Q (((pickOrder (w.params.setOrder a ep) es)[given]?).map fun e => (e.2, slot)) s) : wpAny (model prog w) A (setNext a slot given ep) Q E s := by
  unfold setNext
  refine wpAny_bind (wpAny_setState_of ho hd hf ?_)
  dsimp only
  unfold setsByText
  refine wpAny_bind (wpAny_bind (wpAny_askSetting (wpAny_pure ?_)))
  show wpAny _ _ (if w.params.followText "set-order" = true then _ else _) _ _ _
  rw [if_pos ht]
  simp only [bne_self_eq_false, Bool.false_eq_true, if_false]
  unfold setWalk setsByText
  refine wpAny_bind (wpAny_bind (wpAny_setState_of ho hd hf ?_))
  dsimp only
  refine wpAny_bind (wpAny_bind (wpAny_askSetting (wpAny_pure ?_)))
  show wpAny _ _ (if w.params.followText "set-order" = true then _ else _) _ _ _
  rw [if_pos ht]
  refine wpAny_bind (wpAny_askSetting (wpAny_pure (wpAny_pure ?_)))
  exact h
end
end Mine
end

section
namespace Mine
section
variable {prog : Program} {w : World} {A : Around} {E : Value → Shared → Prop} {R : Result → Shared → Prop} {b s : Shared} {f : Heap} {m : Str → Option Value} {mu : List (Addr × Obj)} {L : Addr} {Q : Value → Shared → Prop}

theorem setNext_slot {a : Addr} {o : Obj} {es : Array (Int × Value)} {ep : Nat} {t : SetTable} {slot given : Nat} {Q : Option (Value × Nat) → Shared → Prop} (ho : s.heap.get? a = some o) (hd : o.data = .set es ep t) (hf : t.fits es.size = true)
    (ht : w.params.followText "set-order" = false) (h1 : es.size ≤ 1) (hl : es.size ≠ 0 → t.led = true)
    (h : Q (match es[SetTable.below t.place slot]?, t.place[SetTable.below t.place slot]? with | some (_, x), some j => some (x, j + 1) | _, _ => none) s) : wpAny (model prog w) A (setNext a slot given ep) Q E s := by
  unfold setNext
  refine wpAny_bind (wpAny_setState_of ho hd hf ?_)
  dsimp only
  unfold setsByText
  refine wpAny_bind (wpAny_bind (wpAny_askSetting (wpAny_pure ?_)))
  show wpAny _ _ (if w.params.followText "set-order" = true then _ else _) _ _ _
  rw [if_neg (by rw [ht]; exact Bool.false_ne_true)]
  have hdr : (!t.plain && decide (es.size > 1)) = false := by
    rw [show decide (es.size > 1) = false from decide_eq_false (by omega), Bool.and_false]
  show wpAny _ _ (if (!t.plain && decide (es.size > 1)) = true then _ else _) _ _ _
  rw [hdr, if_neg Bool.false_ne_true]
  refine wpAny_bind ?_
  show wpAny _ _ (if (!t.led && !es.isEmpty) = true then _ else _) _ _ _
  rw [if_neg (by
    intro q
    rw [Bool.and_eq_true] at q
    have q2 : es.size ≠ 0 := by
      have := q.2
      intro e
      rw [Array.size_eq_zero_iff] at e
      subst e
      cases this
    rw [hl q2] at q
    cases q.1)]
  exact wpAny_pure (wpAny_pure h)

/-- the state of the iterator when one item more was given -/
theorem setIt_next {a I : Addr} {o oi : Obj} {es : Array (Int × Value)} {ep : Nat} {t : SetTable} {zs : List Value} {i : Nat} {v : Value} {g : Heap} {Q : Option Value → Shared → Prop} (hI : s.heap.get? I = some oi) (ho : s.heap.get? a = some o) (hd : o.data = .set es ep t) (hf : t.fits es.size = true) (hg : Sub g s.heap)
    (hit : SetIt w g a es ep t zs i oi) (hv : zs[i]? = some v) (h : ∀ h' oi', h'.get? I = some oi' → SetIt w g a es ep t zs (i + 1) oi' → Heap.ExtBut I s.heap h' → Q (some v) { s with heap := h' }) :
    wpAny (model prog w) A (pyNext (.ref I)) Q E s := by
  obtain ⟨hc, first, hdat, hmode⟩ := hit
  have hT : s.TypeIs (.ref I) "set_iterator" := ⟨_, hI, hc⟩
  unfold pyNext
  refine wpAny_bind (wpAny_attempt (wpAny_callSpecial?_slot (name := Str.ofString "__next__") hT slot_setiter_next (wpAny_call_entry slot_setiter_next hT entry_setiter_next ?_ (args_setiter_next _))))
  unfold Builtin.«set_iterator.__next__»
  refine wpAny_bind (wpAny_pure ?_)
  refine wpAny_bind (wpAny_fieldsOf hI hdat ?_)
  dsimp only
  refine wpAny_bind (wpAny_setEntries_of ho hd hf ?_)
  rw [if_neg (by simp)]
  have up : ∀ {x : Value} {k : Nat} {vs : Array Value} {oo : Obj}, oo.data = .fields vs → (Obj.mapFields (·.setIfInBounds k x) oo).data = .fields (vs.setIfInBounds k x) := fun {x k vs oo} e => by
    obtain ⟨c, d, dt, sl⟩ := oo; subst e; rfl
  rcases hmode with ⟨T, ps, rfl, hTup, hlen, hps⟩ | ⟨slot, rfl, htx, rfl⟩ | ⟨slot, rfl, htx, h1, hl, rfl, hslot⟩
  · -- drawn
    have hil : i < ps.length := by have := (List.getElem?_eq_some_iff.mp hv).1; omega
    have hp := List.getElem?_eq_getElem hil
    obtain ⟨e, he, hz⟩ := hps i _ hp
    rw [hv] at hz
    cases hz
    obtain ⟨oT, hoT, _, nT, hdT⟩ := hTup
    refine wpAny_bind (wpAny_seqItems (hg _ _ hoT) hdT ?_)
    dsimp only
    have hget : ((ps.map fun (p : Nat) => Value.int p 0).toArray)[(i : Int).toNat]? = some (.int (ps[i] : Nat) 0) := by simp [hil]
    rw [hget]
    dsimp only
    refine wpAny_bind ?_
    unfold setNextDrawn
    refine wpAny_bind (wpAny_setState_of ho hd hf ?_)
    dsimp only
    rw [if_neg (by simp)]
    rw [show ((ps[i] : Nat) : Int).toNat = ps[i] from Int.toNat_natCast _, he]
    refine wpAny_pure ?_
    refine wpAny_bind (wpAny_setField hI hdat (by simp) ?_)
    refine wpAny_pure ⟨_, rfl, wpAny_pure (h _ _ (Heap.get?_update_self _ hI (by obtain ⟨c, d, dt, sl⟩ := oi; subst hdat; rfl)) ⟨?_, _, ?_, .inl ⟨T, ps, rfl, ⟨oT, hoT, by assumption, nT, hdT⟩, hlen, hps⟩⟩ (Heap.SameBut.update ..).extBut)⟩
    · obtain ⟨c, d, dt, sl⟩ := oi; subst hdat; exact hc
    · rw [up hdat]; rfl
  · -- by the text
    dsimp only
    refine wpAny_bind (setNext_text ho hd hf htx ?_)
    have hget : (pickOrder (w.params.setOrder a ep) es)[(i : Int).toNat]?.map (·.2) = some v := by
      rw [Int.toNat_natCast, ← Array.getElem?_toList, ← List.getElem?_map]; exact hv
    obtain ⟨e, he, rfl⟩ := Option.map_eq_some_iff.mp hget
    have he' : (pickOrder (w.params.setOrder a (ep : Int).toNat) es)[(i : Int).toNat]? = some e := by simpa using he
    rw [show ((ep : Int).toNat) = ep from Int.toNat_natCast _] at he' ⊢
    rw [he']
    dsimp only [Option.map]
    refine wpAny_bind (wpAny_setField hI hdat (by simp) ?_)
    have hI2 := Heap.get?_update_self (Obj.mapFields (·.setIfInBounds 0 (rawInt ((slot : Int).toNat : Nat)))) hI (by obtain ⟨c, d, dt, sl⟩ := oi; subst hdat; rfl)
    refine wpAny_bind (wpAny_setField hI2 (up hdat) (by simp) ?_)
    have hI3 := Heap.get?_update_self (Obj.mapFields (·.setIfInBounds 1 (rawInt ((i : Int) + 1)))) hI2 (by obtain ⟨c, d, dt, sl⟩ := oi; subst hdat; rfl)
    refine wpAny_pure ⟨_, rfl, wpAny_pure (h _ _ hI3 ⟨?_, _, ?_, .inr (.inl ⟨slot, rfl, htx, rfl⟩)⟩ ((Heap.SameBut.update ..).extBut.trans (Heap.SameBut.update ..).extBut))⟩
    · obtain ⟨c, d, dt, sl⟩ := oi; subst hdat; exact hc
    · rw [up (up hdat)]; rfl
  · -- by its places
    dsimp only
    have hi0 : i = 0 ∧ es.size = 1 := by
      have := (List.getElem?_eq_some_iff.mp hv).1
      simp at this
      omega
    obtain ⟨rfl, hs1⟩ := hi0
    have hps : t.place.size = 1 := by
      simp only [SetTable.fits, Bool.and_eq_true, beq_iff_eq] at hf
      rw [hf.1, hs1]
    obtain ⟨p, hp⟩ : ∃ p, t.place = #[p] := by
      obtain ⟨l⟩ : ∃ l : List Nat, True := ⟨[], trivial⟩
      refine ⟨t.place[0], ?_⟩
      apply Array.ext
      · simpa using hps
      · intro j h1 h2
        have : j = 0 := by omega
        subst this; rfl
    obtain ⟨e, hes⟩ : ∃ e, es = #[e] := by
      refine ⟨es[0], ?_⟩
      apply Array.ext
      · simpa using hs1
      · intro j h1 h2
        have : j = 0 := by omega
        subst this; rfl
    have hslot0 := hslot p (by rw [hp]; rfl)
    rw [if_pos rfl] at hslot0
    subst hslot0
    refine wpAny_bind (setNext_slot ho hd hf htx h1 hl ?_)
    have hb : SetTable.below t.place ((0 : Nat) : Int).toNat = 0 := by rw [hp]; show SetTable.below #[p] 0 = 0; rw [below_one]; simp
    rw [hb, hp, hes]
    obtain ⟨hh, x⟩ := e
    have hvx : v = x := by rw [hes] at hv; simpa using hv.symm
    subst hvx
    show wpAny _ _ (setField (.ref I) 0 (rawInt ((p + 1 : Nat))) >>= _) _ _ _
    refine wpAny_bind (wpAny_setField hI hdat (by simp) ?_)
    have hI2 := Heap.get?_update_self (Obj.mapFields (·.setIfInBounds 0 (rawInt ((p + 1 : Nat))))) hI (by obtain ⟨c, d, dt, sl⟩ := oi; subst hdat; rfl)
    refine wpAny_bind (wpAny_setField hI2 (up hdat) (by simp) ?_)
    have hI3 := Heap.get?_update_self (Obj.mapFields (·.setIfInBounds 1 (rawInt (((0 : Nat) : Int) + 1)))) hI2 (by obtain ⟨c, d, dt, sl⟩ := oi; subst hdat; rfl)
    refine wpAny_pure ⟨_, rfl, wpAny_pure (h _ _ hI3 ⟨?_, _, ?_, .inr (.inr ⟨p + 1, rfl, htx, h1, hl, by rw [hes], fun q hq => ?_⟩)⟩ ((Heap.SameBut.update ..).extBut.trans (Heap.SameBut.update ..).extBut))⟩
    · obtain ⟨c, d, dt, sl⟩ := oi; subst hdat; exact hc
    · rw [up (up hdat)]; rw [hes]; rfl
    · rw [hp] at hq
      have : p = q := by simpa using hq
      subst this; simp

theorem stop_raises {M : Model} {α : Type} {Q₁ : α → Shared → Prop} {E₁ : Value → Shared → Prop} (hh : A.handled = none) (h : ∀ e h', Sub s.heap h' → Shared.TypeIs { s with heap := h' } (.ref e) "StopIteration" → E₁ (.ref e) { s with heap := h' }) :
    wpAny M A (newExc (.type "StopIteration") [] >>= fun e => (raiseNew e : Sem α)) Q₁ E₁ s := by
  refine wpAny_bind ?_
  simp only [newExc, newTuple]
  refine wpAny_bind (wpAny_newObj_type ?_ (by size_fits))
  refine wpAny_bind (m := firstArgMember _ _) (wpAny_of_eq (a := Value.none) (by first | rfl | (simp only [firstArgMember]; rfl)) ?_)
  refine wpAny_newObj_type ?_ (by size_fits)
  simp only [raiseNew]
  refine wpAny_bind (wpAny_handled ?_)
  rw [hh]
  refine wpAny_bind (wpAny_pure (wpAny_throw ?_))
  exact h _ _ (fun c x e => Heap.get?_push_of_some _ (Heap.get?_push_of_some _ e)) ⟨_, Heap.get?_push_size _ rfl, rfl⟩

theorem setIt_done {a I : Addr} {o oi : Obj} {es : Array (Int × Value)} {ep : Nat} {t : SetTable} {zs : List Value} {i : Nat} {g : Heap} {Q : Option Value → Shared → Prop} (hh : A.handled = none) (hI : s.heap.get? I = some oi) (ho : s.heap.get? a = some o) (hd : o.data = .set es ep t) (hf : t.fits es.size = true) (hg : Sub g s.heap)
    (hit : SetIt w g a es ep t zs i oi) (hv : zs[i]? = none) (h : ∀ h', Heap.ExtBut I s.heap h' → Q none { s with heap := h' }) :
    wpAny (model prog w) A (pyNext (.ref I)) Q E s := by
  obtain ⟨hc, first, hdat, hmode⟩ := hit
  have hT : s.TypeIs (.ref I) "set_iterator" := ⟨_, hI, hc⟩
  unfold pyNext
  refine wpAny_bind (wpAny_attempt (wpAny_callSpecial?_slot (name := Str.ofString "__next__") hT slot_setiter_next (wpAny_call_entry slot_setiter_next hT entry_setiter_next ?_ (args_setiter_next _))))
  unfold Builtin.«set_iterator.__next__»
  refine wpAny_bind (wpAny_pure ?_)
  refine wpAny_bind (wpAny_fieldsOf hI hdat ?_)
  dsimp only
  refine wpAny_bind (wpAny_setEntries_of ho hd hf ?_)
  rw [if_neg (by simp)]
  have up : ∀ {x : Value} {k : Nat} {vs : Array Value} {oo : Obj}, oo.data = .fields vs → (Obj.mapFields (·.setIfInBounds k x) oo).data = .fields (vs.setIfInBounds k x) := fun {x k vs oo} e => by
    obtain ⟨c, d, dt, sl⟩ := oo; subst e; rfl
  rcases hmode with ⟨T, ps, rfl, hTup, hlen, hps⟩ | ⟨slot, rfl, htx, rfl⟩ | ⟨slot, rfl, htx, h1, hl, rfl, hslot⟩
  · have hil : ps.length ≤ i := by have := List.getElem?_eq_none_iff.mp hv; omega
    obtain ⟨oT, hoT, _, nT, hdT⟩ := hTup
    refine wpAny_bind (wpAny_seqItems (hg _ _ hoT) hdT ?_)
    dsimp only
    have hget : ((ps.map fun (p : Nat) => Value.int p 0).toArray)[(i : Int).toNat]? = none := by simp [hil]
    rw [hget]
    dsimp only
    refine wpAny_bind (wpAny_setField hI hdat (by simp) ?_)
    have hI2 := Heap.get?_update_self (Obj.mapFields (·.setIfInBounds 0 (rawInt 0))) hI (by obtain ⟨c, d, dt, sl⟩ := oi; subst hdat; rfl)
    refine wpAny_bind (wpAny_setField hI2 (up hdat) (by simp) ?_)
    refine stop_raises (by simpa using hh) fun e h' hk hTe => wpAny_bind (wpAny_isInstance (T := "StopIteration") (b := true) hTe isSubtype_stop ?_)
    exact wpAny_pure (h _ fun c x hc' ex => hk _ _ (((Heap.SameBut.update ..).extBut.trans (Heap.SameBut.update ..).extBut) c x hc' ex))
  · dsimp only
    refine wpAny_bind (setNext_text ho hd hf htx ?_)
    have hget : (pickOrder (w.params.setOrder a ep) es)[(i : Int).toNat]? = none := by
      have : ((pickOrder (w.params.setOrder a ep) es).toList.map (·.2))[i]? = none := hv
      rw [List.getElem?_map, Option.map_eq_none_iff] at this
      rw [Int.toNat_natCast, ← Array.getElem?_toList]; exact this
    rw [show ((ep : Int).toNat) = ep from Int.toNat_natCast _]
    rw [hget]
    dsimp only [Option.map]
    refine wpAny_bind (wpAny_setField hI hdat (by simp) ?_)
    refine stop_raises (by simpa using hh) fun e h' hk hTe => wpAny_bind (wpAny_isInstance (T := "StopIteration") (b := true) hTe isSubtype_stop ?_)
    exact wpAny_pure (h _ fun c x hc' ex => hk _ _ ((Heap.SameBut.update ..).extBut c x hc' ex))
  · dsimp only
    have hil : es.size ≤ i := by simpa using hv
    have hfp : t.place.size = es.size := by
      simp only [SetTable.fits, Bool.and_eq_true, beq_iff_eq] at hf
      exact hf.1
    refine wpAny_bind (setNext_slot ho hd hf htx h1 hl ?_)
    have hnone : (match es[SetTable.below t.place (slot : Int).toNat]?, t.place[SetTable.below t.place (slot : Int).toNat]? with | some (_, x), some j => some (x, j + 1) | _, _ => none) = (none : Option (Value × Nat)) := by
      rcases Nat.eq_zero_or_pos es.size with e0 | e1
      · have : es = #[] := Array.size_eq_zero_iff.mp e0
        subst this
        simp
      · have hs1 : es.size = 1 := by omega
        obtain ⟨p, hp⟩ : ∃ p, t.place = #[p] := by
          refine ⟨t.place[0], ?_⟩
          apply Array.ext
          · simp; omega
          · intro j h1 h2
            have : j = 0 := by omega
            subst this; rfl
        have hs := hslot p (by rw [hp]; rfl)
        rw [if_neg (by omega)] at hs
        have hb : SetTable.below t.place (slot : Int).toNat = 1 := by rw [hp, hs, Int.toNat_natCast, below_one]; simp
        rw [hb]
        have : es[1]? = none := by simp; omega
        rw [this]
    rw [hnone]
    dsimp only
    refine wpAny_bind (wpAny_setField hI hdat (by simp) ?_)
    refine stop_raises (by simpa using hh) fun e h' hk hTe => wpAny_bind (wpAny_isInstance (T := "StopIteration") (b := true) hTe isSubtype_stop ?_)
    exact wpAny_pure (h _ fun c x hc' ex => hk _ _ ((Heap.SameBut.update ..).extBut c x hc' ex))
end
end Mine
end

section
namespace Mine

/-- a set of texts, as its walk needs it -/
def SetW (prog : Program) (w : World) (o : Obj) (S : Str → Prop) (n : Nat) : Prop :=
  o.ExactSet ∧ ∃ es ep t, o.data = .set es ep t ∧ ElemsOf (strKind prog w) es.toList ∧ (∀ x, S x ↔ ∃ e ∈ es.toList, (strKind prog w).is x e.2 = true) ∧ t.fits es.size = true ∧ es.size ≤ n ∧
    (w.params.followText "set-order" = false → es.size ≠ 0 → t.led = true) ∧ (es.size ≠ 0 → t.plain = false)
theorem SetS.toW {prog : Program} {w : World} {o : Obj} {S : Str → Prop} {n : Nat} (x : SetS prog w o S n) : SetW prog w o S n := by
  obtain ⟨hex, es, ep, t, hd, hel, hm, hf, hz, hl, hp⟩ := x
  exact ⟨hex, es, ep, t, hd, hel, hm, hf, hz, fun q _ => hl q, hp⟩
theorem setW_nil (prog : Program) (w : World) (led : Bool) : SetW prog w { cls := .type "set", dict := none, data := .set #[] 0 (.fresh 0 0 led) } (fun x => x ∈ ([] : List Str)) 0 :=
  ⟨⟨rfl, rfl, rfl⟩, #[], 0, _, rfl, (fun e he => by simp at he), (fun x => by simp), rfl, Nat.le_refl _, (fun _ q => absurd rfl q), fun q => absurd rfl q⟩
theorem SetW.setOf {prog : Program} {w : World} {o : Obj} {S : Str → Prop} {n : Nat} {h : Heap} {a : Addr} (x : SetW prog w o S n) (ho : h.get? a = some o) (hn : n < 4000) : ∃ (B : Str → Bool) (k : Nat), h.SetOf (strKind prog w) a B k ∧ ∀ y, B y = true ↔ S y := by
  classical
  obtain ⟨hex, es, ep, t, hd, hel, hm, hf, hz, _, _⟩ := x
  exact ⟨fun y => decide (S y), es.size, ⟨o, es, ep, t, ho, hex, hd, hel, fun k => by rw [decide_eq_true_eq]; exact hm k, by unfold scanBound; omega, hf, rfl⟩, fun y => decide_eq_true_iff⟩

theorem SetIt.mono {w : World} {g g' : Heap} {a : Addr} {es : Array (Int × Value)} {ep : Nat} {t : SetTable} {zs : List Value} {i : Nat} {oi : Obj} (x : SetIt w g a es ep t zs i oi) (k : Sub g g') : SetIt w g' a es ep t zs i oi := by
  obtain ⟨hc, first, hd, hm⟩ := x
  refine ⟨hc, first, hd, ?_⟩
  rcases hm with ⟨T, ps, e, hT, r⟩ | hm
  · exact .inl ⟨T, ps, e, isTuple_mono hT k, r⟩
  · exact .inr hm

section
variable {prog : Program} {w : World} {A : Around} {E : Value → Shared → Prop} {R : Result → Shared → Prop} {b s : Shared} {f : Heap} {m : Str → Option Value} {mu : List (Addr × Obj)} {L : Addr} {Q : Value → Shared → Prop} {env : Env}

theorem newTupK {vs : List Value} (F : Fm b f L m mu s) (hz : vs.length ≤ 100000) (h : ∀ a f' s', Sub f f' → Fm b f' L m mu s' → f'.IsTuple a vs.toArray → Sub s.heap s'.heap → Q (.ref a) s') : wpAny (model prog w) A (newTuple vs) Q E s := by
  refine wpAny_newObj_type ?_ (by show vs.toArray.size ≤ sizeLine; rw [List.size_toArray, sizeLine_eq]; omega)
  obtain ⟨f', hs, ha, F'⟩ := (F.push { cls := .type "tuple", data := .seq vs.toArray }).freeze
  exact h _ f' _ hs F' ⟨_, ha, rfl, _, rfl⟩ fun c x e => Heap.get?_push_of_some _ e

theorem set_iter {a : Addr} {o : Obj} {es : Array (Int × Value)} {ep : Nat} {t : SetTable} (F : Fm b f L m mu s) (ho : s.heap.get? a = some o) (hc : o.cls = .type "set") (hd : o.data = .set es ep t) (hf : t.fits es.size = true) (hz : es.size ≤ 1000)
    (hl : w.params.followText "set-order" = false → es.size ≠ 0 → t.led = true) (hp : es.size ≠ 0 → t.plain = false)
    (h : ∀ I oi f' zs s', Sub f f' → Fm b f' L m ((I, oi) :: mu) s' → SetIt w f' a es ep t zs 0 oi → zs.Perm (es.toList.map (·.2)) → Q (.ref I) s') :
    wpAny (model prog w) A (pyIter (.ref a)) Q E s := by
  have hT : s.TypeIs (.ref a) "set" := ⟨_, ho, hc⟩
  refine wpAny_pyIter_slot hT slot_set_iter (wpAny_call_entry slot_set_iter hT entry_set_iter ?_ (args_set_iter _))
  unfold Builtin.«frozenset.__iter__»
  refine wpAny_bind (wpAny_pure ?_)
  refine wpAny_bind (wpAny_bind (wpAny_setEntries_of ho hd hf (wpAny_pure ?_)))
  refine wpAny_bind ?_
  unfold setDrawn setsByText
  refine wpAny_bind (wpAny_setState_of ho hd hf ?_)
  dsimp only
  refine wpAny_bind (wpAny_bind (wpAny_askSetting (wpAny_pure (wpAny_pure ?_))))
  show wpAny _ _ (if (!(w.params.followText "set-order") && (!t.plain && decide (es.size > 1))) = true then _ else _) _ _ _
  have fin : ∀ (first : Value) (f' : Heap) (zs : List Value) (s' : Shared), Sub f f' → Fm b f' L m mu s' → s'.heap.get? a = some o → SetIt w f' a es ep t zs 0 { cls := .type "set_iterator", data := .fields #[first, .int 0 0, .ref a, .int es.size 0, .int ep 0] } → zs.Perm (es.toList.map (·.2)) →
      wpAny (model prog w) (A.in1) (do ret (← newFields "set_iterator" [first, rawInt 0, .ref a, rawInt es.size, rawInt (← setEpoch a)])) (fun fin s' => ∃ v, fin = Fin.done (Flow.ret v) ∧ ∃ T' r', s'.TypeIs v T' ∧ typeLookup (.type T') (Str.ofString "__next__") = pure (some r') ∧ Q v s') E s' := by
    intro first f' zs s' hsub F' ho' hit hperm
    refine wpAny_bind (wpAny_setEpoch_of ho' hd hf ?_)
    refine wpAny_bind ?_
    unfold newFields
    refine wpAny_newObj_type ?_ (by size_fits)
    have F₂ := F'.push { cls := .type "set_iterator", data := .fields #[first, .int 0 0, .ref a, .int es.size 0, .int ep 0] }
    refine wpAny_pure ⟨_, rfl, "set_iterator", _, ⟨_, (F₂.mus _ (.head _)).1, rfl⟩, slot_setiter_next.lookup, ?_⟩
    exact h _ _ f' zs _ hsub F₂ hit hperm
  cases htx : w.params.followText "set-order" with
  | true =>
    simp only [Bool.not_true, Bool.false_and, Bool.false_eq_true, if_false]
    refine wpAny_bind (wpAny_pure ?_)
    exact fin _ f _ s (Sub.refl _) F ho ⟨rfl, _, rfl, .inr (.inl ⟨0, rfl, htx, rfl⟩)⟩ ((pick_perm _ es).map _)
  | false =>
    by_cases h1 : es.size ≤ 1
    · rw [if_neg (by rw [show decide (es.size > 1) = false from decide_eq_false (by omega)]; simp)]
      refine wpAny_bind (wpAny_pure ?_)
      exact fin _ f _ s (Sub.refl _) F ho ⟨rfl, _, rfl, .inr (.inr ⟨0, rfl, htx, h1, hl htx, rfl, fun p _ => by rw [if_pos rfl]⟩)⟩ (.refl _)
    · rw [if_pos (by rw [hp (by omega), show decide (es.size > 1) = true from decide_eq_true (by omega)]; rfl)]
      refine wpAny_bind (wpAny_drawOrder es.size (List.range es.size) _ _ (by simp) fun ys d hperm => ?_)
      have Fd : Fm b f L m mu { s with drawn := d } := F.same rfl rfl rfl
      have hlen : ys.length = es.size := by rw [hperm.length_eq, List.length_range]
      refine wpAny_bind (newTupK (vs := ys.map fun (p : Nat) => Value.int p 0) Fd (by rw [List.length_map]; omega) fun T f' s' hsub F' hTup hko => ?_)
      have hlt : ∀ y ∈ ys, y < es.size := fun y hy => by simpa using hperm.mem_iff.mp hy
      have hs' : s'.heap.get? a = some o := hko _ _ ho
      have hg : ∀ y (hy : y < es.size), ((es[y]?).map (·.2)).getD .none = es[y].2 := fun y hy => by rw [Array.getElem?_eq_getElem hy]; rfl
      refine fin (.ref T) f' (ys.map fun y => ((es[y]?).map (·.2)).getD .none) s' hsub F' hs' ⟨rfl, _, rfl, .inl ⟨T, ys, rfl, hTup, by simp, fun j p hj => ?_⟩⟩ ?_
      · have hp' := hlt p (List.mem_of_getElem? hj)
        refine ⟨es[p], Array.getElem?_eq_getElem hp', ?_⟩
        rw [List.getElem?_map, hj, Option.map_some, hg p hp']
      · refine (hperm.map _).trans (.of_eq ?_)
        apply List.ext_getElem
        · simp
        · intro i h1 h2
          simp only [List.getElem_map, List.getElem_range, Array.getElem_toList]
          exact hg i (by simpa using h1)

theorem loop_set {target : Expr} {body : List Stmt} {a : Addr} {o : Obj} {S : Str → Prop} {n : Nat} {Q : Flow → Shared → Prop}
    (J : List Str → Nat → Heap → (Str → Option Value) → List (Addr × Obj) → Prop) (hh : A.handled = none)
    (F : Fm b f env.locals m mu s) (ho : b.heap.get? a = some o) (hS : SetW prog w o S n) (hn : n ≤ 1000) (h0 : ∀ xs f', Sub f f' → J xs 0 f' m mu)
    (step : ∀ E' xs i x u b₁ f₁ m₁ mu₁ s₁, (∀ y, y ∈ xs ↔ S y) → xs[i]? = some x → Sub b.heap b₁.heap → b₁.gens = b.gens → b₁.os = b.os → Sub f f₁ → Fm b₁ f₁ env.locals m₁ mu₁ s₁ → J xs i f₁ m₁ mu₁ →
      wpAny (model prog w) A (assign target env (.str x u)) (fun _ s₂ => wpAny (model prog w) A (execs body env) (TurnEnd (J xs) i b₁ f₁ env.locals Q) E' s₂) E' s₁)
    (done : ∀ xs f₁ m₁ mu₁ s₁, (∀ y, y ∈ xs ↔ S y) → Sub f f₁ → Fm b f₁ env.locals m₁ mu₁ s₁ → J xs xs.length f₁ m₁ mu₁ → Q .next s₁)
    (ht : ∀ it v, letOwnedTupleGo target it v = pure () := by intro _ _; rfl) :
    wpAny (model prog w) A (pyIter (.ref a)) (fun it s₂ => codeAny (model prog w) A (.forLoop target it body [] env) (fun r s' => match r with | .ok f => Q f s' | .error e => cameBackBy (model prog w) A env E e s') s₂) E s := by
  obtain ⟨hex, es, ep, t, hd, hel, hm, hf, hz, hl, hp⟩ := hS
  refine set_iter F (F.keep _ _ ho) hex.1 hd hf (by omega) hl hp fun I oi f0 zs s0 hsub0 F0 hit0 hperm => ?_
  obtain ⟨xs, hxs⟩ : ∃ xs : List Str, All2 (fun v x => ∃ u, v = .str x u) zs xs := by
    have : ∀ zs : List Value, (∀ z ∈ zs, ∃ x u, z = .str x u) → ∃ xs : List Str, All2 (fun v x => ∃ u, v = .str x u) zs xs := by
      intro zs
      induction zs with
      | nil => exact fun _ => ⟨[], .nil⟩
      | cons z zs ih =>
        intro h
        obtain ⟨x, u, e⟩ := h z (.head _)
        obtain ⟨xs, r⟩ := ih fun z hz => h z (.tail _ hz)
        exact ⟨x :: xs, .cons ⟨u, e⟩ r⟩
    refine this zs fun z hz => ?_
    obtain ⟨e, he, rfl⟩ := List.mem_map.mp (hperm.mem_iff.mp hz)
    obtain ⟨⟨k, hk, _⟩, _⟩ := hel e he
    obtain ⟨u, q⟩ := Value.isStrOf_shape hk
    exact ⟨k, u, q⟩
  have hmem : ∀ y, y ∈ xs ↔ S y := by
    intro y
    rw [hm y]
    constructor
    · intro hy
      obtain ⟨i, hi⟩ := List.getElem?_of_mem hy
      obtain ⟨v, hv, u, rfl⟩ := hxs.get hi
      obtain ⟨e, he, q⟩ := List.mem_map.mp (hperm.mem_iff.mp (List.mem_of_getElem? hv))
      exact ⟨e, he, by rw [q]; exact strKind_is prog w y u⟩
    · rintro ⟨e, he, q⟩
      obtain ⟨u, q'⟩ := Value.isStrOf_shape q
      have : Value.str y u ∈ zs := hperm.mem_iff.mpr (List.mem_map.mpr ⟨e, he, q'⟩)
      obtain ⟨i, hi⟩ := List.getElem?_of_mem this
      obtain ⟨x, hx, u', e'⟩ := hxs.get' hi
      cases e'
      exact List.mem_of_getElem? hx
  have hlen : zs.length = xs.length := hxs.length
  refine codeAny_forLoop (fun n s' => ∃ i f₁ m₁ mu₁ oi, n = xs.length + 1 - i ∧ i ≤ xs.length ∧ SetIt w f₁ a es ep t zs i oi ∧ Sub f f₁ ∧ Fm b f₁ env.locals m₁ ((I, oi) :: mu₁) s' ∧ J xs i f₁ m₁ mu₁) ?_ (xs.length + 1)
    ⟨0, f0, m, mu, _, rfl, Nat.zero_le _, hit0, hsub0, F0, h0 _ _ hsub0⟩ (fun v => ht _ v)
  rintro n s' ⟨i, f₁, m₁, mu₁, oi, rfl, hi, hit, hsub, F₁, hJ⟩
  have hI := (F₁.mus _ (.head _)).1
  cases hv : xs[i]? with
  | none =>
    have hlen' : i = xs.length := Nat.le_antisymm hi (by simpa using hv)
    refine setIt_done hh hI (F₁.keep _ _ ho) hd hf F₁.sub hit (by simp; omega) fun h' he => wpAny_execs_nil ?_
    exact done xs f₁ m₁ mu₁ _ hmem hsub (F₁.dropExt he rfl rfl rfl) (hlen' ▸ hJ)
  | some x =>
    have hlt : i < xs.length := (List.getElem?_eq_some_iff.mp hv).1
    obtain ⟨v, hzv, u, rfl⟩ := hxs.get hv
    refine setIt_next hI (F₁.keep _ _ ho) hd hf F₁.sub hit hzv fun h' oi' hoi' hit' hs' => ?_
    have F₂ := F₁.updS (s' := { s' with heap := h' }) hs' hoi' rfl rfl rfl
    obtain ⟨h₁, hb₁, ha₁, _, F₃⟩ := F₂.hold
    refine wpAny_mono (step _ xs i x u { b with heap := h₁ } f₁ m₁ mu₁ _ hmem hv hb₁ rfl rfl hsub F₃ hJ) (fun _ s₂ h₂ => ?_) fun _ _ e => e
    refine wpAny_mono h₂ (fun fl s₃ h₃ => ?_) fun _ _ e => e
    have goOn : (∃ f' m' mu', Sub f₁ f' ∧ Fm { b with heap := h₁ } f' env.locals m' mu' s₃ ∧ J xs (i + 1) f' m' mu') → ∃ m, m < xs.length + 1 - i ∧ ∃ i f₁ m₁ mu₁ oi, m = xs.length + 1 - i ∧ i ≤ xs.length ∧ SetIt w f₁ a es ep t zs i oi ∧ Sub f f₁ ∧ Fm b f₁ env.locals m₁ ((I, oi) :: mu₁) s₃ ∧ J xs i f₁ m₁ mu₁ := by
      rintro ⟨f', m', mu', hs, F₄, hJ'⟩
      exact ⟨_, by omega, i + 1, f', m', mu', oi', rfl, hlt, hit'.mono hs, hsub.trans hs, F₄.unhold hb₁ ha₁ (F₂.mus _ (.head _)).2.1, hJ'⟩
    cases fl with
    | next => exact goOn h₃
    | cont => exact goOn h₃
    | brk => exact h₃
    | ret v => exact h₃
end
end Mine
end

section
namespace Mine

section
variable {b s s' : Shared} {f : Heap} {L : Addr} {m m' : Str → Option Value} {mu : List (Addr × Obj)}

/-- all but a and L is kept, L's names are as they were, a has turned -/
theorem Fm.updN (F : Fm b f L m mu s) {a : Addr} {o o' : Obj} {mu' : List (Addr × Obj)} (u : Upd a o o' mu mu') (hs : ∀ c x, c ≠ a → c ≠ L → s.heap.get? c = some x → s'.heap.get? c = some x) (hn : s'.heap.Ns L m) (ho' : s'.heap.get? a = some o')
    (hg : s'.gens = s.gens) (hos : s'.os = s.os) : Fm b f L m mu' s' := by
  have M := F.mus _ u.mem
  have ne : ∀ {a c x} {g : Heap}, g.get? a = none → g.get? c = some x → c ≠ a := fun hn ha e => by rw [e, hn] at ha; cases ha
  refine ⟨hg.trans F.gens, hos.trans F.os, hn, ?_, ?_, F.offb, F.offf, F.new, ?_, by rw [u.map]; exact F.nd⟩
  · exact fun c x e => hs c x (ne M.2.1 e) (ne F.offb e) (F.keep c x e)
  · exact fun c x e => hs c x (ne M.2.2.1 e) (ne F.offf e) (F.sub c x e)
  · intro p hp
    rcases u.of F.nd p hp with rfl | ⟨hp, hn⟩
    · exact ⟨ho', M.2⟩
    · exact ⟨hs _ _ hn (F.mus p hp).2.2.2 (F.mus p hp).1, (F.mus p hp).2⟩
theorem Fm.shrink {f' : Heap} (F : Fm b f L m mu s) (h : Sub f' f) : Fm b f' L m mu s := by
  have off : ∀ {c}, f.get? c = none → f'.get? c = none := fun {c} e => by
    cases q : f'.get? c with
    | none => rfl
    | some z => rw [h _ _ q] at e; cases e
  exact ⟨F.gens, F.os, F.ns, F.keep, h.trans F.sub, F.offb, off F.offf, fun a o e => F.new a o (h _ _ e), fun p hp => let ⟨x, y, z, t⟩ := F.mus p hp; ⟨x, y, off z, t⟩, F.nd⟩
theorem Fm.addMu (F : Fm b f L m mu s) {d : Addr} {o : Obj} (hd : s.heap.get? d = some o) (hb : b.heap.get? d = none) (hf : f.get? d = none) (hL : d ≠ L) (hm : ∀ p ∈ mu, p.1 ≠ d) : Fm b f L m ((d, o) :: mu) s :=
  ⟨F.gens, F.os, F.ns, F.keep, F.sub, F.offb, F.offf, F.new, fun p hp => by
    rcases List.mem_cons.mp hp with rfl | hp
    · exact ⟨hd, hb, hf, hL⟩
    · exact F.mus p hp, by
    simp only [List.map_cons, List.nodup_cons]
    refine ⟨fun q => ?_, F.nd⟩
    obtain ⟨p, hp, e⟩ := List.mem_map.mp q
    exact hm p hp e⟩
/-- the base without d, d as an entry that may turn -/
theorem Fm.loosen (F : Fm b f L m mu s) {d : Addr} {o : Obj} (hd : b.heap.get? d = some o) : Fm { b with heap := only b.heap (· ≠ d) } f L m ((d, o) :: mu) s := by
  have F' : Fm { b with heap := only b.heap (· ≠ d) } f L m mu s := F.base (fun c x e => (only_of e).1) rfl rfl
  refine F'.addMu (F.keep _ _ hd) ?_ ?_ (fun e => ?_) (fun p hp e => ?_)
  · cases q : (only b.heap (· ≠ d)).get? d with
    | none => rfl
    | some z => exact absurd rfl (only_of q).2
  · cases q : f.get? d with
    | none => rfl
    | some z => have := F.new _ _ q; rw [hd] at this; cases this
  · have := F.offb; rw [← e, hd] at this; cases this
  · have := (F.mus p hp).2.1; rw [e, hd] at this; cases this
/-- what a call has made joins the frozen part, but for d, which may turn -/
theorem Fm.joinMu {f₂ : Heap} (F : Fm b f L m mu s) (G : Fresh s f₂ s') {d : Addr} {o : Obj} (hd : s'.heap.get? d = some o) (hs : s.heap.get? d = none) (hf : f₂.get? d = none) : ∃ f', Sub f f' ∧ Sub f₂ f' ∧ Fm b f' L m ((d, o) :: mu) s' := by
  obtain ⟨f', h1, h2, F'⟩ := F.join G
  have ne : ∀ {c x} {g : Heap}, g.get? d = none → g.get? c = some x → c ≠ d := fun hn ha e => by rw [e, hn] at ha; cases ha
  have hfd : f.get? d = none := by
    cases q : f.get? d with
    | none => rfl
    | some z => rw [F.sub _ _ q] at hs; cases hs
  refine ⟨only f' (· ≠ d), fun c x e => only_get (h1 _ _ e) (ne hfd e), fun c x e => only_get (h2 _ _ e) (ne hf e), (F'.shrink fun c x e => (only_of e).1).addMu hd ?_ ?_ (fun e => ?_) (fun p hp e => ?_)⟩
  · cases q : b.heap.get? d with
    | none => rfl
    | some z => rw [F.keep _ _ q] at hs; cases hs
  · cases q : (only f' (· ≠ d)).get? d with
    | none => rfl
    | some z => exact absurd rfl (only_of q).2
  · obtain ⟨oL, hL⟩ := F.isL
    rw [e, hL] at hs; cases hs
  · have := (F.mus p hp).1; rw [e, hs] at this; cases this
end

/-- a dict's object with the pairs kvs -/
def DOf (prog : Program) (w : World) (o : Obj) (kvs : List (Str × Value)) : Prop :=
  ∃ es ep, o.ExactDict ∧ o.data = .dict es ep ∧ KeysOf (strKind prog w) es ∧ Pairs (strKind prog w) es.toList kvs ∧ (kvs.map (·.1)).Nodup
theorem DOf.at {prog : Program} {w : World} {o : Obj} {kvs : List (Str × Value)} {h : Heap} {d : Addr} (x : DOf prog w o kvs) (hd : h.get? d = some o) : h.DictOf (strKind prog w) d kvs := let ⟨es, ep, r⟩ := x; ⟨o, es, ep, hd, r⟩
theorem dOf {prog : Program} {w : World} {kvs : List (Str × Value)} {h : Heap} {d : Addr} (x : h.DictOf (strKind prog w) d kvs) : ∃ o, h.get? d = some o ∧ DOf prog w o kvs := let ⟨o, es, ep, hd, r⟩ := x; ⟨o, hd, es, ep, r⟩

section
variable {prog : Program} {w : World} {A : Around} {E : Value → Shared → Prop} {b s : Shared} {f : Heap} {m : Str → Option Value} {mu : List (Addr × Obj)} {L : Addr} {env : Env}
  {mean : ExcName → Option Value} {mg mb : Str → Option Value} {Q : Value → Shared → Prop}

/-- a name of an instance of _Ignore is read -/
theorem getA {x dx : Addr} {od : Obj} {name : Str} {v : Value} {expr : Bool} (F : Fm b f L m mu s) (C : Cx w mean mg mb b.heap) (hx : s.heap.get? x = some (instObj 79 dx)) (hd : s.heap.get? dx = some od)
    (hg : plainGet (Mine.hd.heap_39 w.params) 79 name = true) (hh : hasDictIn (Mine.hd.heap_39 w.params) 79 = true) (ha : findIn (Mine.hd.heap_39 w.params) (.ref 79) name = some none) (hl : lookIn name od = some (some v)) (hv : handedIn v = true)
    (h : ∀ s', Fm b f L m mu s' → Q v s') : wpAny (model prog w) A (getAttr (.ref x) name expr) Q E s :=
  get_value (C.mono F.keep).X ⟨hx, rfl, rfl, hd⟩ (plainGet_of hg).1 (findObj_own hh ha rfl hl) hv (h _ (F.tok _))

/-- all objects of h but those at a and at L -/
noncomputable def others (h : Heap) (a L : Addr) : List (Addr × Obj) :=
  open Classical in (List.range h.objs.size).filterMap fun c => if c = a ∨ c = L then none else (h.get? c).map (c, ·)
theorem others_of {h : Heap} {a L : Addr} {p : Addr × Obj} (hp : p ∈ others h a L) : h.get? p.1 = some p.2 ∧ p.1 ≠ a ∧ p.1 ≠ L := by
  classical
  obtain ⟨c, _, e⟩ := List.mem_filterMap.mp hp
  split at e
  · cases e
  · rename_i q
    obtain ⟨o, ho, rfl⟩ := Option.map_eq_some_iff.mp e
    exact ⟨ho, fun e => q (.inl e), fun e => q (.inr e)⟩
theorem mem_others {h : Heap} {a L c : Addr} {o : Obj} (hc : h.get? c = some o) (h1 : c ≠ a) (h2 : c ≠ L) : (c, o) ∈ others h a L := by
  classical
  refine List.mem_filterMap.mpr ⟨c, List.mem_range.mpr (Heap.lt_size hc), ?_⟩
  rw [if_neg (fun q => q.elim h1 h2), hc]; rfl

/-- a name of an instance of _Ignore is set -/
theorem setA {x dx : Addr} {name : Str} {v : Value} {mu' : Obj → List (Addr × Obj)} {es : List DictEntry} {n : Nat} {Q : Unit → Shared → Prop} (F : Fm b f L m mu s) (C : Cx w mean mg mb b.heap) (hx : s.heap.get? x = some (instObj 79 dx)) (u : ∀ o', Upd dx (dictOf es n) o' mu (mu' o'))
    (hs : findIn (Mine.hd.heap_39 w.params) (.ref 79) "__setattr__" = some (some (.builtin "object.__setattr__"))) (hp : plainOver (Mine.hd.heap_39 w.params) 79 = true) (ht : takerIn (Mine.hd.heap_39 w.params) 79 name = some none) (hh : hasDictIn (Mine.hd.heap_39 w.params) 79 = true)
    (hl : (lookIn name (dictOf es n)).isSome = true) (hz : ∀ k, (putL name (PyData.keyHash w.params name) (.str name k) v es).length ≤ 1000)
    (h : ∀ s' k, Fm b f L m (mu' (dictOf (putL name (PyData.keyHash w.params name) (.str name k) v es) (putN name es n))) s' → Q () s') : wpAny (model prog w) A (setAttr (.ref x) name v) Q E s := by
  have X := (C.mono F.keep).X
  have D := F.mus _ (u (dictOf es n)).mem
  refine set_plain (od := some (dictOf es n)) X ⟨hx, rfl, rfl, D.1⟩ hs ?_
  refine osa_dict (s := { s with toks := s.toks + 1 }) (h₀ := {}) (L := L) (m := m) (pre := []) (post := others s.heap dx L) (dx := dx) (od := dictOf es n) ⟨F.ns, (fun c o e => by rw [empty_get] at e; cases e), Nat.zero_le _⟩ (fun p hp => ?_) X ⟨hx, rfl, rfl, D.1⟩ rfl hp ht hh hl
    (fun _ hp => nomatch hp) (fun p hp => (others_of hp).2.1) (putName_dict _ _ _ _ _ _) rfl (hz _) fun h' F' N' => ?_
  · rcases List.mem_cons.mp hp with rfl | hp
    · exact ⟨D.1, D.2.2.2, empty_get _⟩
    · exact ⟨(others_of hp).1, (others_of hp).2.2, empty_get _⟩
  · refine h _ (s.toks + 1) (F.updN (u _) (fun c o h1 h2 e => (N' (c, o) (.tail _ (mem_others e h1 h2))).1) F'.ns (N' _ (.head _)).1 rfl rfl)
end
end Mine
end

section
namespace Mine

/-- a reader: an _Ignore of the modules ms and the directories ds, its answers in the dict d -/
def Reader (prog : Program) (w : World) (h : Heap) (x : Addr) (ms ds : List Str) (d : Addr) : Prop :=
  ∃ dx od a o l, h.get? x = some (instObj 79 dx) ∧ h.get? dx = some od ∧ lookIn "_mods" od = some (some (.ref a)) ∧ lookIn "_dirs" od = some (some (.ref l)) ∧ lookIn "_ignore" od = some (some (.ref d)) ∧ lookIn "names" od = some none ∧
    h.get? a = some o ∧ SetW prog w o (fun y => y ∈ ms) 1000 ∧ SIs h l ds
theorem Reader.mono {prog : Program} {w : World} {h h' : Heap} {x d : Addr} {ms ds : List Str} (R : Reader prog w h x ms ds d) (k : Sub h h') : Reader prog w h' x ms ds d := by
  obtain ⟨dx, od, a, o, l, h1, h2, h3, h4, h5, h6, h7, h8, h9⟩ := R
  exact ⟨dx, od, a, o, l, k _ _ h1, k _ _ h2, h3, h4, h5, h6, k _ _ h7, h8, h9.mono k⟩

section
variable {prog : Program} {w : World} {A : Around} {E : Value → Shared → Prop} {b s : Shared} {f : Heap} {m : Str → Option Value} {mu : List (Addr × Obj)} {L : Addr} {env : Env}
  {mean : ExcName → Option Value} {mg mb : Str → Option Value} {Q : Value → Shared → Prop} {K : Frag}

theorem enterI {R : Result → Shared → Prop} {name qual : Str} {params : Arguments} {body : List Stmt} {scope : Scope} {dV kV doc pm cdv ct oc : Value} {an od : Option Addr} {osl : Array (Option Value)} {fn : Addr} {args : List Value} {kw : List (Str × Value)} {binds : List (Str × Value)}
    (X : K.In s.heap) (hlim : s.heap.NoLimit) (hroom : A.depth < recursionLimit)
    (ho : K.lookup fn = some ⟨oc, od, .func (fnOf name qual params body scope dV kV doc pm an cdv ct), osl⟩) (hcd : codeIn K cdv qual = true)
    (hbind : BindsTo s (fnOf name qual params body scope dV kV doc pm an cdv ct) ⟨args, kw⟩ binds) (hloc : ∀ y ∈ binds, scope.names.lookup y.1 = some .local)
    (h : ∀ L s₁, Fm s {} L (fun x => binds.reverse.lookup x) [] s₁ →
      wpAny (model prog w) (A.deeper (envOf qual scope L fn cdv)) (execs body (envOf qual scope L fn cdv)) (fun fl s' => R (.ok (.ret (match fl with | .ret v => v | _ => .none))) s') (fun _ _ => False) s₁)
    (hco : scope.isCoroutine = false := by rfl) (hgen : scope.isGenerator = false := by rfl) (hk : scope.kind = .function := by rfl) (hcell : ∀ x ∈ scope.names, x.2 ≠ .cell := by decide) :
    codeAny (model prog w) A (.call (.ref fn) ⟨args, kw⟩) R s := by
  refine codeAny_call_def (fd := fnOf name qual params body scope dV kV doc pm an cdv ct) (body := body) (binds := binds) hroom (X _ _ ho) rfl hlim (codeRec_of X hcd) rfl hbind hcell hloc (fun h₁ hns hk₁ => ?_) hco hgen hk
  have no : s.heap.get? s.heap.objs.size = none := by
    cases q : s.heap.get? s.heap.objs.size with
    | none => rfl
    | some o' => exact absurd (Heap.lt_size q) (Nat.lt_irrefl _)
  have F : Fm s {} s.heap.objs.size (fun x => binds.reverse.lookup x) [] { s with heap := h₁, toks := s.toks + binds.length } :=
    ⟨rfl, rfl, hns, hk₁, (fun c o e => by rw [empty_get] at e; cases e), no, empty_get _, (fun c o e => by rw [empty_get] at e; cases e), (fun _ hp => nomatch hp), .nil⟩
  exact wpAny_mono (h _ _ F) (fun fl s' hq => hq) fun _ _ x => x.elim

theorem under_tc {A : Around} {n : Nat} {rest : List Value} (R : Rm A (n + 1)) : Rm (A.under (.builtin "type.__call__" ⟨.ref 79 :: rest, []⟩)) n :=
  ⟨R.handled, by rw [show (A.under (.builtin "type.__call__" ⟨.ref 79 :: rest, []⟩)).depth = A.depth + 1 from rfl]; have := R.depth; omega,
    by rw [show (A.under (.builtin "type.__call__" ⟨.ref 79 :: rest, []⟩)).units = A.units + 1 from rfl]; have := R.units; omega⟩

theorem dict1 {keys : List (Option Expr)} {values : List Expr} {pos : Pos} {k : Str} {i : Int} {k1 k2 : Nat} {p1 p2 : Pos} (F : Fm b f L m mu s) (hkeys : keys = [some (.Constant (.str k) k1 p1)]) (hvals : values = [.Constant (.int i) k2 p2])
    (h : ∀ d o s' t, s.heap.objs.size = d → Fm b f L m ((d, o) :: mu) s' → DOf prog w o [(k, .int i t)] → Q (.ref d) s') : wpAny (model prog w) A (eval (.Dict keys values pos) env) Q E s := by
  subst hkeys hvals
  refine wpAny_Dict_pairs (knd := strKind prog w) (pairs := [(eval (.Constant (.str k) k1 p1) env, do let x ← eval (.Constant (.int i) k2 p2) env; standAt pos; pure x)]) (by rfl) (by simp) (by simp) ?_
  have F₁ := F.push { cls := .type "dict", data := .dict #[] }
  refine evalPairs_cons <| kStr F₁ fun t₁ s₁ F₂ => wpAny_bind <| kInt F₂ fun t₂ s₂ F₃ => wpAny_bind <| wpAny_standAt <| wpAny_pure <| evalPairs_nil ⟨[(k, .int i t₂)], ⟨strKind_is prog w k t₁, rfl, trivial⟩, ?_, fun h' hd hs => ?_⟩
  · exact ⟨_, #[], 0, (F₃.mus _ (.head _)).1, ⟨rfl, rfl, rfl⟩, rfl, fun e he => by simp at he, .nil, .nil⟩
  · obtain ⟨o, ho, hO⟩ := dOf hd
    refine h _ o _ t₂ rfl (F₃.updS (s' := { s₂ with heap := h', toks := _ }) hs.extBut ho rfl rfl rfl) hO

abbrev initM (x lm ld : Addr) : Str → Option Value := fun y => ([("self", .ref x), ("modules", .ref lm), ("dirs", .ref ld)] : List (Str × Value)).reverse.lookup y
theorem init_spec {R : Result → Shared → Prop} {h₀ : Heap} {x dx lm ld : Addr} {ms cs : List Str} (hsub : Sub h₀ s.heap) (hx : s.heap.get? x = some (instObj 79 dx)) (hdx : s.heap.get? dx = some emptyDict) (hxn : h₀.get? x = none) (hdn : h₀.get? dx = none) (hne : dx ≠ x)
    (C : Cx w mean mg mb h₀) (Rm0 : Rm A 6) (hm : SIs h₀ lm ms) (hc : SIs h₀ ld cs) (hzm : ms.length ≤ 100) (hzc : cs.length ≤ 100) (hok : ∀ c ∈ cs, pathOk c = true)
    (h : ∀ d o f s' t, Fresh { s with heap := h₀ } f s' → f.get? d = none → h₀.get? d = none → s'.heap.get? d = some o → DOf prog w o [("<string>", .int 1 t)] → (d == sysModules) = false → Reader prog w f x ms (cs.map normRes) d → R (.ok (.ret .none)) s') :
    codeAny (model prog w) A (.call (.ref 69) ⟨[.ref x, .ref lm, .ref ld], []⟩) R s := by
  have Cs : Cx w mean mg mb s.heap := C.mono hsub
  obtain ⟨vm, nm, hlm, hvm⟩ := hm
  obtain ⟨vc, nc, hlc, hvc⟩ := hc
  have hlvm : vm.length = ms.length := by simpa using hvm.length
  have hlvc : vc.length = cs.length := by simpa using hvc.length
  refine enterI (binds := [("self", .ref x), ("modules", .ref lm), ("dirs", .ref ld)]) Cs.X Cs.T.nolimit Rm0.room (by k_is) (by k_is) (binds_K Cs.X rfl (by k_is) rfl rfl rfl) (locs rfl) ?_
  intro L s₁ F0
  have F1 : Fm { s with heap := h₀ } {} L (initM x lm ld) [(x, instObj 79 dx), (dx, emptyDict)] s₁ := by
    have G := F0.base (b' := { s with heap := h₀ }) hsub rfl rfl
    have G1 := G.addMu (F0.keep _ _ hdx) hdn (empty_get _) (fun e => by have := F0.offb; rw [← e, hdx] at this; cases this) (fun _ hp => nomatch hp)
    exact G1.addMu (F0.keep _ _ hx) hxn (empty_get _) (fun e => by have := F0.offb; rw [← e, hx] at this; cases this) (fun p hp => by
      simp only [List.mem_singleton] at hp; subst hp; exact hne)
  obtain ⟨f1, _, hx1, F1⟩ := F1.freeze
  generalize hb0 : ({ s with heap := h₀ } : Shared) = b0 at F1 h
  have eb : b0.heap = h₀ := by rw [← hb0]
  have Cb : Cx w mean mg mb b0.heap := by rw [eb]; exact C
  have hlm' : b0.heap.get? lm = some (listOf vm.toArray nm) := by rw [eb]; exact hlm
  have hlc' : b0.heap.get? ld = some (listOf vc.toArray nc) := by rw [eb]; exact hlc
  -- self._mods
  refine wpAny_execs_cons <| plainObj_wpAny_Assign_Attribute <| ?_
  refine wpAny_mono (?_ : wpAny _ _ _ (fun v s2 => ∃ a o f2, v = .ref a ∧ Sub f1 f2 ∧ Fm b0 f2 L (initM x lm ld) [(dx, emptyDict)] s2 ∧ f2.get? a = some o ∧ SetW prog w o (fun y => y ∈ ms) 1000) _ _) ?_ fun _ _ e => e
  · refine wpAny_IfExp <| wpAny_isTrue_Not <| wpAny_isTrue_value <| ldL F1 rfl <| truthyL F1 (isL (F1.keep _ _ hlm')) (by omega) fun s₂ F₂ => ?_
    by_cases hv : vm = []
    · rw [if_pos (by simp [hv])]
      have hms : ms = [] := List.length_eq_zero_iff.mp (by rw [← hlvm, hv]; rfl)
      refine Call_ <| ldB F₂ Cb (by k_is) (v := .type "set") (by decide +kernel) <| callWith_type0 <| call_set_0 fun led => ?_
      obtain ⟨f2, hs2, ha2, F₃⟩ := (F₂.push { cls := .type "set", dict := none, data := .set #[] 0 (.fresh 0 0 led) }).freeze
      have q := setW_nil prog w led
      obtain ⟨q1, es, ep, tt, q2, q3, q4, q5, q6, q7, q8⟩ := q
      exact ⟨_, _, f2, rfl, hs2, F₃, ha2, q1, es, ep, tt, q2, q3, by rw [hms]; exact q4, q5, by omega, q7, q8⟩
    · rw [if_neg (by simp [hv])]
      refine Call_ <| ldB F₂ Cb (by k_is) (v := .type "set") (by decide +kernel) <| PyProof.Rows.callWith_type1 <| args_cons <| ldL F₂ rfl <| args_nil <| call_set_strs (xs := ms) (g := h₀) Rm0.handled F₂ (.inl (isL hlm')) (F₂.keep _ _ hlm') hvm (by omega) fun a o s₃ F₃ hS => ?_
      obtain ⟨f2, hs2, ha2, F₃⟩ := F₃.freeze
      obtain ⟨q1, es, ep, tt, q2, q3, q4, q5, q6, q7, q8⟩ := hS.toW
      exact ⟨_, _, f2, rfl, hs2, F₃, ha2, q1, es, ep, tt, q2, q3, q4, q5, by omega, q7, q8⟩
  rintro _ s₂ ⟨am, om, f2, rfl, hs2, F2, ham, hSm⟩
  refine ldL F2 rfl <| setA (mu' := fun o' => [(dx, o')]) (es := []) (n := 0) F2 Cb (F2.sub _ _ (hs2 _ _ hx1)) (fun o' => .head) (by k_is) (by k_is) (by k_is) (by k_is) rfl (fun k => Nat.le_of_ble_eq_true rfl) fun s₃ k₃ F3 => ?_
  -- self._dirs
  refine wpAny_execs_cons <| plainObj_wpAny_Assign_Attribute <| ?_
  refine wpAny_mono (?_ : wpAny _ _ _ (fun v s2 => ∃ a f3, v = .ref a ∧ Sub f2 f3 ∧ Fm b0 f3 L (initM x lm ld) [(dx, dictOf (putL "_mods" (PyData.keyHash w.params "_mods") (.str "_mods" k₃) (.ref am) []) (putN "_mods" [] 0))] s2 ∧ SIs f3 a (cs.map normRes)) _ _) ?_ fun _ _ e => e
  · refine wpAny_IfExp <| wpAny_isTrue_Not <| wpAny_isTrue_value <| ldL F3 rfl <| truthyL F3 (isL (F3.keep _ _ hlc')) (by omega) fun s₄ F4 => ?_
    by_cases hv : vc = []
    · rw [if_pos (by simp [hv])]
      have hms : cs = [] := List.length_eq_zero_iff.mp (by rw [← hlvc, hv]; rfl)
      refine eList <| args_nil <| newLst F4 (by simp) fun a s₅ F5 => ?_
      obtain ⟨f3, hs3, ha3, F5⟩ := F5.freeze
      refine ⟨a, f3, rfl, hs3, F5, [], 0, ha3, ?_⟩
      rw [hms]; exact .nil
    · rw [if_neg (by simp [hv])]
      refine eComp (cl := []) (by with_unfolding_all rfl) <| ldL F4 rfl ?_
      refine compGo (items := vc) (fun i ys f => f = {} ∧ All2 (VIs {}) ys (((cs.take i).map normRes).map sDt)) Rm0.handled (isL (F4.keep _ _ hlc')) (by omega) (.inl fun _ _ => rfl) (by decide) rfl ⟨rfl, .nil⟩ ?_ ?_
      · rintro E'' L₂ j v b₃ f₃ m₃ ys s₇ hv hb₃ hg₃ ho₃ F₇ ⟨rfl, hys⟩
        obtain ⟨d, hd, hr⟩ := hvc.get' hv
        simp only [List.getElem?_map, Option.map_eq_some_iff] at hd
        obtain ⟨z, hz, rfl⟩ := hd
        obtain ⟨tz, rfl⟩ := hr
        have C₃ : Cx w mean mg mb b₃.heap := (Cb.mono F4.keep).mono hb₃
        have htk : cs.take (j + 1) = cs.take j ++ [z] := by rw [List.take_add_one, hz]; rfl
        refine wpAny_assign_Name <| stL F₇ fun s₈ F₈ => wpAny_tests_nil ?_
        rw [if_pos rfl]
        refine Call_ <| ldG F₈ C₃ (by k_is) <| cDef C₃ (by k_is) rfl <| args_cons <| ldL F₈ rfl <| args_nil ⟨F₈.keep, ?_⟩
        refine normpath_spec (hok z (List.mem_of_getElem? hz)) (C₃.mono F₈.keep) (Rm0.deeper.less (by decide)) fun t₉ s₉ G₉ => ?_
        refine ⟨{}, _, Sub.refl _, F₈.call G₉, rfl, ?_⟩
        rw [htk, List.map_append, List.map_append]
        exact hys.append (.cons ⟨_, rfl⟩ .nil)
      rintro r ys n₃ f₃ f₃' s₇ ⟨rfl, hys⟩ hs₃ hr₃ G₇ hly
      rw [List.take_of_length_le (by omega)] at hys
      obtain ⟨f3, q1, q2, F5⟩ := F4.join G₇
      exact ⟨r, f3, rfl, q1, F5, ys, n₃, q2 _ _ hr₃, strs_any hys⟩
  rintro _ s₄ ⟨al, f3, rfl, hs3, F4, hal⟩
  refine ldL F4 rfl <| setA (mu' := fun o' => [(dx, o')]) F4 Cb (F4.sub _ _ (hs3 _ _ (hs2 _ _ hx1))) (fun o' => .head) (by k_is) (by k_is) (by k_is) (by k_is) rfl (fun k => Nat.le_of_ble_eq_true rfl) fun s₅ k₅ F5 => ?_
  -- self._ignore
  refine wpAny_execs_cons <| plainObj_wpAny_Assign_Attribute <| dict1 F5 rfl rfl fun d o s₆ t₆ hdd F6 hO => ?_
  refine ldL F6 rfl <| setA (mu' := fun o' => [(d, o), (dx, o')]) F6 Cb (F6.sub _ _ (hs3 _ _ (hs2 _ _ hx1))) (fun o' => .tail .head) (by k_is) (by k_is) (by k_is) (by k_is) rfl (fun k => Nat.le_of_ble_eq_true rfl) fun s₇ k₇ F7 => ?_
  refine wpAny_execs_nil ?_
  have hmem := F7.mus _ (.head _)
  have hsysne : (d == sysModules) = false := by
    have q : (sysModules : Nat) < s₅.heap.objs.size := modules_low ((Cb.mono F5.keep).T.nolimit)
    rw [hdd] at q
    exact beq_eq_false_iff_ne.mpr (Nat.ne_of_gt q)
  have F8 : Fm b0 f3 L (initM x lm ld) [(dx, _)] s₇ := F7.drop
  have M8 := F7.mus _ (.tail _ (.head _))
  have ne : d ≠ dx := by
    have := F7.nd
    simp only [List.map_cons, List.nodup_cons, List.mem_singleton, List.map_nil] at this
    exact this.1
  obtain ⟨f4, hs4, hdx4, F9⟩ := F8.freeze
  have ne' : ∀ {c y} {g : Heap}, g.get? d = none → g.get? c = some y → c ≠ d := fun hn ha e => by rw [e, hn] at ha; cases ha
  have hs5 : Sub f3 (only f4 (· ≠ d)) := fun c y e => only_get (hs4 _ _ e) (ne' hmem.2.2.1 e)
  refine h d o (only f4 (· ≠ d)) s₇ t₆ (F9.shrink fun c y e => (only_of e).1).fresh ?_ ?_ hmem.1 hO hsysne ?_
  · cases q : (only f4 (· ≠ d)).get? d with
    | none => rfl
    | some z => exact absurd rfl (only_of q).2
  · rw [← eb]; exact hmem.2.1
  · exact ⟨dx, _, am, om, al, hs5 _ _ (hs3 _ _ (hs2 _ _ hx1)), only_get hdx4 (Ne.symm ne), rfl, rfl, rfl, rfl, hs5 _ _ (hs3 _ _ ham), hSm, hal.mono hs5⟩

theorem make_spec {lm ld : Addr} {ms cs : List Str} (C : Cx w mean mg mb s.heap) (R : Rm A 8) (hm : SIs s.heap lm ms) (hc : SIs s.heap ld cs) (hzm : ms.length ≤ 100) (hzc : cs.length ≤ 100) (hok : ∀ c ∈ cs, pathOk c = true)
    (h : ∀ x d o f s' t, Fresh s f s' → f.get? d = none → s.heap.get? d = none → s'.heap.get? d = some o → DOf prog w o [("<string>", .int 1 t)] → (d == sysModules) = false → Reader prog w f x ms (cs.map normRes) d → Q (.ref x) s') :
    wpAny (model prog w) A (call (.ref 79) [.ref lm, .ref ld]) Q E s := by
  refine wpAny_call ?_
  obtain ⟨hh, g, d, tk, os⟩ := s
  refine make_core (init := .ref 69) (makes_of C.X (by k_is)) (looks_findIn C.X (by k_is)) (fun self => bind_fn C.X self (by k_is)) (.inl rfl) ?_
  have no : ∀ k, hh.objs.size ≤ k → hh.get? k = none := fun k hk => by
    cases q : hh.get? k with
    | none => rfl
    | some o' => exact absurd (Heap.lt_size q) (Nat.not_lt.mpr hk)
  have sub : Sub hh ((hh.push emptyDict).push (instObj 79 hh.objs.size)) := fun c y e => Heap.get?_push_of_some _ (Heap.get?_push_of_some _ e)
  refine init_spec (h₀ := hh) (dx := hh.objs.size) sub ?_ ?_ (no _ (Nat.le_succ _)) (no _ (Nat.le_refl _)) (Nat.ne_of_lt (Nat.lt_succ_self _)) C ((under_tc R).less (by decide)) hm hc hzm hzc hok ?_
  · have := Heap.get?_push_size (hh.push emptyDict) (o := instObj 79 hh.objs.size) rfl
    rw [Heap.size_push] at this
    exact this
  · exact Heap.get?_push_of_some _ (Heap.get?_push_size _ rfl)
  · intro d' o f s' t G h1 h2 h3 h4 h5 h6
    exact ⟨rfl, h _ d' o f s' t G h1 h2 h3 h4 h5 h6⟩
end
end Mine
end

section
namespace Mine

/-- that a reader leaves a name or a file out -/
def Out (ms ds : List Str) (file : Option Str) (name : Str) : Prop :=
  name ∈ ms ∨ (∃ y ∈ ms, Txt.startswith name (y ++ ".") = true) ∨ file = none ∨ ∃ fl, file = some fl ∧ ∃ y ∈ ds, Txt.startswith fl (y ++ "/") = true
noncomputable def ans (ms ds : List Str) (file : Option Str) (name : Str) : Int := open Classical in if Out ms ds file name then 1 else 0

/-- the answers that a dict's object keeps -/
def Cache (prog : Program) (w : World) (o : Obj) (c : Str → Option Int) (n : Nat) : Prop :=
  ∃ kvs, DOf prog w o kvs ∧ kvs.length ≤ n ∧ ∀ k, match c k with | none => valueAt kvs k = none | some i => ∃ t, valueAt kvs k = some (.int i t)
def fDt : Option Str → Imm
  | none => .none
  | some x => .str x

theorem stored_of {kvs : List (Str × Value)} {k : Str} (h : valueAt kvs k = none) (v : Value) : stored kvs k v = kvs ++ [(k, v)] := by
  unfold stored
  rw [if_neg]
  intro q
  obtain ⟨e, he, hk⟩ := List.any_eq_true.mp q
  unfold valueAt at h
  rw [Option.map_eq_none_iff, List.find?_eq_none] at h
  exact h e he hk
theorem valueAt_snoc (kvs : List (Str × Value)) (k : Str) (v : Value) (k' : Str) (h : valueAt kvs k = none) : valueAt (kvs ++ [(k, v)]) k' = if k' = k then some v else valueAt kvs k' := by
  unfold valueAt at h ⊢
  rw [List.find?_append]
  by_cases e : k' = k
  · subst e
    rw [Option.map_eq_none_iff] at h
    rw [h, if_pos rfl]
    simp
  · rw [if_neg e]
    have : List.find? (fun kv => decide (kv.1 = k')) [(k, v)] = none := by
      simp [Ne.symm e]
    rw [this]
    cases List.find? (fun kv => decide (kv.1 = k')) kvs <;> rfl
theorem Cache.snoc {prog : Program} {w : World} {o' : Obj} {c : Str → Option Int} {n : Nat} {kvs : List (Str × Value)} {k : Str} {i : Int} {t : Tok} (hl : kvs.length ≤ n) (hc : ∀ k, match c k with | none => valueAt kvs k = none | some i => ∃ t, valueAt kvs k = some (.int i t))
    (hk : c k = none) (hO : DOf prog w o' (stored kvs k (.int i t))) : Cache prog w o' (fun y => if y = k then some i else c y) (n + 1) := by
  have hv : valueAt kvs k = none := by have := hc k; rw [hk] at this; exact this
  rw [stored_of hv] at hO
  refine ⟨_, hO, by simp; omega, fun y => ?_⟩
  by_cases e : y = k
  · dsimp only
    rw [if_pos e]
    exact ⟨t, by rw [valueAt_snoc _ _ _ _ hv, if_pos e]⟩
  · dsimp only
    rw [if_neg e, valueAt_snoc _ _ _ _ hv, if_neg e]
    exact hc y

section
variable {prog : Program} {w : World} {A : Around} {E : Value → Shared → Prop} {b s : Shared} {f : Heap} {m : Str → Option Value} {mu : List (Addr × Obj)} {L : Addr} {env : Env}
  {mean : ExcName → Option Value} {mg mb : Str → Option Value} {Q : Value → Shared → Prop} {K : Frag}

theorem ldL' {M : Model} {x : Str} {pos : Pos} {v : Value} (F : Fm b f env.locals m mu s) (hv : m x = some v) (hk : env.scope.kind = .function) (hl : env.kindOf x = some .local) (hd : (x == ("__debug__" : Str)) = false) (h : Q v s) :
    wpAny M A (eval (.Name x pos) env) Q E s := wpAny_Name (wpAny_loadName_local hk hl F.ns hv h) hd

theorem storeRet {i : Int} {p1 p2 p3 p4 p5 p6 p7 p8 : Pos} {k1 k2 : Nat} {x dx d : Addr} {od o : Obj} {name : Str} {tn : Tok} {c : Str → Option Int} {n : Nat} {Q : Flow → Shared → Prop} (hks : env.scope.kind = .function) (h1 : env.kindOf "self" = some .local) (h2 : env.kindOf "modulename" = some .local)
    (F : Fm b f env.locals m [(d, o)] s) (C : Cx w mean mg mb b.heap) (hx : b.heap.get? x = some (instObj 79 dx)) (hdx : b.heap.get? dx = some od) (hl : lookIn "_ignore" od = some (some (.ref d))) (hC : Cache prog w o c n) (hn : n ≤ 500) (hc : c name = none)
    (m1 : m "self" = some (.ref x)) (m2 : m "modulename" = some (.str name tn))
    (h : ∀ t o' s', Fm b f env.locals m [(d, o')] s' → Cache prog w o' (fun y => if y = name then some i else c y) (n + 1) → Q (.ret (.int i t)) s') :
    wpAny (model prog w) A (execs [.Assign [.Subscript (.Attribute (.Name "self" p1) "_ignore" p2) (.Name "modulename" p3) p4] (.Constant (.int i) k1 p5) p6, .Return (some (.Constant (.int i) k2 p7)) p8] env) Q E s := by
  obtain ⟨kvs, hO, hz, hv⟩ := hC
  refine wpAny_execs_cons <| wpAny_Assign_Subscript <| kInt F fun t₁ s₁ F₁ => Attribute_Name_ <| ldL' F₁ m1 hks h1 (by decide) <| getA F₁ C (F₁.keep _ _ hx) (F₁.keep _ _ hdx) (by k_is) (by k_is) (by k_is) hl rfl fun s₂ F₂ => ldL' F₂ m2 hks h2 (by decide) <|
    wpAny_setItem_pairs (knd := strKind prog w) (k := name) (strKind_is prog w name tn) (hO.at (F₂.mus _ (.head _)).1) (fun h' hD hs => ?_) (by rw [sizeLine_eq]; omega)
  obtain ⟨o', ho', hO'⟩ := dOf hD
  have F₃ := F₂.updS (s' := { s₂ with heap := h', toks := s₂.toks + 1 }) hs.extBut ho' rfl rfl rfl
  refine wpAny_execs_cons <| wpAny_Return_some <| kInt F₃ fun t₄ s₄ F₄ => ?_
  exact h _ o' _ F₄ (Cache.snoc hz hv hc hO')

theorem names_spec {gb gf : Heap} {x d : Addr} {o : Obj} {ms ds : List Str} {file : Option Str} {fv : Value} {name : Str} {tn : Tok} {c : Str → Option Int} {n : Nat} (hgb : Sub gb s.heap) (hgbd : gb.get? d = none) (C : Cx w mean mg mb gb) (hgf : Sub gf s.heap) (hgfd : gf.get? d = none) (hR : Reader prog w gf x ms ds d)
    (hd : s.heap.get? d = some o) (hC : Cache prog w o c n) (hn : n ≤ 500) (hsys : (d == sysModules) = false) (R : Rm A 2) (hf : (fDt file).Is fv) (hzm : ∀ y ∈ ms, y.length ≤ 1000) (hzd : ∀ y ∈ ds, y.length ≤ 1000) (hld : ds.length ≤ 1000)
    (h : ∀ i t o' s', i = (c name).getD (ans ms ds file name) → Cache prog w o' (fun y => if y = name then some i else c y) (n + 1) → Heap.ExtBut d s.heap s'.heap → s'.heap.get? d = some o' → s'.gens = s.gens → s'.os = s.os → Q (.int i t) s') :
    wpAny (model prog w) A (call (.ref 76) [.ref x, fv, .str name tn]) Q E s := by
  refine enter (binds := [("self", .ref x), ("filename", fv), ("modulename", .str name tn)]) (C.mono hgb).X (C.mono hgb).T.nolimit R.room (by k_is) (by k_is) (BindsTo.of_eq rfl) (locs rfl) ?_
  intro L s₁ F0
  have F1 := F0.loosen hd
  have ne' : ∀ {e y} {g : Heap}, g.get? d = none → g.get? e = some y → e ≠ d := fun hn ha q => by rw [q, hn] at ha; cases ha
  generalize hb' : ({ s with heap := only s.heap (· ≠ d) } : Shared) = b' at F1
  have eb : b'.heap = only s.heap (· ≠ d) := by rw [← hb']
  have C' : Cx w mean mg mb b'.heap := C.mono (fun e y q => by rw [eb]; exact only_get (hgb _ _ q) (ne' hgbd q))
  have hR' : Reader prog w b'.heap x ms ds d := hR.mono (fun e y q => by rw [eb]; exact only_get (hgf _ _ q) (ne' hgfd q))
  have keep : ∀ e y, e ≠ d → s.heap.get? e = some y → b'.heap.get? e = some y := fun e y q r => by rw [eb]; exact only_get r q
  have hg' : b'.gens = s.gens := by rw [← hb']
  have ho' : b'.os = s.os := by rw [← hb']
  have fin : ∀ (i : Int) (t : Tok) (b₁ : Shared) (f₁ : Heap) (m₁ : Str → Option Value) (o' : Obj) (s' : Shared), Sub b'.heap b₁.heap → b₁.gens = b'.gens → b₁.os = b'.os → Fm b₁ f₁ L m₁ [(d, o')] s' → i = (c name).getD (ans ms ds file name) → Cache prog w o' (fun y => if y = name then some i else c y) (n + 1) → Q (.int i t) s' := by
    intro i t b₁ f₁ m₁ o' s' hs hg ho F hi hC'
    exact h i t o' s' hi hC' (fun e y q r => F.keep _ _ (hs _ _ (keep e y q r))) (F.mus _ (.head _)).1 (F.gens.trans (hg.trans hg')) (F.os.trans (ho.trans ho'))
  clear hgb C hgf hR hgbd hgfd hb' eb F0 hg' ho'
  obtain ⟨dx, od, am, om, al, hx, hdx, l1, l2, l3, l4, ham, hSm, vd, nd, hal, hvd⟩ := hR'
  have hlvd : vd.length = ds.length := by simpa using hvd.length
  obtain ⟨kvs, hO, hz, hv⟩ := hC
  have hC : Cache prog w o c n := ⟨kvs, hO, hz, hv⟩
  have hlen : ("." : Str).length = 1 := rfl
  -- in self._ignore
  refine wpAny_execs_cons <| wpAny_If <| wpAny_isTrue_Compare1 <| ldL F1 rfl <| Attribute_Name_ <| ldL F1 rfl <| getA F1 C' (F1.keep _ _ hx) (F1.keep _ _ hdx) (by k_is) (by k_is) (by k_is) l3 rfl fun s₂ F₂ =>
    wpAny_in_of (strKind_is prog w name tn) hsys (hO.at (F₂.mus _ (.head _)).1).mapOf <| wpAny_truthy_bool ?_
  have F₃ := F₂.tok (s₂.toks + 1)
  cases hc : c name with
  | some i =>
    have hvi := hv name
    rw [hc] at hvi
    obtain ⟨ti, hvi⟩ := hvi
    rw [hvi, if_pos (show (some (Value.int i ti)).isSome = true from rfl)]
    refine wpAny_execs_cons <| wpAny_Return_some <| Subscript_ <| Attribute_Name_ <| ldL F₃ rfl <| getA F₃ C' (F₃.keep _ _ hx) (F₃.keep _ _ hdx) (by k_is) (by k_is) (by k_is) l3 rfl fun s₄ F₄ => ldL F₄ rfl ?_
    refine tail_any (hO.at (F₄.mus _ (.head _)).1).typeIs PySem.F.slot_dict_getitem.lookup (wpAny_getItem_of (strKind_is prog w name tn) (hO.at (F₄.mus _ (.head _)).1).mapOf hvi ?_) (by with_unfolding_all rfl)
    refine fin i ti b' {} _ o _ (Sub.refl _) rfl rfl (F₄.tok _) (by rw [hc]; rfl) ⟨kvs, hO, by omega, fun k => ?_⟩
    dsimp only
    by_cases e : k = name
    · rw [if_pos e, e]; exact ⟨ti, hvi⟩
    · rw [if_neg e]; exact hv k
  | none =>
    have hvi := hv name
    rw [hc] at hvi
    have hvi : valueAt kvs name = none := hvi
    rw [hvi, if_neg (by decide)]
    rw [hc] at fin
    have fin1 : ∀ (t : Tok) (b₁ : Shared) (f₁ : Heap) (m₁ : Str → Option Value) (o' : Obj) (s' : Shared), Out ms ds file name → Sub b'.heap b₁.heap → b₁.gens = b'.gens → b₁.os = b'.os → Fm b₁ f₁ L m₁ [(d, o')] s' → Cache prog w o' (fun y => if y = name then some 1 else c y) (n + 1) → Q (.int 1 t) s' :=
      fun t b₁ f₁ m₁ o' s' hout h1 h2 h3 h4 h5 => fin 1 t b₁ f₁ m₁ o' s' h1 h2 h3 h4 (by unfold ans; rw [if_pos hout]; rfl) h5
    refine wpAny_execs_nil ?_
    -- in self._mods
    obtain ⟨B, kB, hB, hBS⟩ := hSm.setOf (F₃.keep _ _ ham) (by omega)
    refine wpAny_execs_cons <| wpAny_If <| wpAny_isTrue_Compare1 <| ldL F₃ rfl <| Attribute_Name_ <| ldL F₃ rfl <| getA F₃ C' (F₃.keep _ _ hx) (F₃.keep _ _ hdx) (by k_is) (by k_is) (by k_is) l1 rfl fun s₄ F₄ => ?_
    obtain ⟨B, kB, hB, hBS⟩ := hSm.setOf (F₄.keep _ _ ham) (by omega)
    refine wpAny_inSet_of (strKind_is prog w name tn) rfl hB <| wpAny_truthy_bool ?_
    have F₅ := F₄.tok (s₄.toks + 1)
    by_cases c1 : name ∈ ms
    · rw [if_pos ((hBS name).mpr c1)]
      exact storeRet rfl rfl rfl F₅ C' hx hdx l3 hC hn hc rfl rfl fun t o' s' F hC' => fin1 t b' _ _ o' s' (.inl c1) (Sub.refl _) rfl rfl F hC'
    rw [if_neg (fun q => c1 ((hBS name).mp q))]
    refine wpAny_execs_nil ?_
    -- for mod in self._mods
    refine wpAny_execs_cons <| wpAny_For <| Attribute_Name_ <| ldL F₅ rfl <| getA F₅ C' (F₅.keep _ _ hx) (F₅.keep _ _ hdx) (by k_is) (by k_is) (by k_is) l1 rfl fun s₆ F₆ => ?_
    refine loop_set (fun xs i f m mu => mu = [(d, o)] ∧ m "self" = some (.ref x) ∧ m "filename" = some fv ∧ m "modulename" = some (.str name tn) ∧ ∀ j y, j < i → xs[j]? = some y → Txt.startswith name (y ++ ".") = false) R.handled F₆ ham hSm (by decide)
      (fun xs f' _ => ⟨rfl, rfl, rfl, rfl, fun j y hj => absurd hj (Nat.not_lt_zero _)⟩) ?_ ?_
    · rintro E' xs i y u b₁ f₁ m₁ mu₁ s₇ hxs hy hb₁ hg₁ ho₁ hf₁ F₇ ⟨rfl, m1, m2, m3, hno⟩
      have hyl := hzm y ((hxs y).mp (List.mem_of_getElem? hy))
      refine wpAny_assign_Name <| stL F₇ fun s₈ F₈ => ?_
      refine wpAny_execs_cons <| wpAny_If <| wpAny_isTrue_value <| MethodCall_ <| ldL F₈ m3 <| PySem.GM.startswith <| callWith_method1 <| args_cons <| wpAny_BinOp <| ldL F₈ rfl <| kStr F₈ fun t₉ s₉ F₉ => oCat F₉ (by omega) fun t₁₀ s₁₀ F₁₀ => args_nil <| PySem.SC.startswith <| wpAny_truthy_bool ?_
      by_cases c2 : Txt.startswith name (y ++ ".") = true
      · rw [if_pos c2]
        exact storeRet rfl rfl rfl F₁₀ (C'.mono hb₁) (hb₁ _ _ hx) (hb₁ _ _ hdx) l3 hC hn hc m1 m3 fun t o' s' F hC' => fin1 t b₁ _ _ o' s' (.inr (.inl ⟨y, (hxs y).mp (List.mem_of_getElem? hy), c2⟩)) hb₁ hg₁ ho₁ F hC'
      · rw [if_neg c2]
        refine wpAny_execs_nil <| wpAny_execs_nil ⟨f₁, _, _, Sub.refl _, F₁₀, rfl, m1, m2, m3, fun j z hj hz => ?_⟩
        rcases Nat.lt_succ_iff_lt_or_eq.mp hj with hj | rfl
        · exact hno j z hj hz
        · rw [hy] at hz; cases hz; simpa using c2
    rintro xs f₁ m₁ mu₁ s₇ hxs hf₁ F₇ ⟨rfl, m1, m2, m3, hno⟩
    have c2 : ¬ ∃ y ∈ ms, Txt.startswith name (y ++ ".") = true := by
      rintro ⟨y, hy, q⟩
      obtain ⟨j, hj⟩ := List.getElem?_of_mem ((hxs y).mpr hy)
      rw [hno j y (List.getElem?_eq_some_iff.mp hj).1 hj] at q
      cases q
    -- filename is None
    refine wpAny_execs_cons <| wpAny_If <| wpAny_isTrue_Compare1 <| ldL F₇ m2 <| wpAny_Constant_none ?_
    cases file with
    | none =>
      have : fv = .none := hf
      subst this
      refine is_none_none <| wpAny_truthy_bool ?_
      rw [if_pos rfl]
      exact storeRet rfl rfl rfl F₇ C' hx hdx l3 hC hn hc m1 m3 fun t o' s' F hC' => fin1 t b' _ _ o' s' (.inr (.inr (.inl rfl))) (Sub.refl _) rfl rfl F hC'
    | some fl =>
      obtain ⟨tf, rfl⟩ := hf
      refine is_str_none <| wpAny_truthy_bool ?_
      rw [if_neg (by decide)]
      refine wpAny_execs_nil ?_
      -- for d in self._dirs
      refine wpAny_execs_cons <| wpAny_For <| Attribute_Name_ <| ldL F₇ m1 <| getA F₇ C' (F₇.keep _ _ hx) (F₇.keep _ _ hdx) (by k_is) (by k_is) (by k_is) l2 rfl fun s₈ F₈ => ?_
      refine loop_list (items := vd) (fun i f m mu => mu = [(d, o)] ∧ m "self" = some (.ref x) ∧ m "filename" = some (.str fl tf) ∧ m "modulename" = some (.str name tn) ∧ ∀ j y, j < i → ds[j]? = some y → Txt.startswith fl (y ++ "/") = false) R.handled F₈ (.inl (isL hal))
        ⟨rfl, m1, m2, m3, fun j y hj => absurd hj (Nat.not_lt_zero _)⟩ ?_ ?_
      · rintro E' i v b₁ f₁ m₁ mu₁ s₉ hv' hb₁ hg₁ ho₁ hf₁ F₉ ⟨rfl, m1, m2, m3, hno⟩
        obtain ⟨dd, hdd, hr⟩ := hvd.get' hv'
        simp only [List.getElem?_map, Option.map_eq_some_iff] at hdd
        obtain ⟨y, hy, rfl⟩ := hdd
        obtain ⟨u, rfl⟩ := hr
        have hyl := hzd y (List.mem_of_getElem? hy)
        have hls : ("/" : Str).length = 1 := rfl
        refine wpAny_assign_Name <| stL F₉ fun s₁₀ F₁₀ => ?_
        refine wpAny_execs_cons <| wpAny_If <| wpAny_isTrue_value <| MethodCall_ <| ldL F₁₀ m2 <| PySem.GM.startswith <| callWith_method1 <| args_cons <| wpAny_BinOp <| ldL F₁₀ rfl <| ldG F₁₀ (C'.mono hb₁) (by k_is) <| oCat F₁₀ (by omega) fun t₁₁ s₁₁ F₁₁ => args_nil <| PySem.SC.startswith <| wpAny_truthy_bool ?_
        by_cases c3 : Txt.startswith fl (y ++ "/") = true
        · rw [if_pos c3]
          exact storeRet rfl rfl rfl F₁₁ (C'.mono hb₁) (hb₁ _ _ hx) (hb₁ _ _ hdx) l3 hC hn hc m1 m3 fun t o' s' F hC' => fin1 t b₁ _ _ o' s' (.inr (.inr (.inr ⟨fl, rfl, y, List.mem_of_getElem? hy, c3⟩))) hb₁ hg₁ ho₁ F hC'
        · rw [if_neg c3]
          refine wpAny_execs_nil <| wpAny_execs_nil ⟨f₁, _, _, Sub.refl _, F₁₁, rfl, m1, m2, m3, fun j z hj hz => ?_⟩
          rcases Nat.lt_succ_iff_lt_or_eq.mp hj with hj | rfl
          · exact hno j z hj hz
          · rw [hy] at hz; cases hz; simpa using c3
      rintro f₂ m₂ mu₂ s₉ hf₂ F₉ ⟨rfl, m1, m2, m3, hno⟩
      have c3 : ¬ Out ms ds (some fl) name := by
        rintro (q | q | q | ⟨fl', q1, y, hy, q2⟩)
        · exact c1 q
        · exact c2 q
        · cases q
        · cases q1
          obtain ⟨j, hj⟩ := List.getElem?_of_mem hy
          rw [hno j y (by rw [hlvd]; exact (List.getElem?_eq_some_iff.mp hj).1) hj] at q2
          cases q2
      exact storeRet rfl rfl rfl F₉ C' hx hdx l3 hC hn hc m1 m3 fun t o' s' F hC' => fin 0 t b' _ _ o' s' (Sub.refl _) rfl rfl F (by unfold ans; rw [if_neg c3]; rfl) hC'
end
end Mine
end

section
namespace Mine

theorem stretch_list (c : Nat) : ∀ xs ys : List Nat, (¬ ys < xs ++ [c] ∧ ys < xs ++ [c + 1]) ↔ ∃ r, ys = xs ++ c :: r
  | [], [] => by simp
  | [], y :: ys => by
    simp only [List.nil_append, List.cons_lt_cons_iff, List.not_lt_nil, and_false, or_false, List.cons.injEq, exists_eq_right]
    constructor
    · rintro ⟨h1, h2⟩
      exact ⟨ys, by omega, rfl⟩
    · rintro ⟨r, rfl, _⟩
      omega
  | x :: xs, [] => by
    simp
  | x :: xs, y :: ys => by
    have ih := stretch_list c xs ys
    simp only [List.cons_append, List.cons_lt_cons_iff, List.cons.injEq]
    constructor
    · rintro ⟨h1, h2⟩
      have hxy : y = x := by
        rcases h2 with h2 | ⟨h2, _⟩
        · exact absurd (.inl h2) h1
        · exact h2
      subst hxy
      obtain ⟨r, hr⟩ := ih.mp ⟨fun q => h1 (.inr ⟨rfl, q⟩), h2.elim (fun q => absurd q (Nat.lt_irrefl _)) (·.2)⟩
      exact ⟨r, rfl, hr⟩
    · rintro ⟨r, rfl, hr⟩
      obtain ⟨h1, h2⟩ := ih.mpr ⟨r, hr⟩
      exact ⟨fun q => q.elim (fun q => absurd q (Nat.lt_irrefl _)) (fun q => h1 q.2), .inr ⟨rfl, h2⟩⟩

theorem starts_iff (x y : Str) : Txt.startswith x y = true ↔ ∃ r, x.cps.toList = y.cps.toList ++ r := by
  unfold Txt.startswith
  rw [Bool.and_eq_true, PySem.StrLaws.subAt_eq, decide_eq_true_eq, beq_iff_eq]
  have hx : x.length = x.cps.toList.length := by rw [Array.length_toList]; rfl
  have hy : y.length = y.cps.toList.length := by rw [Array.length_toList]; rfl
  rw [hx, hy, List.drop_zero]
  constructor
  · rintro ⟨_, h2⟩
    exact ⟨x.cps.toList.drop y.cps.toList.length, by
      have := List.take_append_drop y.cps.toList.length x.cps.toList
      rw [h2] at this
      exact this.symm⟩
  · rintro ⟨r, hr⟩
    rw [hr]
    constructor
    · simp
    · simp

theorem cps_append (x y : Str) : (x ++ y).cps.toList = x.cps.toList ++ y.cps.toList := by
  show (x.cps ++ y.cps).toList = _
  simp
theorem starts_dot (z h : Str) : Txt.startswith z (h ++ ".") = true ↔ (¬ SLt z (h ++ ".") ∧ SLt z (h ++ "/")) := by
  rw [starts_iff]
  have e1 : (h ++ ("." : Str)).cps.toList = h.cps.toList ++ [46] := by rw [cps_append]; rfl
  have e2 : (h ++ ("/" : Str)).cps.toList = h.cps.toList ++ [47] := by rw [cps_append]; rfl
  show _ ↔ (¬ z.cps.toList < (h ++ ("." : Str)).cps.toList ∧ z.cps.toList < (h ++ ("/" : Str)).cps.toList)
  rw [e1, e2, stretch_list 46]
  simp
theorem starts_slash (z h : Str) : Txt.startswith z (h ++ "/") = true ↔ (¬ SLt z (h ++ "/") ∧ SLt z (h ++ "0")) := by
  rw [starts_iff]
  have e1 : (h ++ ("0" : Str)).cps.toList = h.cps.toList ++ [48] := by rw [cps_append]; rfl
  have e2 : (h ++ ("/" : Str)).cps.toList = h.cps.toList ++ [47] := by rw [cps_append]; rfl
  show _ ↔ (¬ z.cps.toList < (h ++ ("/" : Str)).cps.toList ∧ z.cps.toList < (h ++ ("0" : Str)).cps.toList)
  rw [e1, e2, stretch_list 47]
  simp
theorem coll_zero (x y : Str) : coll x y = 0 ↔ x = y := by
  constructor
  · intro h
    unfold coll at h
    have h1 : ¬ SLt x y := fun q => by
      have q' := slt_asymm q
      simp [q, q', b2i] at h
    have h2 : ¬ SLt y x := fun q => by
      have q' := slt_asymm q
      simp [q, q', b2i] at h
    refine str_eq_iff.mp ?_
    rw [beq_iff_eq]
    exact List.le_antisymm (List.not_lt.mp h2) (List.not_lt.mp h1)
  · rintro rfl
    unfold coll
    simp

/-- what is due is what a reader answers -/
theorem due_ans {ns fs ms ds : List Str} {q : Ask} (hn : q.1 ∈ ns) (hf : ∀ y, q.2 = some y → y ∈ fs) (hs : q.1 ≠ "<string>") : dueOne ns fs ms ds q = ans ms ds q.2 q.1 := by
  unfold dueOne ans
  have e : (InOut ns ms q.1 ∨ q.2 = none ∨ ∃ y, q.2 = some y ∧ InUnder fs ds y) ↔ Out ms ds q.2 q.1 := by
    unfold InOut Out InUnder
    constructor
    · rintro ((h | ⟨hd, hm, _, h | h⟩) | h | ⟨y, hy, hd, hm, _, h⟩)
      · exact absurd h hs
      · rw [(coll_zero _ _).mp h]; exact .inl hm
      · exact .inr (.inl ⟨hd, hm, (starts_dot _ _).mpr h⟩)
      · exact .inr (.inr (.inl h))
      · exact .inr (.inr (.inr ⟨y, hy, hd, hm, (starts_slash _ _).mpr h⟩))
    · rintro (h | ⟨y, hy, h⟩ | h | ⟨fl, hfl, y, hy, h⟩)
      · exact .inl (.inr ⟨q.1, h, hn, .inl ((coll_zero _ _).mpr rfl)⟩)
      · exact .inl (.inr ⟨y, hy, hn, .inr ((starts_dot _ _).mp h)⟩)
      · exact .inr (.inl h)
      · exact .inr (.inr ⟨fl, hfl, y, hy, hf _ hfl, (starts_slash _ _).mp h⟩)
  by_cases h : InOut ns ms q.1 ∨ q.2 = none ∨ ∃ y, q.2 = some y ∧ InUnder fs ds y
  · rw [if_pos h, if_pos (e.mp h)]
  · rw [if_neg h, if_neg (fun x => h (e.mpr x))]

/-- what a reader keeps behind i asks -/
noncomputable def keptAt (ns fs ms ds : List Str) (asks : List Ask) (i : Nat) (k : Str) : Option Int :=
  open Classical in if k = "<string>" then some 1 else if k ∈ (asks.take i).map (·.1) then some (dueOf ns fs ms ds asks k) else none

section
variable {ns fs ms ds : List Str} {asks : List Ask}
theorem due_string (h : ∃ q ∈ asks, q.1 = ("<string>" : Str)) : dueOf ns fs ms ds asks "<string>" = 1 := by
  obtain ⟨j, q, hj, hq, _, hfi⟩ := find_first h
  unfold dueOf
  rw [hfi]
  dsimp only
  unfold dueOne
  rw [if_pos (.inl (.inl hq))]
theorem kept_step {i : Nat} {q : Ask} (hi : asks[i]? = some q) (hn : ∀ q ∈ asks, q.1 ∈ ns) (hf : ∀ q ∈ asks, ∀ y, q.2 = some y → y ∈ fs) :
    (keptAt ns fs ms ds asks i q.1).getD (ans ms ds q.2 q.1) = dueOf ns fs ms ds asks q.1 := by
  have hm := List.mem_of_getElem? hi
  unfold keptAt
  by_cases e : q.1 = "<string>"
  · rw [if_pos e, e, due_string ⟨q, hm, e⟩]; rfl
  · rw [if_neg e]
    by_cases h : q.1 ∈ (asks.take i).map (·.1)
    · rw [if_pos h]; rfl
    · rw [if_neg h]
      obtain ⟨j, p, hj, hp, hno, hfi⟩ := find_first (asks := asks) (n := q.1) ⟨q, hm, rfl⟩
      have hij : i ≤ j := by
        rcases Nat.lt_or_ge j i with hlt | hge
        · refine absurd (List.mem_map.mpr ⟨p, ?_, hp⟩) h
          have : (asks.take i)[j]? = some p := by rw [List.getElem?_take, if_pos hlt]; exact hj
          exact List.mem_of_getElem? this
        · exact hge
      have : j = i := by
        rcases Nat.lt_or_ge i j with hlt | hge
        · exact absurd rfl (hno i hlt q hi)
        · omega
      subst this
      rw [hi] at hj
      cases hj
      unfold dueOf
      rw [hfi]
      exact (due_ans (hn _ hm) (hf _ hm) e).symm
theorem kept_next {i : Nat} {q : Ask} (hi : asks[i]? = some q) : (fun y => if y = q.1 then some (dueOf ns fs ms ds asks q.1) else keptAt ns fs ms ds asks i y) = keptAt ns fs ms ds asks (i + 1) := by
  have hm := List.mem_of_getElem? hi
  have htk : asks.take (i + 1) = asks.take i ++ [q] := by rw [List.take_add_one, hi]; rfl
  funext y
  unfold keptAt
  rw [htk]
  by_cases e : y = q.1
  · subst e
    rw [if_pos rfl]
    by_cases es : q.1 = "<string>"
    · rw [if_pos es, es, due_string ⟨q, hm, es⟩]
    · rw [if_neg es, if_pos (by simp)]
  · rw [if_neg e]
    by_cases es : y = "<string>"
    · rw [if_pos es, if_pos es]
    · rw [if_neg es, if_neg es]
      by_cases h : y ∈ (asks.take i).map (·.1)
      · rw [if_pos h, if_pos (by rw [List.map_append]; exact List.mem_append_left _ h)]
      · rw [if_neg h, if_neg (by
          rw [List.map_append, List.mem_append]
          rintro (x | x)
          · exact h x
          · simp at x; exact e x)]
theorem kept_again {q : Ask} (hm : q ∈ asks) (a : Int) : (keptAt ns fs ms ds asks asks.length q.1).getD a = dueOf ns fs ms ds asks q.1 := by
  unfold keptAt
  by_cases e : q.1 = "<string>"
  · rw [if_pos e, e, due_string ⟨q, hm, e⟩]; rfl
  · rw [if_neg e, if_pos (by rw [List.take_length]; exact List.mem_map_of_mem hm)]; rfl
theorem kept_same {q : Ask} (hm : q ∈ asks) : (fun y => if y = q.1 then some (dueOf ns fs ms ds asks q.1) else keptAt ns fs ms ds asks asks.length y) = keptAt ns fs ms ds asks asks.length := by
  funext y
  by_cases e : y = q.1
  · rw [if_pos e, e]
    unfold keptAt
    by_cases es : q.1 = "<string>"
    · rw [if_pos es, es, due_string ⟨q, hm, es⟩]
    · rw [if_neg es, if_pos (by rw [List.take_length]; exact List.mem_map_of_mem hm)]
  · rw [if_neg e]
end
end Mine
end

section
open PyProof.V PySem.SeqAt
namespace Mine
section
variable {prog : Program} {w : World} {A : Around} {E : Value → Shared → Prop} {b s : Shared} {f : Heap} {m : Str → Option Value} {mu : List (Addr × Obj)} {L : Addr} {env : Env}
  {mean : ExcName → Option Value} {mg mb : Str → Option Value} {Q : Value → Shared → Prop}

theorem fits_ok {i : Int} (h0 : 0 ≤ i) (h1 : i ≤ 1000) : Builtin.Range.rangeFitsLong i = true := by
  unfold Builtin.Range.rangeFitsLong
  rw [Bool.and_eq_true, decide_eq_true_eq, decide_eq_true_eq]
  omega
theorem size_ok {n : Int} (h0 : 0 ≤ n) : Builtin.Range.rangeSize 0 n 1 = n := by
  unfold Builtin.Range.rangeSize
  rw [if_pos (by decide)]
  split
  · simp
  · omega
theorem small_ok {n : Int} (h0 : 0 ≤ n) (h1 : n ≤ 1000) : Builtin.Range.small 0 n 1 = true := by
  unfold Builtin.Range.small
  rw [size_ok h0, fits_ok h0 h1, fits_ok (Int.le_refl 0) (by decide), fits_ok (i := 1) (by decide) (by decide), if_pos (by decide), fits_ok (i := n + (1 - 1)) (by omega) (by omega)]
  simp

theorem loop_range {target : Expr} {body : List Stmt} {r : Addr} {n : Nat} {t u v : Tok} {Q : Flow → Shared → Prop}
    (J : Nat → Heap → (Str → Option Value) → List (Addr × Obj) → Prop) (hh : A.handled = none)
    (F : Fm b f env.locals m mu s) (hr : IsRange s.heap r 0 n 1 t u v) (hn : n ≤ 1000) (h0 : J 0 f m mu)
    (step : ∀ E' i t b₁ f₁ m₁ mu₁ s₁, i < n → Sub b.heap b₁.heap → b₁.gens = b.gens → b₁.os = b.os → Sub f f₁ → Fm b₁ f₁ env.locals m₁ mu₁ s₁ → J i f₁ m₁ mu₁ →
      wpAny (model prog w) A (assign target env (.int i t)) (fun _ s₂ => wpAny (model prog w) A (execs body env) (TurnEnd J i b₁ f₁ env.locals Q) E' s₂) E' s₁)
    (done : ∀ f₁ m₁ mu₁ s₁, Sub f f₁ → Fm b f₁ env.locals m₁ mu₁ s₁ → J n f₁ m₁ mu₁ → Q .next s₁)
    (ht : ∀ it v, letOwnedTupleGo target it v = pure () := by intro _ _; rfl) :
    wpAny (model prog w) A (pyIter (.ref r)) (fun it s₂ => codeAny (model prog w) A (.forLoop target it body [] env) (fun r s' => match r with | .ok f => Q f s' | .error e => cameBackBy (model prog w) A env E e s') s₂) E s := by
  refine wpAny_pyIter_range hr (small_ok (by omega) (by omega)) ?_
  have hsz : Builtin.Range.rangeSize 0 n 1 = n := size_ok (by omega)
  rw [hsz]
  have F0 := F.push { cls := .type "range_iterator", data := .fields #[rawInt 0, rawInt (n : Int), rawInt 1] }
  generalize s.heap.objs.size = it at F0 ⊢
  refine codeAny_forLoop (fun k s' => ∃ i f₁ m₁ mu₁ o, k = n + 1 - i ∧ i ≤ n ∧ o = ({ cls := .type "range_iterator", data := .fields #[rawInt (i : Int), rawInt ((n : Int) - i), rawInt 1] } : Obj) ∧ Sub f f₁ ∧ Fm b f₁ env.locals m₁ ((it, o) :: mu₁) s' ∧ J i f₁ m₁ mu₁) ?_ (n + 1)
    ⟨0, f, m, mu, _, rfl, Nat.zero_le _, by simp, Sub.refl _, F0, h0⟩ (fun v => ht _ v)
  rintro k s' ⟨i, f₁, m₁, mu₁, o, rfl, hi, rfl, hsub, F₁, hJ⟩
  have hit : IsRangeIter s'.heap it i ((n : Int) - i) 1 := (F₁.mus _ (.head _)).1
  by_cases hlt : i < n
  · refine wpAny_pyNext_range_item hit (by omega) fun h' hit' hs' => ?_
    have F₂ : Fm b f₁ env.locals m₁ ((it, _) :: mu₁) { s' with heap := h', toks := s'.toks + 1 } := F₁.updS hs'.extBut hit' rfl rfl rfl
    obtain ⟨h₁, hb₁, ha₁, _, F₃⟩ := F₂.hold
    refine wpAny_mono (step _ i s'.toks { b with heap := h₁ } f₁ m₁ mu₁ _ hlt hb₁ rfl rfl hsub F₃ hJ) (fun _ s₂ h₂ => ?_) fun _ _ e => e
    refine wpAny_mono h₂ (fun fl s₃ h₃ => ?_) fun _ _ e => e
    have goOn : (∃ f' m' mu', Sub f₁ f' ∧ Fm { b with heap := h₁ } f' env.locals m' mu' s₃ ∧ J (i + 1) f' m' mu') → ∃ k, k < n + 1 - i ∧ ∃ i f₁ m₁ mu₁ o, k = n + 1 - i ∧ i ≤ n ∧ o = ({ cls := .type "range_iterator", data := .fields #[rawInt (i : Int), rawInt ((n : Int) - i), rawInt 1] } : Obj) ∧ Sub f f₁ ∧ Fm b f₁ env.locals m₁ ((it, o) :: mu₁) s₃ ∧ J i f₁ m₁ mu₁ := by
      rintro ⟨f', m', mu', hs, F₄, hJ'⟩
      refine ⟨_, by omega, i + 1, f', m', mu', _, rfl, hlt, ?_, hsub.trans hs, F₄.unhold hb₁ ha₁ (F₂.mus _ (.head _)).2.1, hJ'⟩
      rw [show ((n : Int) - i) - 1 = (n : Int) - ((i + 1 : Nat) : Int) by omega]
      rfl
    cases fl with
    | next => exact goOn h₃
    | cont => exact goOn h₃
    | brk => exact h₃
    | ret v => exact h₃
  · have hlen : i = n := by omega
    refine wpAny_pyNext_range_end hh hit (by omega) fun h' he => wpAny_execs_nil ?_
    exact done f₁ m₁ mu₁ _ hsub (F₁.dropExt he rfl rfl rfl) (hlen ▸ hJ)

/-- a comprehension whose calls turn d alone -/
theorem compGoM {elt target iter : Expr} {scope : Scope} {cl : List (Str × Addr)} {pos : Pos} {ax d : Addr} {o₀ : Obj} {items : List Value}
    (J : Nat → List Value → Obj → Prop) (hh : A.handled = none) (hl : s.heap.IsList ax items.toArray) (hne : ax ≠ d) (hd : s.heap.get? d = some o₀) (hsz : items.length ≤ 100000) (ht : TargetOk target items)
    (hcell : ∀ y ∈ scope.names, y.2 ≠ .cell) (hkind : scope.kind = .function) (h0 : J 0 [] o₀)
    (step : ∀ E' L i v b₃ m ys o s₁, items[i]? = some v → (∀ c x, c ≠ d → s.heap.get? c = some x → b₃.heap.get? c = some x) → Fm b₃ {} L m [(d, o)] s₁ → J i ys o →
      wpAny (model prog w) A (assign target (compEnvC scope cl L env) v) (fun _ s₂ => wpAny (model prog w) A (eval elt (compEnvC scope cl L env)) (fun x s₄ => ∃ m' o', Fm b₃ {} L m' [(d, o')] s₄ ∧ J (i + 1) (ys ++ [x]) o') E' s₂) E' s₁)
    (done : ∀ r ys n o s', J items.length ys o → s'.heap.get? d = some o → s'.heap.get? r = some (listOf ys.toArray n) → Heap.ExtBut d s.heap s'.heap → s.heap.get? r = none → s'.gens = s.gens → s'.os = s.os → ys.length ≤ items.length → Q (.ref r) s') :
    CompGo (model prog w) A E env scope cl (.ListComp elt [⟨target, iter, [], 0⟩] scope pos) none Q (.ref ax) s := by
  obtain ⟨ol, hol, rl⟩ := hl
  refine comp_list (RR := fun acc C => compPost (model prog w) A E none Q acc C) (fun i ys f mu => ∃ o, mu = [(d, o)] ∧ f = {} ∧ J i ys o) hh { s with heap := only s.heap (· ≠ d) } (fun c x e => (only_of e).1) rfl rfl ⟨ol, only_get hol hne, rl⟩ (by rw [sizeLine_eq]; omega) [(d, o₀)] (fun p hp => ?_) (by simp) hcell hkind ht ⟨o₀, rfl, rfl, h0⟩ ?_ ?_
  · rw [List.mem_singleton] at hp
    subst hp
    refine ⟨hd, ?_⟩
    cases q : (only s.heap (· ≠ d)).get? d with
    | none => rfl
    | some z => exact absurd rfl (only_of q).2
  · rintro E' L i v b₃ f m mu ys s₁ hv hb hg ho F ⟨o, rfl, rfl, hJ⟩
    refine wpAny_mono (step E' L i v b₃ m ys o s₁ hv (fun c x h1 h2 => hb _ _ (only_get h2 h1)) F hJ) (fun _ s₂ h₂ => wpAny_tests_nil ?_) fun _ _ e => e
    rw [if_pos rfl]
    refine wpAny_mono h₂ (fun x s₄ h₄ => ?_) fun _ _ e => e
    obtain ⟨m', o', F', hJ'⟩ := h₄
    exact ⟨{}, m', _, Sub.refl _, F', o', rfl, rfl, hJ'⟩
  · rintro r L m n ys f mu s' ⟨o, rfl, rfl, hJ⟩ F hr hL hlen
    refine ⟨m, F.ns, fun h' hs' => ?_⟩
    have ne : ∀ {a x}, s.heap.get? a = some x → a ≠ L := fun ha e => by rw [e, hL] at ha; cases ha
    have Mr := F.mus _ (.head _)
    have Md := F.mus _ (.tail _ (.head _))
    exact done r ys n o _ hJ ((hs'.2 _ Md.2.2.2).trans Md.1) ((hs'.2 _ Mr.2.2.2).trans Mr.1) (fun c x h1 h2 => (hs'.2 c (ne h2)).trans (F.keep _ _ (only_get h2 h1))) hr F.gens F.os hlen

theorem Fm.turned {d r : Addr} {o o' or : Obj} {s' : Shared} (F : Fm b f L m ((d, o) :: mu) s) (he : Heap.ExtBut d s.heap s'.heap) (hd : s'.heap.get? d = some o') (hr : s'.heap.get? r = some or) (hn : s.heap.get? r = none) (hg : s'.gens = s.gens) (ho : s'.os = s.os) : Fm b f L m ((r, or) :: (d, o') :: mu) s' := by
  have F' : Fm b f L m ((d, o') :: mu) s' := F.updS he hd rfl hg ho
  refine F'.addMu hr ?_ ?_ (fun e => ?_) (fun p hp e => ?_)
  · cases q : b.heap.get? r with
    | none => rfl
    | some z => rw [F.keep _ _ q] at hn; cases hn
  · cases q : f.get? r with
    | none => rfl
    | some z => rw [F.sub _ _ q] at hn; cases hn
  · obtain ⟨oL, hL⟩ := F.isL
    rw [e, hL] at hn; cases hn
  · rcases List.mem_cons.mp hp with rfl | hp
    · have := (F.mus _ (.head _)).1; rw [← e] at hn; rw [this] at hn; cases hn
    · have := (F.mus p (.tail _ hp)).1; rw [e, hn] at this; cases this

theorem oMax {i j : Int} {t u : Tok} (hh : A.handled = none) (F : Fm b f L m mu s) (h : ∀ t s', Fm b f L m mu s' → Q (.int (if j > i then j else i) t) s') : wpAny (model prog w) A (call (.builtin "max") [.int i t, .int j u]) Q E s := by
  refine max_two_ints hh fun h' tk hk => ?_
  have F' : Fm b f L m mu { s with heap := h', toks := tk } := F.after hk rfl rfl
  by_cases e : j > i
  · have := h u _ F'
    rw [if_pos e] at this ⊢
    exact this
  · have := h t _ F'
    rw [if_neg e] at this ⊢
    exact this

theorem same_strs : ∀ xs : List Str, PySem.Spec.sameAll (xs.map PyData.str) (xs.map PyData.str) = true
  | [] => by simp [PySem.Spec.sameAll]
  | x :: r => by
    simp only [List.map_cons, PySem.Spec.sameAll, same_strs r, Bool.and_true]
    exact (PyProof.V.same_str x x).trans (by simp)
theorem readsAll_of_strs {h g : Heap} {vs : List Value} {xs : List Str} (hv : All2 (VIs g) vs (xs.map sDt)) : ReadsAll h vs (xs.map PyData.str) [] := by
  induction xs generalizing vs with
  | nil => cases hv; exact .nil
  | cons x xs ih =>
    cases hv with
    | cons hr hv =>
      obtain ⟨t, rfl⟩ := hr
      have := ReadsAll.cons (Reads.str (h := h) x t) (ih hv)
      simpa using this
theorem canLayAll0_strs : ∀ ns : List Str, (∀ x ∈ ns, PyData.canLay0 (.str x) = true) → PyData.canLayAll0 (ns.map PyData.str) = true
  | [], _ => by simp [PyData.canLayAll0]
  | n :: r, h => by
    simp only [List.map_cons, PyData.canLayAll0, Bool.and_eq_true]
    exact ⟨h n (.head _), canLayAll0_strs r fun x hx => h x (.tail _ hx)⟩
theorem depthAll_strs : ∀ ns : List Str, PyData.depthAll (ns.map PyData.str) ≤ 1
  | [] => by simp [PyData.depthAll]
  | n :: r => by
    have := depthAll_strs r
    simp only [List.map_cons, PyData.depthAll, PyData.depth]
    omega
theorem shaped_strs (ns : List Str) (h : ∀ x ∈ ns, PyData.canLay0 (.str x) = true) : shaped (.list (ns.map PyData.str)) = true := by
  have h1 := depthAll_strs ns
  have h2 : PyData.depth (.list (ns.map PyData.str)) ≤ 64 := by simp only [PyData.depth]; omega
  show (PyData.canLay0 (.list (ns.map PyData.str)) && decide (PyData.depth (.list (ns.map PyData.str)) ≤ 64)) = true
  rw [Bool.and_eq_true]
  exact ⟨by simp only [PyData.canLay0]; exact canLayAll0_strs ns h, decide_eq_true h2⟩
theorem noMix_strs : ∀ ns ms : List Str, PySem.SeqAt.noMixAll (ns.map PyData.str) (ms.map PyData.str) = true
  | [], [] => by simp [PySem.SeqAt.noMixAll]
  | [], _ :: _ => by simp [PySem.SeqAt.noMixAll]
  | _ :: _, [] => by simp [PySem.SeqAt.noMixAll]
  | _ :: r, _ :: q => by simp [PySem.SeqAt.noMixAll, PySem.SeqAt.noMix, noMix_strs r q]
theorem readsL {h g : Heap} {a : Addr} {vs : List Value} {n : Nat} {xs : List Str} (hl : h.get? a = some (listOf vs.toArray n)) (hv : All2 (VIs g) vs (xs.map sDt)) : Reads h (.ref a) (.list (xs.map PyData.str)) [a] :=
  Reads.list hl rfl rfl (by simpa using readsAll_of_strs hv)
theorem oNeL {a c : Addr} {vs us : List Value} {n k : Nat} {xs : List Str} {g g' : Heap} (hu : A.units + 64 < cLine) (hl : s.heap.get? a = some (listOf vs.toArray n)) (hv : All2 (VIs g) vs (xs.map sDt)) (hl' : s.heap.get? c = some (listOf us.toArray k)) (hv' : All2 (VIs g') us (xs.map sDt))
    (hx : ∀ x ∈ xs, PyData.canLay0 (.str x) = true) (h : Q (.bool false) s) : wpAny (model prog w) A (compareOp .NotEq (.ref a) (.ref c)) Q E s :=
  ne_dataH_same (readsL hl hv) (readsL hl' hv') (shaped_strs xs hx) (shaped_strs xs hx) hu (by simp only [PySem.SeqAt.noMix]; exact noMix_strs xs xs) (by simp only [PySem.Spec.same]; rw [same_strs]; exact h)
theorem oStr {i : Int} {t : Tok} (F : Fm b f L m mu s) (hi : i.natAbs ≤ 1) (h : ∀ t s', Fm b f L m mu s' → Q (.str (toString i) t) s') : wpAny (model prog w) A (call (.type "str") [.int i t]) Q E s :=
  PySem.P.str_of_int (by
    have : i.natAbs = 0 ∨ i.natAbs = 1 := by omega
    rcases this with e | e <;> rw [e] <;> decide) (h _ _ (F.tok _))
end
end Mine
end

section
namespace Mine
theorem ints_all2 {g : Heap} {vs : List Value} {xs : List Int} (h : IntsAre vs xs) : All2 (VIs g) vs (xs.map iDt) := by
  induction h with
  | nil => exact .nil
  | cons n t _ ih => exact .cons ⟨t, rfl⟩ ih
theorem due01 (ns fs ms ds : List Str) (asks : List Ask) (n : Str) : (dueOf ns fs ms ds asks n).natAbs ≤ 1 := by
  unfold dueOf
  split
  · unfold dueOne
    split <;> decide
  · decide
theorem lay01 {i : Int} (h : i = 0 ∨ i = 1) : PyData.canLay0 (.str (toString i)) = true := by
  rcases h with rfl | rfl <;> decide +kernel
theorem due01' (ns fs ms ds : List Str) (asks : List Ask) (n : Str) : dueOf ns fs ms ds asks n = 0 ∨ dueOf ns fs ms ds asks n = 1 := by
  unfold dueOf
  split
  · unfold dueOne
    split
    · exact .inr rfl
    · exact .inl rfl
  · exact .inl rfl
theorem cache0 {prog : Program} {w : World} {o : Obj} {t : Tok} (h : DOf prog w o [("<string>", .int 1 t)]) (ns fs ms ds : List Str) (asks : List Ask) : Cache prog w o (keptAt ns fs ms ds asks 0) 1 := by
  refine ⟨_, h, by simp, fun k => ?_⟩
  unfold keptAt
  by_cases e : k = "<string>"
  · rw [if_pos e]
    exact ⟨t, by rw [e]; rfl⟩
  · rw [if_neg e, if_neg (by simp)]
    show valueAt _ _ = none
    unfold valueAt
    simp [Ne.symm e]

section
variable {prog : Program} {w : World} {A : Around} {E : Value → Shared → Prop} {b s : Shared} {f : Heap} {m : Str → Option Value} {mu mu' : List (Addr × Obj)} {L : Addr} {env : Env}
  {mean : ExcName → Option Value} {mg mb : Str → Option Value} {Q : Value → Shared → Prop}
theorem Fm.turnedU {d r : Addr} {o o' or : Obj} {s' : Shared} (F : Fm b f L m mu s) (u : Upd d o o' mu mu') (he : Heap.ExtBut d s.heap s'.heap) (hd : s'.heap.get? d = some o') (hr : s'.heap.get? r = some or) (hn : s.heap.get? r = none) (hg : s'.gens = s.gens) (ho : s'.os = s.os) : Fm b f L m ((r, or) :: mu') s' := by
  have F' : Fm b f L m mu' s' := F.upd u he hd rfl hg ho
  refine F'.addMu hr ?_ ?_ (fun e => ?_) (fun p hp e => ?_)
  · cases q : b.heap.get? r with
    | none => rfl
    | some z => rw [F.keep _ _ q] at hn; cases hn
  · cases q : f.get? r with
    | none => rfl
    | some z => rw [F.sub _ _ q] at hn; cases hn
  · obtain ⟨oL, hL⟩ := F.isL
    rw [e, hL] at hn; cases hn
  · rcases u.of F.nd p hp with rfl | ⟨hp, _⟩
    · have := (F.mus _ u.mem).1
      dsimp only at this e
      rw [e, hn] at this; cases this
    · have := (F.mus p hp).1; rw [e, hn] at this; cases this

theorem eUpto {value e : Expr} {p pos : Pos}
    (h : wpAny (model prog w) A (eval value env) (fun o s₁ => wpAny (model prog w) A (eval e env) (fun v s₂ => ∃ (l : Addr) (vs : List Value) (k : Nat) (t : Tok) (b : Shared) (f : Heap) (L : Addr) (m : Str → Option Value) (mu : List (Addr × Obj)),
      o = .ref l ∧ v = .int k t ∧ s₂.heap.IsList l vs.toArray ∧ vs.length ≤ 100000 ∧ Fm b f L m mu s₂ ∧ ∀ a s', Fm b f L m ((a, listOf (vs.take k).toArray 0) :: mu) s' → Q (.ref a) s') E s₁) E s) :
    wpAny (model prog w) A (eval (.Subscript value (.Slice none (some e) none p) pos) env) Q E s := by
  refine eSlice (wpAny_mono h (fun o s₁ h₁ => ?_) fun _ _ x => x)
  rw [evalPart_none, evalPart_some]
  refine wpAny_pure (wpAny_mono h₁ (fun v s₂ h₂ => ?_) fun _ _ x => x)
  obtain ⟨l, vs, k, t, b, f, L, m, mu, rfl, rfl, hl, hz, F, hq⟩ := h₂
  exact ⟨l, vs, vs.take k, none, some k, rfl, hl, .none, .int _ _, hz, pickUpto vs k, b, f, L, m, mu, F, hq⟩

theorem ePair {x y : Str} {k1 k2 kk : Nat} {p1 p2 pos : Pos} (F : Fm b f L m mu s) (h : ∀ a f' s', Sub f f' → Fm b f' L m mu s' → VIs f' (.ref a) (.pair (.str x) (.str y)) → Q (.ref a) s') :
    wpAny (model prog w) A (eval (.Tuple [.Constant (.str x) k1 p1, .Constant (.str y) k2 p2] kk pos) env) Q E s :=
  eTuple <| args_cons <| kStr F fun t₁ s₁ F₁ => args_cons <| kStr F₁ fun t₂ s₂ F₂ => args_nil <| newTup F₂ (by simp) fun a f' s' hs F' hT => h a f' s' hs F' ⟨a, _, _, rfl, hT, ⟨_, rfl⟩, ⟨_, rfl⟩⟩
theorem ePairN {x : Str} {k1 k2 kk : Nat} {p1 p2 pos : Pos} (F : Fm b f L m mu s) (h : ∀ a f' s', Sub f f' → Fm b f' L m mu s' → VIs f' (.ref a) (.pair (.str x) .none) → Q (.ref a) s') :
    wpAny (model prog w) A (eval (.Tuple [.Constant (.str x) k1 p1, .Constant .none k2 p2] kk pos) env) Q E s :=
  eTuple <| args_cons <| kStr F fun t₁ s₁ F₁ => args_cons <| wpAny_Constant_none <| args_nil <| newTup F₁ (by simp) fun a f' s' hs F' hT => h a f' s' hs F' ⟨a, _, _, rfl, hT, ⟨_, rfl⟩, rfl⟩

/-- the strings of a list of ints, each 0 or 1 -/
theorem compStrs {iter : Expr} {scope : Scope} {cl : List (Str × Addr)} {pos p1 p2 p3 p4 : Pos} {ax : Addr} {vs : List Value} {is : List Int} {n : Nat} {g : Heap} (hsc : scope = { kind := .function, names := [(".0", .local), ("x", .local), ("str", .globalImplicit)], isGenerator := false, isCoroutine := false, more := [] }) (hg : env.globals = mainGlobals) (hgb : env.builtins = builtinsNs) (hh : A.handled = none) (C : Cx w mean mg mb s.heap)
    (e1 : nsIn (Mine.hd.heap_39 w.params) mainGlobals "str" = some none) (hl : s.heap.get? ax = some (listOf vs.toArray n)) (hv : All2 (VIs g) vs (is.map iDt)) (hz : vs.length ≤ 10000) (h01 : ∀ i ∈ is, i.natAbs ≤ 1)
    (done : ∀ r ys n f s', Fresh s f s' → f.get? r = some (listOf ys.toArray n) → All2 (VIs {}) ys ((is.map fun i => (toString i : Str)).map sDt) → Q (.ref r) s') :
    CompGo (model prog w) A E env scope cl (.ListComp (.Call (.Name "str" p1) [.Name "x" p2] [] p3) [⟨.Name "x" p4, iter, [], 0⟩] scope pos) none Q (.ref ax) s := by
  subst hsc
  have hlv : vs.length = is.length := by simpa using hv.length
  refine compGo (items := vs) (fun i ys f => f = {} ∧ All2 (VIs {}) ys (((is.take i).map fun i => (toString i : Str)).map sDt)) hh (isL hl) (by omega) (.inl fun _ _ => rfl) (by decide) rfl ⟨rfl, .nil⟩ ?_ ?_
  · rintro E'' L₂ j v b₃ f₃ m₃ ys s₇ hv' hb₃ hg₃ ho₃ F₇ ⟨rfl, hys⟩
    obtain ⟨d, hd, hr⟩ := hv.get' hv'
    simp only [List.getElem?_map, Option.map_eq_some_iff] at hd
    obtain ⟨z, hz, rfl⟩ := hd
    obtain ⟨tz, rfl⟩ := hr
    have C₃ : Cx w mean mg mb b₃.heap := C.mono hb₃
    have htk : is.take (j + 1) = is.take j ++ [z] := by rw [List.take_add_one, hz]; rfl
    refine wpAny_assign_Name <| stL F₇ fun s₈ F₈ => wpAny_tests_nil ?_
    rw [if_pos rfl]
    refine Call_ <| ldB F₈ C₃ e1 (v := .type "str") bootS_str (hg := hg) (hgb := hgb) <| PyProof.Rows.callWith_type1 <| args_cons <| ldL F₈ rfl <| args_nil <| oStr F₈ (h01 z (List.mem_of_getElem? hz)) fun t₉ s₉ F₉ => ?_
    refine ⟨{}, _, Sub.refl _, F₉, rfl, ?_⟩
    rw [htk, List.map_append, List.map_append]
    exact hys.append (.cons ⟨_, rfl⟩ .nil)
  · rintro r ys n₃ f₃ f₃' s₇ ⟨rfl, hys⟩ hs₃ hr₃ G₇ hly
    rw [List.take_of_length_le (by omega)] at hys
    exact done r ys n₃ f₃' s₇ G₇ hr₃ hys
end
end Mine
end

section
namespace Mine
section
variable {prog : Program} {w : World} {A : Around} {E : Value → Shared → Prop} {b s : Shared} {f : Heap} {m : Str → Option Value} {mu : List (Addr × Obj)} {L : Addr} {env : Env}
  {mean : ExcName → Option Value} {mg mb : Str → Option Value}

/-- a comprehension that goes straight into a name -/
theorem aComp {M : Model} {Q : Flow → Shared → Prop} {x : Str} {pos' p : Pos} {elt target iter : Expr} {ifs : List Expr} {scope : Scope} {cl : List (Str × Addr)} {pos : Pos} (hclos : closureFor scope env = pure cl)
    (h : wpAny M A (eval iter env) (CompGo M A E env scope cl (.ListComp elt [⟨target, iter, ifs, 0⟩] scope pos) (some (assign (.Name x pos') env)) (fun _ s => Q .next s)) E s)
    (hs : swapsWith (.ListComp elt [⟨target, iter, ifs, 0⟩] scope pos) (some (.Name x pos')) p.line env = pure true := by rfl)
    (hkind : scope.kind = .function := by rfl) (hnames : ∀ y ∈ scope.names, y.2 = .local → scope.names.lookup y.1 = some .local := by decide) (hf : ∀ x, foldedSetIterable iter env x = pure x := by intro _; rfl) :
    wpAny M A (exec (.Assign [.Name x pos'] (.ListComp elt [⟨target, iter, ifs, 0⟩] scope pos) p) env) Q E s := by
  rw [exec_Assign_Name_used _ _ _ _ hs]
  refine wpAny_bind (wpAny_standAt (wpAny_bind (wpAny_mono (?_ : wpAny M A _ (fun _ s => Q .next s) E s) (fun _ s' q => wpAny_pure q) fun _ _ e => e)))
  exact wpAny_bind (wpAny_mono (wpAny_comprehension_free (use := some (assign (.Name x pos') env)) rfl hf hclos hkind hnames h) (fun _ s' q => wpAny_pure q) fun _ _ e => e)

/-- such a one whose calls turn d alone -/
theorem compGoU {Q : Value → Shared → Prop} {elt target iter : Expr} {scope : Scope} {cl : List (Str × Addr)} {pos pos' : Pos} {x : Str} {ax d : Addr} {o₀ : Obj} {items : List Value} {mu' : Obj → List (Addr × Obj)}
    (J : Nat → List Value → Obj → Prop) (hh : A.handled = none) (F : Fm b f env.locals m mu s) (hu : ∀ o, Upd d o₀ o mu (mu' o)) (hl : s.heap.IsList ax items.toArray) (hne : ax ≠ d) (hsz : items.length ≤ 100000) (ht : TargetOk target items)
    (hcell : ∀ y ∈ scope.names, y.2 ≠ .cell) (hkind : scope.kind = .function) (h0 : J 0 [] o₀)
    (step : ∀ E' L i v b₃ m ys o s₁, items[i]? = some v → (∀ c x, c ≠ d → s.heap.get? c = some x → b₃.heap.get? c = some x) → Fm b₃ {} L m [(d, o)] s₁ → J i ys o →
      wpAny (model prog w) A (assign target (compEnvC scope cl L env) v) (fun _ s₂ => wpAny (model prog w) A (eval elt (compEnvC scope cl L env)) (fun x s₄ => ∃ m' o', Fm b₃ {} L m' [(d, o')] s₄ ∧ J (i + 1) (ys ++ [x]) o') E' s₂) E' s₁)
    (done : ∀ r ys n o s', J items.length ys o → Fm b f env.locals (fun y => if y = x then some (.ref r) else m y) ((r, listOf ys.toArray n) :: mu' o) s' → ys.length ≤ items.length → Q .none s')
    (hxl : env.kindOf x = some .local := by rfl) (hp : (env.scope.kind == .class || (env.scope.kind == .module && env.locals != env.globals)) = false := by rfl) :
    CompGo (model prog w) A E env scope cl (.ListComp elt [⟨target, iter, [], 0⟩] scope pos) (some (assign (.Name x pos') env)) Q (.ref ax) s := by
  obtain ⟨ol, hol, rl⟩ := hl
  have hd := (F.mus _ (hu o₀).mem).1
  refine comp_list (RR := fun acc C => compPost (model prog w) A E (some (assign (.Name x pos') env)) Q acc C) (fun i ys f mu => ∃ o, mu = [(d, o)] ∧ f = {} ∧ J i ys o) hh { s with heap := only s.heap (· ≠ d) } (fun c x e => (only_of e).1) rfl rfl ⟨ol, only_get hol hne, rl⟩ (by rw [sizeLine_eq]; omega) [(d, o₀)] (fun p hp => ?_) (by simp) hcell hkind ht ⟨o₀, rfl, rfl, h0⟩ ?_ ?_
  · rw [List.mem_singleton] at hp
    subst hp
    refine ⟨hd, ?_⟩
    cases q : (only s.heap (· ≠ d)).get? d with
    | none => rfl
    | some z => exact absurd rfl (only_of q).2
  · rintro E' L i v b₃ f m mu ys s₁ hv hb hg ho F ⟨o, rfl, rfl, hJ⟩
    refine wpAny_mono (step E' L i v b₃ m ys o s₁ hv (fun c x h1 h2 => hb _ _ (only_get h2 h1)) F hJ) (fun _ s₂ h₂ => wpAny_tests_nil ?_) fun _ _ e => e
    rw [if_pos rfl]
    refine wpAny_mono h₂ (fun x s₄ h₄ => ?_) fun _ _ e => e
    obtain ⟨m', o', F', hJ'⟩ := h₄
    exact ⟨{}, m', _, Sub.refl _, F', o', rfl, rfl, hJ'⟩
  · rintro r L₂ m₂ n ys f₂ mu₂ s' ⟨o, rfl, rfl, hJ⟩ F₂ hr hL hlen
    have Mr := F₂.mus _ (.head _)
    have Md := F₂.mus _ (.tail _ (.head _))
    have he : Heap.ExtBut d s.heap s'.heap := fun c x h1 h2 => F₂.keep _ _ (only_get h2 h1)
    have F₃ := F.turnedU (hu o) he Md.1 Mr.1 hr F₂.gens F₂.os
    obtain ⟨oL, es, ep, hoL, rest⟩ := F₂.ns
    have none_b : b.heap.get? L₂ = none := by
      cases q : b.heap.get? L₂ with
      | none => rfl
      | some z => rw [F.keep _ _ q] at hL; cases hL
    have none_f : f.get? L₂ = none := by
      cases q : f.get? L₂ with
      | none => rfl
      | some z => rw [F.sub _ _ q] at hL; cases hL
    have neL : L₂ ≠ env.locals := fun e => by
      obtain ⟨oo, ho⟩ := F.isL
      rw [e, ho] at hL; cases hL
    have F₄ := F₃.addMu hoL none_b none_f neL (fun p hp e => by
      rcases List.mem_cons.mp hp with rfl | hp
      · exact Mr.2.2.2 e
      · rcases (hu o).of F.nd p hp with rfl | ⟨hp, _⟩
        · exact Md.2.2.2 e
        · have := (F.mus p hp).1; rw [e, hL] at this; cases this)
    refine wpAny_assign_Name <| stL F₄ (fun s₅ F₅ => ?_) hxl hp
    refine ⟨m₂, ⟨oL, es, ep, (F₅.mus _ (.head _)).1, rest⟩, fun h' hs' => ?_⟩
    exact done r ys n o _ hJ (F₅.dropExt (s' := { s₅ with heap := h' }) hs'.extBut rfl rfl rfl) hlen
end
end Mine
end

section
namespace Mine
theorem Cache.mono {prog : Program} {w : World} {o : Obj} {c : Str → Option Int} {n n' : Nat} (h : Cache prog w o c n) (hn : n ≤ n') : Cache prog w o c n' := let ⟨kvs, h1, h2, h3⟩ := h; ⟨kvs, h1, Nat.le_trans h2 hn, h3⟩
theorem sameLook {K : Frag} {a : Addr} {o o' : Obj} (h : K.lookup a = some o) (h' : K.lookup a = some o') : o = o' := by
  rw [h] at h'; exact Option.some.inj h'
section
variable {prog : Program} {w : World} {A : Around} {E : Value → Shared → Prop} {b s : Shared} {f : Heap} {m : Str → Option Value} {mu mu' : List (Addr × Obj)} {L : Addr} {env : Env}
  {mean : ExcName → Option Value} {mg mb : Str → Option Value}

theorem lawTail {name qual : Str} {params : Arguments} {body : List Stmt} {scope : Scope} {dV kV doc pm cdv ct oc : Value} {an od : Option Addr} {osl : Array (Option Value)} {Q : Flow → Shared → Prop} {fn la lm lp : Addr} {cdv' : Value} {c1 c2 c3 : Obj} {va vm vp : List Value} {na nm np : Nat} {asks : List Ask} {ms : List Str} {ps : List (Str × Str)}
    (hK : (Mine.hd.heap_39 w.params).lookup 142 = some ⟨oc, od, .func (fnOf name qual params body scope dV kV doc pm an cdv ct), osl⟩)
    (F : Fm b f L m [(L + 1 + 1 + 1, c3), (L + 1 + 1, c2), (L + 1, c1)] s) (d1 : c1.data = .cell (some (.ref lm))) (d2 : c2.data = .cell (some (.ref lp))) (d3 : c3.data = .cell none) (ma : m "asks" = some (.ref la))
    (hla : f.get? la = some (listOf va.toArray na)) (hva : All2 (VIs f) va (asks.map askDt)) (hla2 : va.length ≤ 13) (hlm : f.get? lm = some (listOf vm.toArray nm)) (hvm : All2 (VIs {}) vm (ms.map sDt)) (hlm2 : vm.length ≤ 8) (hml : ∀ z ∈ ms, z.length ≤ 1000)
    (hlp : f.get? lp = some (listOf vp.toArray np)) (hvp : All2 (VIs f) vp (ps.map placeDt)) (hlp2 : vp.length ≤ 8) (hpl : ∀ z ∈ ps, Good z.1 z.2)
    (C : Cx w mean mg mb b.heap) (R : Rm A 14) (h : ∀ f' m' mu' s', Fm b f' L m' mu' s' → Q (.ret (.bool true)) s') :
    wpAny (model prog w) A (execs (body.drop 5) (envOfC qual scope L fn cdv')) Q E s := by
  have e := sameLook hK (by k_is)
  cases e
  simp only [List.drop_succ_cons, List.drop_zero]
  have hlas : va.length = asks.length := by simpa using hva.length
  have hlms : vm.length = ms.length := by simpa using hvm.length
  have hlps : vp.length = ps.length := by simpa using hvp.length
  have hrefA : ∀ v ∈ va, ∃ a, v = .ref a := fun v hv => by
    obtain ⟨i, hi⟩ := List.getElem?_of_mem hv
    obtain ⟨d, hd, hr⟩ := hva.get' hi
    simp only [List.getElem?_map, Option.map_eq_some_iff] at hd
    obtain ⟨q, _, rfl⟩ := hd
    obtain ⟨c, _, _, e, _⟩ := hr
    exact ⟨c, e⟩
  -- names
  refine wpAny_execs_cons <| wpAny_Assign_Name <| Call_ <| ldG F C (by k_is) <| cDef C (by k_is) rfl <| args_cons <| eComp (cl := []) (by with_unfolding_all rfl) <| ldL F ma ?_
  refine compGo (items := va) (fun i ys f => f = {} ∧ All2 (VIs {}) ys (((asks.take i).map (·.1)).map sDt)) R.handled (isL (F.sub _ _ hla)) (by omega) (.inr ⟨⟨_, _, _, rfl⟩, hrefA⟩) (by decide) rfl ⟨rfl, .nil⟩ ?_ ?_
  · rintro E'' L₂ j v b₃ f₃ m₃ ys s₇ hv hb₃ hg₃ ho₃ F₇ ⟨rfl, hys⟩
    obtain ⟨d, hd, hr⟩ := hva.get' hv
    simp only [List.getElem?_map, Option.map_eq_some_iff] at hd
    obtain ⟨q, hq, rfl⟩ := hd
    obtain ⟨c, xn, xf, rfl, hT, ⟨tn, rfl⟩, hfi⟩ := hr
    have htk : asks.take (j + 1) = asks.take j ++ [q] := by rw [List.take_add_one, hq]; rfl
    refine asPair R.handled F₇ (isTuple_mono (isTuple_mono hT (F.sub.trans hb₃)) F₇.keep) fun s₈ F₈ => wpAny_tests_nil ?_
    rw [if_pos rfl]
    refine ldL F₈ rfl ⟨{}, _, Sub.refl _, F₈, rfl, ?_⟩
    rw [htk, List.map_append, List.map_append]
    exact hys.append (.cons ⟨_, rfl⟩ .nil)
  rintro r1 ys1 n1 f1 f1' s1 ⟨rfl, hys1⟩ hs1 hr1 G1 hly1
  rw [List.take_of_length_le (by omega)] at hys1
  obtain ⟨g1, hg1, hg1', F1⟩ := F.join G1
  refine args_nil ⟨F1.keep, ?_⟩
  refine row_spec (xs := asks.map (·.1)) ⟨ys1, n1, F1.sub _ _ (hg1' _ _ hr1), strs_any hys1⟩ (by simp; omega) (C.mono F1.keep) (R.less (by decide)) fun ln ns f2 s2 G2 hns hsn hmn hln => ?_
  obtain ⟨g2, hg2, hg2', F2⟩ := F1.join G2
  refine stL F2 fun s3 F3 => ?_
  -- files
  have ma' : (fun y => if y = "names" then some (Value.ref ln) else m y) "asks" = some (.ref la) := ma
  refine wpAny_execs_cons <| wpAny_Assign_Name <| Call_ <| ldG F3 C (by k_is) <| cDef C (by k_is) rfl <| args_cons <| eComp (cl := []) (by with_unfolding_all rfl) <| ldL F3 ma' ?_
  refine compGo (items := va) (fun i ys f => f = {} ∧ All2 (VIs {}) ys (((asks.take i).filterMap (·.2)).map sDt)) R.handled (isL (F3.sub _ _ (hg2 _ _ (hg1 _ _ hla)))) (by omega) (.inr ⟨⟨_, _, _, rfl⟩, hrefA⟩) (by decide) rfl ⟨rfl, .nil⟩ ?_ ?_
  · rintro E'' L₂ j v b₃ f₃ m₃ ys s₇ hv hb₃ hg₃ ho₃ F₇ ⟨rfl, hys⟩
    obtain ⟨d, hd, hr⟩ := hva.get' hv
    simp only [List.getElem?_map, Option.map_eq_some_iff] at hd
    obtain ⟨q, hq, rfl⟩ := hd
    obtain ⟨c, xn, xf, rfl, hT, ⟨tn, rfl⟩, hfi⟩ := hr
    have htk : asks.take (j + 1) = asks.take j ++ [q] := by rw [List.take_add_one, hq]; rfl
    refine asPair R.handled F₇ (isTuple_mono (isTuple_mono hT ((hg1.trans hg2).trans (F3.sub.trans hb₃))) F₇.keep) fun s₈ F₈ => wpAny_tests_one <| wpAny_isTrue_Compare1 <| ldL F₈ rfl <| wpAny_Constant_none ?_
    cases hqf : q.2 with
    | none =>
      rw [hqf] at hfi
      have : xf = .none := hfi
      subst this
      refine isnot_none_none <| wpAny_truthy_bool ?_
      rw [if_neg (by decide)]
      refine ⟨{}, _, Sub.refl _, F₈, rfl, ?_⟩
      rw [htk, List.filterMap_append]
      have e : List.filterMap (fun (x : Ask) => x.2) [q] = [] := by simp [hqf]
      rw [e, List.append_nil]
      exact hys
    | some y =>
      rw [hqf] at hfi
      obtain ⟨ty, rfl⟩ := hfi
      refine isnot_none_ne (by intro x; cases x) <| wpAny_truthy_bool ?_
      rw [if_pos rfl]
      refine ldL F₈ rfl ⟨{}, _, Sub.refl _, F₈, rfl, ?_⟩
      rw [htk, List.filterMap_append, List.map_append]
      have e : List.filterMap (fun (x : Ask) => x.2) [q] = [y] := by simp [hqf]
      rw [e]
      exact hys.append (.cons ⟨_, rfl⟩ .nil)
  rintro r4 ys4 n4 f4 f4' s4 ⟨rfl, hys4⟩ hs4 hr4 G4 hly4
  rw [List.take_of_length_le (by omega)] at hys4
  obtain ⟨g4, hg4, hg4', F4⟩ := F3.join G4
  refine args_nil ⟨F4.keep, ?_⟩
  have hlfm : (asks.filterMap (·.2)).length ≤ asks.length := List.length_filterMap_le _ _
  refine row_spec (xs := asks.filterMap (·.2)) ⟨ys4, n4, F4.sub _ _ (hg4' _ _ hr4), strs_any hys4⟩ (by omega) (C.mono F4.keep) (R.less (by decide)) fun lf fs f5 s5 G5 hfs hsf hmf hlf => ?_
  obtain ⟨g5, hg5, hg5', F5⟩ := F4.join G5
  refine stL F5 fun s6 F6 => ?_
  have hns5 : SIs g5 ln ns := hns.mono (hg2'.trans (hg4.trans hg5))
  have hfs5 : SIs g5 lf fs := hfs.mono hg5'
  have hsub5 : Sub f g5 := hg1.trans (hg2.trans (hg4.trans hg5))
  have hla5 := hsub5 _ _ hla
  have hlm5 := hsub5 _ _ hlm
  have hlp5 := hsub5 _ _ hlp
  have hva5 : All2 (VIs g5) va (asks.map askDt) := hva.mono fun _ _ y => y.mono hsub5
  have hvp5 : All2 (VIs g5) vp (ps.map placeDt) := hvp.mono fun _ _ y => y.mono hsub5
  have hinN : ∀ q ∈ asks, q.1 ∈ ns := fun q hq => (hmn _).mpr (List.mem_map_of_mem hq)
  have hinF : ∀ q ∈ asks, ∀ y, q.2 = some y → y ∈ fs := fun q hq y hy => (hmf _).mpr (List.mem_filterMap.mpr ⟨q, hq, hy⟩)
  have hlns : ns.length ≤ 13 := by rw [hln]; simp; omega
  have hlfs : fs.length ≤ 13 := by omega
  clear hva hvp hla hlm hlp hns hfs hg1 hg1' hg2 hg2' hg4 hg4' hg5 hg5' hsub5 F F1 F2 F3 F4 F5 G1 G2 G4 G5 hr1 hr4 hs1 hs4 hys1 hys4 hly1 hly4 ma'
  have hrefP : ∀ k, ∀ v ∈ vp.take k, ∃ a, v = .ref a := fun k v hv => by
    obtain ⟨i, hi⟩ := List.getElem?_of_mem (List.mem_of_mem_take hv)
    obtain ⟨d, hd, hr⟩ := hvp5.get' hi
    simp only [List.getElem?_map, Option.map_eq_some_iff] at hd
    obtain ⟨q, _, rfl⟩ := hd
    obtain ⟨c, _, _, e, _⟩ := hr
    exact ⟨c, e⟩
  -- for k in range(..)
  refine wpAny_execs_cons <| wpAny_For <| Call_ ?_
  refine ldB F6 C (by k_is) (v := .type "range") (by decide +kernel) ?_
  refine PyProof.Rows.callWith_type1 ?_
  refine args_cons <| wpAny_BinOp <| Call_ ?_
  refine ldB F6 C (by k_is) (v := .builtin "max") (by decide +kernel) ?_
  refine PyProof.Rows.callWith_builtin1 ?_
  refine args_cons <| Call_ ?_
  refine ldB F6 C (by k_is) bootS_len ?_
  refine PyProof.Rows.callWith_builtin1 ?_
  refine args_cons ?_
  refine ldC F6 (.tail _ (.tail _ (.head _))) d1 ?_
  refine args_nil ?_
  refine oLen F6 (isL (F6.sub _ _ hlm5)) (by omega) fun t7 s7 F7 => ?_
  refine args_cons <| Call_ ?_
  refine ldB F7 C (by k_is) bootS_len ?_
  refine PyProof.Rows.callWith_builtin1 ?_
  refine args_cons ?_
  refine ldC F7 (.tail _ (.head _)) d2 ?_
  refine args_nil ?_
  refine oLen F7 (isL (F7.sub _ _ hlp5)) (by omega) fun t8 s8 F8 => ?_
  refine args_nil ?_
  refine oMax R.handled F8 fun t9 s9 F9 => ?_
  refine kInt F9 fun t10 s10 F10 => oAdd F10 fun t11 s11 F11 => ?_
  refine args_nil ?_
  refine call_range_1 ?_
  obtain ⟨N, hN, hN9⟩ : ∃ N : Nat, (if (vp.length : Int) > (vm.length : Int) then (vp.length : Int) else (vm.length : Int)) + 1 = (N : Int) ∧ N ≤ 9 := by
    by_cases q : (vp.length : Int) > (vm.length : Int)
    · rw [if_pos q]; exact ⟨vp.length + 1, by omega, by omega⟩
    · rw [if_neg q]; exact ⟨vm.length + 1, by omega, by omega⟩
  rw [hN]
  have F12 := (F11.push { cls := .type "range", data := .fields #[.int 0 s11.toks, .int (N : Int) t11, .int 1 (s11.toks + 1)] }).tok (s11.toks + 1 + 1)
  refine loop_range (n := N) (fun i f' m' mu' => ∃ c3' v, mu' = [(L + 1 + 1 + 1, c3'), (L + 1 + 1, c2), (L + 1, c1)] ∧ c3'.data = .cell v ∧ m' "asks" = some (.ref la) ∧ m' "names" = some (.ref ln) ∧ m' "files" = some (.ref lf)) R.handled F12.drop (F12.mus _ (.head _)).1 (by omega) ⟨c3, _, rfl, d3, ma, rfl, rfl⟩ ?_ ?_
  · rintro E' k t b₁ f₁ m₁ mu₁ s₁ hk hb₁ hg₁ ho₁ hf₁ Fa ⟨c3', v3, rfl, d3', e1, e2, e3⟩
    have C₁ : Cx w mean mg mb b₁.heap := C.mono hb₁
    refine wpAny_assign_Name <| stL Fa fun s₂ Fb => ?_
    -- reader
    refine wpAny_execs_cons <| wpAny_Assign_Name <| Call_ <| ldG Fb C₁ (by k_is) ?_
    refine callWith_K (first := []) C₁.X (by k_is) ?_
    refine args_cons <| eUpto <| ldC Fb (.tail _ (.tail _ (.head _))) d1 <| ldL Fb rfl ⟨lm, vm, k, t, _, _, _, _, _, rfl, rfl, isL (Fb.sub _ _ (hf₁ _ _ hlm5)), by omega, Fb, fun lmk s₃ Fc => ?_⟩
    obtain ⟨h1, hh1, hlmk, Fc⟩ := Fc.freeze
    refine args_cons <| eComp (cl := []) (by with_unfolding_all rfl) <| eUpto <| ldC Fc (.tail _ (.head _)) d2 <| ldL Fc rfl ⟨lp, vp, k, t, _, _, _, _, _, rfl, rfl, isL (Fc.sub _ _ (hh1 _ _ (hf₁ _ _ hlp5))), by omega, Fc, fun lpk s₄ Fd => ?_⟩
    obtain ⟨h2, hh2, hlpk, Fd⟩ := Fd.freeze
    have hpk : All2 (VIs h2) (vp.take k) ((ps.take k).map placeDt) := by rw [List.map_take]; exact (hvp5.mono fun _ _ y => y.mono (hf₁.trans (hh1.trans hh2))).take k
    have hlk : (vp.take k).length ≤ 8 := by simp; omega
    have hlkp : (vp.take k).length = (ps.take k).length := by simpa using hpk.length
    refine compGo (items := vp.take k) (fun i ys f => f = {} ∧ All2 (VIs {}) ys ((((ps.take k).take i).map (·.2)).map sDt)) R.handled (isL (Fd.sub _ _ hlpk)) (by omega) (.inr ⟨⟨_, _, _, rfl⟩, hrefP k⟩) (by decide) rfl ⟨rfl, .nil⟩ ?_ ?_
    · rintro E'' L₂ j v b₃ f₃ m₃ ys s₇ hv hb₃ hg₃ ho₃ F₇ ⟨rfl, hys⟩
      obtain ⟨d, hd, hr⟩ := hpk.get' hv
      simp only [List.getElem?_map, Option.map_eq_some_iff] at hd
      obtain ⟨q, hq, rfl⟩ := hd
      obtain ⟨c, xn, xf, rfl, hT, ⟨tn, rfl⟩, ⟨tf, rfl⟩⟩ := hr
      have htk : (ps.take k).take (j + 1) = (ps.take k).take j ++ [q] := by rw [List.take_add_one, hq]; rfl
      refine asPair R.handled F₇ (isTuple_mono (isTuple_mono hT (Fd.sub.trans hb₃)) F₇.keep) fun s₈ F₈ => wpAny_tests_nil ?_
      rw [if_pos rfl]
      refine ldL F₈ rfl ⟨{}, _, Sub.refl _, F₈, rfl, ?_⟩
      rw [htk, List.map_append, List.map_append]
      exact hys.append (.cons ⟨_, rfl⟩ .nil)
    rintro rc ysc nc fc fc' s₅ ⟨rfl, hysc⟩ hsc hrc Gc hlyc
    rw [List.take_of_length_le (Nat.le_of_eq hlkp.symm)] at hysc
    obtain ⟨h3, hh3, hh3', Fe⟩ := Fd.join Gc
    refine args_nil ⟨(C₁.mono Fe.keep).X, ?_⟩
    show wpAny _ _ (call (.ref 79) [.ref lmk, .ref rc]) _ _ _
    have hmk : All2 (VIs {}) (vm.take k) ((ms.take k).map sDt) := by rw [List.map_take]; exact hvm.take k
    refine make_spec (ms := ms.take k) (cs := (ps.take k).map (·.2)) (C₁.mono Fe.keep) (R.less (by decide)) ⟨vm.take k, 0, Fe.sub _ _ (hh3 _ _ (hh2 _ _ hlmk)), strs_any hmk⟩ ⟨ysc, nc, Fe.sub _ _ (hh3' _ _ hrc), strs_any hysc⟩ (by simp; omega) (by simp; omega)
      (fun c hc => by
        obtain ⟨q, hq, rfl⟩ := List.mem_map.mp hc
        exact (hpl q (List.mem_of_mem_take hq)).path.1) fun x d o fr s₆ t₆ G6 hfd hsd hsd' hO hsys hRd => ?_
    have hds : ((ps.take k).map (·.2)).map normRes = (ps.take k).map (·.1) := by
      rw [List.map_map]
      exact List.map_congr_left fun q hq => (hpl q (List.mem_of_mem_take hq)).path.2.1
    rw [hds] at hRd
    obtain ⟨h4, hh4, hh4', Ff⟩ := Fe.joinMu G6 hsd' hsd hfd
    refine stC Ff d3' (fun o' => .tail .head) fun c3n s₇ d3n Fg => ?_
    have hsub4 : Sub g5 h4 := hf₁.trans (hh1.trans (hh2.trans (hh3.trans hh4)))
    -- due
    have hla4 := hsub4 _ _ hla5
    have hva4 : All2 (VIs h4) va (asks.map askDt) := hva5.mono fun _ _ y => y.mono hsub4
    refine wpAny_execs_cons <| wpAny_Assign_Name <| Call_ ?_
    refine ldG Fg C₁ (by k_is) ?_
    refine cDef C₁ (by k_is) rfl ?_
    refine args_cons <| ldL Fg e1 ?_
    refine args_cons <| ldL Fg e2 ?_
    refine args_cons <| ldL Fg e3 ?_
    refine args_cons <| eUpto <| ldC Fg (.tail _ (.tail _ (.tail _ (.head _)))) d1 <| ldL Fg rfl ⟨lm, vm, k, t, _, _, _, _, _, rfl, rfl, isL (Fg.sub _ _ (hsub4 _ _ hlm5)), by omega, Fg, fun lmk2 s₈ Fh => ?_⟩
    obtain ⟨h5, hh5, hlmk2, Fh⟩ := Fh.freeze
    refine args_cons <| eComp (cl := []) (by with_unfolding_all rfl) <| eUpto <| ldC Fh (.tail _ (.tail _ (.head _))) d2 <| ldL Fh rfl ⟨lp, vp, k, t, _, _, _, _, _, rfl, rfl, isL (Fh.sub _ _ (hh5 _ _ (hsub4 _ _ hlp5))), by omega, Fh, fun lpk2 s₉ Fi => ?_⟩
    obtain ⟨h6, hh6, hlpk2, Fi⟩ := Fi.freeze
    have hpk2 : All2 (VIs h6) (vp.take k) ((ps.take k).map placeDt) := by rw [List.map_take]; exact (hvp5.mono fun _ _ y => y.mono (hsub4.trans (hh5.trans hh6))).take k
    refine compGo (items := vp.take k) (fun i ys f => f = {} ∧ All2 (VIs {}) ys ((((ps.take k).take i).map (·.1)).map sDt)) R.handled (isL (Fi.sub _ _ hlpk2)) (by omega) (.inr ⟨⟨_, _, _, rfl⟩, hrefP k⟩) (by decide) rfl ⟨rfl, .nil⟩ ?_ ?_
    · rintro E'' L₂ j v b₃ f₃ m₃ ys s₇ hv hb₃ hg₃ ho₃ F₇ ⟨rfl, hys⟩
      obtain ⟨d, hd, hr⟩ := hpk2.get' hv
      simp only [List.getElem?_map, Option.map_eq_some_iff] at hd
      obtain ⟨q, hq, rfl⟩ := hd
      obtain ⟨c, xn, xf, rfl, hT, ⟨tn, rfl⟩, ⟨tf, rfl⟩⟩ := hr
      have htk : (ps.take k).take (j + 1) = (ps.take k).take j ++ [q] := by rw [List.take_add_one, hq]; rfl
      refine asPair R.handled F₇ (isTuple_mono (isTuple_mono hT (Fi.sub.trans hb₃)) F₇.keep) fun s₈ F₈ => wpAny_tests_nil ?_
      rw [if_pos rfl]
      refine ldL F₈ rfl ⟨{}, _, Sub.refl _, F₈, rfl, ?_⟩
      rw [htk, List.map_append, List.map_append]
      exact hys.append (.cons ⟨_, rfl⟩ .nil)
    rintro rp ysp np' fp fp' s₁₀ ⟨rfl, hysp⟩ hsp hrp Gp hlyp
    rw [List.take_of_length_le (Nat.le_of_eq hlkp.symm)] at hysp
    obtain ⟨h7, hh7, hh7', Fj⟩ := Fi.join Gp
    refine args_nil ⟨Fj.keep, ?_⟩
    have hsub7 : Sub h4 h7 := hh5.trans (hh6.trans hh7)
    have hmlk : ∀ y ∈ ms.take k, y.length ≤ 1000 := fun y hy => hml y (List.mem_of_mem_take hy)
    have hdlk : ∀ y ∈ (ps.take k).map (·.1), y.length ≤ 1000 := fun y hy => by
      obtain ⟨q, hq, rfl⟩ := List.mem_map.mp hy
      have := (hpl q (List.mem_of_mem_take hq)).path.2.2
      omega
    refine due_spec (asks := asks) (ns := ns) (fs := fs) (ms := ms.take k) (ds := (ps.take k).map (·.1)) (LIs.mono ⟨va, na, hla4, hva4⟩ (hsub7.trans Fj.sub)) (hns5.mono (hsub4.trans (hsub7.trans Fj.sub))) (hfs5.mono (hsub4.trans (hsub7.trans Fj.sub))) ⟨vm.take k, 0, Fj.sub _ _ (hh7 _ _ (hh6 _ _ hlmk2)), strs_any hmk⟩ ⟨ysp, np', Fj.sub _ _ (hh7' _ _ hrp), strs_any hysp⟩
      hsn hsf (by omega) (by omega) (by omega) (by simp; omega) (by simp; omega) hmlk hdlk hinN (C₁.mono Fj.keep) (R.less (by decide)) fun ldue f8 s₁₁ G11 hII => ?_
    obtain ⟨h8, hh8, hh8', Fk⟩ := Fj.join G11
    refine stL Fk fun s₁₂ Fl => ?_
    generalize hDS : (ps.take k).map (·.1) = DS at hRd hII hdlk
    generalize hMS : ms.take k = MS at hRd hII hmlk
    have hlDS : DS.length ≤ 8 := by rw [← hDS]; simp; omega
    have hRd8 : Reader prog w h8 x MS DS d := hRd.mono (hh4'.trans (hsub7.trans hh8))
    have hla8 := hh8 _ _ (hsub7 _ _ hla4)
    have hva8 : All2 (VIs h8) va (asks.map askDt) := hva4.mono fun _ _ y => y.mono (hsub7.trans hh8)
    have hd8 : h8.get? d = none := (Fl.mus _ (.head _)).2.2.1
    have ned : ∀ {c y} {g : Heap}, g.get? d = none → g.get? c = some y → c ≠ d := fun hn ha e => by rw [e, hn] at ha; cases ha
    have hb1d : b₁.heap.get? d = none := (Fl.mus _ (.head _)).2.1
    have hcd : L + 1 + 1 + 1 ≠ d := by
      have := Fl.nd
      simp only [List.map_cons, List.nodup_cons, List.mem_cons, not_or] at this
      exact fun e => this.1.1 e.symm
    -- told
    refine wpAny_execs_cons <| aComp (cl := [("reader", L + 1 + 1 + 1)]) (by with_unfolding_all rfl) <| ldL Fl e1 ?_
    refine compGoU (x := "told") (items := va) (d := d) (o₀ := o) (mu' := fun o => [(d, o), (L + 1 + 1 + 1, c3n), (L + 1 + 1, c2), (L + 1, c1)]) (fun i ys o => All2 (VIs {}) ys (((asks.take i).map fun q => dueOf ns fs MS DS asks q.1).map iDt) ∧ Cache prog w o (keptAt ns fs MS DS asks i) (1 + i)) R.handled Fl (fun o => .head) (isL (Fl.sub _ _ hla8)) (ned hd8 hla8) (by omega) (.inr ⟨⟨_, _, _, rfl⟩, hrefA⟩) (by decide) rfl ⟨.nil, cache0 hO ns fs MS DS asks⟩ ?_ ?_
    · rintro E'' L₂ j v b₃ m₃ ys o₃ s₇ hv hkeep F₇ ⟨hys, hca⟩
      have hfb : Sub h8 b₃.heap := fun c y e => hkeep c y (ned hd8 e) (Fl.sub _ _ e)
      have C₃ : Cx w mean mg mb b₃.heap := C₁.mono fun c y e => hkeep c y (ned hb1d e) (Fl.keep _ _ e)
      have hcr : b₃.heap.IsCell (L + 1 + 1 + 1) (some (.ref x)) := ⟨c3n, hkeep _ _ hcd (Fl.mus _ (.tail _ (.head _))).1, d3n⟩
      obtain ⟨dd, hdd, hr⟩ := hva8.get' hv
      simp only [List.getElem?_map, Option.map_eq_some_iff] at hdd
      obtain ⟨q, hq, rfl⟩ := hdd
      obtain ⟨c, xn, xf, rfl, hT, ⟨tn, rfl⟩, hfi⟩ := hr
      have htk : asks.take (j + 1) = asks.take j ++ [q] := by rw [List.take_add_one, hq]; rfl
      have hb3d : b₃.heap.get? d = none := (F₇.mus _ (.head _)).2.1
      have hjl : j < va.length := (List.getElem?_eq_some_iff.mp hv).1
      refine asPair R.handled F₇ (isTuple_mono (isTuple_mono hT hfb) F₇.keep) fun s₈ F₈ => ?_
      refine MethodCall_ <| ldCb (hcr.keeps F₈.keep) ?_
      have hRd₃ := hRd8.mono hfb
      obtain ⟨dx, od, am, om, al, q1, q2, q3, q4, q5, q6, q7, q8, q9⟩ := id hRd₃
      refine method_fn (od := some od) (C₃.mono F₈.keep).X ⟨F₈.keep _ _ q1, rfl, rfl, F₈.keep _ _ q2⟩ (by k_is) (by k_is) (by k_is) (by k_is) (by show (lookIn "names" od).map _ = _; rw [q6]; rfl) ?_
      refine callWith_K (first := [.ref x]) C₃.X (by k_is) ?_
      refine args_cons <| ldL F₈ rfl ?_
      refine args_cons <| ldL F₈ rfl ?_
      refine args_nil ⟨(C₃.mono F₈.keep).X, ?_⟩
      show wpAny _ _ (call (.ref 76) [.ref x, xf, .str q.1 tn]) _ _ _
      have hfi' : (fDt q.2).Is xf := by
        cases hqf : q.2 with
        | none => rw [hqf] at hfi; exact hfi
        | some y => rw [hqf] at hfi; exact hfi
      refine names_spec (gb := b₃.heap) (gf := b₃.heap) F₈.keep hb3d C₃ F₈.keep hb3d hRd₃ (F₈.mus _ (.head _)).1 hca (by omega) hsys (R.less (by decide)) hfi' hmlk hdlk (by omega) fun i ti o' s' hi hC' he hd' hg ho => ?_
      rw [kept_step hq hinN hinF] at hi
      subst hi
      rw [kept_next hq] at hC'
      refine ⟨_, o', F₈.updS he hd' rfl hg ho, ?_, hC'⟩
      rw [htk, List.map_append, List.map_append]
      exact hys.append (.cons ⟨_, rfl⟩ .nil)
    rintro rt yt nt o2 s₁₃ ⟨hyt, hca2⟩ Fn hlyt
    rw [List.take_of_length_le (by omega)] at hyt
    rw [hlas] at hca2
    -- told += ..
    refine wpAny_execs_cons <| wpAny_AugAssign_Name <| ldLn Fn rfl ?_
    refine eComp (cl := [("reader", L + 1 + 1 + 1)]) (by with_unfolding_all rfl) <| ldL Fn e1 ?_
    refine compGoM (items := va) (d := d) (o₀ := o2) (fun i ys o => All2 (VIs {}) ys (((asks.take i).map fun q => dueOf ns fs MS DS asks q.1).map iDt) ∧ Cache prog w o (keptAt ns fs MS DS asks asks.length) (20 + i)) R.handled (isL (Fn.sub _ _ hla8)) (ned hd8 hla8) (Fn.mus _ (.tail _ (.head _))).1 (by omega) (.inr ⟨⟨_, _, _, rfl⟩, hrefA⟩) (by decide) rfl ⟨.nil, hca2.mono (by omega)⟩ ?_ ?_
    · rintro E'' L₂ j v b₃ m₃ ys o₃ s₇ hv hkeep F₇ ⟨hys, hca⟩
      have hfb : Sub h8 b₃.heap := fun c y e => hkeep c y (ned hd8 e) (Fn.sub _ _ e)
      have C₃ : Cx w mean mg mb b₃.heap := C₁.mono fun c y e => hkeep c y (ned hb1d e) (Fn.keep _ _ e)
      have hcr : b₃.heap.IsCell (L + 1 + 1 + 1) (some (.ref x)) := ⟨c3n, hkeep _ _ hcd (Fn.mus _ (.tail _ (.tail _ (.head _)))).1, d3n⟩
      obtain ⟨dd, hdd, hr⟩ := hva8.get' hv
      simp only [List.getElem?_map, Option.map_eq_some_iff] at hdd
      obtain ⟨q, hq, rfl⟩ := hdd
      obtain ⟨c, xn, xf, rfl, hT, ⟨tn, rfl⟩, hfi⟩ := hr
      have htk : asks.take (j + 1) = asks.take j ++ [q] := by rw [List.take_add_one, hq]; rfl
      have hb3d : b₃.heap.get? d = none := (F₇.mus _ (.head _)).2.1
      have hjl : j < va.length := (List.getElem?_eq_some_iff.mp hv).1
      refine asPair R.handled F₇ (isTuple_mono (isTuple_mono hT hfb) F₇.keep) fun s₈ F₈ => ?_
      refine MethodCall_ <| ldCb (hcr.keeps F₈.keep) ?_
      have hRd₃ := hRd8.mono hfb
      obtain ⟨dx, od, am, om, al, q1, q2, q3, q4, q5, q6, q7, q8, q9⟩ := id hRd₃
      refine method_fn (od := some od) (C₃.mono F₈.keep).X ⟨F₈.keep _ _ q1, rfl, rfl, F₈.keep _ _ q2⟩ (by k_is) (by k_is) (by k_is) (by k_is) (by show (lookIn "names" od).map _ = _; rw [q6]; rfl) ?_
      refine callWith_K (first := [.ref x]) C₃.X (by k_is) ?_
      refine args_cons <| wpAny_Constant_none ?_
      refine args_cons <| ldL F₈ rfl ?_
      refine args_nil ⟨(C₃.mono F₈.keep).X, ?_⟩
      show wpAny _ _ (call (.ref 76) [.ref x, .none, .str q.1 tn]) _ _ _
      refine names_spec (file := none) (gb := b₃.heap) (gf := b₃.heap) F₈.keep hb3d C₃ F₈.keep hb3d hRd₃ (F₈.mus _ (.head _)).1 hca (by omega) hsys (R.less (by decide)) rfl hmlk hdlk (by omega) fun i ti o' s' hi hC' he hd' hg ho => ?_
      have hqm := List.mem_of_getElem? hq
      rw [kept_again hqm] at hi
      subst hi
      rw [kept_same hqm] at hC'
      refine ⟨_, o', F₈.updS he hd' rfl hg ho, ?_, hC'⟩
      rw [htk, List.map_append, List.map_append]
      exact hys.append (.cons ⟨_, rfl⟩ .nil)
    rintro ru yu nu o4 s₁₄ ⟨hyu, _⟩ hdu hru heu hnu hgu hou hlyu
    rw [List.take_of_length_le (by omega)] at hyu
    have Fo := Fn.turnedU (.tail .head) heu hdu hru hnu hgu hou
    refine lstIAdd (mu' := fun k => [(ru, listOf yu.toArray nu), (rt, listOf (yt ++ yu).toArray k), (d, o4), (L + 1 + 1 + 1, c3n), (L + 1 + 1, c2), (L + 1, c1)]) Fo (fun k => .tail .head) (Fo.mus _ (.head _)).1 (by omega) fun kt s₁₅ Fp => stL Fp fun s₁₆ Fq => ?_
    generalize hD : (asks.map fun q => dueOf ns fs MS DS asks q.1) = D at hyt hyu hII
    have hD01 : ∀ i ∈ D, i = 0 ∨ i = 1 := fun i hi => by
      rw [← hD] at hi
      obtain ⟨q, _, rfl⟩ := List.mem_map.mp hi
      exact due01' ns fs MS DS asks q.1
    have hDD : ∀ i ∈ D ++ D, i = 0 ∨ i = 1 := fun i hi => (List.mem_append.mp hi).elim (hD01 i) (hD01 i)
    have hDn : ∀ i ∈ D ++ D, i.natAbs ≤ 1 := fun i hi => by rcases hDD i hi with rfl | rfl <;> decide
    have hyy : All2 (VIs {}) (yt ++ yu) ((D ++ D).map iDt) := by rw [List.map_append]; exact hyt.append hyu
    have C₄ : Cx w mean mg mb s₁₆.heap := C₁.mono Fq.keep
    -- the comparison
    refine wpAny_execs_cons <| wpAny_If <| wpAny_isTrue_Compare1 ?_
    refine eComp (cl := []) (by with_unfolding_all rfl) <| ldL Fq rfl ?_
    refine compStrs (is := D ++ D) (g := {}) rfl rfl rfl R.handled C₄ (by k_is) (Fq.mus _ (.tail _ (.head _))).1 hyy (by simp; omega) hDn fun r9 y9 n9 f9 s₁₇ G17 hr9 hy9 => ?_
    obtain ⟨h9, hh9, hh9', Fr⟩ := Fq.join G17
    obtain ⟨vdue, ndue, hldue, hvdue⟩ := hII
    have hldue9 := Fr.sub _ _ (hh9 _ _ (hh8' _ _ hldue))
    have hvl : vdue.length = D.length := by simpa using hvdue.length
    have hDl : D.length = asks.length := by rw [← hD]; simp
    refine eComp (cl := []) (by with_unfolding_all rfl) <| wpAny_BinOp <| ldL Fr rfl <| ldL Fr rfl ?_
    refine oAddL Fr hldue9 hldue9 (by omega) fun lsum s₁₈ Fs => ?_
    have hvv : All2 (VIs {}) (vdue ++ vdue) ((D ++ D).map iDt) := by rw [List.map_append]; exact (ints_any hvdue).append (ints_any hvdue)
    refine compStrs (is := D ++ D) (g := {}) rfl rfl rfl R.handled (C₁.mono Fs.keep) (by k_is) (Fs.mus _ (.head _)).1 hvv (by simp; omega) hDn fun ra ya na' fa s₁₉ G19 hra hya => ?_
    obtain ⟨ha, hha, hha', Ft⟩ := Fs.join G19
    have hun : A.units + 64 < cLine := by have := R.units; omega
    refine oNeL hun (Ft.sub _ _ (hha _ _ (hh9' _ _ hr9))) hy9 (Ft.sub _ _ (hha' _ _ hra)) hya (fun z hz => by
      obtain ⟨i, hi, rfl⟩ := List.mem_map.mp hz
      exact lay01 (hDD i hi)) ?_
    refine wpAny_truthy_bool ?_
    rw [if_neg (by decide)]
    refine wpAny_execs_nil <| wpAny_execs_nil ⟨ha, _, _, ?_, Ft.drop.drop.drop.drop, c3n, _, rfl, d3n, e1, e2, e3⟩
    exact hh1.trans (hh2.trans (hh3.trans (hh4.trans (hsub7.trans (hh8.trans (hh9.trans hha))))))
  · rintro f₁ m₁ mu₁ s₁ hf₁ Fz ⟨c3', v3, rfl, d3', e1, e2, e3⟩
    refine wpAny_execs_cons <| wpAny_Return_some <| wpAny_Constant_bool ?_
    exact h _ _ _ _ Fz
end
end Mine
end

section
namespace Mine
section
variable {prog : Program} {w : World} {A : Around} {E : Value → Shared → Prop} {b s : Shared} {f : Heap} {m : Str → Option Value} {mu mu' : List (Addr × Obj)} {L : Addr} {env : Env}
  {mean : ExcName → Option Value} {mg mb : Str → Option Value}

theorem lawWalk {name qual : Str} {params : Arguments} {body : List Stmt} {scope : Scope} {dV kV doc pm cdv ct oc : Value} {an od : Option Addr} {osl : Array (Option Value)} {Q : Flow → Shared → Prop} {fn ls : Addr} {cdv' : Value} {c1 c2 c3 : Obj} {vs : List Value} {xs : List Int}
    (hK : (Mine.hd.heap_39 w.params).lookup 142 = some ⟨oc, od, .func (fnOf name qual params body scope dV kV doc pm an cdv ct), osl⟩)
    (F : Fm b {} L m [(L + 1 + 1 + 1, c3), (L + 1 + 1, c2), (L + 1, c1)] s) (d1 : c1.data = .cell none) (d2 : c2.data = .cell none) (d3 : c3.data = .cell none) (hm : m "script" = some (.ref ls)) (hl : b.heap.IsList ls vs.toArray) (hi : IntsAre vs xs) (hx : xs.length ≤ 63)
    (C : Cx w mean mg mb b.heap) (R : Rm A 14) (h : ∀ f' m' mu' s', Fm b f' L m' mu' s' → Q (.ret (.bool true)) s') :
    wpAny (model prog w) A (execs body (envOfC qual scope L fn cdv')) Q E s := by
  have e := sameLook hK (by k_is)
  cases e
  have hvi : All2 (VIs {}) vs (xs.map iDt) := ints_all2 hi
  have hlv : vs.length = xs.length := by simpa using hvi.length
  -- numbers = script[:6]
  refine wpAny_execs_cons <| wpAny_Assign_Name <| eUpto <| ldL F hm <| kInt F fun t₁ s₁ F₁ => ⟨ls, vs, 6, t₁, _, _, _, _, _, rfl, rfl, isList_mono hl F₁.keep, by omega, F₁, fun ln s₂ F₂ => ?_⟩
  obtain ⟨f1, _, hln, F₂⟩ := F₂.freeze
  refine stL F₂ fun s₃ F₃ => ?_
  have hnv : All2 (VIs {}) (vs.take 6) ((xs.take 6).map iDt) := by rw [List.map_take]; exact hvi.take 6
  have hn6 : (vs.take 6).length ≤ 6 := by simp; omega
  generalize vs.take 6 = vn at hnv hln hn6
  generalize xs.take 6 = nums at hnv
  have hlnn : vn.length = nums.length := by simpa using hnv.length
  -- mods
  refine wpAny_execs_cons <| wpAny_Assign_Name <| wpAny_BinOp <| List_ <| args_cons <| kStr F₃ fun t₄ s₄ F₄ => args_cons <| kStr F₄ fun t₅ s₅ F₅ => args_nil <| newLst F₅ (by simp) fun r1 s₆ F₆ => eComp (cl := []) (by with_unfolding_all rfl) <| ldL F₆ rfl ?_
  refine compGo (items := vn) (fun i ys f => f = {} ∧ ∃ zs : List Str, All2 (VIs {}) ys (zs.map sDt) ∧ ∀ z ∈ zs, z.length ≤ 1000) R.handled (isL (F₆.sub _ _ hln)) (by omega) (.inl fun _ _ => rfl) (by decide) rfl ⟨rfl, [], .nil, fun _ hz => nomatch hz⟩ ?_ ?_
  · rintro E'' L₂ j v b₃ f₃ m₃ ys s₇ hv hb₃ hg₃ ho₃ F₇ ⟨rfl, zs, hys, hzl⟩
    obtain ⟨d, hd, hr⟩ := hnv.get' hv
    simp only [List.getElem?_map, Option.map_eq_some_iff] at hd
    obtain ⟨z, hz, rfl⟩ := hd
    obtain ⟨tz, rfl⟩ := hr
    have C₃ : Cx w mean mg mb b₃.heap := (C.mono F₆.keep).mono hb₃
    refine wpAny_assign_Name <| stL F₇ fun s₈ F₈ => wpAny_tests_one <| wpAny_isTrue_Compare1 <| wpAny_BinOp <| ldL F₈ rfl <| kInt F₈ fun t₉ s₉ F₉ => oMod F₉ (by decide) fun t₁₀ s₁₀ F₁₀ => kInt F₁₀ fun t₁₁ s₁₁ F₁₁ => eq_int <| wpAny_truthy_bool ?_
    by_cases hc : z % 4 = 0
    · rw [if_pos (by simpa using hc)]
      refine Call_ <| ldG F₁₁ C₃ (by k_is) <| cDef C₃ (by k_is) rfl <| args_cons <| wpAny_BinOp <| wpAny_BinOp <| ldL F₁₁ rfl <| kInt F₁₁ fun t₁₂ s₁₂ F₁₂ => oDiv F₁₂ (by decide) (by decide) fun t₁₃ s₁₃ F₁₃ => kInt F₁₃ fun t₁₄ s₁₄ F₁₄ => oMod F₁₄ (by decide) fun t₁₅ s₁₅ F₁₅ => args_nil ⟨F₁₅.keep, ?_⟩
      have hlt : z / 4 % 156 < 156 := Int.emod_lt_of_pos _ (by decide)
      refine text_spec (by omega) (C₃.mono F₁₅.keep) (R.less (by decide)) fun y t₁₆ s₁₆ hy G => ?_
      exact ⟨{}, _, Sub.refl _, F₁₅.call G, rfl, zs ++ [y], by rw [List.map_append]; exact hys.snoc ⟨_, rfl⟩, fun q hq => by
        rcases List.mem_append.mp hq with hq | hq
        · exact hzl q hq
        · rw [List.mem_singleton.mp hq]; omega⟩
    · rw [if_neg (by simpa using hc)]
      exact ⟨{}, _, Sub.refl _, F₁₁, rfl, zs, hys, hzl⟩
  rintro r2 ym n₃ f₃ f₃' s₇ ⟨rfl, zm, hym, hzm⟩ hs₃ hr₃ G₇ hly
  have F₇ := F₆.call G₇
  refine oAddL F₇ (F₇.mus _ (.head _)).1 (G₇.sub _ _ hr₃) (by simp; omega) fun lm s₈ F₈ => ?_
  obtain ⟨f2, hf2, hlm, F₈⟩ := F₈.freeze
  refine stC F₈.drop d1 (fun o' => .tail (.tail .head)) fun c1 s₉ d1 F₉ => ?_
  have hvm : All2 (VIs {}) (([.str "a" t₄, .str "a-" t₅] : List Value) ++ ym) (((["a", "a-"] : List Str) ++ zm).map sDt) := by
    rw [List.map_append]
    exact All2.append (.cons ⟨_, rfl⟩ (.cons ⟨_, rfl⟩ .nil)) hym
  have hml : ∀ z ∈ ((["a", "a-"] : List Str) ++ zm), z.length ≤ 1000 := fun z hz => by
    rcases List.mem_append.mp hz with hz | hz
    · simp only [List.mem_cons, List.not_mem_nil, or_false] at hz
      rcases hz with rfl | rfl <;> decide +kernel
    · exact hzm z hz
  have hlm2 : 2 ≤ (([.str "a" t₄, .str "a-" t₅] : List Value) ++ ym).length ∧ (([.str "a" t₄, .str "a-" t₅] : List Value) ++ ym).length ≤ 8 := by simp; omega
  generalize (([.str "a" t₄, .str "a-" t₅] : List Value) ++ ym) = vm at hvm hlm hlm2
  generalize ((["a", "a-"] : List Str) ++ zm) = ms at hvm hml
  have hlms : vm.length = ms.length := by simpa using hvm.length
  -- places
  refine wpAny_execs_cons <| wpAny_Assign_Name <| wpAny_BinOp <| List_ <| args_cons ?_
  with_reducible refine ePair F₉ fun p1 g1 s₁₀ hg1 F₁₀ v1 => ?_
  refine args_cons ?_
  with_reducible refine ePair F₁₀ fun p2 g2 s₁₁ hg2 F₁₁ v2 => ?_
  refine args_nil <| newLst F₁₁ (by simp) fun r3 s₁₂ F₁₂ => eComp (cl := []) (by with_unfolding_all rfl) <| ldL F₁₂ rfl ?_
  refine compGo (items := vn) (fun i ys f => ∃ zs : List (Str × Str), All2 (VIs f) ys (zs.map placeDt) ∧ ∀ z ∈ zs, Good z.1 z.2) R.handled (isL (F₁₂.sub _ _ (hg2 _ _ (hg1 _ _ (hf2 _ _ hln))))) (by omega) (.inl fun _ _ => rfl) (by decide) rfl ⟨[], .nil, fun _ hz => nomatch hz⟩ ?_ ?_
  · rintro E'' L₂ j v b₃ f₃ m₃ ys s₇ hv hb₃ hg₃ ho₃ F₇ ⟨zs, hys, hzl⟩
    obtain ⟨d, hd, hr⟩ := hnv.get' hv
    simp only [List.getElem?_map, Option.map_eq_some_iff] at hd
    obtain ⟨z, hz, rfl⟩ := hd
    obtain ⟨tz, rfl⟩ := hr
    have C₃ : Cx w mean mg mb b₃.heap := (C.mono F₁₂.keep).mono hb₃
    refine wpAny_assign_Name <| stL F₇ fun s₈ F₈ => wpAny_tests_one <| wpAny_isTrue_Compare1 <| wpAny_BinOp <| ldL F₈ rfl <| kInt F₈ fun t₉ s₉ F₉ => oMod F₉ (by decide) fun t₁₀ s₁₀ F₁₀ => kInt F₁₀ fun t₁₁ s₁₁ F₁₁ => eq_int <| wpAny_truthy_bool ?_
    by_cases hc : z % 4 = 1
    · rw [if_pos (by simpa using hc)]
      refine Call_ <| ldG F₁₁ C₃ (by k_is) <| cDef C₃ (by k_is) rfl <| args_cons <| wpAny_BinOp <| ldL F₁₁ rfl <| kInt F₁₁ fun t₁₂ s₁₂ F₁₂ => oDiv F₁₂ (by decide) (by decide) fun t₁₃ s₁₃ F₁₃ => args_nil ⟨F₁₃.keep, ?_⟩
      refine directory_spec (C₃.mono F₁₃.keep) (R.less (by decide)) fun a pp cc f₄ s₁₆ hgood G hvv => ?_
      obtain ⟨f₅, q1, q2, F₁₆⟩ := F₁₃.join G
      refine ⟨f₅, _, q1, F₁₆, zs ++ [(pp, cc)], by rw [List.map_append]; exact (hys.mono fun _ _ y => y.mono q1).snoc (hvv.mono q2), fun q hq => ?_⟩
      rcases List.mem_append.mp hq with hq | hq
      · exact hzl q hq
      · rw [List.mem_singleton.mp hq]; exact hgood
    · rw [if_neg (by simpa using hc)]
      exact ⟨f₃, _, Sub.refl _, F₁₁, zs, hys, hzl⟩
  rintro r4 yp n₄ f₄ f₄' s₁₃ ⟨zp, hyp, hzp⟩ hs₄ hr₄ G₁₃ hly4
  obtain ⟨g3, hg3, hg3', F₁₃⟩ := F₁₂.join G₁₃
  refine oAddL F₁₃ (F₁₃.mus _ (.head _)).1 (F₁₃.sub _ _ (hg3' _ _ hr₄)) (by simp; omega) fun lp s₁₄ F₁₄ => ?_
  obtain ⟨f3, hf3, hlp, F₁₄⟩ := F₁₄.freeze
  refine stC F₁₄.drop d2 (fun o' => .tail .head) fun c2 s₁₅ d2 F₁₅ => ?_
  have hvp : All2 (VIs f3) (([.ref p1, .ref p2] : List Value) ++ yp) ((([("a", "a"), ("0", "./0")] : List (Str × Str)) ++ zp).map placeDt) := by
    rw [List.map_append]
    exact All2.append (.cons (v1.mono (hg2.trans (hg3.trans hf3))) (.cons (v2.mono (hg3.trans hf3)) .nil)) (hyp.mono fun _ _ y => y.mono (hs₄.trans (hg3'.trans hf3)))
  have hpl : ∀ z ∈ (([("a", "a"), ("0", "./0")] : List (Str × Str)) ++ zp), Good z.1 z.2 := fun z hz => by
    rcases List.mem_append.mp hz with hz | hz
    · simp only [List.mem_cons, List.not_mem_nil, or_false] at hz
      rcases hz with rfl | rfl
      · exact ⟨"a", by decide +kernel, "", by decide +kernel, by decide +kernel, by decide +kernel⟩
      · exact ⟨"0", by decide +kernel, "", by decide +kernel, by decide +kernel, by decide +kernel⟩
    · exact hzp z hz
  have hlp2 : 2 ≤ (([.ref p1, .ref p2] : List Value) ++ yp).length ∧ (([.ref p1, .ref p2] : List Value) ++ yp).length ≤ 8 := by simp; omega
  generalize (([.ref p1, .ref p2] : List Value) ++ yp) = vp at hvp hlp hlp2
  generalize (([("a", "a"), ("0", "./0")] : List (Str × Str)) ++ zp) = ps at hvp hpl
  have hlps : vp.length = ps.length := by simpa using hvp.length
  have hln3 := hf3 _ _ (hg3 _ _ (hg2 _ _ (hg1 _ _ (hf2 _ _ hln))))
  have hlm3 := hf3 _ _ (hg3 _ _ (hg2 _ _ (hg1 _ _ hlm)))
  clear v1 v2 hyp hzp hs₄ hr₄ G₁₃ hly4 hg3 hg3' hg2 hg1 hf3 F₁₀ F₁₁ F₁₂ F₁₃ F₁₄ F₉ F₈ F₇ F₆ F₅ F₄ F₃ F₂ F₁ hlm hln hf2 hs₃ hr₃ G₇ hly hzm hym
  -- asks
  refine wpAny_execs_cons ?_
  refine wpAny_Assign_Name ?_
  refine List_ ?_
  refine args_cons ?_
  with_reducible refine ePair F₁₅ fun a1 g1 s₁₆ hg1 F₁ v1 => ?_
  refine args_cons ?_
  with_reducible refine ePair F₁ fun a2 g2 s₁₇ hg2 F₂ v2 => ?_
  refine args_cons ?_
  with_reducible refine ePair F₂ fun a3 g3 s₁₈ hg3 F₃ v3 => ?_
  refine args_cons ?_
  with_reducible refine ePair F₃ fun a4 g4 s₁₉ hg4 F₄ v4 => ?_
  refine args_cons ?_
  with_reducible refine ePair F₄ fun a5 g5 s₂₀ hg5 F₅ v5 => ?_
  refine args_cons ?_
  with_reducible refine ePair F₅ fun a6 g6 s₂₁ hg6 F₆ v6 => ?_
  refine args_cons ?_
  with_reducible refine ePairN F₆ fun a7 g7 s₂₂ hg7 F₇ v7 => ?_
  refine args_nil ?_
  refine newLst F₇ (by simp) fun la s₁₈ F₈ => stL F₈ fun s₁₉ F₉ => ?_
  have hv7 : All2 (VIs g7) ([.ref a1, .ref a2, .ref a3, .ref a4, .ref a5, .ref a6, .ref a7] : List Value) (([("a.0", some "a"), ("a0", some "0/"), ("a-a", some "a/-"), ("a-a", some "a0"), ("<string>", some "a"), ("a0.", some "a0"), ("", none)] : List Ask).map askDt) :=
    .cons (v1.mono (hg2.trans (hg3.trans (hg4.trans (hg5.trans (hg6.trans hg7)))))) (.cons (v2.mono (hg3.trans (hg4.trans (hg5.trans (hg6.trans hg7))))) (.cons (v3.mono (hg4.trans (hg5.trans (hg6.trans hg7)))) (.cons (v4.mono (hg5.trans (hg6.trans hg7))) (.cons (v5.mono (hg6.trans hg7)) (.cons (v6.mono hg7) (.cons v7 .nil))))))
  have hg17 := hg1.trans (hg2.trans (hg3.trans (hg4.trans (hg5.trans (hg6.trans hg7)))))
  clear v1 v2 v3 v4 v5 v6 v7 F₁ F₂ F₃ F₄ F₅ F₆ F₇ F₈ hg1 hg2 hg3 hg4 hg5 hg6 hg7
  refine wpAny_execs_cons <| wpAny_AugAssign_Name <| ldLn F₉ rfl <| eComp (cl := [("places", L + 1 + 1), ("mods", L + 1)]) (by with_unfolding_all rfl) <| ldL F₉ rfl ?_
  have hcm : s₁₉.heap.IsCell (L + 1) (some (.ref lm)) := ⟨c1, (F₉.mus _ (.tail _ (.tail _ (.tail _ (.head _))))).1, d1⟩
  have hcp : s₁₉.heap.IsCell (L + 1 + 1) (some (.ref lp)) := ⟨c2, (F₉.mus _ (.tail _ (.tail _ (.head _)))).1, d2⟩
  have hSm : SIs s₁₉.heap lm ms := ⟨vm, _, F₉.sub _ _ (hg17 _ _ hlm3), strs_any hvm⟩
  have hSp : LIs s₁₉.heap lp (ps.map placeDt) := LIs.mono ⟨vp, _, hlp, hvp⟩ (hg17.trans F₉.sub)
  refine compGo (items := vn) (fun i ys f => ∃ zs : List Ask, All2 (VIs f) ys (zs.map askDt)) R.handled (isL (F₉.sub _ _ (hg17 _ _ hln3))) (by omega) (.inl fun _ _ => rfl) (by decide) rfl ⟨[], .nil⟩ ?_ ?_
  · rintro E'' L₂ j v b₃ f₃ m₃ ys s₇ hv hb₃ hg₃ ho₃ F₇ ⟨zs, hys⟩
    obtain ⟨d, hd, hr⟩ := hnv.get' hv
    simp only [List.getElem?_map, Option.map_eq_some_iff] at hd
    obtain ⟨z, hz, rfl⟩ := hd
    obtain ⟨tz, rfl⟩ := hr
    have C₃ : Cx w mean mg mb b₃.heap := (C.mono F₉.keep).mono hb₃
    refine wpAny_assign_Name <| stL F₇ fun s₈ F₈ => wpAny_tests_one <| wpAny_isTrue_Compare1 <| wpAny_BinOp <| ldL F₈ rfl <| kInt F₈ fun t₉ s₉ F₉ => oMod F₉ (by decide) fun t₁₀ s₁₀ F₁₀ => kInt F₁₀ fun t₁₁ s₁₁ F₁₁ => gt_int <| wpAny_truthy_bool ?_
    by_cases hc : z % 4 > 1
    · rw [if_pos (by simpa using hc)]
      refine Call_ <| ldG F₁₁ C₃ (by k_is) <| cDef C₃ (by k_is) rfl <| args_cons <| wpAny_BinOp <| ldL F₁₁ rfl <| kInt F₁₁ fun t₁₂ s₁₂ F₁₂ => oDiv F₁₂ (by decide) (by decide) fun t₁₃ s₁₃ F₁₃ => args_cons <| ldCb ((hcm.keeps hb₃).keeps F₁₃.keep) <| args_cons <| ldCb ((hcp.keeps hb₃).keeps F₁₃.keep) <| args_nil ⟨F₁₃.keep, ?_⟩
      refine ask_spec (ms := ms) (ps := ps) (hSm.mono (hb₃.trans F₁₃.keep)) (hSp.mono (hb₃.trans F₁₃.keep)) (by omega) (by omega) (by omega) (by omega) hml (fun y hy => by have := (hpl y hy).path.2.2; omega) (C₃.mono F₁₃.keep) (R.less (by decide)) fun a q f₄ s₁₆ _ _ G hvv => ?_
      obtain ⟨f₅, q1, q2, F₁₆⟩ := F₁₃.join G
      exact ⟨f₅, _, q1, F₁₆, zs ++ [q], by rw [List.map_append]; exact (hys.mono fun _ _ y => y.mono q1).snoc (hvv.mono q2)⟩
    · rw [if_neg (by simpa using hc)]
      exact ⟨f₃, _, Sub.refl _, F₁₁, zs, hys⟩
  rintro r5 ya n₅ f₅ f₅' s₂₀ ⟨za, hya⟩ hs₅ hr₅ G₂₀ hly5
  obtain ⟨g8, hg8, hg8', F₁₀⟩ := F₉.join G₂₀
  refine lstIAdd (mu' := fun k => [(la, listOf (([.ref a1, .ref a2, .ref a3, .ref a4, .ref a5, .ref a6, .ref a7] : List Value) ++ ya).toArray k), _, _, _]) F₁₀ (fun k => .head) (F₁₀.sub _ _ (hg8' _ _ hr₅)) (by simp; omega) fun na s₂₁ F₁₁ => stL F₁₁ fun s₂₂ F₁₂ => ?_
  obtain ⟨f4, hf4, hla, F₁₃⟩ := F₁₂.freeze
  have hva : All2 (VIs f4) (([.ref a1, .ref a2, .ref a3, .ref a4, .ref a5, .ref a6, .ref a7] : List Value) ++ ya) (((([("a.0", some "a"), ("a0", some "0/"), ("a-a", some "a/-"), ("a-a", some "a0"), ("<string>", some "a"), ("a0.", some "a0"), ("", none)] : List Ask)) ++ za).map askDt) := by
    rw [List.map_append]
    exact (hv7.mono fun _ _ y => y.mono (hg8.trans hf4)).append (hya.mono fun _ _ y => y.mono (hs₅.trans (hg8'.trans hf4)))
  have hla2 : (([.ref a1, .ref a2, .ref a3, .ref a4, .ref a5, .ref a6, .ref a7] : List Value) ++ ya).length ≤ 13 := by simp; omega
  generalize (([.ref a1, .ref a2, .ref a3, .ref a4, .ref a5, .ref a6, .ref a7] : List Value) ++ ya) = va at hva hla hla2
  generalize ((([("a.0", some "a"), ("a0", some "0/"), ("a-a", some "a/-"), ("a-a", some "a0"), ("<string>", some "a"), ("a0.", some "a0"), ("", none)] : List Ask)) ++ za) = asks at hva
  have hlas : va.length = asks.length := by simpa using hva.length
  have hlm4 := hf4 _ _ (hg8 _ _ (hg17 _ _ hlm3))
  have hlp4 := hf4 _ _ (hg8 _ _ (hg17 _ _ hlp))
  have hvp4 : All2 (VIs f4) vp (ps.map placeDt) := hvp.mono fun _ _ y => y.mono (hg17.trans (hg8.trans hf4))
  clear hvp hlp hlm3 hln3 hSm hSp hcm hcp hv7 hya hs₅ hr₅ G₂₀ hly5 hg8 hg8' hg17 hf4 F₉ F₁₀ F₁₁ F₁₂ F₁₅ hnv
  exact lawTail hK F₁₃ d1 d2 d3 rfl hla hva hla2 hlm4 hvm hlm2.2 hml hlp4 hvp4 hlp2.2 hpl C R h
end
end Mine
end

namespace Mine
theorem topFm {s₁ : Shared} {h₁ : Heap} {tk : Nat} {m : Str → Option Value} {c1 c2 c3 : Obj} (F : Fr s₁.heap s₁.heap.objs.size h₁ m) (N : News s₁.heap s₁.heap.objs.size h₁ [(s₁.heap.objs.size + 1 + 1 + 1, c3), (s₁.heap.objs.size + 1 + 1, c2), (s₁.heap.objs.size + 1, c1)]) :
    Fm s₁ {} s₁.heap.objs.size m [(s₁.heap.objs.size + 1 + 1 + 1, c3), (s₁.heap.objs.size + 1 + 1, c2), (s₁.heap.objs.size + 1, c1)] { s₁ with heap := h₁, toks := tk } := by
  have no : s₁.heap.get? s₁.heap.objs.size = none := by
    cases q : s₁.heap.get? s₁.heap.objs.size with
    | none => rfl
    | some o' => exact absurd (Heap.lt_size q) (Nat.lt_irrefl _)
  refine ⟨rfl, rfl, F.ns, F.keep, emp_sub _, no, empty_get _, (fun c o e => by rw [empty_get] at e; cases e), fun p hp => ⟨(N p hp).1, (N p hp).2.2, empty_get _, (N p hp).2.1⟩, ?_⟩
  generalize s₁.heap.objs.size = n
  simp only [List.map_cons, List.map_nil, List.nodup_cons, List.mem_cons, List.not_mem_nil, or_false, not_or, not_false_eq_true, List.nodup_nil, and_true]
  exact ⟨⟨Nat.ne_of_gt (Nat.lt_succ_self _), Nat.ne_of_gt (Nat.lt_succ_of_lt (Nat.lt_succ_self _))⟩, Nat.ne_of_gt (Nat.lt_succ_self _)⟩
end Mine
theorem PySem.Challenge.cw_ny0039_01_holds : PySem.Challenge.rw_ny0039_01.Holds := by
  refine Mine.hd ?_
  w_strict (k_go0; (rename Fr _ _ _ _ => zF); (rename News _ _ _ _ => zN); (rename Top _ _ _ _ _ _ => zT); (rename Frag.In _ _ => zX); (rename Heap.IsList _ _ _ => zL); (rename IntsAre _ _ => zI); refine Mine.lawWalk (by k_is) (Mine.topFm zF zN) ?d1 ?d2 ?d3 ?hm zL zI ?hx ⟨zX, zT⟩ ?R ?h; (case d1 => first | assumption | rfl); (case d2 => first | assumption | rfl); (case d3 => first | assumption | rfl); (case hm => rfl); (case hx => omega); (case R => exact ⟨rfl, (show callerA.depth + 1 + 14 < recursionLimit by decide +kernel), (show callerA.units + 3 + 4 * 14 + 20 < cLine by decide +kernel)⟩); (case h => (intro f' m' mu' s' F'); (rename _ = (#[] : Array GenState) => zG); (refine goodW_bool (b := true) (⟨F'.ns, F'.keep, Nat.le_refl _⟩ : Fr _ _ _ _) (F'.gens.trans zG) (raisesW_false ?_) ?_ F'.os); (· wrow_none_raised); (· first | wrow_post | kc_post)))
