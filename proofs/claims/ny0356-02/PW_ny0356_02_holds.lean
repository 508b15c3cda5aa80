import PyProof.Rows.All
import Wide.All
import OpenK.AllK
import Wide.FinOn
import PySem.Challenge.RW_ny0356_02
-- part Hd02
open PySem PySem.W PyProof.Rows
set_option Elab.async false
namespace Mine
set_option maxRecDepth 100000 in
set_option maxHeartbeats 8000000 in
open_top hd for PySem.Challenge.rw_ny0356_02
end Mine
-- part C1
open PySem PySem.W PyProof.Rows PySem.Calls PySem.Spec
set_option Elab.async false
set_option maxRecDepth 100000
namespace Mine

/-- a code table that grows when the nested def is first made -/
structure Tab where
  c : Addr
  P : Addr
  line : Nat
  col : Nat
  qual : Str

/-- what stays fixed through the call -/
structure Cfg where
  prog : Program
  w : World
  K : Frag
  p : Program
  loose : List Str
  mean : ExcName → Option Value
  mg : Str → Option Value
  mb : Str → Option Value
  tabs : List Tab
  gens : Array GenState
  os : OsState

abbrev Cfg.M (c : Cfg) : Model := model c.prog c.w

inductive Own where
  | obj (o : Obj)
  | fr (r : List (Str × Option Value))
  | cell (v : Option Value)
  | list (vs : List Value)
  | seq (vs : List Value)
  | iter (l : Addr) (i : Nat)
  | like (P : Obj → Prop)

def lk : List (Str × Option Value) → Str → Option Value
  | [], _ => none
  | (x, v) :: r, y => if y = x then v else lk r y

def Own.At (h : Heap) (a : Addr) : Own → Prop
  | .obj o => h.get? a = some o
  | .fr r => (r.map (·.1)).Nodup ∧ h.Ns a (lk r)
  | .cell v => ∃ o, h.get? a = some o ∧ o.data = .cell v
  | .list vs => h.PlainList a vs.toArray
  | .seq vs => h.IsList a vs.toArray
  | .iter b i => h.IsListIter a b i
  | .like P => ∃ o, h.get? a = some o ∧ P o

theorem Own.At.to {h h' : Heap} {a : Addr} {x : Own} (hx : x.At h a) (e : ∀ o, h.get? a = some o → h'.get? a = some o) : x.At h' a := by
  cases x with
  | obj o => exact e _ hx
  | fr r =>
    obtain ⟨hn, o, es, ep, ho, hr⟩ := hx
    exact ⟨hn, o, es, ep, e _ ho, hr⟩
  | cell v =>
    obtain ⟨o, ho, hd⟩ := hx
    exact ⟨o, e _ ho, hd⟩
  | list vs =>
    obtain ⟨n, ho⟩ := hx
    exact ⟨n, e _ ho⟩
  | seq vs =>
    obtain ⟨o, ho, r⟩ := hx
    exact ⟨o, e _ ho, r⟩
  | iter b i =>
    obtain ⟨o, ho, r⟩ := hx
    exact ⟨o, e _ ho, r⟩
  | like P =>
    obtain ⟨o, ho, r⟩ := hx
    exact ⟨o, e _ ho, r⟩
theorem Own.At.there {h : Heap} {a : Addr} {x : Own} (hx : x.At h a) : ∃ o, h.get? a = some o := by
  cases x with
  | obj o => exact ⟨o, hx⟩
  | fr r => obtain ⟨hn, o, es, ep, ho, hr⟩ := hx; exact ⟨o, ho⟩
  | cell v => obtain ⟨o, ho, hd⟩ := hx; exact ⟨o, ho⟩
  | list vs => obtain ⟨n, ho⟩ := hx; exact ⟨_, ho⟩
  | seq vs => obtain ⟨o, ho, r⟩ := hx; exact ⟨o, ho⟩
  | iter b i => obtain ⟨o, ho, r⟩ := hx; exact ⟨o, ho⟩
  | like P => obtain ⟨o, ho, r⟩ := hx; exact ⟨o, ho⟩

abbrev Sub (g g' : Heap) : Prop := ∀ b o, g.get? b = some o → g'.get? b = some o
theorem Sub.refl (g : Heap) : Sub g g := fun _ _ e => e
theorem Sub.trans {g g' g'' : Heap} (a : Sub g g') (b : Sub g' g'') : Sub g g'' := fun x o e => b x o (a x o e)

structure Base (c : Cfg) (g : Heap) : Prop where
  K : c.K.In g
  T : Top c.p c.loose c.mean c.mg c.mb g
  C : ∀ t ∈ c.tabs, CodeHd g t.c t.P
theorem Base.mono {c : Cfg} {g g' : Heap} (B : Base c g) (s : Sub g g') : Base c g' := ⟨B.K.keeps s, B.T.keeps s, fun t ht => (B.C t ht).keeps s⟩

def TabOk (c : Cfg) (g h : Heap) : Prop := ∀ t ∈ c.tabs, g.get? t.P = none ∧ (h.get? t.P = some (tabObj #[]) ∨ ∃ c', h.get? t.P = some (tabObj #[rawInt t.line, rawInt t.col, .ref c']) ∧ g.CodeRec (.ref c') t.qual)

abbrev Owns := List (Addr × Own)

structure St (c : Cfg) (g : Heap) (s : Shared) (l : Owns) : Prop where
  keep : Sub g s.heap
  own : ∀ p ∈ l, p.2.At s.heap p.1 ∧ g.get? p.1 = none ∧ ∀ t ∈ c.tabs, p.1 ≠ t.P
  nodup : (l.map (·.1)).Nodup
  tabs : TabOk c g s.heap
  base : Base c g
  gens : s.gens = c.gens
  os : s.os = c.os

theorem TabOk.there {c : Cfg} {g h : Heap} (T : TabOk c g h) {t : Tab} (ht : t ∈ c.tabs) : ∃ o, h.get? t.P = some o := by
  rcases (T t ht).2 with e | ⟨c', e, _⟩
  · exact ⟨_, e⟩
  · exact ⟨_, e⟩
theorem TabOk.to {c : Cfg} {g h h' : Heap} (T : TabOk c g h) (e : ∀ t ∈ c.tabs, ∀ o, h.get? t.P = some o → h'.get? t.P = some o) : TabOk c g h' := fun t ht =>
  ⟨(T t ht).1, (T t ht).2.imp (e t ht _) fun ⟨c', a, b⟩ => ⟨c', e t ht _ a, b⟩⟩

section
variable {c : Cfg} {g g' : Heap} {s : Shared} {l l' : Owns}

theorem St.mkeep (S : St c g s l) {h' : Heap} {tk : Nat} (k : Sub s.heap h') : St c g { s with heap := h', toks := tk } l where
  keep := S.keep.trans k
  own := fun p hp => ⟨(S.own p hp).1.to fun o e => k _ o e, (S.own p hp).2⟩
  nodup := S.nodup
  tabs := S.tabs.to fun _ _ o e => k _ o e
  base := S.base
  gens := S.gens
  os := S.os

theorem St.toks (S : St c g s l) {tk : Nat} : St c g { s with toks := tk } l := S.mkeep (Sub.refl _)

theorem St.sub (S : St c g s l) (hs : l'.Sublist l) : St c g s l' where
  keep := S.keep
  own := fun p hp => S.own p (hs.subset hp)
  nodup := (hs.map _).nodup S.nodup
  tabs := S.tabs
  base := S.base
  gens := S.gens
  os := S.os

theorem St.perm (S : St c g s l) (hs : l.Perm l') : St c g s l' where
  keep := S.keep
  own := fun p hp => S.own p (hs.mem_iff.mpr hp)
  nodup := (hs.map _).nodup_iff.mp S.nodup
  tabs := S.tabs
  base := S.base
  gens := S.gens
  os := S.os

theorem St.lt (S : St c g s l) {p : Addr × Own} (hp : p ∈ l) : p.1 < s.heap.objs.size := let ⟨_, e⟩ := (S.own p hp).1.there; Heap.lt_size e
theorem St.lt_tab (S : St c g s l) {t : Tab} (ht : t ∈ c.tabs) : t.P < s.heap.objs.size := let ⟨_, e⟩ := S.tabs.there ht; Heap.lt_size e
theorem St.fresh (S : St c g s l) {a : Addr} (ha : s.heap.objs.size ≤ a) : g.get? a = none := by
  cases e : g.get? a with
  | none => rfl
  | some o => exact absurd (Heap.lt_size (S.keep _ _ e)) (Nat.not_lt.mpr ha)

/-- new things come: everything of before stays, the new addresses are new -/
theorem St.grow (S : St c g s l) {h' : Heap} {tk : Nat} {new : Owns} (k : Sub s.heap h') (hn : ∀ p ∈ new, p.2.At h' p.1 ∧ s.heap.objs.size ≤ p.1) (hd : (new.map (·.1)).Nodup) :
    St c g { s with heap := h', toks := tk } (new ++ l) where
  keep := S.keep.trans k
  own := fun p hp => by
    rcases List.mem_append.mp hp with hp | hp
    · exact ⟨(hn p hp).1, S.fresh (hn p hp).2, fun t ht e => absurd (S.lt_tab ht) (by rw [← e]; exact Nat.not_lt.mpr (hn p hp).2)⟩
    · exact ⟨(S.own p hp).1.to fun o e => k _ o e, (S.own p hp).2⟩
  nodup := by
    rw [List.map_append]
    refine List.nodup_append.mpr ⟨hd, S.nodup, fun a ha b hb e => ?_⟩
    obtain ⟨p, hp, rfl⟩ := List.mem_map.mp ha
    obtain ⟨q, hq, rfl⟩ := List.mem_map.mp hb
    exact absurd (S.lt hq) (by rw [← e]; exact Nat.not_lt.mpr (hn p hp).2)
  tabs := S.tabs.to fun _ _ o e => k _ o e
  base := S.base
  gens := S.gens
  os := S.os

theorem St.push (S : St c g s l) (o : Obj) (hf : o.isFreed = false := by rfl) {tk : Nat} : St c g { s with heap := s.heap.push o, toks := tk } ((s.heap.objs.size, .obj o) :: l) :=
  S.grow (new := [(s.heap.objs.size, .obj o)]) (fun _ _ e => Heap.get?_push_of_some _ e) (fun p hp => by
    rw [List.mem_singleton.mp hp]
    exact ⟨Heap.get?_push_size _ hf, Nat.le_refl _⟩) (List.nodup_cons.mpr ⟨List.not_mem_nil, List.nodup_nil⟩)

/-- one own thing is turned into another -/
inductive Turn (a : Addr) (x x' : Own) : Owns → Owns → Prop
  | head {r} : Turn a x x' ((a, x) :: r) ((a, x') :: r)
  | tail {p r r'} : Turn a x x' r r' → Turn a x x' (p :: r) (p :: r')
theorem Turn.mem {a : Addr} {x x' : Own} : ∀ {l l' : Owns}, Turn a x x' l l' → (a, x) ∈ l
  | _, _, .head => .head _
  | _, _, .tail h => .tail _ h.mem
theorem Turn.keys {a : Addr} {x x' : Own} : ∀ {l l' : Owns}, Turn a x x' l l' → l'.map (·.1) = l.map (·.1)
  | _, _, .head => rfl
  | _, _, .tail h => by rw [List.map_cons, List.map_cons, h.keys]
theorem Turn.other {a : Addr} {x x' : Own} : ∀ {l l' : Owns}, Turn a x x' l l' → (l.map (·.1)).Nodup → ∀ p ∈ l', p = (a, x') ∨ (p ∈ l ∧ p.1 ≠ a)
  | _, _, .head (r := r), hn, p, hp => by
    rcases List.mem_cons.mp hp with e | hp
    · exact .inl e
    · refine .inr ⟨.tail _ hp, fun e => ?_⟩
      rw [List.map_cons, List.nodup_cons] at hn
      exact hn.1 (by rw [← e]; exact List.mem_map_of_mem (f := (·.1)) hp)
  | _, _, .tail (p := q) (r := r) h, hn, p, hp => by
    rw [List.map_cons, List.nodup_cons] at hn
    rcases List.mem_cons.mp hp with e | hp
    · subst e
      refine .inr ⟨.head _, fun e => hn.1 ?_⟩
      rw [e]
      exact List.mem_map_of_mem (f := (·.1)) h.mem
    · exact (h.other hn.2 p hp).imp id fun ⟨a, b⟩ => ⟨.tail _ a, b⟩

theorem St.turn (S : St c g s l) {a : Addr} {x x' : Own} {h' : Heap} {tk : Nat} (U : Turn a x x' l l') (k : ∀ b o, b ≠ a → s.heap.get? b = some o → h'.get? b = some o) (hx : x'.At h' a) :
    St c g { s with heap := h', toks := tk } l' where
  keep := fun b o e => k b o (fun q => by
    have := (S.own _ U.mem).2.1
    rw [q] at e
    rw [e] at this
    cases this) (S.keep b o e)
  own := fun p hp => by
    rcases U.other S.nodup p hp with rfl | ⟨hm, ne⟩
    · exact ⟨hx, (S.own _ U.mem).2⟩
    · exact ⟨(S.own p hm).1.to fun o e => k _ o ne e, (S.own p hm).2⟩
  nodup := by rw [U.keys]; exact S.nodup
  tabs := S.tabs.to fun t ht o e => k _ o (fun q => (S.own _ U.mem).2.2 t ht q.symm) e
  base := S.base
  gens := S.gens
  os := S.os

theorem Ext_of_same {h h' : Heap} {a : Addr} (x : Heap.SameBut a h h') : ∀ b o, b ≠ a → h.get? b = some o → h'.get? b = some o := fun b o ne e => x.extBut b o ne e

/-- all that is not own is stable from now on -/
theorem St.promote (S : St c g s l) : ∃ g', Sub g g' ∧ St c g' s l ∧ ∀ a o, s.heap.get? a = some o → (∀ p ∈ l, p.1 ≠ a) → (∀ t ∈ c.tabs, t.P ≠ a) → g'.get? a = some o := by
  let ks := l.map (·.1) ++ c.tabs.map (·.P)
  have hks : ∀ b o, g.get? b = some o → b ∉ ks := fun b o e hb => by
    rcases List.mem_append.mp hb with hb | hb
    · obtain ⟨p, hp, rfl⟩ := List.mem_map.mp hb
      rw [(S.own p hp).2.1] at e; cases e
    · obtain ⟨t, ht, rfl⟩ := List.mem_map.mp hb
      rw [(S.tabs t ht).1] at e; cases e
  have sb : Sub g (hideAll s.heap ks) := fun b o e => hideAll_get _ (S.keep b o e) (hks b o e)
  refine ⟨hideAll s.heap ks, sb, ?_, fun a o e h1 h2 => hideAll_get _ e fun hb => ?_⟩
  · refine ⟨fun b o e => of_hideAll _ e, fun p hp => ⟨(S.own p hp).1, hideAll_none _ (List.mem_append.mpr (.inl (List.mem_map_of_mem hp))), (S.own p hp).2.2⟩, S.nodup, fun t ht => ⟨hideAll_none _ (List.mem_append.mpr (.inr (List.mem_map_of_mem ht))), ?_⟩, S.base.mono sb, S.gens, S.os⟩
    exact (S.tabs t ht).2.imp id fun ⟨c', a, b⟩ => ⟨c', a, b.keeps sb⟩
  · rcases List.mem_append.mp hb with hb | hb
    · obtain ⟨p, hp, e'⟩ := List.mem_map.mp hb
      exact h1 p hp e'
    · obtain ⟨t, ht, e'⟩ := List.mem_map.mp hb
      exact h2 t ht e'

/-- an own thing is taken out -/
inductive Del (a : Addr) (x : Own) : Owns → Owns → Prop
  | head {r} : Del a x ((a, x) :: r) r
  | tail {p r r'} : Del a x r r' → Del a x (p :: r) (p :: r')
theorem Del.mem {a : Addr} {x : Own} : ∀ {l l' : Owns}, Del a x l l' → (a, x) ∈ l
  | _, _, .head => .head _
  | _, _, .tail h => .tail _ h.mem
theorem Del.sub {a : Addr} {x : Own} : ∀ {l l' : Owns}, Del a x l l' → l'.Sublist l
  | _, _, .head => List.sublist_cons_self _ _
  | _, _, .tail h => h.sub.cons_cons _
theorem Del.off {a : Addr} {x : Own} : ∀ {l l' : Owns}, Del a x l l' → (l.map (·.1)).Nodup → ∀ p ∈ l', p.1 ≠ a
  | _, _, .head, hn, p, hp, e => by
    rw [List.map_cons, List.nodup_cons] at hn
    exact hn.1 (by rw [← e]; exact List.mem_map_of_mem (f := (·.1)) hp)
  | _, _, .tail h, hn, p, hp, e => by
    rw [List.map_cons, List.nodup_cons] at hn
    rcases List.mem_cons.mp hp with q | hp
    · subst q
      exact hn.1 (by rw [e]; exact List.mem_map_of_mem (f := (·.1)) h.mem)
    · exact h.off hn.2 p hp e

/-- an own thing is given up: it is stable from now on -/
theorem St.give (S : St c g s l) {a : Addr} {x : Own} (D : Del a x l l') : ∃ g', Sub g g' ∧ St c g' s l' ∧ x.At g' a := by
  obtain ⟨g', h1, h2, h3⟩ := (S.sub D.sub).promote
  have hm := S.own _ D.mem
  exact ⟨g', h1, h2, hm.1.to fun o e => h3 a o e (D.off S.nodup) fun t ht e => hm.2.2 t ht e.symm⟩
end

/-- a change of view: nothing runs -/
def Shift (c : Cfg) (g : Heap) (l : Owns) (P : Heap → Owns → Prop) : Prop := ∀ s, St c g s l → ∃ g' l', Sub g g' ∧ St c g' s l' ∧ P g' l'
section
variable {c : Cfg} {g : Heap} {l l' : Owns} {P : Heap → Owns → Prop}
theorem Shift.done (h : P g l) : Shift c g l P := fun _ S => ⟨g, l, Sub.refl _, S, h⟩
theorem Shift.sub (hs : l'.Sublist l) (h : Shift c g l' P) : Shift c g l P := fun s S => h s (S.sub hs)
theorem Shift.drop (n : Nat) (h : Shift c g (l.drop n) P) : Shift c g l P := h.sub (List.drop_sublist n l)
theorem Shift.perm (hs : l.Perm l') (h : Shift c g l' P) : Shift c g l P := fun s S => h s (S.perm hs)
theorem Shift.give {a : Addr} {x : Own} (D : Del a x l l') (h : ∀ g', Sub g g' → x.At g' a → Shift c g' l' P) : Shift c g l P := fun s S => by
  obtain ⟨g', u, S', e⟩ := S.give D
  obtain ⟨g2, l2, u2, S2, p⟩ := h g' u e s S'
  exact ⟨g2, l2, u.trans u2, S2, p⟩
end

/-- what a tree may leave behind -/
def Post {α : Type} (c : Cfg) (g : Heap) (Q : α → Heap → Owns → Prop) : α → Shared → Prop := fun v s' => ∃ g' l', Sub g g' ∧ St c g' s' l' ∧ Q v g' l'

/-- {g, l} t {Q}, no exception -/
def W {α : Type} (c : Cfg) (A : Around) (t : Sem α) (g : Heap) (l : Owns) (Q : α → Heap → Owns → Prop) : Prop :=
  ∀ s, St c g s l → wpAny c.M A t (Post c g Q) (fun _ _ => False) s

section
variable {α β : Type} {c : Cfg} {A : Around} {t : Sem α} {g : Heap} {l : Owns} {Q P : α → Heap → Owns → Prop}

theorem Post.up {g' : Heap} (u : Sub g g') {v : α} {s : Shared} (h : Post c g' Q v s) : Post c g Q v s := let ⟨a, b, x, y⟩ := h; ⟨a, b, u.trans x, y⟩
theorem up {g' : Heap} {s : Shared} {E : Value → Shared → Prop} (u : Sub g g') (h : wpAny c.M A t (Post c g' Q) (fun _ _ => False) s) : wpAny c.M A t (Post c g Q) E s := wpAny_mono h (fun _ _ x => x.up u) fun _ _ f => f.elim
theorem Post.mk {g' : Heap} {l' : Owns} {s : Shared} {v : α} (u : Sub g g') (S : St c g' s l') (h : Q v g' l') : Post c g Q v s := ⟨g', l', u, S, h⟩
theorem Post.mk' {l' : Owns} {s : Shared} {v : α} (S : St c g s l') (h : Q v g l') : Post c g Q v s := ⟨g, l', Sub.refl _, S, h⟩

theorem W.run (h : W c A t g l P) {s : Shared} (S : St c g s l) {F : α → Shared → Prop} {E : Value → Shared → Prop} (k : ∀ v g' l' s', Sub g g' → St c g' s' l' → P v g' l' → F v s') : wpAny c.M A t F E s :=
  wpAny_mono (h s S) (fun v s' ⟨g', l', a, b, d⟩ => k v g' l' s' a b d) fun _ _ f => f.elim

theorem W.mono (h : W c A t g l P) (k : ∀ v g' l', Sub g g' → P v g' l' → Q v g' l') : W c A t g l Q := fun s S => h.run S fun v g' l' _ u S' p => ⟨g', l', u, S', k v g' l' u p⟩

theorem W_pure {a : α} (h : Q a g l) : W c A (pure a) g l Q := fun _ S => wpAny_pure (Post.mk' S h)
theorem W_bind {m : Sem β} {f : β → Sem α} (h : W c A m g l (fun v g' l' => W c A (f v) g' l' Q)) : W c A (m >>= f) g l Q :=
  fun _ S => wpAny_bind (h.run S fun _ _ _ s' u S' k => up u (k s' S'))
theorem W_holding {vs : List Value} (h : W c A t g l Q) : W c A (holding vs t) g l Q := fun s S => wpAny_holding (h s S)

/-- a rule that only draws a token -/
theorem W_tok {mk : Tok → α} (ht : ∀ (s : Shared) (F : α → Shared → Prop) (E : Value → Shared → Prop), F (mk s.toks) { s with toks := s.toks + 1 } → wpAny c.M A t F E s) (h : ∀ k, Q (mk k) g l) : W c A t g l Q :=
  fun s S => ht s _ _ (Post.mk' S.toks (h _))
theorem W_now {a : α} (ht : ∀ (s : Shared) (F : α → Shared → Prop) (E : Value → Shared → Prop), F a s → wpAny c.M A t F E s) (h : Q a g l) : W c A t g l Q :=
  fun s S => ht s _ _ (Post.mk' S h)

/-- forget own things -/
theorem W.drop {l' : Owns} (h : W c A t g l' Q) (hs : l'.Sublist l) : W c A t g l Q := fun s S => h s (S.sub hs)
theorem W.perm {l' : Owns} (h : W c A t g l' Q) (hs : l.Perm l') : W c A t g l Q := fun s S => h s (S.perm hs)
theorem W_shift (h : Shift c g l fun g' l' => W c A t g' l' Q) : W c A t g l Q := fun s S => by
  obtain ⟨g', l', u, S', k⟩ := h s S
  exact up u (k s S')
/-- give up an own thing -/
theorem W.give {l' : Owns} {a : Addr} {x : Own} (D : Del a x l l') (h : ∀ g', Sub g g' → x.At g' a → W c A t g' l' Q) : W c A t g l Q := fun s S => by
  obtain ⟨g', u, S', e⟩ := S.give D
  exact up u (h g' u e s S')
end
end Mine
-- part C2
open PySem PySem.W PyProof.Rows PySem.Calls PySem.Spec
set_option Elab.async false
set_option maxRecDepth 100000
set_option linter.unusedVariables false
namespace Mine

structure Room (A : Around) (n : Nat) : Prop where
  h : A.handled = none
  d : A.depth + n < recursionLimit
  u : A.units + 16 * n < cLine
theorem Room.deeper {A : Around} {n : Nat} (r : Room A (n + 1)) (env : Env) : Room (A.deeper env) n :=
  ⟨r.h, by have := r.d; show A.depth + 1 + n < _; omega, by have := r.u; show A.units + 3 + 16 * n < _; omega⟩
theorem Room.le {A : Around} {n m : Nat} (r : Room A n) (h : m ≤ n) : Room A m := ⟨r.h, by have := r.d; omega, by have := r.u; omega⟩
theorem Room.depth {A : Around} {n : Nat} (r : Room A n) : A.depth < recursionLimit := by have := r.d; omega
theorem Room.units {A : Around} {n : Nat} (r : Room A n) : A.units < cLine := by have := r.u; omega

/-- a name's value in a frame -/
inductive Has : List (Str × Option Value) → Str → Value → Prop
  | here {r x v} : Has ((x, some v) :: r) x v
  | there {p r x v} : Has r x v → Has (p :: r) x v
/-- a name is stored in a frame -/
inductive Put : List (Str × Option Value) → Str → Value → List (Str × Option Value) → Prop
  | here {r x u v} : Put ((x, u) :: r) x v ((x, some v) :: r)
  | there {p r x v r'} : Put r x v r' → Put (p :: r) x v (p :: r')

theorem Has.mem {r : List (Str × Option Value)} {x : Str} {v : Value} (h : Has r x v) : x ∈ r.map (·.1) := by
  induction h with
  | here => exact .head _
  | there _ ih => exact .tail _ ih
theorem Has.lk {r : List (Str × Option Value)} {x : Str} {v : Value} (h : Has r x v) (hn : (r.map (·.1)).Nodup) : Mine.lk r x = some v := by
  induction h with
  | here => simp [Mine.lk]
  | @there p r x v h ih =>
    obtain ⟨y, w⟩ := p
    rw [List.map_cons, List.nodup_cons] at hn
    have ne : x ≠ y := fun e => hn.1 (by rw [← e]; exact h.mem)
    rw [Mine.lk, if_neg ne]
    exact ih hn.2
theorem Put.names {r r' : List (Str × Option Value)} {x : Str} {v : Value} (h : Put r x v r') : r'.map (·.1) = r.map (·.1) := by
  induction h with
  | here => rfl
  | there _ ih => rw [List.map_cons, List.map_cons, ih]
theorem Put.mem {r r' : List (Str × Option Value)} {x : Str} {v : Value} (h : Put r x v r') : x ∈ r.map (·.1) := by
  induction h with
  | here => exact .head _
  | there _ ih => exact .tail _ ih
theorem Put.lk {r r' : List (Str × Option Value)} {x : Str} {v : Value} (h : Put r x v r') (hn : (r.map (·.1)).Nodup) : Mine.lk r' = fun y => if y = x then some v else Mine.lk r y := by
  induction h with
  | @here r x u v =>
    funext y
    by_cases e : y = x <;> simp [Mine.lk, e]
  | @there p r x v r' h ih =>
    obtain ⟨z, w⟩ := p
    rw [List.map_cons, List.nodup_cons] at hn
    have ne : x ≠ z := fun e => hn.1 (by rw [← e]; exact h.mem)
    funext y
    rw [Mine.lk, Mine.lk, ih hn.2]
    by_cases e : y = z
    · subst e
      rw [if_pos rfl, if_pos rfl, if_neg (fun q => ne q.symm)]
    · rw [if_neg e, if_neg e]

section
variable {c : Cfg} {A : Around} {g : Heap} {l l' : Owns} {env : Env} {x : Str} {pos : Pos} {v : Value}

theorem St.ns {s : Shared} (S : St c g s l) {a : Addr} {r : List (Str × Option Value)} (hm : (a, Own.fr r) ∈ l) : (r.map (·.1)).Nodup ∧ s.heap.Ns a (lk r) := (S.own _ hm).1
theorem St.cellAt {s : Shared} (S : St c g s l) {a : Addr} {w : Option Value} (hm : (a, Own.cell w) ∈ l) : s.heap.IsCell a w := (S.own _ hm).1

theorem W_loadLocal {r : List (Str × Option Value)} {Q : Value → Heap → Owns → Prop} (hm : (env.locals, Own.fr r) ∈ l) (hv : Has r x v) (h : Q v g l) (hk : env.scope.kind = .function := by rfl) (hl : env.kindOf x = some .local := by rfl) :
    W c A (loadName env x) g l Q := fun _ S => wpAny_loadName_local hk hl (S.ns hm).2 (hv.lk (S.ns hm).1) (Post.mk' S h)
theorem W_local {r : List (Str × Option Value)} {Q : Value → Heap → Owns → Prop} (hm : (env.locals, Own.fr r) ∈ l) (hv : Has r x v) (h : Q v g l) (hk : env.scope.kind = .function := by rfl) (hl : env.kindOf x = some .local := by rfl)
    (hd : (x == ("__debug__" : Str)) = false := by decide) : W c A (eval (.Name x pos) env) g l Q := fun s S => wpAny_Name (W_loadLocal hm hv h hk hl s S) hd
theorem W_cell {a : Addr} {Q : Value → Heap → Owns → Prop} (hm : (a, Own.cell (some v)) ∈ l) (h : Q v g l) (hc : env.cells.lookup x = some a := by rfl) (hk : env.scope.kind = .function := by rfl) (hl : env.kindOf x = some .cell := by rfl)
    (hd : (x == ("__debug__" : Str)) = false := by decide) : W c A (eval (.Name x pos) env) g l Q := fun _ S => wpAny_Name (wpAny_loadName_cell hk hl hc (S.cellAt hm) (Post.mk' S h)) hd
theorem W_freeOwn {a : Addr} {Q : Value → Heap → Owns → Prop} (hm : (a, Own.cell (some v)) ∈ l) (h : Q v g l) (hc : env.cells.lookup x = some a := by rfl) (hk : env.scope.kind = .function := by rfl) (hl : env.kindOf x = some .free := by rfl)
    (hd : (x == ("__debug__" : Str)) = false := by decide) (hn : (x == ("__classdict__" : Str)) = false := by decide) : W c A (eval (.Name x pos) env) g l Q := fun _ S => wpAny_Name (wpAny_loadName_free hk hl hc (S.cellAt hm) (Post.mk' S h) hn) hd
theorem W_free {a : Addr} {Q : Value → Heap → Owns → Prop} (hm : g.IsCell a (some v)) (h : Q v g l) (hc : env.cells.lookup x = some a := by rfl) (hk : env.scope.kind = .function := by rfl) (hl : env.kindOf x = some .free := by rfl)
    (hd : (x == ("__debug__" : Str)) = false := by decide) (hn : (x == ("__classdict__" : Str)) = false := by decide) : W c A (eval (.Name x pos) env) g l Q := fun _ S => wpAny_Name (wpAny_loadName_free hk hl hc (hm.keeps S.keep) (Post.mk' S h) hn) hd
theorem W_global {Q : Value → Heap → Owns → Prop} (e : nsIn c.K mainGlobals x = some (some v)) (h : Q v g l) (hg : env.globals = mainGlobals := by rfl) (hk : env.scope.kind = .function := by rfl) (hx : env.kindOf x = some .globalImplicit := by rfl)
    (hd : (x == ("__debug__" : Str)) = false := by decide) : W c A (eval (.Name x pos) env) g l Q := fun _ S =>
  Name_function_global hk hx (loadGlobal_global (env := env) (by rw [hg]; exact S.base.T.g.keeps S.keep) (mg_of S.base.K S.base.T.g e) (Post.mk' S h)) hd
theorem W_builtin {Q : Value → Heap → Owns → Prop} (e : nsIn c.K mainGlobals x = some none) (hv : bootBuiltins x = some v) (h : Q v g l) (hn : x ≠ "__name__" := by decide) (hg : env.globals = mainGlobals := by rfl) (hb : env.builtins = builtinsNs := by rfl) (hk : env.scope.kind = .function := by rfl)
    (hx : env.kindOf x = some .globalImplicit := by rfl) (hd : (x == ("__debug__" : Str)) = false := by decide) : W c A (eval (.Name x pos) env) g l Q := fun _ S =>
  Name_function_global hk hx (loadGlobal_builtin (env := env) (by rw [hg]; exact S.base.T.g.keeps S.keep) (mg_none_of S.base.K S.base.T.g e) (by rw [hb]; exact S.base.T.b.keeps S.keep) ((S.base.T.builtins x hn).trans hv) (Post.mk' S h)) hd

theorem W_storeLocal {r r' : List (Str × Option Value)} {Q : Unit → Heap → Owns → Prop} (hp : Put r x v r') (U : Turn env.locals (.fr r) (.fr r') l l') (h : Q () g l') (hk : env.scope.kind = .function := by rfl) (hl : env.kindOf x = some .local := by rfl) :
    W c A (storeName env x v) g l Q := fun _ S =>
  wpAny_storeName_local hl (S.ns U.mem).2 (fun h' hn hs => Post.mk' (S.turn U (Ext_of_same hs) ⟨by rw [hp.names]; exact (S.ns U.mem).1, by rw [hp.lk (S.ns U.mem).1]; exact hn⟩) h) (by rw [hk]; rfl)
theorem W_storeCell {a : Addr} {w : Option Value} {Q : Unit → Heap → Owns → Prop} (U : Turn a (.cell w) (.cell (some v)) l l') (h : Q () g l') (hc : env.cells.lookup x = some a := by rfl) (hk : env.scope.kind = .function := by rfl) (hl : env.kindOf x = some .cell := by rfl) :
    W c A (storeName env x v) g l Q := fun s S =>
  wpAny_storeName_cell hk hl hc (S.cellAt U.mem) fun h' hv hs => Post.mk' (S.turn (tk := s.toks) U (Ext_of_same hs) hv) h

theorem W_bindName {Q : Unit → Heap → Owns → Prop} (h : W c A (storeName env x v) g l Q) : W c A (bindName env x v) g l Q := fun s S => wpAny_bindName (h s S)
theorem W_assignName {Q : Unit → Heap → Owns → Prop} (h : W c A (storeName env x v) g l Q) : W c A (assign (.Name x pos) env v) g l Q := fun s S => wpAny_assign_Name (h s S)
end

section
variable {c : Cfg} {A : Around} {g : Heap} {l l' : Owns} {env : Env}

theorem W_int {i : Int} {k : Nat} {pos : Pos} {Q : Value → Heap → Owns → Prop} (h : ∀ t, Q (.int i t) g l) : W c A (eval (.Constant (.int i) k pos) env) g l Q := W_tok (mk := Value.int i) (fun _ _ _ h => wpAny_Constant_int h) h
theorem W_str {i : Str} {k : Nat} {pos : Pos} {Q : Value → Heap → Owns → Prop} (h : ∀ t, Q (.str i t) g l) : W c A (eval (.Constant (.str i) k pos) env) g l Q := W_tok (mk := Value.str i) (fun _ _ _ h => wpAny_Constant_str h) h
theorem W_none {k : Nat} {pos : Pos} {Q : Value → Heap → Owns → Prop} (h : Q .none g l) : W c A (eval (.Constant .none k pos) env) g l Q := W_now (fun _ _ _ h => wpAny_Constant_none h) h
theorem W_bool {b : Bool} {k : Nat} {pos : Pos} {Q : Value → Heap → Owns → Prop} (h : Q (.bool b) g l) : W c A (eval (.Constant (.bool b) k pos) env) g l Q := W_now (fun _ _ _ h => wpAny_Constant_bool h) h

theorem W_BinOp {a b : Expr} {op : Operator} {pos : Pos} {Q : Value → Heap → Owns → Prop} (h : W c A (eval a env) g l fun x g1 l1 => W c A (eval b env) g1 l1 fun y g2 l2 => W c A (binaryOp op x y) g2 l2 Q) : W c A (eval (.BinOp a op b pos) env) g l Q :=
  fun _ S => wpAny_BinOp (h.run S fun _ _ _ _ u1 S1 h1 => h1.run S1 fun _ _ _ s2 u2 S2 h2 => up (u1.trans u2) (h2 s2 S2))
theorem W_UnaryOp {a : Expr} {op : UnaryOp} {pos : Pos} {Q : Value → Heap → Owns → Prop} (h : W c A (eval a env) g l fun x g1 l1 => W c A (unaryOp op x) g1 l1 Q) : W c A (eval (.UnaryOp op a pos) env) g l Q :=
  fun _ S => wpAny_UnaryOp (h.run S fun _ _ _ s1 u1 S1 h1 => up u1 (h1 s1 S1))
theorem W_Compare {a b : Expr} {op : CmpOp} {pos : Pos} {Q : Value → Heap → Owns → Prop} (h : W c A (eval a env) g l fun x g1 l1 => W c A (eval b env) g1 l1 fun y g2 l2 => W c A (compareOp op x y) g2 l2 Q) (hm : behindInMarks op b = false := by with_unfolding_all rfl) :
    W c A (eval (.Compare a [op] [b] pos) env) g l Q :=
  fun _ S => wpAny_Compare1 (h.run S fun _ _ _ _ u1 S1 h1 => h1.run S1 fun _ _ _ s2 u2 S2 h2 => up (u1.trans u2) (h2 s2 S2)) hm
/-- an expression's truth -/
theorem W_isCompare {a b : Expr} {op : CmpOp} {pos : Pos} {whole : Sem Value} {Q : Bool → Heap → Owns → Prop} (h : W c A (eval a env) g l fun x g1 l1 => W c A (eval b env) g1 l1 fun y g2 l2 => W c A (compareOp op x y) g2 l2 fun z g3 l3 => W c A (truthy z) g3 l3 Q) (hm : behindInMarks op b = false := by with_unfolding_all rfl) :
    W c A (isTrue (.Compare a [op] [b] pos) env whole) g l Q :=
  fun _ S => wpAny_isTrue_Compare1 (h.run S fun _ _ _ _ u1 S1 h1 => h1.run S1 fun _ _ _ _ u2 S2 h2 => h2.run S2 fun _ _ _ s3 u3 S3 h3 => up ((u1.trans u2).trans u3) (h3 s3 S3)) hm
theorem W_isNot {a : Expr} {pos : Pos} {whole : Sem Value} {Q : Bool → Heap → Owns → Prop} (h : W c A (isTrue a env (eval a env)) g l fun b g1 l1 => Q (!b) g1 l1) : W c A (isTrue (.UnaryOp .Not a pos) env whole) g l Q :=
  fun _ S => wpAny_isTrue_Not (h.run S fun _ _ _ _ u1 S1 h1 => Post.mk u1 S1 h1)
theorem W_isValue {e : Expr} {whole : Sem Value} {Q : Bool → Heap → Owns → Prop} (h : W c A whole g l fun v g1 l1 => W c A (truthy v) g1 l1 Q)
    (he : isTrue e env whole = (do let v ← whole; standAt e.pos; holding [v] (truthy v)) := by rfl) : W c A (isTrue e env whole) g l Q :=
  fun _ S => wpAny_isTrue_value (h.run S fun _ _ _ s1 u1 S1 h1 => up u1 (h1 s1 S1)) he
theorem W_isOr {x y : Expr} {pos : Pos} {whole : Sem Value} {Q : Bool → Heap → Owns → Prop}
    (h : W c A (isTrue x env (eval x env)) g l fun b g1 l1 => (b = true → Q true g1 l1) ∧ (b = false → W c A (isTrue y env (eval y env)) g1 l1 Q)) : W c A (isTrue (.BoolOp .Or [x, y] pos) env whole) g l Q := fun s S =>
  wpAny_isTrue_BoolOp (wpAny_allTrue_Or_cons (h.run S fun b g1 l1 s1 u1 S1 h1 => by
    cases b with
    | true => exact Post.mk u1 S1 (h1.1 rfl)
    | false => exact wpAny_allTrue_Or_cons ((h1.2 rfl).run S1 fun b g2 l2 s2 u2 S2 h2 => by
        cases b with
        | true => exact Post.mk (u1.trans u2) S2 h2
        | false => exact wpAny_allTrue_Or_nil (Post.mk (u1.trans u2) S2 h2))))
theorem W_isAnd {x y : Expr} {pos : Pos} {whole : Sem Value} {Q : Bool → Heap → Owns → Prop}
    (h : W c A (isTrue x env (eval x env)) g l fun b g1 l1 => (b = false → Q false g1 l1) ∧ (b = true → W c A (isTrue y env (eval y env)) g1 l1 Q)) : W c A (isTrue (.BoolOp .And [x, y] pos) env whole) g l Q := fun s S =>
  wpAny_isTrue_BoolOp (wpAny_allTrue_And_cons (h.run S fun b g1 l1 s1 u1 S1 h1 => by
    cases b with
    | false => exact Post.mk u1 S1 (h1.1 rfl)
    | true => exact wpAny_allTrue_And_cons ((h1.2 rfl).run S1 fun b g2 l2 s2 u2 S2 h2 => by
        cases b with
        | false => exact Post.mk (u1.trans u2) S2 h2
        | true => exact wpAny_allTrue_And_nil (Post.mk (u1.trans u2) S2 h2))))

theorem W_IfExp {t a b : Expr} {pos : Pos} {Q : Value → Heap → Owns → Prop} (h : W c A (isTrue t env (eval t env)) g l fun z g1 l1 => (z = true → W c A (eval a env) g1 l1 Q) ∧ (z = false → W c A (eval b env) g1 l1 Q)) : W c A (eval (.IfExp t a b pos) env) g l Q :=
  fun _ S => wpAny_IfExp (h.run S fun z _ _ s1 u1 S1 h1 => by
    cases z with
    | true => exact up u1 (h1.1 rfl s1 S1)
    | false => exact up u1 (h1.2 rfl s1 S1))

/-- the statements behind one -/
def SeqQ (c : Cfg) (A : Around) (env : Env) (rest : List Stmt) (Q : Flow → Heap → Owns → Prop) : Flow → Heap → Owns → Prop
  | .next, g, l => W c A (execs rest env) g l Q
  | .brk, g, l => Q .brk g l
  | .cont, g, l => Q .cont g l
  | .ret v, g, l => Q (.ret v) g l
theorem seq_next {rest : List Stmt} {Q : Flow → Heap → Owns → Prop} (h : W c A (execs rest env) g l Q) : SeqQ c A env rest Q .next g l := h
theorem seq_ret {rest : List Stmt} {Q : Flow → Heap → Owns → Prop} {v : Value} (h : Q (.ret v) g l) : SeqQ c A env rest Q (.ret v) g l := h
theorem seq_brk {rest : List Stmt} {Q : Flow → Heap → Owns → Prop} (h : Q .brk g l) : SeqQ c A env rest Q .brk g l := h
theorem seq_cont {rest : List Stmt} {Q : Flow → Heap → Owns → Prop} (h : Q .cont g l) : SeqQ c A env rest Q .cont g l := h
theorem W_nil {Q : Flow → Heap → Owns → Prop} (h : Q .next g l) : W c A (execs [] env) g l Q := W_now (fun _ _ _ h => wpAny_execs_nil h) h
theorem W_cons {st : Stmt} {rest : List Stmt} {Q : Flow → Heap → Owns → Prop} (h : W c A (exec st env) g l (SeqQ c A env rest Q)) : W c A (execs (st :: rest) env) g l Q :=
  fun _ S => wpAny_execs_cons (h.run S fun f _ _ s1 u1 S1 h1 => by
    cases f with
    | next => exact up u1 (h1 s1 S1)
    | brk => exact Post.mk u1 S1 h1
    | cont => exact Post.mk u1 S1 h1
    | ret v => exact Post.mk u1 S1 h1)

theorem W_Assign {x : Str} {p pos : Pos} {e : Expr} {Q : Flow → Heap → Owns → Prop} (h : W c A (eval e env) g l fun v g1 l1 => W c A (storeName env x v) g1 l1 fun _ g2 l2 => Q .next g2 l2)
    (hs : swapsWith e (some (.Name x p)) pos.line env = pure false := by rfl) : W c A (exec (.Assign [.Name x p] e pos) env) g l Q :=
  fun _ S => wpAny_Assign_Name (h.run S fun _ _ _ _ u1 S1 h1 => h1.run S1 fun _ _ _ _ u2 S2 h2 => Post.mk (u1.trans u2) S2 h2) hs
theorem W_AugAssign {x : Str} {p pos : Pos} {op : Operator} {e : Expr} {Q : Flow → Heap → Owns → Prop} (h : W c A (loadName env x) g l fun a g1 l1 => W c A (eval e env) g1 l1 fun b g2 l2 => W c A (inplaceOp op a b) g2 l2 fun v g3 l3 => W c A (storeName env x v) g3 l3 fun _ g4 l4 => Q .next g4 l4) :
    W c A (exec (.AugAssign (.Name x p) op e pos) env) g l Q :=
  fun _ S => wpAny_AugAssign_Name (h.run S fun _ _ _ _ u1 S1 h1 => h1.run S1 fun _ _ _ _ u2 S2 h2 => h2.run S2 fun _ _ _ _ u3 S3 h3 => h3.run S3 fun _ _ _ _ u4 S4 h4 => Post.mk (((u1.trans u2).trans u3).trans u4) S4 h4)
theorem W_If {t : Expr} {a b : List Stmt} {pos : Pos} {Q : Flow → Heap → Owns → Prop} (h : W c A (isTrue t env (eval t env)) g l fun z g1 l1 => (z = true → W c A (execs a env) g1 l1 Q) ∧ (z = false → W c A (execs b env) g1 l1 Q)) : W c A (exec (.If t a b pos) env) g l Q :=
  fun _ S => wpAny_If (h.run S fun z _ _ s1 u1 S1 h1 => by
    cases z with
    | true => exact up u1 (h1.1 rfl s1 S1)
    | false => exact up u1 (h1.2 rfl s1 S1))
theorem W_Return {e : Expr} {pos : Pos} {Q : Flow → Heap → Owns → Prop} (h : W c A (eval e env) g l fun v g1 l1 => Q (.ret v) g1 l1) : W c A (exec (.Return (some e) pos) env) g l Q :=
  fun s S => wpAny_Return_some (h s S)
theorem W_Return0 {pos : Pos} {Q : Flow → Heap → Owns → Prop} (h : Q (.ret .none) g l) : W c A (exec (.Return none pos) env) g l Q := W_now (fun _ _ _ h => wpAny_Return_none h) h
theorem W_Continue {pos : Pos} {Q : Flow → Heap → Owns → Prop} (h : Q .cont g l) : W c A (exec (.Continue pos) env) g l Q := W_now (fun _ _ _ h => wpAny_Continue h) h
theorem W_Break {pos : Pos} {Q : Flow → Heap → Owns → Prop} (h : Q .brk g l) : W c A (exec (.Break pos) env) g l Q := W_now (fun _ _ _ h => wpAny_Break h) h

/-- both ways of a test -/
theorem two {z : Bool} {P R : Prop} (h1 : z = true → P) (h2 : z = false → R) : (z = true → P) ∧ (z = false → R) := ⟨h1, h2⟩
theorem one_t {z : Bool} {P R : Prop} (e : z = true) (h : P) : (z = true → P) ∧ (z = false → R) := ⟨fun _ => h, fun q => by rw [e] at q; cases q⟩
theorem one_f {z : Bool} {P R : Prop} (e : z = false) (h : R) : (z = true → P) ∧ (z = false → R) := ⟨fun q => by rw [e] at q; (cases q), fun _ => h⟩
theorem two' {z : Bool} {P R : Prop} (h1 : z = false → P) (h2 : z = true → R) : (z = false → P) ∧ (z = true → R) := ⟨h1, h2⟩
theorem one_t' {z : Bool} {P R : Prop} (e : z = true) (h : R) : (z = false → P) ∧ (z = true → R) := ⟨fun q => by rw [e] at q; (cases q), fun _ => h⟩
theorem one_f' {z : Bool} {P R : Prop} (e : z = false) (h : P) : (z = false → P) ∧ (z = true → R) := ⟨fun _ => h, fun q => by rw [e] at q; cases q⟩

-- arguments
theorem W_args0 {pos : Pos} {Q : List Value → Heap → Owns → Prop} (h : Q [] g l) : W c A (spliced (backTo pos (starEach [] env))) g l Q := W_now (fun _ _ _ h => args_nil h) h
theorem W_args {e : Expr} {rest : List Expr} {pos : Pos} {Q : List Value → Heap → Owns → Prop} (h : W c A (eval e env) g l fun v g1 l1 => W c A (spliced (backTo pos (starEach rest env))) g1 l1 fun vs g2 l2 => Q (v :: vs) g2 l2)
    (he : starEach (e :: rest) env = (false, eval e env) :: starEach rest env := by rfl) : W c A (spliced (backTo pos (starEach (e :: rest) env))) g l Q :=
  fun _ S => args_cons (h.run S fun _ _ _ _ u1 S1 h1 => h1.run S1 fun _ _ _ _ u2 S2 h2 => Post.mk (u1.trans u2) S2 h2) he

theorem W_Call {func : Expr} {args : List Expr} {pos : Pos} {Q : Value → Heap → Owns → Prop} (h : W c A (eval func env) g l fun f g1 l1 => W c A (callWith pos f [] (backTo pos (starEach args env)) []) g1 l1 Q)
    (he : eval (.Call func args [] pos) env = (do callWith pos (← eval func env) [] (backTo pos (starEach args env)) (backToKw pos (keywordEach [] env))) := by rfl) : W c A (eval (.Call func args [] pos) env) g l Q :=
  fun _ S => Call_ (h.run S fun _ _ _ s1 u1 S1 h1 => up u1 (h1 s1 S1)) he
theorem W_Method {o : Expr} {name : Str} {apos pos : Pos} {args : List Expr} {pl : Sem Bool} {Q : Value → Heap → Owns → Prop}
    (h : W c A (eval o env) g l fun ov g1 l1 => W c A (getMethod ov name pl) g1 l1 fun fx g2 l2 => W c A (callWith pos fx.1 fx.2 (backTo pos (starEach args env)) []) g2 l2 Q)
    (he : eval (.Call (.Attribute o name apos) args [] pos) env = (do
      let ov ← eval o env
      standAt apos.atName
      let (f, first) ← holding [ov] (getMethod ov name pl)
      callWith pos f first (backTo pos (starEach args env)) []) := by rfl) : W c A (eval (.Call (.Attribute o name apos) args [] pos) env) g l Q :=
  fun _ S => MethodCall_ (h.run S fun _ _ _ _ u1 S1 h1 => h1.run S1 fun _ _ _ s2 u2 S2 h2 => up (u1.trans u2) (h2 s2 S2)) he

theorem W_withK {f : Value} {first : List Value} {e : Expr} {rest : List Expr} {pos : Pos} {Q : Value → Heap → Owns → Prop} (hk : keepIn c.K f = true)
    (h : W c A (spliced (backTo pos (starEach (e :: rest) env))) g l fun vs g1 l1 => W c A (call f (first ++ vs)) g1 l1 Q)
    (he : starEach (e :: rest) env = (false, eval e env) :: starEach rest env := by rfl) (hplain : (backTo pos (starEach rest env)).any (·.1) = false := by rfl) :
    W c A (callWith pos f first (backTo pos (starEach (e :: rest) env)) []) g l Q := fun _ S =>
  callWith_K S.base.K hk (h.run S fun _ _ _ s1 u1 S1 h1 => ⟨S1.base.K.keeps S1.keep, up u1 (h1 s1 S1)⟩) he hplain
theorem W_withK0 {f : Value} {first : List Value} {pos : Pos} {Q : Value → Heap → Owns → Prop} (hk : keepIn c.K f = true)
    (h : W c A (call f first) g l Q) : W c A (callWith pos f first (backTo pos (starEach [] env)) []) g l Q := fun s S =>
  callWith_K0 (S.base.K.keeps S.keep) hk (by rw [List.append_nil]; exact h s S)
theorem W_withB {id : String} {first : List Value} {e : Expr} {rest : List Expr} {pos : Pos} {Q : Value → Heap → Owns → Prop}
    (h : W c A (spliced (backTo pos (starEach (e :: rest) env))) g l fun vs g1 l1 => W c A (call (.builtin id) (first ++ vs)) g1 l1 Q)
    (he : starEach (e :: rest) env = (false, eval e env) :: starEach rest env := by rfl) (hplain : (backTo pos (starEach rest env)).any (·.1) = false := by rfl) :
    W c A (callWith pos (.builtin id) first (backTo pos (starEach (e :: rest) env)) []) g l Q := fun _ S =>
  callWith_method1 (h.run S fun _ _ _ s1 u1 S1 h1 => up u1 (h1 s1 S1)) he hplain
theorem W_withB0 {id : String} {first : List Value} {pos : Pos} {Q : Value → Heap → Owns → Prop} (h : W c A (call (.builtin id) first) g l Q) : W c A (callWith pos (.builtin id) first (backTo pos (starEach [] env)) []) g l Q := fun s S =>
  callWith_method0 (h s S)
theorem W_withT {T : String} {e : Expr} {rest : List Expr} {pos : Pos} {Q : Value → Heap → Owns → Prop}
    (h : W c A (spliced (backTo pos (starEach (e :: rest) env))) g l fun vs g1 l1 => W c A (call (.type T) vs) g1 l1 Q)
    (he : starEach (e :: rest) env = (false, eval e env) :: starEach rest env := by rfl) (hplain : (backTo pos (starEach rest env)).any (·.1) = false := by rfl) :
    W c A (callWith pos (.type T) [] (backTo pos (starEach (e :: rest) env)) []) g l Q := fun _ S =>
  PyProof.Rows.callWith_type1 (h.run S fun _ _ _ s1 u1 S1 h1 => up u1 (h1 s1 S1)) he hplain
theorem W_withT0 {T : String} {pos : Pos} {Q : Value → Heap → Owns → Prop} (h : W c A (call (.type T) []) g l Q) : W c A (callWith pos (.type T) [] (backTo pos (starEach [] env)) []) g l Q := fun s S =>
  PyProof.Rows.callWith_type0 (h s S)
end
end Mine
-- part C3
open PySem PySem.W PyProof.Rows PySem.Calls PySem.Spec
set_option Elab.async false
set_option maxRecDepth 100000
set_option linter.unusedVariables false
namespace Mine

def zipFrame : List Str → List Value → List (Str × Option Value)
  | [], _ => []
  | n :: ns, [] => (n, none) :: zipFrame ns []
  | n :: ns, v :: vs => (n, some v) :: zipFrame ns vs
theorem zipFrame_names : ∀ (ns : List Str) (vs : List Value), (zipFrame ns vs).map (·.1) = ns
  | [], _ => rfl
  | n :: ns, [] => by rw [zipFrame, List.map_cons, zipFrame_names ns []]
  | n :: ns, v :: vs => by rw [zipFrame, List.map_cons, zipFrame_names ns vs]
theorem zipFrame_lk : ∀ (ns : List Str) (vs : List Value) (y : Str), lk (zipFrame ns vs) y = (ns.zip vs).lookup y
  | [], _, _ => rfl
  | n :: ns, [], y => by
    rw [zipFrame, lk, zipFrame_lk ns []]
    simp
  | n :: ns, v :: vs, y => by
    rw [zipFrame, lk, zipFrame_lk ns vs, List.zip_cons_cons, List.lookup_cons]
    by_cases e : y = n
    · subst e; simp
    · rw [if_neg e, beq_eq_false_iff_ne.mpr e]
theorem lookup_reverse : ∀ (l : List (Str × Value)), (l.map (·.1)).Nodup → ∀ y, l.reverse.lookup y = l.lookup y
  | [], _, _ => rfl
  | (x, v) :: r, hn, y => by
    rw [List.map_cons, List.nodup_cons] at hn
    rw [List.reverse_cons, List.lookup_append, lookup_reverse r hn.2, List.lookup_cons, List.lookup_cons, List.lookup_nil]
    by_cases e : y = x
    · subst e
      have : r.lookup y = none := by
        cases q : r.lookup y with
        | none => rfl
        | some w => exact absurd (List.mem_map_of_mem (f := (·.1)) (mem_of_lookup q)) hn.1
      simp [this]
    · rw [beq_eq_false_iff_ne.mpr e]; simp
theorem zip_nodup : ∀ (ns : List Str) (vs : List Value), ns.Nodup → ((ns.zip vs).map (·.1)).Nodup
  | [], _, _ => List.nodup_nil
  | _ :: _, [], _ => List.nodup_nil
  | n :: ns, v :: vs, h => by
    rw [List.nodup_cons] at h
    rw [List.zip_cons_cons, List.map_cons, List.nodup_cons]
    refine ⟨fun hm => h.1 ?_, zip_nodup ns vs h.2⟩
    obtain ⟨p, hp, e⟩ := List.mem_map.mp hm
    have := (List.of_mem_zip hp).1
    have e' : p.1 = n := e
    rw [← e']; exact this

/-- a function's end: what it has of its own goes -/
def retOf : Flow → Value
  | .ret v => v
  | _ => .none
def RetQ (c : Cfg) (Q : Value → Heap → Owns → Prop) : Flow → Heap → Owns → Prop := fun f g l => Shift c g l (Q (retOf f))

section
variable {c : Cfg} {A : Around} {g : Heap} {l l' : Owns}
variable {name qual : Str} {params : Arguments} {body : List Stmt} {scope : Scope} {cl : List (Str × Addr)} {dV kV doc pm cdv ct : Value} {an : Option Addr} {fo : Obj} {f : Addr} {pos : List Value} {kw : List (Str × Value)}

theorem W_def {ns : List Str} {vs : List Value} {Q : Value → Heap → Owns → Prop} (hroom : A.depth < recursionLimit) (ho : g.get? f = some fo) (hd : fo.data = .func (fnX name qual params body scope cl dV kV doc pm an cdv ct)) (hcd : g.CodeRec cdv qual)
    (hb : ∀ s : Shared, Sub g s.heap → BindsTo s (fnX name qual params body scope cl dV kV doc pm an cdv ct) ⟨pos, kw⟩ (ns.zip vs)) (hloc : ∀ y ∈ ns.zip vs, scope.names.lookup y.1 = some .local) (hns : ns.Nodup)
    (h : ∀ L, W c (A.deeper (envX qual scope L f cdv cl)) (execs body (envX qual scope L f cdv cl)) g ((L, .fr (zipFrame ns vs)) :: l) (RetQ c Q))
    (hcell : ∀ x ∈ scope.names, x.2 ≠ .cell) (hco : scope.isCoroutine = false := by rfl) (hgen : scope.isGenerator = false := by rfl) (hk : scope.kind = .function := by rfl) : W c A (call (.ref f) pos kw) g l Q := fun s S => by
  refine wpAny_call (codeAny_call_def (fd := fnX name qual params body scope cl dV kV doc pm an cdv ct) (body := body) (binds := ns.zip vs) hroom (S.keep _ _ ho) hd (S.base.T.nolimit.keeps S.keep) (hcd.keeps S.keep) rfl (hb s S.keep) hcell hloc (fun h₁ hns₁ hk₁ => ?_) hco hgen hk)
  have S1 : St c g { s with heap := h₁, toks := s.toks + (ns.zip vs).length } ((s.heap.objs.size, .fr (zipFrame ns vs)) :: l) := by
    refine S.grow (new := [(s.heap.objs.size, .fr (zipFrame ns vs))]) hk₁ (fun p hp => ?_) (List.nodup_cons.mpr ⟨List.not_mem_nil, List.nodup_nil⟩)
    rw [List.mem_singleton.mp hp]
    refine ⟨⟨by rw [zipFrame_names]; exact hns, ?_⟩, Nat.le_refl _⟩
    have e : (fun x => (ns.zip vs).reverse.lookup x) = lk (zipFrame ns vs) := by funext y; rw [zipFrame_lk, lookup_reverse _ (zip_nodup ns vs hns)]
    rw [← e]; exact hns₁
  refine (h s.heap.objs.size).run S1 fun fl g' l' s' u S' q => ?_
  obtain ⟨g2, l2, u2, S2, hq⟩ := q s' S'
  cases fl <;> exact Post.mk (u.trans u2) S2 hq

theorem W_defK {ns : List Str} {vs : List Value} {Q : Value → Heap → Owns → Prop} {oc : Value} {od : Option Addr} {osl : Array (Option Value)} (hroom : A.depth < recursionLimit)
    (ho : c.K.lookup f = some ⟨oc, od, .func (fnX name qual params body scope cl dV kV doc pm an cdv ct), osl⟩) (hcd : codeIn c.K cdv qual = true)
    (hb : ∀ s : Shared, c.K.In s.heap → BindsTo s (fnX name qual params body scope cl dV kV doc pm an cdv ct) ⟨pos, kw⟩ (ns.zip vs)) (hloc : ∀ y ∈ ns.zip vs, scope.names.lookup y.1 = some .local) (hns : ns.Nodup)
    (h : ∀ L, W c (A.deeper (envX qual scope L f cdv cl)) (execs body (envX qual scope L f cdv cl)) g ((L, .fr (zipFrame ns vs)) :: l) (RetQ c Q))
    (hcell : ∀ x ∈ scope.names, x.2 ≠ .cell) (hco : scope.isCoroutine = false := by rfl) (hgen : scope.isGenerator = false := by rfl) (hk : scope.kind = .function := by rfl) : W c A (call (.ref f) pos kw) g l Q := fun s S =>
  W_def hroom (S.base.K _ _ ho) rfl (codeRec_of S.base.K hcd) (fun s' u => hb s' (S.base.K.keeps u)) hloc hns h hcell hco hgen hk s S

-- functions with cells
def cellList : Nat → List Str → List (Str × Addr) → List (Str × Addr)
  | _, [], acc => acc
  | n, x :: xs, acc => cellList (n + 1) xs ((x, n) :: acc)
def cellOwns : Nat → List (Option Value) → Owns
  | _, [] => []
  | n, w :: ws => (n, .cell w) :: cellOwns (n + 1) ws
theorem cellOwns_at : ∀ (ws : List (Option Value)) (n : Nat) (p : Addr × Own), p ∈ cellOwns n ws → ∃ i w, ws[i]? = some w ∧ p = (n + i, .cell w)
  | [], _, _, hp => nomatch hp
  | w :: ws, n, p, hp => by
    rcases List.mem_cons.mp hp with rfl | hp
    · exact ⟨0, w, rfl, rfl⟩
    · obtain ⟨i, w', e, rfl⟩ := cellOwns_at ws (n + 1) p hp
      exact ⟨i + 1, w', e, by rw [Nat.add_right_comm]; rfl⟩
theorem cellOwns_nodup : ∀ (ws : List (Option Value)) (n : Nat), ((cellOwns n ws).map (·.1)).Nodup
  | [], _ => List.nodup_nil
  | w :: ws, n => by
    rw [cellOwns, List.map_cons, List.nodup_cons]
    refine ⟨fun hm => ?_, cellOwns_nodup ws (n + 1)⟩
    obtain ⟨p, hp, e⟩ := List.mem_map.mp hm
    obtain ⟨i, w', _, rfl⟩ := cellOwns_at ws (n + 1) p hp
    exact absurd e (by show n + 1 + i ≠ n; omega)
theorem cellList_old : ∀ (xs : List Str) (n : Nat) (acc : List (Str × Addr)) (x : Str), x ∉ xs → (cellList n xs acc).lookup x = acc.lookup x
  | [], _, _, _, _ => rfl
  | y :: xs, n, acc, x, h => by
    rw [cellList, cellList_old xs _ _ _ (fun q => h (.tail _ q)), List.lookup_cons]
    have : (x == y) = false := beq_eq_false_iff_ne.mpr fun e => h (e ▸ .head _)
    rw [this]
theorem cellList_at : ∀ (xs : List Str) (n : Nat) (acc : List (Str × Addr)) (i : Nat) (x : Str), xs.Nodup → xs[i]? = some x → (cellList n xs acc).lookup x = some (n + i)
  | [], _, _, _, _, _, e => by cases e
  | y :: xs, n, acc, 0, x, hn, e => by
    cases e
    rw [List.nodup_cons] at hn
    rw [cellList, cellList_old _ _ _ _ hn.1, List.lookup_cons]
    simp
  | y :: xs, n, acc, i + 1, x, hn, e => by
    rw [List.nodup_cons] at hn
    rw [cellList, cellList_at xs (n + 1) _ i x hn.2 (by simpa using e)]
    congr 1; omega

theorem bindL_filter (k : Str → Option NameKind) : ∀ (binds : List (Str × Value)) (m : Str → Option Value) (y : Str), (binds.map (·.1)).Nodup →
    bindL k binds m y = ((binds.filter fun p => decide (k p.1 = some .local)).lookup y).or (m y)
  | [], m, y, _ => by simp [bindL]
  | (n, v) :: r, m, y, hn => by
    rw [List.map_cons, List.nodup_cons] at hn
    rw [bindL, bindL_filter k r _ y hn.2, List.filter_cons]
    by_cases hl : k n = some .local
    · simp only [hl, if_true, decide_true, List.lookup_cons]
      by_cases e : y = n
      · subst e
        have : (r.filter fun p => decide (k p.1 = some .local)).lookup y = none := by
          cases q : (r.filter fun p => decide (k p.1 = some .local)).lookup y with
          | none => rfl
          | some w => exact absurd (List.mem_map_of_mem (f := (·.1)) (List.mem_filter.mp (mem_of_lookup q)).1) hn.1
        simp [this]
      · simp [beq_eq_false_iff_ne.mpr e, e]
    · simp [hl]
theorem bindC_filter (k : Str → Option NameKind) : ∀ (binds : List (Str × Value)) (m : Str → Option Value) (y : Str), (binds.map (·.1)).Nodup →
    bindC k binds m y = ((binds.filter fun p => !decide (k p.1 = some .local)).lookup y).or (m y)
  | [], m, y, _ => by simp [bindC]
  | (n, v) :: r, m, y, hn => by
    rw [List.map_cons, List.nodup_cons] at hn
    rw [bindC, bindC_filter k r _ y hn.2, List.filter_cons]
    by_cases hl : k n = some .local
    · simp [hl]
    · simp only [hl, if_false, decide_false, Bool.not_false, if_true, List.lookup_cons]
      by_cases e : y = n
      · subst e
        have : (r.filter fun p => !decide (k p.1 = some .local)).lookup y = none := by
          cases q : (r.filter fun p => !decide (k p.1 = some .local)).lookup y with
          | none => rfl
          | some w => exact absurd (List.mem_map_of_mem (f := (·.1)) (List.mem_filter.mp (mem_of_lookup q)).1) hn.1
        simp [this]
      · simp [beq_eq_false_iff_ne.mpr e, e]

/-- a def with cells: pn, pv its parameters; ns, vs its plain names and their values; xs, ws its cells -/
theorem W_defC {pn : List Str} {pv : List Value} {ns : List Str} {vs : List Value} {xs : List Str} {ws : List (Option Value)} {Q : Value → Heap → Owns → Prop} {oc : Value} {od : Option Addr} {osl : Array (Option Value)} (hroom : A.depth < recursionLimit)
    (ho : c.K.lookup f = some ⟨oc, od, .func (fnX name qual params body scope [] dV kV doc pm an cdv ct), osl⟩) (hcd : codeIn c.K cdv qual = true)
    (hb : ∀ s : Shared, c.K.In s.heap → BindsTo s (fnX name qual params body scope [] dV kV doc pm an cdv ct) ⟨pos, kw⟩ (pn.zip pv))
    (hkind : ∀ x ∈ pn, scope.names.lookup x = some .local ∨ (scope.names.lookup x = some .cell ∧ x ∈ xs))
    (hpn : pn.Nodup) (hns : ns.Nodup) (hxs : xs.Nodup) (hcl : ∀ n, cellsFrom n scope.names [] = cellList n xs [])
    (hL : ((pn.zip pv).filter fun p => decide (scope.names.lookup p.1 = some .local)) = ns.zip vs)
    (hC : (xs.map fun x => ((pn.zip pv).filter fun p => !decide (scope.names.lookup p.1 = some .local)).lookup x) = ws)
    (h : ∀ L, W c (A.deeper (envX qual scope L f cdv (cellList (L + 1) xs []))) (execs body (envX qual scope L f cdv (cellList (L + 1) xs []))) g ((L, .fr (zipFrame ns vs)) :: (cellOwns (L + 1) ws ++ l)) (RetQ c Q))
    (hco : scope.isCoroutine = false := by rfl) (hgen : scope.isGenerator = false := by rfl) (hk : scope.kind = .function := by rfl) : W c A (call (.ref f) pos kw) g l Q := fun s S => by
  have hpz := zip_nodup pn pv hpn
  refine wpAny_call (codeAny_call_function (fd := fnX name qual params body scope [] dV kV doc pm an cdv ct) hroom (S.keep _ _ (S.base.K _ _ ho)) rfl hco hgen rfl (codeRec_of (S.base.K.keeps S.keep) hcd) (hb s (S.base.K.keeps S.keep) _ _ _ _ ?_))
  have hxi : ∀ x ∈ xs, ∃ i, xs[i]? = some x := fun x hx => by
    obtain ⟨i, hi, e⟩ := List.mem_iff_getElem.mp hx
    exact ⟨i, by rw [List.getElem?_eq_getElem hi, e]⟩
  refine wpAny_newFunctionEnv_cells hk (fun x hx => ?_) fun env' he s' X => ?_
  · have hm : x.1 ∈ pn := (List.of_mem_zip hx).1
    refine (hkind x.1 hm).imp id fun ⟨a, b⟩ => ⟨a, ?_⟩
    obtain ⟨i, e⟩ := hxi _ b
    show ((cellsFrom (s.heap.objs.size + 1) scope.names []).lookup x.1).isSome = true
    rw [hcl, cellList_at xs _ _ i _ hxs e]; rfl
  subst he
  refine ⟨(S.base.T.nolimit.keeps S.keep).keeps X.toInCall.keep, codeAny_func ?_⟩
  obtain ⟨h₁, tk, rfl, _⟩ := X.done
  have hk₁ := X.toInCall.keep
  have env_eq : newEnv scope s.heap.objs.size mainGlobals (cellsFrom (s.heap.objs.size + 1) scope.names []) (qual ++ ".<locals>.") (some f) cdv none builtinsNs = envX qual scope s.heap.objs.size f cdv (cellList (s.heap.objs.size + 1) xs []) := by rw [hcl]; rfl
  have S1 : St c g { s with heap := h₁, toks := tk } (((s.heap.objs.size, .fr (zipFrame ns vs)) :: cellOwns (s.heap.objs.size + 1) ws) ++ l) := by
    refine S.grow hk₁ (fun p hp => ?_) ?_
    · rcases List.mem_cons.mp hp with rfl | hp
      · refine ⟨⟨by rw [zipFrame_names]; exact hns, ?_⟩, Nat.le_refl _⟩
        have e : bindL (newEnv scope s.heap.objs.size mainGlobals (cellsFrom (s.heap.objs.size + 1) scope.names []) (qual ++ ".<locals>.") (some f) cdv none builtinsNs).kindOf (pn.zip pv) (fun _ => none) = lk (zipFrame ns vs) := by
          funext y
          rw [bindL_filter _ _ _ _ hpz, zipFrame_lk, ← hL]
          simp only [Option.or_none]; rfl
        have := X.toInCall.ns
        rw [← e]; exact this
      · obtain ⟨i, w, e, rfl⟩ := cellOwns_at ws _ p hp
        refine ⟨?_, by show s.heap.objs.size ≤ s.heap.objs.size + 1 + i; omega⟩
        rw [← hC] at e
        rw [List.getElem?_map] at e
        obtain ⟨x, hx, hw⟩ := Option.map_eq_some_iff.mp e
        have hl : (newEnv scope s.heap.objs.size mainGlobals (cellsFrom (s.heap.objs.size + 1) scope.names []) (qual ++ ".<locals>.") (some f) cdv none builtinsNs).cells.lookup x = some (s.heap.objs.size + 1 + i) := by
          show (cellsFrom (s.heap.objs.size + 1) scope.names []).lookup x = _
          rw [hcl]; exact cellList_at xs _ _ i _ hxs hx
        have := X.cell x _ hl
        rw [bindC_filter _ _ _ _ hpz] at this
        simp only [Option.or_none] at this
        rw [← hw]; exact this
    · rw [List.map_cons, List.nodup_cons]
      refine ⟨fun hm => ?_, cellOwns_nodup _ _⟩
      obtain ⟨p, hp, e⟩ := List.mem_map.mp hm
      obtain ⟨i, w', _, rfl⟩ := cellOwns_at ws _ p hp
      exact absurd e (by show s.heap.objs.size + 1 + i ≠ s.heap.objs.size; omega)
  have hh := (h s.heap.objs.size).run S1 (E := fun e s' => wpAny c.M (A.deeper (envX qual scope s.heap.objs.size f cdv (cellList (s.heap.objs.size + 1) xs []))) (leaving (envX qual scope s.heap.objs.size f cdv (cellList (s.heap.objs.size + 1) xs [])) e) (fun _ _ => False) (fun _ _ => False) s') (F := fun fl s' => Post c g Q (retOf fl) s') fun fl g' l' s' u S' q => by
    obtain ⟨g2, l2, u2, S2, hq⟩ := q s' S'
    exact Post.mk (u.trans u2) S2 hq
  show wpAny _ (A.deeper (newEnv scope s.heap.objs.size mainGlobals (cellsFrom (s.heap.objs.size + 1) scope.names []) (qual ++ ".<locals>.") (some f) cdv none builtinsNs)) (execs body (newEnv scope s.heap.objs.size mainGlobals (cellsFrom (s.heap.objs.size + 1) scope.names []) (qual ++ ".<locals>.") (some f) cdv none builtinsNs)) _ _ _
  rw [env_eq]
  exact wpAny_mono hh (fun fl s' x => by cases fl <;> exact x) fun e s' x => x
end
end Mine
-- part C4
open PySem PySem.W PyProof.Rows PySem.Calls PySem.Spec
set_option Elab.async false
set_option maxRecDepth 100000
set_option linter.unusedVariables false
namespace Mine

section
variable {c : Cfg} {A : Around} {g : Heap} {l l' : Owns} {env : Env} {a b : Int} {t u : Tok} {Q : Value → Heap → Owns → Prop}
theorem W_add (h : ∀ k, Q (.int (a + b) k) g l) : W c A (binaryOp .Add (.int a t) (.int b u)) g l Q := W_tok (mk := Value.int (a + b)) (fun _ _ _ h => add_int h) h
theorem W_sub (h : ∀ k, Q (.int (a - b) k) g l) : W c A (binaryOp .Sub (.int a t) (.int b u)) g l Q := W_tok (mk := Value.int (a - b)) (fun _ _ _ h => sub_int h) h
theorem W_mul (hm : IntMulOk a b) (h : ∀ k, Q (.int (a * b) k) g l) : W c A (binaryOp .Mult (.int a t) (.int b u)) g l Q := W_tok (mk := Value.int (a * b)) (fun _ _ _ h => mul_int h hm) h
theorem W_floordiv (hb : b ≠ 0) (hs : b.natAbs < 1073741824) (h : ∀ k, Q (.int (a.fdiv b) k) g l) : W c A (binaryOp .FloorDiv (.int a t) (.int b u)) g l Q := W_tok (mk := Value.int (a.fdiv b)) (fun _ _ _ h => floordiv_int hb h (.inl (PyProof.noPylong_small hs))) h
theorem W_mod (hb : b ≠ 0) (h : ∀ k, Q (.int (a.fmod b) k) g l) : W c A (binaryOp .Mod (.int a t) (.int b u)) g l Q := W_tok (mk := Value.int (a.fmod b)) (fun _ _ _ h => mod_int' hb h) h
theorem W_lshift (hb : 0 ≤ b) (hs : (Builtin.Int.intBits a : Int) + b ≤ 2 ^ 27) (h : ∀ k, Q (.int (a * 2 ^ b.toNat) k) g l) : W c A (binaryOp .LShift (.int a t) (.int b u)) g l Q := W_tok (mk := Value.int (a * 2 ^ b.toNat)) (fun _ _ _ h => lshift_int hb hs h) h
theorem W_rshift (hb : 0 ≤ b) (h : ∀ k, Q (.int (a.fdiv (2 ^ b.toNat)) k) g l) : W c A (binaryOp .RShift (.int a t) (.int b u)) g l Q := W_tok (mk := Value.int (a.fdiv (2 ^ b.toNat))) (fun _ _ _ h => rshift_int hb h) h
theorem W_xor (h : ∀ k, Q (.int (Builtin.bitXor a b) k) g l) : W c A (binaryOp .BitXor (.int a t) (.int b u)) g l Q := W_tok (mk := Value.int (Builtin.bitXor a b)) (fun _ _ _ h => xor_int h) h
theorem W_and (h : ∀ k, Q (.int (Builtin.bitAnd a b) k) g l) : W c A (binaryOp .BitAnd (.int a t) (.int b u)) g l Q := W_tok (mk := Value.int (Builtin.bitAnd a b)) (fun _ _ _ h => and_int h) h
theorem W_pow (hb : 0 ≤ b) (hs : (Builtin.Int.intBits a : Int) * b ≤ 2 ^ 27) (h : ∀ k, Q (.int (a ^ b.toNat) k) g l) : W c A (binaryOp .Pow (.int a t) (.int b u)) g l Q := W_tok (mk := Value.int (a ^ b.toNat)) (fun _ _ _ h => pow_int hb hs h) h
theorem W_iadd (h : ∀ k, Q (.int (a + b) k) g l) : W c A (inplaceOp .Add (.int a t) (.int b u)) g l Q := W_tok (mk := Value.int (a + b)) (fun _ _ _ h => iadd_int h) h
theorem W_isub (h : ∀ k, Q (.int (a - b) k) g l) : W c A (inplaceOp .Sub (.int a t) (.int b u)) g l Q := W_tok (mk := Value.int (a - b)) (fun _ _ _ h => isub_int h) h
theorem W_ifloordiv (hb : b ≠ 0) (hs : b.natAbs < 1073741824) (h : ∀ k, Q (.int (a.fdiv b) k) g l) : W c A (inplaceOp .FloorDiv (.int a t) (.int b u)) g l Q := W_tok (mk := Value.int (a.fdiv b)) (fun _ _ _ h => ifloordiv_int hb h (.inl (PyProof.noPylong_small hs))) h
theorem W_neg (h : ∀ k, Q (.int (-a) k) g l) : W c A (unaryOp .USub (.int a t)) g l Q := W_tok (mk := Value.int (-a)) (fun _ _ _ h => neg_int h) h
theorem W_invert (h : ∀ k, Q (.int (Builtin.bitNot a) k) g l) : W c A (unaryOp .Invert (.int a t)) g l Q := W_tok (mk := Value.int (Builtin.bitNot a)) (fun _ _ _ h => invert_int h) h
theorem W_lt (h : Q (.bool (decide (a < b))) g l) : W c A (compareOp .Lt (.int a t) (.int b u)) g l Q := W_now (fun _ _ _ h => lt_int h) h
theorem W_gt (h : Q (.bool (decide (b < a))) g l) : W c A (compareOp .Gt (.int a t) (.int b u)) g l Q := W_now (fun _ _ _ h => gt_int h) h
theorem W_le (h : Q (.bool (decide (a ≤ b))) g l) : W c A (compareOp .LtE (.int a t) (.int b u)) g l Q := W_now (fun _ _ _ h => le_int h) h
theorem W_ge (h : Q (.bool (decide (b ≤ a))) g l) : W c A (compareOp .GtE (.int a t) (.int b u)) g l Q := W_now (fun _ _ _ h => ge_int h) h
theorem W_eq (h : Q (.bool (a == b)) g l) : W c A (compareOp .Eq (.int a t) (.int b u)) g l Q := W_now (fun _ _ _ h => eq_int h) h
theorem W_ne (h : Q (.bool (a != b)) g l) : W c A (compareOp .NotEq (.int a t) (.int b u)) g l Q := W_now (fun _ _ _ h => ne_int h) h
theorem W_isNone {v : Value} (h : Q (.bool (v == .none)) g l) : W c A (compareOp .Is v .none) g l Q := W_now (fun _ _ _ h => is_none h) h
theorem W_isNotNone {v : Value} (h : Q (.bool (!(v == .none))) g l) : W c A (compareOp .IsNot v .none) g l Q := W_now (fun _ _ _ h => isNot_none h) h
theorem W_truthyB {z : Bool} {Q : Bool → Heap → Owns → Prop} (h : Q z g l) : W c A (truthy (.bool z)) g l Q := W_now (fun _ _ _ h => wpAny_truthy_bool h) h
theorem W_truthyI {Q : Bool → Heap → Owns → Prop} (h : Q (a != 0) g l) : W c A (truthy (.int a t)) g l Q := W_now (fun _ _ _ h => truthy_int h) h
end

/-- a list that stands -/
inductive ListAt (g : Heap) (l : Owns) (a : Addr) (vs : List Value) : Prop
  | own : (a, Own.list vs) ∈ l → ListAt g l a vs
  | seq : (a, Own.seq vs) ∈ l → ListAt g l a vs
  | here : g.IsList a vs.toArray → ListAt g l a vs
theorem ListAt.is {c : Cfg} {g : Heap} {s : Shared} {l : Owns} {a : Addr} {vs : List Value} (h : ListAt g l a vs) (S : St c g s l) : s.heap.IsList a vs.toArray := by
  cases h with
  | own h => exact Heap.PlainList.isList (S.own _ h).1
  | seq h => exact (S.own _ h).1
  | here h => exact h.at fun o e => S.keep _ o e

abbrev tupObj (vs : List Value) : Obj := { cls := .type "tuple", data := .seq vs.toArray }
theorem tupObj.is {g : Heap} {a : Addr} {vs : List Value} (h : g.get? a = some (tupObj vs)) : IsTup g a vs.toArray := ⟨_, h, rfl, _, rfl⟩

section
variable {c : Cfg} {A : Around} {g : Heap} {l l' : Owns} {env : Env} {Q : Value → Heap → Owns → Prop}

theorem W_Tuple {elts : List Expr} {k : Nat} {pos : Pos} (h : W c A (spliced (backTo pos (starEach elts env))) g l fun vs g1 l1 => W c A (newTuple vs) g1 l1 Q) : W c A (eval (.Tuple elts k pos) env) g l Q :=
  fun _ S => Tuple_ (h.run S fun _ _ _ s1 u1 S1 h1 => up u1 (h1 s1 S1))
theorem W_List {elts : List Expr} {pos : Pos} (h : W c A (spliced (backTo pos (starEach elts env))) g l fun vs g1 l1 => W c A (newList vs) g1 l1 Q) : W c A (eval (.List elts pos) env) g l Q :=
  fun _ S => List_ (h.run S fun _ _ _ s1 u1 S1 h1 => up u1 (h1 s1 S1))
theorem W_newTuple {vs : List Value} (hz : vs.length ≤ sizeLine) (h : ∀ a g', Sub g g' → g'.get? a = some (tupObj vs) → Q (.ref a) g' l) : W c A (newTuple vs) g l Q := fun s S => by
  refine wpAny_newObj_type ?_ (by show vs.toArray.size ≤ sizeLine; rw [List.size_toArray]; exact hz)
  have S1 := S.push (tk := s.toks) { cls := .type "tuple", dict := none, data := .seq vs.toArray }
  obtain ⟨g', u, S', e⟩ := S1.give .head
  exact Post.mk u S' (h _ g' u e)
theorem W_newList {vs : List Value} (hz : vs.length ≤ sizeLine) (h : ∀ a, Q (.ref a) g ((a, .list vs) :: l)) : W c A (newList vs) g l Q := fun s S => by
  refine wpAny_newObj_type ?_ (by show vs.toArray.size ≤ sizeLine; rw [List.size_toArray]; exact hz)
  refine Post.mk' (S.grow (tk := s.toks) (new := [(s.heap.objs.size, .list vs)]) (fun _ _ e => Heap.get?_push_of_some _ e) (fun p hp => ?_) (List.nodup_cons.mpr ⟨List.not_mem_nil, List.nodup_nil⟩)) (h _)
  rw [List.mem_singleton.mp hp]
  exact ⟨⟨0, Heap.get?_push_size _ rfl⟩, Nat.le_refl _⟩

theorem W_AssignTuple {elts : List Expr} {k : Nat} {tpos pos : Pos} {e : Expr} {Q : Flow → Heap → Owns → Prop} (h : W c A (eval e env) g l fun v g1 l1 => W c A (assign (.Tuple elts k tpos) env v) g1 l1 fun _ g2 l2 => Q .next g2 l2)
    (hs : swapsWithSole [.Tuple elts k tpos] e pos.line env = pure false := by rfl) (hw : swappedStores [.Tuple elts k tpos] e env = pure none := by rfl) : W c A (exec (.Assign [.Tuple elts k tpos] e pos) env) g l Q :=
  fun _ S => Assign_Tuple (h.run S fun _ _ _ _ u1 S1 h1 => h1.run S1 fun _ _ _ _ u2 S2 h2 => Post.mk (u1.trans u2) S2 h2) hs hw
theorem W_unpack {elts : List Expr} {k : Nat} {pos : Pos} {a : Addr} {vs : List Value} {Q : Unit → Heap → Owns → Prop} (hh : A.handled = none) (ht : g.get? a = some (tupObj vs)) (h : W c A (assignInOrder ((assignEach elts env).map (·.2)) vs) g l Q)
    (hn : (assignEach elts env).length = vs.length := by rfl) (hstar : (assignEach elts env).findIdx? (·.1) = none := by rfl) : W c A (assign (.Tuple elts k pos) env (.ref a)) g l Q := fun s S =>
  assign_Tuple_tuple hh (tupObj.is (S.keep _ _ ht)) (by rw [List.size_toArray]; exact hn) hstar fun h' he => by
    have S1 := S.mkeep (tk := s.toks) (h' := h') fun b o e => he b o (Nat.ne_of_lt (Heap.lt_size e)) e
    exact h _ S1
theorem W_order0 {xs : List Value} {Q : Unit → Heap → Owns → Prop} (h : Q () g l) : W c A (assignInOrder [] xs) g l Q := W_now (fun _ _ _ h => assignInOrder_nil h) h
theorem W_order {f : Value → Sem Unit} {fs : List (Value → Sem Unit)} {x : Value} {xs : List Value} {Q : Unit → Heap → Owns → Prop} (h : W c A (f x) g l fun _ g1 l1 => W c A (assignInOrder fs xs) g1 l1 Q) : W c A (assignInOrder (f :: fs) (x :: xs)) g l Q :=
  fun _ S => assignInOrder_cons (h.run S fun _ _ _ s1 u1 S1 h1 => up u1 (h1 s1 S1))

theorem W_Subscript {o i : Expr} {pos : Pos} (h : W c A (eval o env) g l fun ov g1 l1 => W c A (eval i env) g1 l1 fun iv g2 l2 => W c A (subscriptTail o i ov iv) g2 l2 Q) : W c A (eval (.Subscript o i pos) env) g l Q :=
  fun _ S => Subscript_ (h.run S fun _ _ _ _ u1 S1 h1 => h1.run S1 fun _ _ _ s2 u2 S2 h2 => up (u1.trans u2) (h2 s2 S2))
theorem W_itemList {o i : Expr} {a : Addr} {vs : List Value} {k : Int} {u : Tok} {v : Value} (hl : ListAt g l a vs) (h0 : 0 ≤ k) (h1 : k < 2 ^ 63) (hx : vs[k.toNat]? = some v) (h : Q v g l)
    (hs : subscripted i false (.ref a) (.int k u) = operate [.ref a, .int k u] (getItem (.ref a) (.int k u)) := by with_unfolding_all rfl) : W c A (subscriptTail o i (.ref a) (.int k u)) g l Q := fun s S =>
  tail_any (hl.is S).typeIs slot_list_getitem.lookup (wpAny_getItem_list (hl.is S) h0 h1 (by simpa using hx) (Post.mk' S h)) hs
theorem W_itemTup {o i : Expr} {a : Addr} {vs : List Value} {k : Int} {u : Tok} {v : Value} {j : Nat} (ht : g.get? a = some (tupObj vs)) (hlo : -(2 ^ 63) ≤ k) (hhi : k < 2 ^ 63) (hj : seqIndex? k vs.length = some j) (hx : vs[j]? = some v) (h : Q v g l)
    (hs : subscripted i false (.ref a) (.int k u) = operate [.ref a, .int k u] (getItem (.ref a) (.int k u)) := by with_unfolding_all rfl) : W c A (subscriptTail o i (.ref a) (.int k u)) g l Q := fun s S =>
  item_tupleT (tupObj.is (S.keep _ _ ht)) hlo hhi hj hx (Post.mk' S h) hs

theorem W_AssignSub {o i e : Expr} {p pos : Pos} {Q : Flow → Heap → Owns → Prop} (h : W c A (eval e env) g l fun v g1 l1 => W c A (eval o env) g1 l1 fun ov g2 l2 => W c A (eval i env) g2 l2 fun iv g3 l3 => W c A (setItem ov iv v) g3 l3 fun _ g4 l4 => Q .next g4 l4)
    (hs : swapsWith e (some (.Subscript o i p)) pos.line env = pure false := by rfl) : W c A (exec (.Assign [.Subscript o i p] e pos) env) g l Q :=
  fun _ S => wpAny_Assign_Subscript (h.run S fun _ _ _ _ u1 S1 h1 => h1.run S1 fun _ _ _ _ u2 S2 h2 => h2.run S2 fun _ _ _ _ u3 S3 h3 => h3.run S3 fun _ _ _ _ u4 S4 h4 => Post.mk (((u1.trans u2).trans u3).trans u4) S4 h4) hs
theorem W_setItem {a : Addr} {x : Own} {vs : List Value} {k : Int} {t : Tok} {v : Value} {Q : Unit → Heap → Owns → Prop} (U : Turn a x (.seq (vs.set k.toNat v)) l l') (hx : x = .list vs ∨ x = .seq vs) (h0 : 0 ≤ k) (h1 : k < 2 ^ 63) (hn : k < vs.length) (h : Q () g l') :
    W c A (setItem (.ref a) (.int k t) v) g l Q := fun s S => by
  have hl : ListAt g l a vs := by
    rcases hx with rfl | rfl
    · exact .own U.mem
    · exact .seq U.mem
  refine wpAny_setItem_list (hl.is S) h0 h1 (by simpa using hn) fun h' hl' hs => Post.mk' (S.turn (tk := s.toks) U (Ext_of_same hs) ?_) h
  show h'.IsList a (vs.set k.toNat v).toArray
  simpa using hl'

theorem W_len {a : Addr} {vs : List Value} (hl : ListAt g l a vs) (hz : vs.length < 2 ^ 62) (h : ∀ t, Q (.int vs.length t) g l) : W c A (call (.builtin "len") [.ref a]) g l Q := fun s S =>
  call_len_list (hl.is S) (by rw [List.size_toArray]; omega) (Post.mk' S.toks (by rw [List.size_toArray]; exact h _))
theorem W_truthyList {a : Addr} {vs : List Value} {Q : Bool → Heap → Owns → Prop} (hl : ListAt g l a vs) (hz : vs.length < 2 ^ 62) (h : Q (!vs.isEmpty) g l) : W c A (truthy (.ref a)) g l Q := fun s S =>
  wpAny_truthy_list (hl.is S) (by rw [List.size_toArray]; omega) (Post.mk' S.toks (by simpa using h))

theorem W_append {a : Addr} {vs : List Value} {v : Value} (U : Turn a (.list vs) (.list (vs ++ [v])) l l') (hz : vs.length ≤ sizeLine) (h : Q .none g l') : W c A (call (.builtin "list.append") [.ref a, v]) g l Q := fun s S =>
  wpAny_list_append_plain (S.own _ U.mem).1 (fun h' hl hs => Post.mk' (S.turn (tk := s.toks) U (Ext_of_same hs) (by show h'.PlainList a (vs ++ [v]).toArray; simpa using hl)) h) (by rw [List.size_toArray]; exact hz)
theorem W_mAppend {a : Addr} {vs : List Value} {pl : Sem Bool} {Q : Value × List Value → Heap → Owns → Prop} (hm : (a, Own.list vs) ∈ l) (h : Q (.builtin "list.append", [.ref a]) g l) : W c A (getMethod (.ref a) "append" pl) g l Q := fun s S => by
  obtain ⟨n, e⟩ := (S.own _ hm).1
  exact getMethod_list_append e rfl rfl (Post.mk' S h)
end
end Mine
-- part C5
open PySem PySem.W PyProof.Rows PySem.Calls PySem.Spec
set_option Elab.async false
set_option maxRecDepth 100000
set_option linter.unusedVariables false
namespace Mine

def RQ (c : Cfg) (g : Heap) (Q : Flow → Heap → Owns → Prop) : Result → Shared → Prop := fun r s' => match r with
  | .ok f => Post c g Q f s'
  | .error _ => False
/-- {g, l} code {Q} -/
def WC (c : Cfg) (A : Around) (code : Code) (g : Heap) (l : Owns) (Q : Flow → Heap → Owns → Prop) : Prop := ∀ s, St c g s l → codeAny c.M A code (RQ c g Q) s
theorem RQ.up {c : Cfg} {g g' : Heap} {Q : Flow → Heap → Owns → Prop} (u : Sub g g') {r : Result} {s : Shared} (h : RQ c g' Q r s) : RQ c g Q r s := by
  cases r with
  | ok f => exact Post.up u h
  | error e => exact h

/-- what the end of a turn must show -/
def LoopQ (c : Cfg) (P : Heap → Owns → Prop) (Q : Flow → Heap → Owns → Prop) : Flow → Heap → Owns → Prop
  | .next, g, l => Shift c g l P
  | .cont, g, l => Shift c g l P
  | .brk, g, l => Q .next g l
  | .ret v, g, l => Q (.ret v) g l

/-- an iterator of the call's own: x i is its look before its i-th item, V i v tells the item, P is what it needs -/
structure Feeds (c : Cfg) (A : Around) (it : Addr) (x : Nat → Own) (n : Nat) (V : Nat → Value → Prop) (P : Heap → Owns → Prop) : Prop where
  item : ∀ i g l, i < n → P g l → W c A (pyNext (.ref it)) g ((it, x i) :: l) fun r g' l' => ∃ v, r = some v ∧ V i v ∧ g' = g ∧ l' = (it, x (i + 1)) :: l
  done : ∀ g l, P g l → W c A (pyNext (.ref it)) g ((it, x n) :: l) fun r g' l' => r = none ∧ g' = g ∧ l' = l
  go : ∀ i g l target v, V i v → W c A (letOwnedTupleGo target (.ref it) v) g ((it, x (i + 1)) :: l) fun _ g' l' => g' = g ∧ l' = (it, x (i + 1)) :: l
  self : ∀ i g l, P g l → W c A (pyIter (.ref it)) g ((it, x i) :: l) fun r g' l' => r = .ref it ∧ g' = g ∧ l' = (it, x i) :: l

section
variable {c : Cfg} {A : Around} {g : Heap} {l l' : Owns} {env : Env}

theorem W_For {target iter : Expr} {body orelse : List Stmt} {pos : Pos} {Q : Flow → Heap → Owns → Prop}
    (h : W c A (eval iter env) g l fun xv g1 l1 => W c A (pyIter xv) g1 l1 fun it g2 l2 => WC c A (.forLoop target it body orelse env) g2 l2 Q)
    (hs : ∀ x, foldedSetIterable iter env x = pure x := by intro _; rfl) : W c A (exec (.For target iter body orelse pos) env) g l Q := fun s S =>
  wpAny_For (h.run S fun _ _ _ _ u1 S1 h1 => h1.run S1 fun _ _ _ s2 u2 S2 h2 => codeAny_mono (h2 s2 S2) fun r s' hr => by
    cases r with
    | ok f => exact Post.up (u1.trans u2) hr
    | error e => exact hr.elim) hs

theorem WC_for {target : Expr} {body orelse : List Stmt} {it : Addr} {x : Nat → Own} {n : Nat} {V : Nat → Value → Prop} {P : Heap → Owns → Prop} {Q : Flow → Heap → Owns → Prop} (F : Feeds c A it x n V P) (Inv : Nat → Heap → Owns → Prop) (hP : ∀ i g l, Inv i g l → P g l) (h0 : Inv 0 g l)
    (turn : ∀ i v g1 l1, i < n → V i v → Sub g g1 → Inv i g1 l1 → W c A (assign target env v) g1 ((it, x (i + 1)) :: l1) fun _ g2 l2 => W c A (execs body env) g2 l2 (LoopQ c (fun g3 l3 => ∃ l4, l3 = (it, x (i + 1)) :: l4 ∧ Inv (i + 1) g3 l4) Q))
    (fin : ∀ g1 l1, Sub g g1 → Inv n g1 l1 → W c A (execs orelse env) g1 l1 Q) : WC c A (.forLoop target (.ref it) body orelse env) g ((it, x 0) :: l) Q := fun s S => by
  refine codeAny_forLoop_any (fun k s' => ∃ i g1 l1, k = n + 1 - i ∧ i ≤ n ∧ Sub g g1 ∧ St c g1 s' ((it, x i) :: l1) ∧ Inv i g1 l1) ?_ (n + 1) ⟨0, g, l, rfl, Nat.zero_le _, Sub.refl _, S, h0⟩
  rintro k s1 ⟨i, g1, l1, rfl, hi, u1, S1, hI⟩
  by_cases hlt : i < n
  · refine (F.item i g1 l1 hlt (hP _ _ _ hI)).run S1 fun r g2 l2 s2 u2 S2 q => ?_
    obtain ⟨v, rfl, hV, rfl, rfl⟩ := q
    refine (F.go i g2 l1 target v hV).run S2 fun _ g3 l3 s3 u3 S3 q => ?_
    obtain ⟨rfl, rfl⟩ := q
    refine (turn i v g3 l1 hlt hV u1 hI).run S3 fun _ g4 l4 s4 u4 S4 q => ?_
    refine q.run S4 fun f g5 l5 s5 u5 S5 q => ?_
    have u := u1.trans (u4.trans u5)
    have nx : Shift c g5 l5 (fun g3 l3 => ∃ l4, l3 = (it, x (i + 1)) :: l4 ∧ Inv (i + 1) g3 l4) → ∃ m, m < n + 1 - i ∧ ∃ i g1 l1, m = n + 1 - i ∧ i ≤ n ∧ Sub g g1 ∧ St c g1 s5 ((it, x i) :: l1) ∧ Inv i g1 l1 := fun q => by
      obtain ⟨g6, l6, u6, S6, l7, rfl, hI'⟩ := q s5 S5
      exact ⟨n + 1 - (i + 1), by omega, i + 1, g6, l7, rfl, hlt, u.trans u6, S6, hI'⟩
    cases f with
    | next => exact nx q
    | cont => exact nx q
    | brk => exact Post.mk u S5 q
    | ret v => exact Post.mk u S5 q
  · have e : i = n := by omega
    subst e
    refine (F.done g1 l1 (hP _ _ _ hI)).run S1 fun r g2 l2 s2 u2 S2 q => ?_
    obtain ⟨rfl, rfl, rfl⟩ := q
    exact (fin g2 l2 u1 hI).run S2 fun f g3 l3 s3 u3 S3 q => Post.mk (u1.trans u3) S3 q

theorem W_While {test : Expr} {body orelse : List Stmt} {pos : Pos} {Q : Flow → Heap → Owns → Prop} (Inv : Nat → Heap → Owns → Prop) (n : Nat) (h0 : Inv n g l)
    (turn : ∀ n g1 l1, Sub g g1 → Inv n g1 l1 → W c A (isTrue test env (eval test env)) g1 l1 fun z g2 l2 =>
      (z = true → W c A (execs body env) g2 l2 (LoopQ c (fun g3 l3 => ∃ m, m < n ∧ Inv m g3 l3) Q)) ∧ (z = false → W c A (execs orelse env) g2 l2 Q)) :
    W c A (exec (.While test body orelse pos) env) g l Q := fun s S => by
  refine wpAny_While (codeAny_mono (codeAny_whileLoop (R := RQ c g Q) (fun k s' => ∃ g1 l1, Sub g g1 ∧ St c g1 s' l1 ∧ Inv k g1 l1) ?_ n ⟨g, l, Sub.refl _, S, h0⟩) fun r s' hr => ?_)
  · rintro k s1 ⟨g1, l1, u1, S1, hI⟩
    refine (turn k g1 l1 u1 hI).run S1 fun z g2 l2 s2 u2 S2 q => ?_
    cases z with
    | true =>
      refine (q.1 rfl).run S2 fun f g3 l3 s3 u3 S3 q => ?_
      have u := u1.trans (u2.trans u3)
      have nx : Shift c g3 l3 (fun g3 l3 => ∃ m, m < k ∧ Inv m g3 l3) → ∃ m, m < k ∧ ∃ g1 l1, Sub g g1 ∧ St c g1 s3 l1 ∧ Inv m g1 l1 := fun q => by
        obtain ⟨g4, l4, u4, S4, m, hm, hI'⟩ := q s3 S3
        exact ⟨m, hm, g4, l4, u.trans u4, S4, hI'⟩
      cases f with
      | next => exact nx q
      | cont => exact nx q
      | brk => exact Post.mk u S3 q
      | ret v => exact Post.mk u S3 q
    | false => exact (q.2 rfl).run S2 fun f g3 l3 s3 u3 S3 q => Post.mk (u1.trans (u2.trans u3)) S3 q
  · cases r with
    | ok f => exact hr
    | error e => exact hr.elim

theorem W_iterList {a : Addr} {vs : List Value} {Q : Value → Heap → Owns → Prop} (hl : ListAt g l a vs) (h : ∀ it, Q (.ref it) g ((it, .iter a 0) :: l)) : W c A (pyIter (.ref a)) g l Q := fun s S => by
  refine wpAny_pyIter_list (hl.is S) ?_
  refine Post.mk' (S.grow (tk := s.toks) (new := [(s.heap.objs.size, .iter a 0)]) (fun _ _ e => Heap.get?_push_of_some _ e) (fun p hp => ?_) (List.nodup_cons.mpr ⟨List.not_mem_nil, List.nodup_nil⟩)) (h _)
  rw [List.mem_singleton.mp hp]
  exact ⟨⟨_, Heap.get?_push_size _ rfl, rfl, rfl⟩, Nat.le_refl _⟩

theorem ListAt.tail {a : Addr} {vs : List Value} {p : Addr × Own} (h : ListAt g l a vs) : ListAt g (p :: l) a vs := by
  cases h with
  | own h => exact .own (.tail _ h)
  | seq h => exact .seq (.tail _ h)
  | here h => exact .here h
theorem ListAt.mono {g' : Heap} {a : Addr} {vs : List Value} (h : ListAt g l a vs) (u : Sub g g') : ListAt g' l a vs := by
  cases h with
  | own h => exact .own h
  | seq h => exact .seq h
  | here h => exact .here (h.at fun o e => u _ o e)

theorem feeds_list (hh : A.handled = none) (it a : Addr) (vs : List Value) : Feeds c A it (fun i => .iter a i) vs.length (fun i v => vs[i]? = some v) (fun g l => ListAt g l a vs) where
  item := fun i g l hi hl s S => by
    have hit : s.heap.IsListIter it a i := (S.own _ (.head _)).1
    refine wpAny_pyNext_list_item hit (hl.tail.is S) (x := vs[i]) (by simp [hi]) fun h' hit' hs => ?_
    exact Post.mk' (S.turn (x' := Own.iter a (i + 1)) (tk := s.toks) .head (Ext_of_same hs) hit') ⟨_, rfl, by simp [hi], rfl, rfl⟩
  done := fun g l hl s S => by
    have hit : s.heap.IsListIter it a vs.length := (S.own _ (.head _)).1
    refine wpAny_pyNext_list_end hh hit (hl.tail.is S) (by simp) fun h' he => ?_
    have S' := S.sub (l' := l) (List.sublist_cons_self _ _)
    have hn := S.nodup
    rw [List.map_cons, List.nodup_cons] at hn
    refine Post.mk' (?_ : St _ g { s with heap := h' } l) ⟨rfl, rfl, rfl⟩
    refine ⟨fun b o e => he b o (fun q => ?_) (S'.keep b o e), fun p hp => ⟨(S'.own p hp).1.to fun o e => he _ o (fun q => hn.1 (by rw [← q]; exact List.mem_map_of_mem (f := (·.1)) hp)) e, (S'.own p hp).2⟩, S'.nodup, S'.tabs.to fun t ht o e => he _ o (fun q => (S.own _ (.head _)).2.2 t ht q.symm) e, S'.base, S'.gens, S'.os⟩
    have := (S.own _ (.head _)).2.1
    rw [q] at e
    rw [e] at this; cases this
  go := fun i g l target v hv s S => by
    have hit : s.heap.IsListIter it a (i + 1) := (S.own _ (.head _)).1
    have nothing : wpAny c.M A (pure () : Sem Unit) (Post c g fun _ g' l' => g' = g ∧ l' = (it, Own.iter a (i + 1)) :: l) (fun _ _ => False) s := wpAny_pure (Post.mk' S ⟨rfl, rfl⟩)
    have look : wpAny c.M A (letOwnedTupleGo (.Tuple [] 0 default) (.ref it) v) (Post c g fun _ g' l' => g' = g ∧ l' = (it, Own.iter a (i + 1)) :: l) (fun _ _ => False) s := by
      cases v with
      | ref T => exact wpAny_letOwnedTupleGo_listiter hit (Post.mk' S ⟨rfl, rfl⟩)
      | _ => exact nothing
    cases target <;> first | exact nothing | exact look
  self := fun i g l hl s S => by
    have hit : s.heap.IsListIter it a i := (S.own _ (.head _)).1
    exact wpAny_pyIter_listiter hit (Post.mk' S ⟨rfl, rfl, rfl⟩)
end
end Mine
-- part C6
open PySem PySem.W PyProof.Rows PySem.Calls PySem.Spec
set_option Elab.async false
set_option maxRecDepth 100000
set_option linter.unusedVariables false
namespace Mine

theorem codeAny_compLoop_any {prog : Program} {w : World} {A : Around} {R : Result → Shared → Prop} {s : Shared} {elt target iter : Expr} {ifs : List Expr} {scope : Scope} {pos : Pos} {it acc : Value} {env : Env} (I : Nat → Shared → Prop)
    (turn : ∀ n s, I n s → wpAny (model prog w) A (pyNext it) (fun r s₁ => match r with
      | none => R (.ok .next) s₁
      | some v => wpAny (model prog w) A (letOwnedTupleGo target it v) (fun _ s₁' => wpAny (model prog w) A (assign target env v) (fun _ s₂ =>
          wpAny (model prog w) A (forIn ifs true fun c r => if r = true then do let ok ← isTrue c env (eval c env); pure (ForInStep.yield ok) else pure (ForInStep.yield r)) (fun ok s₃ =>
            if ok = true then wpAny (model prog w) A (eval elt env) (fun y s₄ => wpAny (model prog w) A (call (.builtin "list.append") [acc, y]) (fun _ s₅ => ∃ m, m < n ∧ I m s₅) (notedBy (model prog w) A env fun e s' => R (.error e) s') s₄) (notedBy (model prog w) A env fun e s' => R (.error e) s') s₃
            else ∃ m, m < n ∧ I m s₃) (notedBy (model prog w) A env fun e s' => R (.error e) s') s₂)
          (notedBy (model prog w) A env fun e s' => R (.error e) s') s₁') (notedBy (model prog w) A env fun e s' => R (.error e) s') s₁) (notedBy (model prog w) A env fun e s' => R (.error e) s') s)
    (n : Nat) (h : I n s) : codeAny (model prog w) A (.compLoop (.ListComp elt [⟨target, iter, ifs, 0⟩] scope pos) 0 it acc env) R s := by
  refine codeAny_loop rfl I (fun n s hI => ?_) n h
  show wpAny _ A ((compTurn (.ListComp elt [⟨target, iter, ifs, 0⟩] scope pos) 0 it acc env).onRaise (fun x => do noteFrame x env; theTreesLotGoes x)) _ _ s
  refine wpAny_noted ?_
  rw [compTurn_list]
  refine wpAny_bind (wpAny_standAt (wpAny_bind (wpAny_mono (turn n s hI) (fun r s₁ h₁ => ?_) fun _ _ h' => h')))
  cases r with
  | none => exact wpAny_pure h₁
  | some v =>
    refine wpAny_bind (wpAny_mono h₁ (fun _ s₁' h₁' => ?_) fun _ _ h' => h')
    refine wpAny_bind (wpAny_mono h₁' (fun _ s₂ h₂ => wpAny_bind (wpAny_mono h₂ (fun ok s₃ h₃ => ?_) fun _ _ h' => h')) fun _ _ h' => h')
    cases ok with
    | true => exact wpAny_bind (wpAny_bind (wpAny_mono h₃ (fun y s₄ h₄ => wpAny_bind (wpAny_mono h₄ (fun _ s₅ h₅ => wpAny_pure (wpAny_pure ⟨rfl, h₅⟩)) fun _ _ h' => h')) fun _ _ h' => h'))
    | false => exact wpAny_bind (wpAny_pure (wpAny_pure ⟨rfl, h₃⟩))

/-- the tests of a comprehension: none or one -/
def TestsQ (c : Cfg) (A : Around) (env : Env) : List Expr → Heap → Owns → (Bool → Heap → Owns → Prop) → Prop
  | [], g, l, Q => Q true g l
  | [t], g, l, Q => W c A (isTrue t env (eval t env)) g l Q
  | _, _, _, _ => False

/-- what a turn of a comprehension must show, behind its target's assignment -/
def TurnQ (c : Cfg) (A : Around) (cenv : Env) (ifs : List Expr) (elt : Expr) (P : List Value → Heap → Owns → Prop) (ys : List Value) (g : Heap) (l : Owns) : Prop :=
  TestsQ c A cenv ifs g l fun z g1 l1 => (z = true → W c A (eval elt cenv) g1 l1 fun y g2 l2 => Shift c g2 l2 (P (ys ++ [y]))) ∧ (z = false → Shift c g1 l1 (P ys))

section
variable {c : Cfg} {A : Around} {g : Heap} {l l' : Owns} {env : Env}

theorem WC_comp {elt target iter : Expr} {ifs : List Expr} {scope : Scope} {pos : Pos} {cenv : Env} {it acc C : Addr} {x : Nat → Own} {n : Nat} {V : Nat → Value → Prop} {P : Heap → Owns → Prop} {names : List Str} (F : Feeds c A it x n V P) (hz : n ≤ sizeLine)
    (Inv : Nat → List Value → Heap → Owns → Prop) (hP : ∀ i ys r g l, Inv i ys g l → P g ((acc, .list ys) :: (C, .fr r) :: l)) (hlen : ∀ i ys g l, Inv i ys g l → ys.length ≤ i) {r₀ : List (Str × Option Value)} (hr₀ : r₀.map (·.1) = names) (h0 : Inv 0 [] g l)
    (turn : ∀ i v ys r g1 l1, i < n → V i v → Sub g g1 → Inv i ys g1 l1 → r.map (·.1) = names → W c A (assign target cenv v) g1 ((it, x (i + 1)) :: (acc, .list ys) :: (C, .fr r) :: l1) fun _ g2 l2 =>
      TurnQ c A cenv ifs elt (fun ys' g3 l3 => ∃ r' l4, l3 = (it, x (i + 1)) :: (acc, .list ys) :: (C, .fr r') :: l4 ∧ r'.map (·.1) = names ∧ Inv (i + 1) ys' g3 l4) ys g2 l2) :
    WC c A (.compLoop (.ListComp elt [⟨target, iter, ifs, 0⟩] scope pos) 0 (.ref it) (.ref acc) cenv) g ((it, x 0) :: (acc, .list []) :: (C, .fr r₀) :: l) fun f g' l' => f = .next ∧ ∃ ys r l1, l' = (acc, .list ys) :: (C, .fr r) :: l1 ∧ Inv n ys g' l1 := fun s S => by
  refine codeAny_compLoop_any (fun k s' => ∃ i ys r g1 l1, k = n + 1 - i ∧ i ≤ n ∧ Sub g g1 ∧ St c g1 s' ((it, x i) :: (acc, .list ys) :: (C, .fr r) :: l1) ∧ r.map (·.1) = names ∧ Inv i ys g1 l1) ?_ (n + 1) ⟨0, [], r₀, g, l, rfl, Nat.zero_le _, Sub.refl _, S, hr₀, h0⟩
  rintro k s1 ⟨i, ys, r, g1, l1, rfl, hi, u1, S1, hr, hI⟩
  by_cases hlt : i < n
  · refine (F.item i g1 _ hlt (hP _ _ _ _ _ hI)).run S1 fun q g2 l2 s2 u2 S2 w => ?_
    obtain ⟨v, rfl, hV, rfl, rfl⟩ := w
    refine (F.go i g2 _ target v hV).run S2 fun _ g3 l3 s3 u3 S3 q => ?_
    obtain ⟨rfl, rfl⟩ := q
    refine (turn i v ys r g3 l1 hlt hV u1 hI hr).run S3 fun _ g4 l4 s4 u4 S4 q => ?_
    have nx : ∀ {g5 l5 s5}, Sub g g5 → St c g5 s5 l5 → Shift c g5 l5 (fun g3 l3 => ∃ r' l4, l3 = (it, x (i + 1)) :: (acc, .list ys) :: (C, .fr r') :: l4 ∧ r'.map (·.1) = names ∧ Inv (i + 1) ys g3 l4) →
        ∃ m, m < n + 1 - i ∧ ∃ i ys r g1 l1, m = n + 1 - i ∧ i ≤ n ∧ Sub g g1 ∧ St c g1 s5 ((it, x i) :: (acc, .list ys) :: (C, .fr r) :: l1) ∧ r.map (·.1) = names ∧ Inv i ys g1 l1 := fun {g5 l5 s5} u S5 q => by
      obtain ⟨g6, l6, u6, S6, r', l7, rfl, hr', hI'⟩ := q s5 S5
      exact ⟨n + 1 - (i + 1), by omega, i + 1, ys, r', g6, l7, rfl, hlt, u.trans u6, S6, hr', hI'⟩
    have ny : ∀ {g5 l5 s5}, Sub g g5 → St c g5 s5 l5 → (W c A (eval elt cenv) g5 l5 fun y g2 l2 => Shift c g2 l2 fun g3 l3 => ∃ r' l4, l3 = (it, x (i + 1)) :: (acc, .list ys) :: (C, .fr r') :: l4 ∧ r'.map (·.1) = names ∧ Inv (i + 1) (ys ++ [y]) g3 l4) →
        wpAny c.M A (eval elt cenv) (fun y s₄ => wpAny c.M A (call (.builtin "list.append") [.ref acc, y]) (fun _ s₅ => ∃ m, m < n + 1 - i ∧ ∃ i ys r g1 l1, m = n + 1 - i ∧ i ≤ n ∧ Sub g g1 ∧ St c g1 s₅ ((it, x i) :: (acc, .list ys) :: (C, .fr r) :: l1) ∧ r.map (·.1) = names ∧ Inv i ys g1 l1) (notedBy c.M A cenv fun e s' => RQ c g (fun f g' l' => f = .next ∧ ∃ ys r l1, l' = (acc, .list ys) :: (C, .fr r) :: l1 ∧ Inv n ys g' l1) (.error e) s') s₄) (notedBy c.M A cenv fun e s' => RQ c g (fun f g' l' => f = .next ∧ ∃ ys r l1, l' = (acc, .list ys) :: (C, .fr r) :: l1 ∧ Inv n ys g' l1) (.error e) s') s5 := fun {g5 l5 s5} u S5 q => by
      refine q.run S5 fun y g6 l6 s6 u6 S6 q => ?_
      obtain ⟨g7, l7, u7, S7, r', l8, rfl, hr', hI'⟩ := q s6 S6
      have hys : ys.length ≤ sizeLine := by
        have := hlen _ _ _ _ hI
        omega
      have wa : W c A (call (.builtin "list.append") [.ref acc, y]) g7 ((it, x (i + 1)) :: (acc, .list ys) :: (C, .fr r') :: l8) fun _ g' l' => g' = g7 ∧ l' = (it, x (i + 1)) :: (acc, .list (ys ++ [y])) :: (C, .fr r') :: l8 := W_append (.tail .head) hys ⟨rfl, rfl⟩
      refine wa.run S7 fun _ g9 l9 s9 u9 S9 q => ?_
      obtain ⟨rfl, rfl⟩ := q
      exact ⟨n + 1 - (i + 1), by omega, i + 1, ys ++ [y], r', g9, l8, rfl, hlt, u.trans (u6.trans u7), S9, hr', hI'⟩
    cases ifs with
    | nil =>
      refine wpAny_tests_nil ?_
      rw [if_pos rfl]
      exact ny (u1.trans u4) S4 ((show TestsQ _ _ _ [] _ _ _ from q).1 rfl)
    | cons t rest =>
      cases rest with
      | nil =>
        refine wpAny_tests_one ((show W c A (isTrue t cenv (eval t cenv)) g4 l4 _ from q).run S4 fun z g5 l5 s5 u5 S5 q => ?_)
        cases z with
        | true =>
          rw [if_pos rfl]
          exact ny (u1.trans (u4.trans u5)) S5 (q.1 rfl)
        | false =>
          rw [if_neg Bool.false_ne_true]
          exact nx (u1.trans (u4.trans u5)) S5 (q.2 rfl)
      | cons _ _ => exact (show False from q).elim
  · have e : i = n := by omega
    subst e
    refine (F.done g1 _ (hP _ _ _ _ _ hI)).run S1 fun q g2 l2 s2 u2 S2 w => ?_
    obtain ⟨rfl, rfl, rfl⟩ := w
    show Post c g (fun f g' l' => f = .next ∧ ∃ ys r l1, l' = (acc, .list ys) :: (C, .fr r) :: l1 ∧ Inv i ys g' l1) Flow.next s2
    exact Post.mk u1 S2 ⟨rfl, ys, r, l1, rfl, hI⟩

/-- the frame of a comprehension: its names, unbound -/
def zFrame : List Str → List (Str × Option Value)
  | [] => []
  | x :: r => (x, none) :: zFrame r
theorem zFrame_names : ∀ ns, (zFrame ns).map (·.1) = ns
  | [] => rfl
  | x :: r => by rw [zFrame, List.map_cons, zFrame_names r]
theorem zFrame_lk : ∀ ns y, lk (zFrame ns) y = none
  | [], _ => rfl
  | x :: r, y => by
    rw [zFrame, lk, zFrame_lk r]
    split <;> rfl

/-- a comprehension over an iterator of the call's own -/
structure CompIt (c : Cfg) (A : Around) (env : Env) (scope : Scope) (cl : List (Str × Addr)) (target : Expr) (ifs : List Expr) (elt : Expr) (names : List Str) (g : Heap) (l : Owns) (it : Addr) (R : List Value → Heap → Owns → Prop) : Prop where
  ex : ∃ (x : Nat → Own) (n : Nat) (V : Nat → Value → Prop) (P : Heap → Owns → Prop) (Inv : Nat → List Value → Heap → Owns → Prop) (l₀ : Owns), Feeds c A it x n V P ∧ n ≤ sizeLine ∧ l = (it, x 0) :: l₀ ∧
    (∀ acc C i ys r g l, Inv i ys g l → P g ((acc, .list ys) :: (C, .fr r) :: l)) ∧ (∀ i ys g l, Inv i ys g l → ys.length ≤ i) ∧ Inv 0 [] g l₀ ∧
    (∀ acc C i v ys r g1 l1, i < n → V i v → Sub g g1 → Inv i ys g1 l1 → r.map (·.1) = names → W c A (assign target (compEnvC scope cl C env) v) g1 ((it, x (i + 1)) :: (acc, .list ys) :: (C, .fr r) :: l1) fun _ g2 l2 =>
      TurnQ c A (compEnvC scope cl C env) ifs elt (fun ys' g3 l3 => ∃ r' l4, l3 = (it, x (i + 1)) :: (acc, .list ys) :: (C, .fr r') :: l4 ∧ r'.map (·.1) = names ∧ Inv (i + 1) ys' g3 l4) ys g2 l2) ∧
    ∀ ys g1 l1, Sub g g1 → Inv n ys g1 l1 → R ys g1 l1

theorem comp_block {elt target iter : Expr} {ifs : List Expr} {scope : Scope} {pos : Pos} {cl : List (Str × Addr)} {names : List Str} {it : Addr} {R : List Value → Heap → Owns → Prop} {RR : Value → Addr → Result → Shared → Prop} {s₂ : Shared} {E : Value → Shared → Prop}
    (hcell : ∀ y ∈ scope.names, y.2 ≠ .cell) (hkind : scope.kind = .function) (hn : names.Nodup) (S : St c g s₂ l) (K : CompIt c A env scope cl target ifs elt names g l it R)
    (hRR : ∀ acc C ys r g1 l1 s', Sub g g1 → St c g1 s' ((acc, .list ys) :: (C, .fr r) :: l1) → R ys g1 l1 → RR (.ref acc) C (.ok .next) s') :
    wpAny c.M A (newList []) (fun acc s₃ => wpAny c.M A (newFunctionEnv scope env.globals cl [] env.qual none .none (some env)) (fun cenv s₄ =>
      codeAny c.M A (.compStart (.ListComp elt [⟨target, iter, ifs, 0⟩] scope pos) 0 (.ref it) acc { cenv with scope := relabel scope env }) (RR acc cenv.locals) s₄) E s₃) E s₂ := by
  obtain ⟨x, n, V, P, Inv, l₀, F, hz, rfl, hP, hlen, h0, turn, fin⟩ := K.ex
  have wl : W c A (newList []) g ((it, x 0) :: l₀) fun v g' l' => ∃ acc, v = .ref acc ∧ g' = g ∧ l' = (acc, .list []) :: (it, x 0) :: l₀ := W_newList (Nat.zero_le _) fun a => ⟨a, rfl, rfl, rfl⟩
  refine wl.run S fun v g3 l3 s3 u3 S3 q => ?_
  obtain ⟨acc, rfl, rfl, rfl⟩ := q
  refine wpAny_newFunctionEnv hcell (by intro y hy; simp at hy) (fun h₁ hns₁ hsb₁ => ?_) hkind
  have old : Sub s3.heap h₁ := fun b o e => hsb₁.extBut b o (Nat.ne_of_lt (Heap.lt_size e)) (Heap.get?_push_of_some _ e)
  have S4 : St c g3 { s3 with heap := h₁, toks := s3.toks + ([] : List (Str × Value)).length } ((s3.heap.objs.size, .fr (zFrame names)) :: (acc, .list []) :: (it, x 0) :: l₀) := by
    refine S3.grow (new := [(s3.heap.objs.size, .fr (zFrame names))]) old (fun p hp => ?_) (List.nodup_cons.mpr ⟨List.not_mem_nil, List.nodup_nil⟩)
    rw [List.mem_singleton.mp hp]
    refine ⟨⟨by rw [zFrame_names]; exact hn, ?_⟩, Nat.le_refl _⟩
    have e : (fun x => ([] : List (Str × Value)).reverse.lookup x) = lk (zFrame names) := by funext y; rw [zFrame_lk]; rfl
    rw [← e]; exact hns₁
  have S5 := S4.perm (l' := (it, x 0) :: (acc, .list []) :: (s3.heap.objs.size, .fr (zFrame names)) :: l₀) (by
    refine (List.Perm.swap _ _ _).trans ?_
    refine (List.Perm.cons _ (List.Perm.swap _ _ _)).trans ?_
    exact List.Perm.swap _ _ _)
  have loop : ∀ s5, St c g3 s5 ((it, x 0) :: (acc, .list []) :: (s3.heap.objs.size, .fr (zFrame names)) :: l₀) → codeAny c.M A (.compLoop (.ListComp elt [⟨target, iter, ifs, 0⟩] scope pos) 0 (.ref it) (.ref acc) (compEnvC scope cl s3.heap.objs.size env)) (RR (.ref acc) s3.heap.objs.size) s5 := fun s5 S5 => by
    have w := WC_comp (cenv := compEnvC scope cl s3.heap.objs.size env) (iter := iter) (scope := scope) (pos := pos) (ifs := ifs) (elt := elt) (target := target) (g := g3) (acc := acc) (C := s3.heap.objs.size) (names := names) F hz Inv (hP _ _) hlen (r₀ := zFrame names) (zFrame_names _) h0 (turn acc s3.heap.objs.size)
    refine codeAny_mono (w s5 S5) fun r s' hr => ?_
    cases r with
    | ok f =>
      obtain ⟨g6, l6, u6, S6, rfl, ys, r, l1, rfl, hI⟩ := hr
      exact hRR _ _ _ _ _ _ _ u6 S6 (fin _ _ _ u6 hI)
    | error e => exact hr.elim
  refine codeAny_compStart_list (loop _ S5) ?_
  exact (F.self 0 g3 _ (hP _ _ _ _ _ _ _ h0)).run S5 fun v g6 l6 s6 u6 S6 q => by
    obtain ⟨rfl, rfl, rfl⟩ := q
    exact loop s6 S6

theorem St.noframe {s : Shared} {C : Addr} {r : List (Str × Option Value)} {acc : Addr} {ys : List Value} {l1 : Owns} (S : St c g s ((acc, .list ys) :: (C, .fr r) :: l1)) : ∃ m, s.heap.Ns C m ∧ ∀ h', Heap.SameBut C s.heap h' → St c g { s with heap := h' } ((acc, .list ys) :: l1) := by
  refine ⟨_, (S.ns (.tail _ (.head _))).2, fun h' hs => ?_⟩
  have S' := S.sub (l' := (acc, .list ys) :: l1) ((List.sublist_cons_self _ _).cons_cons _)
  have D : Del C (.fr r) ((acc, .list ys) :: (C, .fr r) :: l1) ((acc, .list ys) :: l1) := .tail .head
  have off := D.off S.nodup
  have hm := S.own _ D.mem
  refine ⟨fun b o e => hs.extBut b o (fun q => ?_) (S'.keep b o e), fun p hp => ⟨(S'.own p hp).1.to fun o e => hs.extBut _ o (off p hp) e, (S'.own p hp).2⟩, S'.nodup, S'.tabs.to fun t ht o e => hs.extBut _ o (fun q => hm.2.2 t ht q.symm) e, S'.base, S'.gens, S'.os⟩
  rw [q, hm.2.1] at e; cases e

theorem W_ListComp {elt target iter : Expr} {ifs : List Expr} {scope : Scope} {pos : Pos} {cl : List (Str × Addr)} {Q : Value → Heap → Owns → Prop} (names : List Str)
    (h : W c A (eval iter env) g l fun xv g1 l1 => W c A (pyIter xv) g1 l1 fun itv g2 l2 => ∃ it, itv = .ref it ∧ CompIt c A env scope cl target ifs elt names g2 l2 it fun ys g3 l3 => ∀ acc, Q (.ref acc) g3 ((acc, .list ys) :: l3))
    (hn : names.Nodup) (hclos : closureFor scope env = pure cl) (hcell : ∀ y ∈ scope.names, y.2 ≠ .cell) (hnames : ∀ y ∈ scope.names, y.2 = .local → scope.names.lookup y.1 = some .local) (hkind : scope.kind = .function := by rfl)
    (hs : ∀ x, foldedSetIterable iter env x = pure x := by intro _; rfl) : W c A (eval (.ListComp elt [⟨target, iter, ifs, 0⟩] scope pos) env) g l Q := fun s S => by
  rw [eval_ListComp]
  refine wpAny_comprehension_free (use := none) rfl hs hclos hkind hnames (h.run S fun xv g1 l1 s1 u1 S1 h1 => h1.run S1 fun itv g2 l2 s2 u2 S2 h2 => ?_)
  obtain ⟨it, rfl, K⟩ := h2
  refine comp_block (RR := fun acc C => compPost c.M A (fun _ _ => False) none (Post c g Q) acc C) hcell hkind hn S2 K fun acc C ys r g3 l3 s3 u3 S3 hR => ?_
  obtain ⟨m, hm, k⟩ := S3.noframe
  exact ⟨m, hm, fun h' hs' => Post.mk (u1.trans (u2.trans u3)) (k h' hs') (hR acc)⟩

theorem W_AssignComp {x : Str} {px spos : Pos} {elt target iter : Expr} {ifs : List Expr} {scope : Scope} {pos : Pos} {cl : List (Str × Addr)} {Q : Flow → Heap → Owns → Prop} (names : List Str)
    (hsw : swapsWith (.ListComp elt [⟨target, iter, ifs, 0⟩] scope pos) (some (.Name x px)) spos.line env = pure true)
    (h : W c A (eval iter env) g l fun xv g1 l1 => W c A (pyIter xv) g1 l1 fun itv g2 l2 => ∃ it, itv = .ref it ∧ CompIt c A env scope cl target ifs elt names g2 l2 it fun ys g3 l3 => ∀ acc C r, W c A (storeName env x (.ref acc)) g3 ((acc, .list ys) :: (C, .fr r) :: l3) fun _ g4 l4 => ∃ l5, l4 = (acc, .list ys) :: (C, .fr r) :: l5 ∧ Q .next g4 ((acc, .list ys) :: l5))
    (hn : names.Nodup) (hclos : closureFor scope env = pure cl) (hcell : ∀ y ∈ scope.names, y.2 ≠ .cell) (hnames : ∀ y ∈ scope.names, y.2 = .local → scope.names.lookup y.1 = some .local) (hkind : scope.kind = .function := by rfl)
    (hs : ∀ x, foldedSetIterable iter env x = pure x := by intro _; rfl) : W c A (exec (.Assign [.Name x px] (.ListComp elt [⟨target, iter, ifs, 0⟩] scope pos) spos) env) g l Q := fun s S => by
  rw [exec_Assign_Name_used _ _ _ _ hsw]
  refine wpAny_bind (wpAny_standAt (wpAny_bind ?_))
  show wpAny _ A (do let _ ← comprehension (.ListComp elt [⟨target, iter, ifs, 0⟩] scope pos) scope env _ (newList []) false (eval iter env) (some (assign (.Name x px) env))) _ _ s
  refine wpAny_bind (wpAny_mono (wpAny_comprehension_free (use := some (assign (.Name x px) env)) (Q := fun _ s' => Post c g Q .next s') rfl hs hclos hkind hnames
    (h.run S fun xv g1 l1 s1 u1 S1 h1 => h1.run S1 fun itv g2 l2 s2 u2 S2 h2 => ?_)) (fun _ s' hq => wpAny_pure (wpAny_pure hq)) fun _ _ e => e)
  obtain ⟨it, rfl, K⟩ := h2
  refine comp_block (RR := fun acc C => compPost c.M A (fun _ _ => False) (some (assign (.Name x px) env)) (fun _ s' => Post c g Q .next s') acc C) hcell hkind hn S2 K fun acc C ys r g3 l3 s3 u3 S3 hR => ?_
  show wpAny _ A (assign (.Name x px) env (.ref acc)) _ _ _
  refine wpAny_assign_Name ((hR acc C r).run S3 fun _ g4 l4 s4 u4 S4 q => ?_)
  obtain ⟨l5, rfl, hq⟩ := q
  obtain ⟨m, hm, k⟩ := S4.noframe
  exact ⟨m, hm, fun h' hs' => Post.mk (u1.trans (u2.trans (u3.trans u4))) (k h' hs') hq⟩
end
end Mine
-- part C7
open PySem PySem.W PyProof.Rows PySem.Calls PySem.Spec
set_option Elab.async false
set_option maxRecDepth 100000
set_option linter.unusedVariables false
namespace Mine
section
variable {c : Cfg} {A : Around} {g : Heap} {l l' : Owns} {env : Env} {a b : Int} {t u : Tok} {Q : Value → Heap → Owns → Prop}

theorem W_Expr {e : Expr} {pos : Pos} {Q : Flow → Heap → Owns → Prop} (h : W c A (eval e env) g l fun v g1 l1 => (∀ x, v ≠ .ref x) ∧ Q .next g1 l1) (hi : interactive env = false := by rfl) (hs : swapsWith e none pos.line env = pure false := by rfl) :
    W c A (exec (.Expr e pos) env) g l Q := fun s S => wpAny_Expr (h.run S fun v g1 l1 s1 u1 S1 h1 => by
  cases v <;> first | exact Post.mk u1 S1 h1.2 | exact (h1.1 _ rfl).elim) hi hs
theorem none_end {P : Prop} (h : P) : (∀ x, Value.none ≠ Value.ref x) ∧ P := ⟨(fun _ e => by cases e), h⟩

theorem W_mBits {pl : Sem Bool} {Q : Value × List Value → Heap → Owns → Prop} (h : Q (.builtin "int.bit_length", [.int a t]) g l) : W c A (getMethod (.int a t) "bit_length" pl) g l Q := W_now (fun _ _ _ h => getMethod_int_bit_length h) h
theorem W_bits (h : ∀ k, Q (.int (Builtin.Int.intBits a) k) g l) : W c A (call (.builtin "int.bit_length") [.int a t]) g l Q := W_tok (mk := fun k => Value.int (Builtin.Int.intBits a) k) (fun _ _ _ h => call_int_bit_length h) h

theorem W_divmod (hb : b ≠ 0) (hs : b.natAbs < 1073741824) (h : ∀ x g' t1 t2, Sub g g' → g'.get? x = some (tupObj [.int (a.fdiv b) t1, .int (a.fmod b) t2]) → Q (.ref x) g' l) : W c A (call (.builtin "divmod") [.int a t, .int b u]) g l Q := fun s S => by
  refine divmod_int hb ?_ (.inl (PyProof.noPylong_small hs))
  have S1 := S.push (tk := s.toks + 1 + 1) { cls := .type "tuple", data := .seq #[.int (a.fdiv b) s.toks, .int (a.fmod b) (s.toks + 1)] }
  obtain ⟨g', u, S', e⟩ := S1.give .head
  exact Post.mk u S' (h _ g' _ _ u e)
end
end Mine
-- part C8
open PySem PySem.W PyProof.Rows PySem.Calls PySem.Spec
set_option Elab.async false
set_option maxRecDepth 100000
set_option linter.unusedVariables false
namespace Mine
section
variable {c : Cfg} {A : Around} {g : Heap} {l l' : Owns} {env : Env}

/-- a table is filled -/
theorem St.fillTab {s : Shared} (S : St c g s l) (hd : (c.tabs.map (·.P)).Nodup) {t : Tab} (ht : t ∈ c.tabs) {h' : Heap} {tk : Nat} {c' : Addr} (k : ∀ b o, b ≠ t.P → s.heap.get? b = some o → h'.get? b = some o)
    (hP : h'.get? t.P = some (tabObj #[rawInt t.line, rawInt t.col, .ref c'])) (hrec : h'.CodeRec (.ref c') t.qual) (hc : s.heap.objs.size ≤ c') :
    ∃ g', Sub g g' ∧ St c g' { s with heap := h', toks := tk } l ∧ ∀ a o, h'.get? a = some o → (∀ p ∈ l, p.1 ≠ a) → (∀ t ∈ c.tabs, t.P ≠ a) → g'.get? a = some o := by
  let ks := l.map (·.1) ++ c.tabs.map (·.P)
  have gP : ∀ b o, g.get? b = some o → b ∉ ks := fun b o e hb => by
    rcases List.mem_append.mp hb with hb | hb
    · obtain ⟨p, hp, rfl⟩ := List.mem_map.mp hb
      rw [(S.own p hp).2.1] at e; cases e
    · obtain ⟨t, ht, rfl⟩ := List.mem_map.mp hb
      rw [(S.tabs t ht).1] at e; cases e
  have sb : Sub g (hideAll h' ks) := fun b o e => hideAll_get _ (k b o (fun q => gP b o e (List.mem_append.mpr (.inr (q ▸ List.mem_map_of_mem ht)))) (S.keep b o e)) (gP b o e)
  have out : ∀ a o, h'.get? a = some o → (∀ p ∈ l, p.1 ≠ a) → (∀ t ∈ c.tabs, t.P ≠ a) → (hideAll h' ks).get? a = some o := fun a o e h1 h2 => hideAll_get _ e fun hb => by
    rcases List.mem_append.mp hb with hb | hb
    · obtain ⟨p, hp, e'⟩ := List.mem_map.mp hb
      exact h1 p hp e'
    · obtain ⟨t, ht, e'⟩ := List.mem_map.mp hb
      exact h2 t ht e'
  refine ⟨hideAll h' ks, sb, ⟨fun b o e => of_hideAll _ e, fun p hp => ⟨(S.own p hp).1.to fun o e => k _ o ((S.own p hp).2.2 t ht) e, hideAll_none _ (List.mem_append.mpr (.inl (List.mem_map_of_mem hp))), (S.own p hp).2.2⟩, S.nodup, fun t2 ht2 => ⟨hideAll_none _ (List.mem_append.mpr (.inr (List.mem_map_of_mem ht2))), ?_⟩, S.base.mono sb, S.gens, S.os⟩, out⟩
  by_cases e : t2.P = t.P
  · have e2 : t2 = t := by
      have key : ∀ (ts : List Tab), (ts.map (·.P)).Nodup → t ∈ ts → t2 ∈ ts → t2 = t := fun ts => by
        induction ts with
        | nil => intro _ h; cases h
        | cons a r ih =>
          intro hn h1 h2
          rw [List.map_cons, List.nodup_cons] at hn
          rcases List.mem_cons.mp h1 with q1 | q1 <;> rcases List.mem_cons.mp h2 with q2 | q2
          · rw [q1, q2]
          · exact absurd (by rw [← q1, ← e]; exact List.mem_map_of_mem (f := (·.P)) q2) hn.1
          · exact absurd (by rw [← q2, e]; exact List.mem_map_of_mem (f := (·.P)) q1) hn.1
          · exact ih hn.2 q1 q2
      exact key _ hd ht ht2
    subst e2
    refine .inr ⟨c', hP, ?_⟩
    obtain ⟨c₂, oc, vs, tt, e2, hoc, hdd, hv⟩ := hrec
    cases e2
    refine ⟨c', oc, vs, tt, rfl, out _ _ hoc (fun p hp q => ?_) (fun t3 ht3 q => ?_), hdd, hv⟩
    · exact absurd (S.lt hp) (by rw [q]; exact Nat.not_lt.mpr hc)
    · exact absurd (S.lt_tab ht3) (by rw [q]; exact Nat.not_lt.mpr hc)
  · exact (S.tabs t2 ht2).2.imp (k _ _ e) fun ⟨c2, a, b⟩ => ⟨c2, k _ _ e a, b.keeps sb⟩

theorem W_nestDef {t : Tab} {name : Str} {params : Arguments} {body : List Stmt} {scope : Scope} {pos : Pos} {clos : List (Str × Addr)} {Q : Flow → Heap → Owns → Prop} (ht : t ∈ c.tabs) (hd : (c.tabs.map (·.P)).Nodup)
    (h : ∀ f c' ctv doc pm g', Sub g g' → g'.get? f = some (fnMade name t.qual params body scope clos doc pm c' ctv) → g'.CodeRec (.ref c') t.qual → W c A (storeName env name (.ref f)) g' l fun _ g2 l2 => Q .next g2 l2)
    (hcode : env.code = .ref t.c) (hg : env.globals = mainGlobals) (hl : pos.line = t.line) (hc : pos.col = t.col) (hq : qualnameIn env name name = t.qual) (hcl : closureFor scope env = pure clos) (hd0 : params.defaults = []) (hk0 : params.kw_defaults = []) (ha : annTrees params none env = []) :
    W c A (exec (.FunctionDef name params body [] none [] scope none name pos) env) g l Q := fun s S => by
  refine nestDef_K hd0 hk0 ha ?_
  rw [hq]
  have hgs : s.heap.Ns mainGlobals c.mg := S.base.T.g.keeps S.keep
  obtain ⟨bm, ob, b1, b2, b3, b4, b5, b6⟩ := S.base.T.bmain
  have hTab := S.tabs t ht
  have hne : ∀ b o, g.get? b = some o → b ≠ t.P := fun b o e q => by rw [q, hTab.1] at e; cases e
  have hgP : mainGlobals ≠ t.P := by
    obtain ⟨o, es, ep, e, hdd, _⟩ := S.base.T.g
    exact hne _ _ e
  have hbP : bm ≠ t.P := hne _ _ b3
  have hbG : bm ≠ mainGlobals := fun q => by
    obtain ⟨o, es, ep, e, hdd, _⟩ := S.base.T.g
    rw [q, e] at b3; cases b3; rw [hdd] at b6; cases b6
  have C := (S.base.C t ht).keeps S.keep
  have hb : s.heap.BuiltinsAt c.mg t.P := ⟨bm, ob, b1, b2, hbG, hbP, S.keep _ _ b3, b4, b5, b6⟩
  rcases hTab.2 with e | ⟨c', e, hrec⟩
  · refine makeFunction_K (mg := c.mg) hcl hg hgs hcode C e trivial rfl hgP hb fun c' ctv doc h' tk hx hge hlt hrec htb => ?_
    rw [hl, hc] at htb
    have hx' : ∀ (b : Addr) (o : Obj), b ≠ t.P → s.heap.get? b = some o → (h'.push (fnMade name t.qual params body scope clos doc ((c.mg "__name__").getD .none) c' ctv)).get? b = some o := fun b o hb e => Heap.get?_push_of_some _ (hx b o hb e)
    obtain ⟨g', u, S', out⟩ := S.fillTab (tk := tk) hd ht hx' (Heap.get?_push_of_some _ (by simpa using htb)) (hrec.push _) hge
    have hsz : s.heap.objs.size ≤ h'.objs.size := Nat.le_of_lt (Nat.lt_of_le_of_lt hge hlt)
    have hfn : g'.get? h'.objs.size = some (fnMade name t.qual params body scope clos doc ((c.mg "__name__").getD .none) c' ctv) := out _ _ (Heap.get?_push_size _ rfl) (fun p hp q => absurd (S.lt hp) (by rw [q]; exact Nat.not_lt.mpr hsz)) (fun t3 ht3 q => absurd (S.lt_tab ht3) (by rw [q]; exact Nat.not_lt.mpr hsz))
    have hr : g'.CodeRec (.ref c') t.qual := by
      obtain ⟨c₂, oc, vs, tt, e2, hoc, hdd, hv⟩ := hrec
      cases e2
      exact ⟨c', oc, vs, tt, rfl, out _ _ (Heap.get?_push_of_some _ hoc) (fun p hp q => absurd (S.lt hp) (by rw [q]; exact Nat.not_lt.mpr hge)) (fun t3 ht3 q => absurd (S.lt_tab ht3) (by rw [q]; exact Nat.not_lt.mpr hge)), hdd, hv⟩
    exact (h _ _ _ _ _ g' u hfn hr).run S' fun _ g2 l2 s2 u2 S2 q => Post.mk (u.trans u2) S2 q
  · have hf : codeAmong pos [rawInt t.line, rawInt t.col, .ref c'] = some (.ref c') := by
      simp [codeAmong, rawInt, hl, hc]
    have htr : TriplesOk [rawInt t.line, rawInt t.col, .ref c'] := by simp [TriplesOk, rawInt]
    refine makeFunction_hit (mg := c.mg) hcl hg hgs hcode C e htr hf hb fun ctv doc h' tk hk hsz => ?_
    have S1 : St c g { s with heap := h'.push (fnMade name t.qual params body scope clos doc ((c.mg "__name__").getD .none) c' ctv), toks := tk } ((h'.objs.size, .obj (fnMade name t.qual params body scope clos doc ((c.mg "__name__").getD .none) c' ctv)) :: l) := by
      refine S.grow (new := [(h'.objs.size, .obj (fnMade name t.qual params body scope clos doc ((c.mg "__name__").getD .none) c' ctv))]) (fun b o e => Heap.get?_push_of_some _ (hk b o e)) (fun p hp => ?_) (List.nodup_cons.mpr ⟨List.not_mem_nil, List.nodup_nil⟩)
      rw [List.mem_singleton.mp hp]
      exact ⟨Heap.get?_push_size _ rfl, hsz⟩
    obtain ⟨g', u, S', e'⟩ := S1.give .head
    exact (h _ _ _ _ _ g' u e' (hrec.keeps u)).run S' fun _ g2 l2 s2 u2 S2 q => Post.mk (u.trans u2) S2 q

/-- a call of a def that the call has made -/
theorem W_withF {f : Addr} {fo : Obj} {fd : FuncData} {first : List Value} {e : Expr} {rest : List Expr} {pos : Pos} {Q : Value → Heap → Owns → Prop} (hf : g.get? f = some fo) (hd : fo.data = .func fd)
    (h : W c A (spliced (backTo pos (starEach (e :: rest) env))) g l fun vs g1 l1 => W c A (call (.ref f) (first ++ vs)) g1 l1 Q)
    (he : starEach (e :: rest) env = (false, eval e env) :: starEach rest env := by rfl) (hplain : (backTo pos (starEach rest env)).any (·.1) = false := by rfl) :
    W c A (callWith pos (.ref f) first (backTo pos (starEach (e :: rest) env)) []) g l Q := fun s S => by
  have fn : ∀ h : Heap, Sub g h → FnAt f h := fun h u => by
    obtain ⟨oc, od, dt, sl⟩ := fo
    have : dt = .func fd := hd
    subst this
    exact ⟨oc, od, fd, sl, u _ _ hf⟩
  exact callWith_F (fn _ S.keep) (h.run S fun _ _ _ s1 u1 S1 h1 => ⟨fn _ (u1.trans S1.keep), up u1 (h1 s1 S1)⟩) he hplain
end
end Mine
-- part C9
open PySem PySem.W PyProof.Rows PySem.Calls PySem.Spec
set_option Elab.async false
set_option maxRecDepth 100000
set_option linter.unusedVariables false
namespace Mine
section
variable {c : Cfg} {A : Around} {g : Heap} {l l' : Owns} {env : Env} {Q : Value → Heap → Owns → Prop} {e : Expr} {rest : List Expr} {pos : Pos} {x : Value}
theorem W_withKf {f : Addr} (hk : keepIn c.K (.ref f) = true) (h : W c A (spliced (backTo pos (starEach (e :: rest) env))) g l fun vs g1 l1 => W c A (call (.ref f) vs) g1 l1 Q)
    (he : starEach (e :: rest) env = (false, eval e env) :: starEach rest env := by rfl) (hplain : (backTo pos (starEach rest env)).any (·.1) = false := by rfl) : W c A (callWith pos (.ref f) [] (backTo pos (starEach (e :: rest) env)) []) g l Q := W_withK hk h he hplain
theorem W_withKm {f : Addr} (hk : keepIn c.K (.ref f) = true) (h : W c A (spliced (backTo pos (starEach (e :: rest) env))) g l fun vs g1 l1 => W c A (call (.ref f) (x :: vs)) g1 l1 Q)
    (he : starEach (e :: rest) env = (false, eval e env) :: starEach rest env := by rfl) (hplain : (backTo pos (starEach rest env)).any (·.1) = false := by rfl) : W c A (callWith pos (.ref f) [x] (backTo pos (starEach (e :: rest) env)) []) g l Q := W_withK hk h he hplain
theorem W_withBf {id : String} (h : W c A (spliced (backTo pos (starEach (e :: rest) env))) g l fun vs g1 l1 => W c A (call (.builtin id) vs) g1 l1 Q)
    (he : starEach (e :: rest) env = (false, eval e env) :: starEach rest env := by rfl) (hplain : (backTo pos (starEach rest env)).any (·.1) = false := by rfl) : W c A (callWith pos (.builtin id) [] (backTo pos (starEach (e :: rest) env)) []) g l Q := W_withB h he hplain
theorem W_withBm {id : String} (h : W c A (spliced (backTo pos (starEach (e :: rest) env))) g l fun vs g1 l1 => W c A (call (.builtin id) (x :: vs)) g1 l1 Q)
    (he : starEach (e :: rest) env = (false, eval e env) :: starEach rest env := by rfl) (hplain : (backTo pos (starEach rest env)).any (·.1) = false := by rfl) : W c A (callWith pos (.builtin id) [x] (backTo pos (starEach (e :: rest) env)) []) g l Q := W_withB h he hplain
theorem W_withFf {f : Addr} {fo : Obj} {fd : FuncData} (hf : g.get? f = some fo) (hd : fo.data = .func fd) (h : W c A (spliced (backTo pos (starEach (e :: rest) env))) g l fun vs g1 l1 => W c A (call (.ref f) vs) g1 l1 Q)
    (he : starEach (e :: rest) env = (false, eval e env) :: starEach rest env := by rfl) (hplain : (backTo pos (starEach rest env)).any (·.1) = false := by rfl) : W c A (callWith pos (.ref f) [] (backTo pos (starEach (e :: rest) env)) []) g l Q := W_withF hf hd h he hplain
end
section
variable {c : Cfg} {A : Around} {g : Heap} {l l' : Owns} {P : Heap → Owns → Prop} {Q : Value → Heap → Owns → Prop} {v : Value}
theorem ret_now (h : Q v g l) : RetQ c Q (.ret v) g l := Shift.done h
theorem ret_next (h : Q .none g l) : RetQ c Q .next g l := Shift.done h
theorem ret_drop1 {p : Addr × Own} (h : RetQ c Q (.ret v) g l) : RetQ c Q (.ret v) g (p :: l) := Shift.sub (List.sublist_cons_self _ _) h
theorem next_drop1 {p : Addr × Own} (h : RetQ c Q .next g l) : RetQ c Q .next g (p :: l) := Shift.sub (List.sublist_cons_self _ _) h
theorem ret_give {a : Addr} {x : Own} (D : Del a x l l') (h : ∀ g', Sub g g' → x.At g' a → RetQ c Q (.ret v) g' l') : RetQ c Q (.ret v) g l := Shift.give D h
end
end Mine
namespace Mine
section
variable {c : Cfg} {A : Around} {g : Heap} {l l' : Owns} {env : Env}
theorem gName {x : Str} {pos : Pos} {Q : Value → Heap → Owns → Prop} (h : W c A (eval (.Name x pos) env) g l Q) : W c A (eval (.Name x pos) env) g l Q := h
theorem gEval {e : Expr} {Q : Value → Heap → Owns → Prop} (h : W c A (eval e env) g l Q) : W c A (eval e env) g l Q := h
theorem gArgs {es : List (Bool × Sem Value)} {Q : List Value → Heap → Owns → Prop} (h : W c A (spliced es) g l Q) : W c A (spliced es) g l Q := h
theorem gWith {pos : Pos} {f : Value} {first : List Value} {es : List (Bool × Sem Value)} {kws : List (Option Str × Sem Value)} {Q : Value → Heap → Owns → Prop} (h : W c A (callWith pos f first es kws) g l Q) : W c A (callWith pos f first es kws) g l Q := h
theorem gBin {op : Operator} {x y : Value} {Q : Value → Heap → Owns → Prop} (h : W c A (binaryOp op x y) g l Q) : W c A (binaryOp op x y) g l Q := h
theorem gIn {op : Operator} {x y : Value} {Q : Value → Heap → Owns → Prop} (h : W c A (inplaceOp op x y) g l Q) : W c A (inplaceOp op x y) g l Q := h
theorem gUn {op : UnaryOp} {x : Value} {Q : Value → Heap → Owns → Prop} (h : W c A (unaryOp op x) g l Q) : W c A (unaryOp op x) g l Q := h
theorem gCmp {op : CmpOp} {x y : Value} {Q : Value → Heap → Owns → Prop} (h : W c A (compareOp op x y) g l Q) : W c A (compareOp op x y) g l Q := h
theorem gTruthy {x : Value} {Q : Bool → Heap → Owns → Prop} (h : W c A (truthy x) g l Q) : W c A (truthy x) g l Q := h
theorem gTest {e : Expr} {whole : Sem Value} {Q : Bool → Heap → Owns → Prop} (h : W c A (isTrue e env whole) g l Q) : W c A (isTrue e env whole) g l Q := h
theorem gExec {st : Stmt} {Q : Flow → Heap → Owns → Prop} (h : W c A (exec st env) g l Q) : W c A (exec st env) g l Q := h
theorem gStore {x : Str} {v : Value} {Q : Unit → Heap → Owns → Prop} (h : W c A (storeName env x v) g l Q) : W c A (storeName env x v) g l Q := h
theorem gLoad {x : Str} {Q : Value → Heap → Owns → Prop} (h : W c A (loadName env x) g l Q) : W c A (loadName env x) g l Q := h
theorem gCall {f : Value} {vs : List Value} {kws : List (Str × Value)} {Q : Value → Heap → Owns → Prop} (h : W c A (call f vs kws) g l Q) : W c A (call f vs kws) g l Q := h
theorem gMeth {x : Value} {n : Str} {pl : Sem Bool} {Q : Value × List Value → Heap → Owns → Prop} (h : W c A (getMethod x n pl) g l Q) : W c A (getMethod x n pl) g l Q := h
end
end Mine
-- part C10
open PySem PySem.W PyProof.Rows PySem.Calls PySem.Spec
set_option Elab.async false
set_option maxRecDepth 100000
set_option linter.unusedVariables false
namespace Mine
section
variable {c : Cfg} {A : Around} {g : Heap} {l l' : Owns} {env : Env} {a b : Int} {x y z : Str} {t u v : Tok} {Q : Value → Heap → Owns → Prop}

/-- a rule that only turns tokens -/
theorem W_toks {mk : Tok → Value} {T : Sem Value} (ht : ∀ (s : Shared) (F : Value → Shared → Prop) (E : Value → Shared → Prop), (∀ t' k, F (mk t') { s with toks := k }) → wpAny c.M A T F E s) (h : ∀ k, Q (mk k) g l) : W c A T g l Q :=
  fun s S => ht s _ _ fun t' k => Post.mk' S.toks (h t')

theorem W_abs (h : ∀ k, Q (.int (if a < 0 then -a else a) k) g l) : W c A (call (.builtin "abs") [.int a t]) g l Q := W_toks (mk := Value.int _) (fun _ _ _ h => call_abs_int h) h
theorem W_strInt (ha : a.natAbs.log2 < 1920) (h : ∀ k, Q (.str (toString a) k) g l) : W c A (call (.type "str") [.int a t]) g l Q := W_tok (mk := Value.str _) (fun _ _ _ h => P.str_of_int ha h) h
theorem W_intText {n : Int} (hn : PySem.intText? x = some n) (hl : x.length ≤ 640) (h : ∀ k, Q (.int n k) g l) : W c A (call (.type "int") [.str x t]) g l Q := W_tok (mk := Value.int n) (fun _ _ _ h => KIN.call_text hn hl h) h
theorem W_chr (h0 : 0 ≤ a) (h1 : a ≤ 1114111) (h : ∀ k, Q (.str ⟨#[a.toNat]⟩ k) g l) : W c A (call (.builtin "chr") [.int a t]) g l Q := W_tok (mk := Value.str _) (fun _ _ _ h => chr_of_range h0 h1 h) h
theorem W_ord {n : Nat} (h : ∀ k, Q (.int n k) g l) : W c A (call (.builtin "ord") [.str ⟨#[n]⟩ t]) g l Q := W_tok (mk := Value.int _) (fun _ _ _ h => P.ord_of_char h) h

theorem W_mRstrip {pl : Sem Bool} {Q : Value × List Value → Heap → Owns → Prop} (h : Q (.builtin "str.rstrip", [.str x t]) g l) : W c A (getMethod (.str x t) "rstrip" pl) g l Q := W_now (fun _ _ _ h => GM.rstrip h) h
theorem W_mReplace {pl : Sem Bool} {Q : Value × List Value → Heap → Owns → Prop} (h : Q (.builtin "str.replace", [.str x t]) g l) : W c A (getMethod (.str x t) "replace" pl) g l Q := W_now (fun _ _ _ h => GM.replace h) h
theorem W_mLower {pl : Sem Bool} {Q : Value × List Value → Heap → Owns → Prop} (h : Q (.builtin "str.lower", [.str x t]) g l) : W c A (getMethod (.str x t) "lower" pl) g l Q := W_now (fun _ _ _ h => GM.lower h) h
theorem W_mUpper {pl : Sem Bool} {Q : Value × List Value → Heap → Owns → Prop} (h : Q (.builtin "str.upper", [.str x t]) g l) : W c A (getMethod (.str x t) "upper" pl) g l Q := W_now (fun _ _ _ h => GM.upper h) h
theorem W_mCount {pl : Sem Bool} {Q : Value × List Value → Heap → Owns → Prop} (h : Q (.builtin "str.count", [.str x t]) g l) : W c A (getMethod (.str x t) "count" pl) g l Q := W_now (fun _ _ _ h => GM.count h) h
theorem W_mJoin {pl : Sem Bool} {Q : Value × List Value → Heap → Owns → Prop} (h : Q (.builtin "str.join", [.str x t]) g l) : W c A (getMethod (.str x t) "join" pl) g l Q := W_now (fun _ _ _ h => GM.join h) h
theorem W_rstrip (hz : x.length ≤ sizeLine) (h : ∀ k, Q (.str (Txt.rstrip x) k) g l) : W c A (call (.builtin "str.rstrip") [.str x t]) g l Q := W_toks (mk := Value.str _) (fun _ _ _ h => SC.rstrip h hz) h
theorem W_replace0 (he : (Builtin.Str.occurrences x y 0 x.length (x.length + 1)).isEmpty = true) (h : Q (.str x t) g l) : W c A (call (.builtin "str.replace") [.str x t, .str y u, .str z v]) g l Q := W_now (fun s F E hF => by
  refine call_gives PySem.F.slot_str_replace (typeIs_str _ _ _) PySem.F.entry_str_replace (PySem.F.args_str_replace_3 _ _ _) (gives_str_replace x y z t u v fun q => ?_) ?_
  · rw [he] at q; cases q
  · rw [he]; exact hF) h
theorem W_lower (hf : Builtin.Str.tooLong (Txt.lower x).length = false) (h : ∀ k, Q (.str (Txt.lower x) k) g l) : W c A (call (.builtin "str.lower") [.str x t]) g l Q := W_tok (mk := Value.str _) (fun _ _ _ h => SC.lower hf h) h
theorem W_upper (hf : Builtin.Str.tooLong (Txt.upper x).length = false) (h : ∀ k, Q (.str (Txt.upper x) k) g l) : W c A (call (.builtin "str.upper") [.str x t]) g l Q := W_tok (mk := Value.str _) (fun _ _ _ h => SC.upper hf h) h
theorem W_count (h : ∀ k, Q (.int (Txt.count x y) k) g l) : W c A (call (.builtin "str.count") [.str x t, .str y u]) g l Q := W_tok (mk := Value.int _) (fun _ _ _ h => SC.count h) h
theorem W_join {a : Addr} {vs : List Value} {ys : List Str} (hl : ListAt g l a vs) (hi : StrsAre vs ys) (hz : (ys.map (·.length)).sum + ys.length * x.length ≤ 16777216) (h : ∀ k, Q (.str (Txt.join x ys) k) g l) : W c A (call (.builtin "str.join") [.str x t, .ref a]) g l Q :=
  fun s S => join_list (hl.is S) hi hz fun t' k => Post.mk' S.toks (h t')
theorem W_addStr (hz : x.length + y.length ≤ sizeLine) (h : ∀ k, Q (.str (x ++ y) k) g l) : W c A (binaryOp .Add (.str x t) (.str y u)) g l Q := W_toks (mk := Value.str _) (fun _ _ _ h => PyProof.Rows.add_str h hz) h
theorem W_mulStr (hok : MulOk x a) (h : ∀ k, Q (.str (Txt.mul x a) k) g l) : W c A (binaryOp .Mult (.str x t) (.int a u)) g l Q := W_toks (mk := Value.str _) (fun _ _ _ h => SB.mul hok h) h
theorem W_eqStr (h : Q (.bool (x == y)) g l) : W c A (compareOp .Eq (.str x t) (.str y u)) g l Q := W_now (fun _ _ _ h => PyProof.Rows.eq_str h) h
theorem W_neStr (h : Q (.bool (x != y)) g l) : W c A (compareOp .NotEq (.str x t) (.str y u)) g l Q := W_now (fun _ _ _ h => PyProof.Rows.ne_str h) h
theorem W_itemStr {o i : Expr} (hr : fitsSsize a = true) (hin : (Txt.charAt x a).isSome = true) (h : ∀ k, Q (.str (Txt.item x a) k) g l)
    (hs : subscripted i false (.str x t) (.int a u) = operate [.str x t, .int a u] (getItem (.str x t) (.int a u)) := by with_unfolding_all rfl) : W c A (subscriptTail o i (.str x t) (.int a u)) g l Q :=
  W_tok (mk := Value.str _) (fun s _ _ h => tail_any (typeIs_str s x t) F.slot_str_getitem.lookup (SB.getItem hr hin h) hs) h

-- slices
abbrev sliceObj (p q : Value) : Obj := { cls := .type "slice", data := .fields #[p, q, .none] }
theorem W_Slice {p q : Option Expr} {pos : Pos} (h : W c A (evalPart p env) g l fun pv g1 l1 => W c A (evalPart q env) g1 l1 fun qv g2 l2 => ∀ a g', Sub g2 g' → g'.get? a = some (sliceObj pv qv) → Q (.ref a) g' l2) : W c A (eval (.Slice p q none pos) env) g l Q := fun s S =>
  wpAny_Slice (h.run S fun pv g1 l1 s1 u1 S1 h1 => h1.run S1 fun qv g2 l2 s2 u2 S2 h2 => by
    rw [evalPart_none]
    refine wpAny_pure ?_
    have S3 := S2.push (tk := s2.toks) (sliceObj pv qv)
    obtain ⟨g', u, S', e⟩ := S3.give .head
    exact Post.mk ((u1.trans u2).trans u) S' (h2 _ g' u e))
theorem W_part0 (h : Q .none g l) : W c A (evalPart none env) g l Q := W_pure h
theorem W_part {e : Expr} (h : W c A (eval e env) g l Q) : W c A (evalPart (some e) env) g l Q := h
theorem W_sliceList {o i : Expr} {d sl : Addr} {vs : List Value} {p q : Value} {lo hi : Option Int} (hl : ListAt g l d vs) (hs : g.get? sl = some (sliceObj p q)) (pl : IsPart p lo) (pu : IsPart q hi) (hz : vs.length ≤ sizeLine)
    (h : ∀ a, Q (.ref a) g ((a, .list (slicePick vs.toArray lo hi none).toList) :: l)) (hsub : subscripted i false (.ref d) (.ref sl) = operate [.ref sl, .ref d] (getItem (.ref d) (.ref sl)) := by with_unfolding_all rfl) : W c A (subscriptTail o i (.ref d) (.ref sl)) g l Q := fun s S =>
  tail_any (hl.is S).typeIs slot_list_getitem.lookup (wpAny_getItem_list_slice (hl.is S) ⟨_, S.keep _ _ hs, rfl, rfl⟩ pl pu .none (by simp) (by
    refine Post.mk' (S.grow (tk := s.toks) (new := [(s.heap.objs.size, .list (slicePick vs.toArray lo hi none).toList)]) (fun _ _ e => Heap.get?_push_of_some _ e) (fun p hp => ?_) (List.nodup_cons.mpr ⟨List.not_mem_nil, List.nodup_nil⟩)) (h _)
    rw [List.mem_singleton.mp hp]
    exact ⟨⟨0, Heap.get?_push_size _ rfl⟩, Nat.le_refl _⟩) (by rw [List.size_toArray]; exact hz)) hsub
theorem W_sliceStr {o i : Expr} {sl : Addr} {lo hi : Option (Int × Tok)} (hs : g.get? sl = some (sliceObj (partValue lo) (partValue hi))) (hz : x.length ≤ sizeLine)
    (h : ∀ k, Q (.str (Txt.slice x (lo.map (·.1)) (hi.map (·.1))) k) g l) (hsub : subscripted i false (.str x t) (.ref sl) = operate [.ref sl, .str x t] (getItem (.str x t) (.ref sl)) := by with_unfolding_all rfl) : W c A (subscriptTail o i (.str x t) (.ref sl)) g l Q := fun s S =>
  tail_any (typeIs_str s x t) F.slot_str_getitem.lookup (wpAny_getItem_str_slice (l := lo) (u := hi) (st := none) ⟨_, S.keep _ _ hs, rfl, rfl⟩ rfl
    (post_val_or_str ⟨Nat.le_trans (Txt.slice_le x _ _) hz, fun t' k => Post.mk' S.toks (h t')⟩)) hsub

-- lists
theorem W_sum {a : Addr} {vs : List Value} {ns : List Int} (hh : A.handled = none) (hl : ListAt g l a vs) (hi : IntsAre vs ns) (h : ∀ k, Q (.int ns.sum k) g l) : W c A (call (.builtin "sum") [.ref a]) g l Q := fun s S => by
  obtain ⟨xs, e⟩ := hi.allInts.items
  have hL := hl.is S
  rw [e] at hL
  have e2 : numsOf vs = xs.toList.map (·.1) := by
    have := nums_intItems xs
    rw [← e] at this; exact this
  refine sum_intListG hh hL fun h' tk t' hk => Post.mk' (S.mkeep (tk := tk) hk) ?_
  rw [preSum_eq, List.take_of_length_le (by simp), ← e2, hi.numsOf]
  exact h t'
theorem St.newList {s : Shared} (S : St c g s l) (vs : List Value) : St c g { s with heap := s.heap.push { cls := .type "list", data := .seq vs.toArray } } ((s.heap.objs.size, .list vs) :: l) := by
  refine S.grow (tk := s.toks) (new := [(s.heap.objs.size, .list vs)]) (fun _ _ e => Heap.get?_push_of_some _ e) (fun p hp => ?_) (List.nodup_cons.mpr ⟨List.not_mem_nil, List.nodup_nil⟩)
  rw [List.mem_singleton.mp hp]
  exact ⟨⟨0, Heap.get?_push_size _ rfl⟩, Nat.le_refl _⟩
theorem W_addList {p q : Addr} {vs ws : List Value} (hl : ListAt g l p vs) (hm : ListAt g l q ws) (hz : vs.length + ws.length ≤ sizeLine) (h : ∀ r, Q (.ref r) g ((r, .list (vs ++ ws)) :: l)) : W c A (binaryOp .Add (.ref p) (.ref q)) g l Q := fun s S => by
  obtain ⟨⟨cls, dd, data, sl⟩, ho, hc, n, hd⟩ := hl.is S
  obtain ⟨⟨cls2, dd2, data2, sl2⟩, ho2, hc2, n2, hd2⟩ := hm.is S
  simp only at hc hd hc2 hd2
  subst hc hd hc2 hd2
  have e : vs.toArray ++ ws.toArray = (vs ++ ws).toArray := by simp
  refine concat_meets ⟨_, ho, rfl⟩ ⟨_, ho2, rfl⟩ noFill_list_add seq_list_add PySem.F.slot_list_add PySem.F.entry_list_add (PySem.F.args_list_add_2 _ _) (list_addW p q vs.toArray ws.toArray n n2 dd dd2 sl sl2 (by simpa using hz)) ⟨ho, ho2, ?_⟩
  rw [e]
  exact Post.mk' (S.newList _) (h _)
theorem W_mulList1 {p : Addr} {w : Value} (hm : (p, Own.list [w]) ∈ l) (h0 : 0 ≤ a) (hz : a ≤ 2 ^ 24) (h : ∀ r, Q (.ref r) g ((r, .list (List.replicate a.toNat w)) :: l)) : W c A (binaryOp .Mult (.ref p) (.int a u)) g l Q := fun s S => by
  obtain ⟨n, hl⟩ := (S.own _ hm).1
  refine wpAny_binaryOp_repeat_ref (T := "list") (U := "int") (by decide) ⟨_, hl, rfl⟩ (fun s' => typeIs_int s' a u) noFill_list_mul F.fills_int_mul F.slot_int_rmul repeat_list F.slot_int_index.lookup
    (call_meets F.slot_int_rmul (typeIs_int s a u) F.entry_int_rmul (F.args_int_rmul_2 _ _) (int___rmul___int_list a u p _ n)
      ⟨hl, rfl, ⟨_, hl, rfl⟩, call_meets F.slot_list_mul ⟨_, hl, rfl⟩ F.entry_list_mul (F.args_list_mul_2 _ _)
        (AutoListH.list___mul___list_int_3 p _ n a u (by simp [Builtin.List.listFitsIndex]; omega) (by simp; omega) (by simp [Builtin.List.listTooLong, sizeLine]; omega))
        ⟨hl, ?_⟩⟩)
  have e : ∀ k, List.foldl (fun x1 x2 => x1 ++ x2) #[] (List.replicate k #[w]) = (List.replicate k w).toArray := fun k => by
    have : ∀ (k : Nat) (acc : List Value), List.foldl (fun x1 x2 => x1 ++ x2) acc.toArray (List.replicate k #[w]) = (acc ++ List.replicate k w).toArray := fun k => by
      induction k with
      | zero => intro acc; simp
      | succ k ih =>
        intro acc
        rw [List.replicate_succ, List.foldl_cons, show acc.toArray ++ #[w] = (acc ++ [w]).toArray by simp, ih, List.replicate_succ]
        simp
    simpa using this k []
  have := Post.mk' (S.newList (List.replicate a.toNat w)) (h s.heap.objs.size)
  rw [← e] at this
  exact this
end
end Mine
-- part C11
open PySem PySem.W PyProof.Rows PySem.Calls PySem.Spec
set_option Elab.async false
set_option maxRecDepth 100000
set_option linter.unusedVariables false
namespace Mine

theorem noBool_set : typeLookup (.type "set") (Str.ofString "__bool__") = pure none := by rw [typeLookup_type, builtinLookup_eq_fast]; kernel_rfl

theorem St.drawn {c : Cfg} {g : Heap} {s : Shared} {l : Owns} (S : St c g s l) (d : Drawn) : St c g { s with drawn := d } l := ⟨S.keep, S.own, S.nodup, S.tabs, S.base, S.gens, S.os⟩

/-- a set of ints -/
abbrev setI (c : Cfg) (S : Int → Bool) (n : Nat) : Own := .like fun o => o.SetObjOf (intKind c.prog c.w) S n
section
variable {c : Cfg} {A : Around} {g : Heap} {l l' : Owns} {env : Env} {a : Addr} {S : Int → Bool} {n : Nat} {Q : Value → Heap → Owns → Prop}

theorem St.setAt {s : Shared} (X : St c g s l) (hm : (a, setI c S n) ∈ l) (hb : n < scanBound) : s.heap.SetOf (intKind c.prog c.w) a S n := by
  obtain ⟨o, ho, hs⟩ := (X.own _ hm).1
  exact hs.setOf ho hb

theorem W_set0 (h : ∀ a, Q (.ref a) g ((a, setI c (fun _ => false) 0) :: l)) : W c A (call (.type "set") []) g l Q := fun s X =>
  call_set_0 fun led => Post.mk' (X.grow (tk := s.toks) (new := [(s.heap.objs.size, setI c (fun _ => false) 0)]) (fun _ _ e => Heap.get?_push_of_some _ e) (fun p hp => by
    rw [List.mem_singleton.mp hp]
    exact ⟨⟨_, Heap.get?_push_size _ rfl, setObjOf_fresh led⟩, Nat.le_refl _⟩) (List.nodup_cons.mpr ⟨List.not_mem_nil, List.nodup_nil⟩)) (h _)

theorem W_truthySet {Q : Bool → Heap → Owns → Prop} (hm : (a, setI c S n) ∈ l) (hn : n < scanBound) (h : Q (n != 0) g l) : W c A (truthy (.ref a)) g l Q := fun s X => by
  obtain ⟨o, ho, hex, es, ep, t, hd, hel, hmem, hes, hf⟩ := (X.own _ hm).1
  have hT : s.TypeIs (.ref a) "set" := ⟨o, ho, hex.1⟩
  have hfit : (es.size : Int) < 2 ^ 63 := by rw [hes]; have : scanBound = 4096 := rfl; omega
  have hne : ((es.size : Int) != 0) = (n != 0) := by rw [hes]; cases n <;> simp <;> omega
  have key : wpAny c.M A (runValue (.builtin "len" ⟨[.ref a], []⟩)) (fun r s' => r = .int es.size (s.toks + 1) ∧ Post c g Q (n != 0) s') (fun _ _ => False) s := by
    refine wpAny_runValue (codeAny_builtin entry_len ?_)
    rw [Around.under_plainId plain_len _]
    exact wpAny_mono (wpAny_len_body_set (Q := fun r s' => r = .int es.size (s.toks + 1) ∧ Post c g Q (n != 0) s') ho hex hd hf hfit ⟨rfl, Post.mk' X.toks h⟩)
      (fun fin s' h' => by obtain ⟨r, rfl, hq⟩ := h'; exact hq) fun _ _ e => e
  unfold truthy
  first
    | refine wpAny_bind (wpAny_callSpecial?_none (name := Str.ofString "__bool__") hT noBool_set ?_)
    | refine wpAny_bind (wpAny_pure (wpAny_bind (wpAny_callSpecial?_none (name := Str.ofString "__bool__") hT noBool_set ?_)))
  first
    | refine wpAny_bind (wpAny_specialOf (name := Str.ofString "__len__") hT PySem.F.slot_set_len.lookup ?_)
    | refine wpAny_bind (wpAny_pure (wpAny_bind (wpAny_specialOf (name := Str.ofString "__len__") hT PySem.F.slot_set_len.lookup ?_)))
  first
    | exact wpAny_bind (wpAny_mono key (fun r s' h' => by obtain ⟨rfl, hq⟩ := h'; exact wpAny_pure (hne ▸ hq)) fun _ _ e => e)
    | exact wpAny_bind (wpAny_pure (wpAny_bind (wpAny_mono key (fun r s' h' => by obtain ⟨rfl, hq⟩ := h'; exact wpAny_pure (hne ▸ hq)) fun _ _ e => e)))

theorem W_inSet {k : Int} {t : Tok} (hm : (a, setI c S n) ∈ l) (hn : n < scanBound) (h : Q (.bool (S k)) g l) : W c A (compareOp .In (.int k t) (.ref a)) g l Q := fun s X =>
  wpAny_inSet_of (isInt_self k t) rfl (X.setAt hm hn) (Post.mk' X.toks h)

theorem W_mPop {pl : Sem Bool} {Q : Value × List Value → Heap → Owns → Prop} (hm : (a, setI c S n) ∈ l) (hn : n < scanBound) (h : Q (.builtin "set.pop", [.ref a]) g l) : W c A (getMethod (.ref a) "pop" pl) g l Q := fun s X =>
  getMethod_builtin (X.setAt hm hn).typeIs PySem.F.plainAttrs_set PySem.F.slot_set_pop PySem.F.type_set_pop (X.setAt hm hn).noDict (Post.mk' X h)

theorem wpAny_choose1 {M : Model} {A : Around} {E : Value → Shared → Prop} {s : Shared} {src : Source} {F : Nat → Shared → Prop} (h : F 0 { s with drawn := s.drawn.bump src }) : wpAny M A (choose src 1) F E s := fun Γ p hΓ => by
  show Sem.wp M Γ (.choose src 1 .pure) _ _ p s
  rw [Sem.wp_choose]
  refine ⟨Nat.one_ne_zero, ?_⟩
  rw [Nat.mod_one]
  exact h
theorem drop_fits {t : SetTable} (h : t.fits 1 = true) : (t.popped 0).fits 0 = true := by
  unfold SetTable.fits at h ⊢
  rw [Bool.and_eq_true, beq_iff_eq, decide_eq_true_eq] at h
  obtain ⟨h1, h2⟩ := h
  have hp : ∃ j, t.place = #[j] := by
    have := h1
    rcases hq : t.place with ⟨l⟩
    rw [hq] at this
    match l, this with
    | [j], _ => exact ⟨j, rfl⟩
  obtain ⟨j, hj⟩ := hp
  unfold SetTable.fill at h2
  rw [h1] at h2
  have e : (t.popped 0).place = #[] ∧ (t.popped 0).dummies.size = t.dummies.size + 1 ∧ (t.popped 0).mask = t.mask := by
    unfold SetTable.popped SetTable.drop
    rw [hj]
    refine ⟨rfl, ?_, rfl⟩
    show (SetTable.insertAt t.dummies (SetTable.below t.dummies j) j).size = _
    have hb : ∀ (f lo hi : Nat), hi ≤ t.dummies.size → lo ≤ t.dummies.size → SetTable.below.go t.dummies j f lo hi ≤ t.dummies.size := fun f => by
      induction f with
      | zero => intro lo hi _ h; exact h
      | succ f ih =>
        intro lo hi h1 h2
        unfold SetTable.below.go
        split
        · dsimp only
          split
          · exact ih _ _ h1 (by omega)
          · exact ih _ _ (by omega) h2
        · exact h2
    have hb' : SetTable.below t.dummies j ≤ t.dummies.size := hb _ _ _ (Nat.le_refl _) (Nat.zero_le _)
    unfold SetTable.insertAt
    simp
    omega
  rw [Bool.and_eq_true, beq_iff_eq, decide_eq_true_eq]
  unfold SetTable.fill
  rw [e.1, e.2.1, e.2.2]
  exact ⟨rfl, by simp; omega⟩

theorem W_pop1 {k : Int} (U : Turn a (setI c (fun x => decide (x = k)) 1) (setI c (fun _ => false) 0) l l') (h : ∀ t, Q (.int k t) g l') : W c A (call (.builtin "set.pop") [.ref a]) g l Q := fun s X => by
  obtain ⟨o, ho, hex, es, ep, t, hd, hel, hmem, hes, hf⟩ := (X.own _ U.mem).1
  have hT : s.TypeIs (.ref a) "set" := ⟨o, ho, hex.1⟩
  have he : ∃ e, es = #[e] := by
    rcases es with ⟨q⟩
    match q, hes with
    | [e], _ => exact ⟨e, rfl⟩
  obtain ⟨⟨eh, ev⟩, rfl⟩ := he
  have hk : ∃ tk, ev = .int k tk := by
    obtain ⟨e, h1, h2⟩ := (hmem k).mp (decide_eq_true rfl)
    rw [List.mem_singleton.mp h1] at h2
    exact Value.isInt_shape h2
  obtain ⟨tk, rfl⟩ := hk
  have hf1 : t.fits 1 = true := hf
  have hpl : t.place.size = 1 := by
    unfold SetTable.fits at hf1
    rw [Bool.and_eq_true, beq_iff_eq] at hf1
    exact hf1.1
  have hpp : t.popPlace = some 0 := by
    unfold SetTable.popPlace
    have : t.place.isEmpty = false := by simp [Array.isEmpty, hpl]
    rw [this, if_neg Bool.false_ne_true]
    dsimp only
    split
    · congr 1; omega
    · rfl
  have last : ∀ s2 : Shared, s2.heap = s.heap → s2.gens = s.gens → s2.os = s.os → wpAny c.M A.in1 (storeSet a (SetTable.eraseAt #[(eh, Value.int k tk)] 0) (t.popped 0) >>= fun _ => pure (some (Value.int k tk)))
      (fun r s3 => r = some (Value.int k tk) ∧ Post c g Q (.int k tk) s3) (fun _ _ => False) s2 := fun s2 e1 e2 e3 => by
    refine wpAny_bind (wpAny_storeSet_of (by rw [e1]; exact ho) hd (wpAny_pure ⟨rfl, ?_⟩) (by show (0 : Nat) ≤ sizeLine; exact Nat.zero_le _))
    have X2 : St c g s2 l := ⟨by rw [e1]; exact X.keep, by rw [e1]; exact X.own, X.nodup, by rw [e1]; exact X.tabs, X.base, by rw [e2]; exact X.gens, by rw [e3]; exact X.os⟩
    have hsb := Heap.SameBut.update s2.heap a (Obj.putSet (SetTable.eraseAt #[(eh, Value.int k tk)] 0) (t.popped 0))
    obtain ⟨_, hS⟩ := SetOf_store (knd := intKind c.prog c.w) (S' := fun _ => false) (es' := SetTable.eraseAt #[(eh, Value.int k tk)] 0) (t' := t.popped 0) (h := s2.heap) (by rw [e1]; exact ho) hex hd (fun e he => by simp [SetTable.eraseAt] at he) (fun k => by simp [SetTable.eraseAt]) (by show (0 : Nat) < scanBound; decide) (drop_fits hf1)
    obtain ⟨so', ho', hso'⟩ := hS.objOf
    exact Post.mk' (X2.turn (tk := s2.toks) U (Ext_of_same hsb) ⟨so', ho', hso'⟩) (h tk)
  refine wpAny_call_entry PySem.F.slot_set_pop hT PySem.F.entry_set_pop ?_ (PySem.F.args_set_pop_1 _)
  unfold Builtin.«set.pop»
  refine wpAny_bind (wpAny_of_eq (a := a) rfl ?_)
  refine wpAny_bind ?_
  unfold setPop
  refine wpAny_bind (wpAny_setState_of ho hd hf ?_)
  dsimp only
  rw [hpp]
  dsimp only
  unfold setsByText
  have go : ∀ s2 : Shared, s2.heap = s.heap → s2.gens = s.gens → s2.os = s.os → wpAny c.M A.in1 (storeSet a (SetTable.eraseAt #[(eh, Value.int k tk)] 0) (t.popped 0) >>= fun _ => pure (some (Value.int k tk)))
      (fun r s' => wpAny c.M A.in1 (match r with | some x => ret x | x => do rule "set.pop.empty"; raiseErrorWords "KeyError" "pop from an empty set") (fun fin s' => ∃ v, fin = Fin.done (Flow.ret v) ∧ Post c g Q v s') (fun _ _ => False) s') (fun _ _ => False) s2 := fun s2 e1 e2 e3 =>
    wpAny_mono (last s2 e1 e2 e3) (fun r s3 hr => by
      obtain ⟨rfl, hp⟩ := hr
      exact wpAny_pure ⟨_, rfl, hp⟩) fun _ _ x => x
  refine wpAny_bind (wpAny_bind (wpAny_askSetting (wpAny_pure ?_)))
  generalize (_ || _) = z
  cases z with
  | true =>
    rw [if_pos rfl]
    exact wpAny_bind (wpAny_choose1 (go _ rfl rfl rfl))
  | false =>
    rw [if_neg Bool.false_ne_true]
    refine wpAny_bind (wpAny_of_eq (a := ()) (by cases t with | mk a b d e f g => cases f <;> rfl) ?_)
    exact wpAny_bind (wpAny_pure (go _ rfl rfl rfl))

theorem W_Set1 {e : PySem.Expr} {k : Nat} {pos : Pos} (hc : kdsCode c.K env.code = true) (hroad : (displayRoad k [e] == .constants) = false) (hp : [e].all kdsPlain = true)
    (h : ∀ a, W c A (eval e env) g ((a, setI c (fun _ => false) 0) :: l) fun v g1 l1 => ∃ i t l2, v = .int i t ∧ l1 = (a, setI c (fun _ => false) 0) :: l2 ∧ Q (.ref a) g1 ((a, setI c (fun x => decide (x = i)) 1) :: l2)) :
    W c A (eval (.Set [e] k pos) env) g l Q := fun s X => by
  rw [arm_eval_Set]
  refine wpAny_bind (wpAny_standAt ?_)
  refine wpAny_bind (kds_main (X.base.K.keeps X.keep) hc fun b => ?_)
  rw [kds_star [e] hp, List.map_map]
  refine kds_core (ts := (evalEach [e] env).map fun t => do let v ← t; standAt pos; pure v) hroad ?_ ?_ ?_ fun led => ?_
  · refine List.findIdx?_eq_none_iff.mpr fun x hx => ?_
    obtain ⟨t, _, rfl⟩ := List.mem_map.mp hx
    rfl
  · rw [List.length_map, kds_len]; show 1 ≤ 30; decide
  · rw [List.map_map]; try rfl
  · refine kds_all pos [e] _ _ ?_
    have X1 : St c g { s with heap := s.heap.push { cls := .type "set", dict := none, data := .set #[] 0 (.fresh 0 0 led) } } ((s.heap.objs.size, setI c (fun _ => false) 0) :: l) :=
      X.grow (tk := s.toks) (new := [(s.heap.objs.size, setI c (fun _ => false) 0)]) (fun _ _ e => Heap.get?_push_of_some _ e) (fun p hp => by
        rw [List.mem_singleton.mp hp]
        exact ⟨⟨_, Heap.get?_push_size _ rfl, setObjOf_fresh led⟩, Nat.le_refl _⟩) (List.nodup_cons.mpr ⟨List.not_mem_nil, List.nodup_nil⟩)
    refine (h s.heap.objs.size).run X1 fun v g1 l1 s1 u1 S1 q => ?_
    obtain ⟨i, t, l2, rfl, rfl, hQ⟩ := q
    show wpAny c.M A (setAdd s.heap.objs.size (.int i t)) _ _ s1
    unfold setAdd
    refine wpAny_holding (wpAny_bind ((intKind c.prog c.w).pyHash (isInt_self i t) ?_))
    refine wpAny_setAddHashed_of (knd := intKind c.prog c.w) (s := { s1 with toks := s1.toks + 1 }) (isInt_self i t) rfl (S1.setAt (.head _) (by decide)) (by decide) fun h' hsb hS' => ?_
    have hS1 : h'.SetOf (intKind c.prog c.w) s.heap.objs.size (fun x => decide (x = i)) 1 := by simpa using hS'
    obtain ⟨so', ho', hso'⟩ := hS1.objOf
    have S2 := S1.turn (l' := (s.heap.objs.size, setI c (fun x => decide (x = i)) 1) :: l2) (tk := s1.toks + 1) .head (Ext_of_same hsb) ⟨so', ho', hso'⟩
    show if _ = true then _ else _
    cases (displayRoad k [e] == DisplayRoad.unsure) with
    | false => exact Post.mk u1 S2 hQ
    | true =>
      rw [if_pos rfl]
      obtain ⟨o, ho, hex, es, ep, t2, hd, hel, hmem, hes, hf⟩ := (S2.own _ (.head _)).1
      have hf' : ({ t2 with led := false } : SetTable).fits es.size = true := by cases t2; exact hf
      unfold setUnled
      refine wpAny_bind (wpAny_setState_of ho hd hf ?_)
      dsimp only
      refine wpAny_storeSet_of ho hd ?_ (by rw [hes]; decide)
      obtain ⟨_, hS⟩ := SetOf_store (knd := intKind c.prog c.w) (es' := es) (t' := { t2 with led := false }) ho hex hd hel hmem (by rw [hes]; decide) hf'
      obtain ⟨so2, ho2, hso2⟩ := hS.objOf
      rw [hes] at hso2
      exact Post.mk u1 (S2.turn (l' := (s.heap.objs.size, setI c (fun x => decide (x = i)) 1) :: l2) (tk := s1.toks + 1) .head (Ext_of_same (Heap.SameBut.update _ _ _)) ⟨so2, ho2, hso2⟩) hQ

theorem W_Dict0 {pos : Pos} (h : ∀ a, Q (.ref a) g ((a, .obj { cls := .type "dict", data := .dict #[] }) :: l)) : W c A (eval (.Dict [] [] pos) env) g l Q := fun s X =>
  wpAny_Dict_empty (Post.mk' (X.push (tk := s.toks) { cls := .type "dict", data := .dict #[] }) (h _))
end
end Mine
-- part C12
open PySem PySem.W PyProof.Rows PySem.Calls PySem.Spec
set_option Elab.async false
set_option maxRecDepth 100000
set_option linter.unusedVariables false
namespace Mine
section
variable {c : Cfg} {A : Around} {g : Heap} {l l' : Owns} {env : Env} {Q : Value → Heap → Owns → Prop}

/-- the end of an iterator of the call's own: it goes -/
theorem St.lose {s : Shared} {it : Addr} {x : Own} (S : St c g s ((it, x) :: l)) {h' : Heap} {tk : Nat} (he : ∀ b o, b ≠ it → s.heap.get? b = some o → h'.get? b = some o) : St c g { s with heap := h', toks := tk } l := by
  have S' := S.sub (l' := l) (List.sublist_cons_self _ _)
  have hn := S.nodup
  rw [List.map_cons, List.nodup_cons] at hn
  refine ⟨fun b o e => he b o (fun q => ?_) (S'.keep b o e), fun p hp => ⟨(S'.own p hp).1.to fun o e => he _ o (fun q => hn.1 (by rw [← q]; exact List.mem_map_of_mem (f := (·.1)) hp)) e, (S'.own p hp).2⟩, S'.nodup, S'.tabs.to fun t ht o e => he _ o (fun q => (S.own _ (.head _)).2.2 t ht q.symm) e, S'.base, S'.gens, S'.os⟩
  have := (S.own _ (.head _)).2.1
  rw [q] at e
  rw [e] at this; cases this

abbrev revI (a : Addr) (i : Int) : Own := .like fun o => o.cls = .type "list_reverseiterator" ∧ o.data = .fields #[.ref a, rawInt i]
theorem W_reversed {a : Addr} {vs : List Value} (hl : ListAt g l a vs) (h : ∀ it, Q (.ref it) g ((it, revI a ((vs.length : Int) - 1)) :: l)) : W c A (call (.type "reversed") [.ref a]) g l Q := fun s S => by
  refine call_reversed_list (hl.is S) ?_
  refine Post.mk' (S.grow (tk := s.toks) (new := [(s.heap.objs.size, revI a ((vs.length : Int) - 1))]) (fun _ _ e => Heap.get?_push_of_some _ e) (fun p hp => ?_) (List.nodup_cons.mpr ⟨List.not_mem_nil, List.nodup_nil⟩)) (h _)
  rw [List.mem_singleton.mp hp]
  refine ⟨⟨_, Heap.get?_push_size _ rfl, rfl, ?_⟩, Nat.le_refl _⟩
  show (revObj a _).data = _
  rw [List.size_toArray]; rfl
theorem W_iterRev {it a : Addr} {i : Int} (hm : (it, revI a i) ∈ l) (h : Q (.ref it) g l) : W c A (pyIter (.ref it)) g l Q := fun s S => wpAny_pyIter_revIter (S.own _ hm).1 (Post.mk' S h)
theorem feeds_rev (hh : A.handled = none) (it a : Addr) (vs : List Value) (hv : ∀ v ∈ vs, ∀ x, v ≠ .ref x) : Feeds c A it (fun i => revI a ((vs.length : Int) - 1 - i)) vs.length (fun i v => vs[vs.length - 1 - i]? = some v) (fun g l => ListAt g l a vs) where
  item := fun i g l hi hl s S => by
    have hit : s.heap.IsRevIter it a ((vs.length : Int) - 1 - i) := (S.own _ (.head _)).1
    have e : (vs.length : Int) - 1 - (i : Int) = ((vs.length - 1 - i : Nat) : Int) := by omega
    rw [e] at hit
    have hx : vs[vs.length - 1 - i]? = some (vs[vs.length - 1 - i]'(by omega)) := List.getElem?_eq_getElem (by omega)
    refine wpAny_pyNext_rev_item hit (hl.tail.is S) (x := vs[vs.length - 1 - i]'(by omega)) (by rw [List.getElem?_toArray]; exact hx) fun h' hit' hs => ?_
    have e2 : ((vs.length - 1 - i : Nat) : Int) - 1 = (vs.length : Int) - 1 - ((i + 1 : Nat) : Int) := by omega
    rw [e2] at hit'
    exact Post.mk' (S.turn (x' := revI a ((vs.length : Int) - 1 - ((i + 1 : Nat) : Int))) (tk := s.toks) .head (Ext_of_same hs) hit') ⟨_, rfl, hx, rfl, rfl⟩
  done := fun g l hl s S => by
    have hit : s.heap.IsRevIter it a ((vs.length : Int) - 1 - (vs.length : Nat)) := (S.own _ (.head _)).1
    rw [show (vs.length : Int) - 1 - (vs.length : Nat) = -1 by omega] at hit
    exact wpAny_pyNext_rev_end hh hit fun h' he => Post.mk' (S.lose (tk := s.toks) he) ⟨rfl, rfl, rfl⟩
  go := fun i g l target v hV s S => by
    have nothing : wpAny c.M A (pure () : Sem Unit) (Post c g fun _ g' l' => g' = g ∧ l' = (it, revI a ((vs.length : Int) - 1 - ((i + 1 : Nat) : Int))) :: l) (fun _ _ => False) s := wpAny_pure (Post.mk' S ⟨rfl, rfl⟩)
    have hm : v ∈ vs := List.mem_of_getElem? hV
    have look : letOwnedTupleGo (.Tuple [] 0 default) (.ref it) v = pure () := by
      cases v with
      | ref T => exact (hv _ hm T rfl).elim
      | _ => rfl
    have look' : wpAny c.M A (letOwnedTupleGo (.Tuple [] 0 default) (.ref it) v) (Post c g fun _ g' l' => g' = g ∧ l' = (it, revI a ((vs.length : Int) - 1 - ((i + 1 : Nat) : Int))) :: l) (fun _ _ => False) s := by rw [look]; exact nothing
    cases target <;> first | exact nothing | exact look'
  self := fun i g l hl s S => wpAny_pyIter_revIter (S.own _ (.head _)).1 (Post.mk' S ⟨rfl, rfl, rfl⟩)

abbrev rngObj (x left : Int) : Obj := { cls := .type "range_iterator", dict := none, data := .fields #[rawInt x, rawInt left, rawInt 1], slots := #[] }
/-- range(n), taken for its iterator -/
theorem W_range {n : Nat} {t : Tok} (h : ∀ a t1 t2 g', Sub g g' → IsRange g' a 0 n 1 t1 t t2 → Q (.ref a) g' l) : W c A (call (.type "range") [.int (n : Int) t]) g l Q := fun s S => by
  refine call_range_1 ?_
  have S1 := S.push (tk := s.toks + 1 + 1) { cls := .type "range", data := .fields #[.int 0 s.toks, .int (n : Int) t, .int 1 (s.toks + 1)] }
  obtain ⟨g', u, S', e⟩ := S1.give .head
  exact Post.mk u S' (h _ _ _ g' u e)
theorem W_iterRange {n : Nat} {a : Addr} {t1 t t2 : Tok} (hr : IsRange g a 0 n 1 t1 t t2) (hn : n < 2 ^ 31) (h : ∀ it, Q (.ref it) g ((it, .obj (rngObj 0 n)) :: l)) : W c A (pyIter (.ref a)) g l Q := fun s S => by
  have e : Builtin.Range.rangeSize 0 n 1 = n := by
    unfold Builtin.Range.rangeSize
    rw [if_pos (by decide)]
    split <;> omega
  refine wpAny_pyIter_range (S.keep _ _ hr) ?_ ?_
  · exact small_one (by decide) (by decide) (by omega) (by omega)
  · rw [e]
    exact Post.mk' (S.push (tk := s.toks) (rngObj 0 n)) (h _)
theorem feeds_range (hh : A.handled = none) (it : Addr) (n : Nat) : Feeds c A it (fun i => .obj (rngObj i ((n : Int) - i))) n (fun i v => ∃ t, v = .int (i : Int) t) (fun g l => True) where
  item := fun i g l hi hl s S => by
    have hit : IsRangeIter s.heap it i ((n : Int) - i) 1 := (S.own _ (.head _)).1
    refine wpAny_pyNext_range_item hit (by omega) fun h' hit' hs => ?_
    have hit2 : IsRangeIter h' it ((i + 1 : Nat) : Int) ((n : Int) - ((i + 1 : Nat) : Int)) 1 := by
      rw [show ((i + 1 : Nat) : Int) = (i : Int) + 1 by omega, show (n : Int) - ((i : Int) + 1) = (n : Int) - i - 1 by omega]
      exact hit'
    exact Post.mk' (S.turn (x' := .obj (rngObj ((i + 1 : Nat) : Int) ((n : Int) - ((i + 1 : Nat) : Int)))) (tk := s.toks + 1) .head (Ext_of_same hs) hit2) ⟨_, rfl, ⟨_, rfl⟩, rfl, rfl⟩
  done := fun g l hl s S => by
    have hit : IsRangeIter s.heap it n ((n : Int) - n) 1 := (S.own _ (.head _)).1
    exact wpAny_pyNext_range_end hh hit (by omega) fun h' he => Post.mk' (S.lose (tk := s.toks) he) ⟨rfl, rfl, rfl⟩
  go := fun i g l target v hV s S => by
    obtain ⟨t, rfl⟩ := hV
    have nothing : wpAny c.M A (pure () : Sem Unit) (Post c g fun _ g' l' => g' = g ∧ l' = (it, Own.obj (rngObj ((i + 1 : Nat) : Int) ((n : Int) - ((i + 1 : Nat) : Int)))) :: l) (fun _ _ => False) s := wpAny_pure (Post.mk' S ⟨rfl, rfl⟩)
    cases target <;> exact nothing
  self := fun i g l hl s S => by
    have hit : IsRangeIter s.heap it i ((n : Int) - i) 1 := (S.own _ (.head _)).1
    exact wpAny_pyIter_rangeiter hit (Post.mk' S ⟨rfl, rfl, rfl⟩)

theorem W_mReverse {a : Addr} {vs : List Value} {pl : Sem Bool} {Q : Value × List Value → Heap → Owns → Prop} (hm : (a, Own.list vs) ∈ l) (h : Q (.builtin "list.reverse", [.ref a]) g l) : W c A (getMethod (.ref a) "reverse" pl) g l Q := fun s S => by
  obtain ⟨n, e⟩ := (S.own _ hm).1
  have hl := Heap.PlainList.isList (S.own _ hm).1
  exact getMethod_list_of PySem.F.slot_list_reverse PySem.F.type_list_reverse hl ⟨_, e, rfl⟩ (Post.mk' S h)
theorem W_reverse {a : Addr} {vs : List Value} (U : Turn a (.list vs) (.list vs.reverse) l l') (hz : vs.length ≤ sizeLine) (h : Q .none g l') : W c A (call (.builtin "list.reverse") [.ref a]) g l Q := fun s S => by
  obtain ⟨n, e⟩ := (S.own _ U.mem).1
  refine call_meets PySem.F.slot_list_reverse ⟨_, e, rfl⟩ PySem.F.entry_list_reverse (PySem.F.args_list_reverse_1 _) (AutoSeq1.list_reverse_list_0 a vs.toArray n (by rw [List.size_toArray]; exact hz)) ⟨e, ?_⟩
  refine Post.mk' (S.turn (tk := s.toks) U (Ext_of_same (Heap.SameBut.update _ _ _)) ⟨n, ?_⟩) h
  rw [Heap.get?_update_self _ e rfl]
  simp [Obj.mapSeq]
theorem W_cellG {x : Str} {pos : Pos} {v : Value} {a : Addr} (hm : g.IsCell a (some v)) (h : Q v g l) (hc : env.cells.lookup x = some a := by rfl) (hk : env.scope.kind = .function := by rfl) (hl : env.kindOf x = some .cell := by rfl)
    (hd : (x == ("__debug__" : Str)) = false := by decide) : W c A (eval (.Name x pos) env) g l Q := fun _ S => wpAny_Name (wpAny_loadName_cell hk hl hc (hm.keeps S.keep) (Post.mk' S h)) hd
end
end Mine
-- part D1
open PySem PySem.W PyProof.Rows PySem.Calls PySem.Spec
set_option Elab.async false
namespace Mine

/-- the value of a row of digits of n bits, the low one first -/
def digVal (n : Nat) : List Int → Int
  | [] => 0
  | d :: r => d + 2 ^ n * digVal n r
def digs (n : Nat) : Nat → Int → List Int
  | 0, _ => []
  | k + 1, x => x % 2 ^ n :: digs n k (x / 2 ^ n)

theorem pow_pos' (k : Nat) : (0 : Int) < 2 ^ k := Int.pow_pos (by decide)
theorem digs_length (n : Nat) : ∀ (k : Nat) (x : Int), (digs n k x).length = k
  | 0, _ => rfl
  | k + 1, x => by rw [digs, List.length_cons, digs_length]
theorem digVal_append (n : Nat) : ∀ (a b : List Int), digVal n (a ++ b) = digVal n a + 2 ^ (n * a.length) * digVal n b
  | [], b => by simp [digVal]
  | d :: r, b => by
    rw [List.cons_append, digVal, digVal_append n r b, digVal, List.length_cons, Nat.mul_add, Nat.mul_one, Int.pow_add, Int.mul_add]
    rw [Int.add_assoc, Int.mul_comm (2 ^ (n * r.length)) (2 ^ n), Int.mul_assoc]
def Small (n : Nat) (ds : List Int) : Prop := ∀ d ∈ ds, 0 ≤ d ∧ d < 2 ^ n
theorem digVal_bound {n : Nat} : ∀ {ds : List Int}, Small n ds → 0 ≤ digVal n ds ∧ digVal n ds < 2 ^ (n * ds.length)
  | [], _ => by simp [digVal]
  | d :: r, h => by
    have ih := digVal_bound (ds := r) fun x hx => h x (.tail _ hx)
    have hd := h d (.head _)
    have hp := pow_pos' n
    have hm : 0 ≤ 2 ^ n * digVal n r := Int.mul_nonneg (Int.le_of_lt hp) ih.1
    have hu : 2 ^ n * digVal n r ≤ 2 ^ n * (2 ^ (n * r.length) - 1) := Int.mul_le_mul_of_nonneg_left (by omega) (Int.le_of_lt hp)
    rw [Int.mul_sub, Int.mul_one] at hu
    rw [digVal, List.length_cons, Nat.mul_add, Nat.mul_one, Int.pow_add, Int.mul_comm (2 ^ (n * r.length))]
    omega
theorem digs_small (n : Nat) : ∀ (k : Nat) (x : Int), Small n (digs n k x)
  | 0, _ => fun d hd => by cases hd
  | k + 1, x => fun d hd => by
    rcases List.mem_cons.mp hd with rfl | hd
    · exact ⟨Int.emod_nonneg _ (Int.ne_of_gt (pow_pos' n)), Int.emod_lt_of_pos _ (pow_pos' n)⟩
    · exact digs_small n k _ d hd
theorem emod_uniq {x q m r : Int} (e : x = q * m + r) (h0 : 0 ≤ r) (h1 : r < m) : x % m = r := by
  subst e
  rw [Int.add_comm, Int.add_mul_emod_self_right]
  exact Int.emod_eq_of_lt h0 h1
theorem ediv_uniq {x q m r : Int} (e : x = q * m + r) (h0 : 0 ≤ r) (h1 : r < m) : x / m = q := by
  subst e
  rw [Int.add_comm, Int.add_mul_ediv_right _ _ (by omega), Int.ediv_eq_zero_of_lt h0 h1, Int.zero_add]
theorem digVal_digs (n : Nat) : ∀ (k : Nat) (x : Int), digVal n (digs n k x) = x % 2 ^ (n * k)
  | 0, x => by simp [digVal, digs, Int.emod_one]
  | k + 1, x => by
    have h1 := Int.emod_add_mul_ediv x (2 ^ n)
    have h2 := Int.emod_add_mul_ediv (x / 2 ^ n) (2 ^ (n * k))
    have hb := digVal_bound (digs_small n (k + 1) x)
    rw [digs_length] at hb
    rw [digs, digVal, digVal_digs n k] at hb ⊢
    refine (emod_uniq (q := x / 2 ^ n / 2 ^ (n * k)) ?_ hb.1 hb.2).symm
    rw [Nat.mul_add, Nat.mul_one, Int.pow_add, ← Int.mul_assoc, Int.mul_comm _ (2 ^ n), Int.mul_comm (x / 2 ^ n / 2 ^ (n * k))]
    generalize hA : (2 : Int) ^ n = P at *
    generalize hB : (2 : Int) ^ (n * k) = R at *
    generalize hC : x / P = y at *
    generalize hD : y / R = z at *
    generalize hE : y % R = w at *
    generalize hF : x % P = v at *
    rw [← h1, ← h2, Int.mul_add]
    omega
theorem digs_split (n b : Nat) : ∀ (a : Nat) (x : Int), digs n (a + b) x = digs n a x ++ digs n b (x / 2 ^ (n * a))
  | 0, x => by simp [digs]
  | a + 1, x => by
    rw [Nat.add_right_comm, digs, digs_split n b a, digs, List.cons_append, Int.ediv_ediv_of_nonneg (Int.le_of_lt (pow_pos' n)), ← Int.pow_add, Nat.mul_add, Nat.mul_one, Nat.add_comm n]
theorem digs_mod (n : Nat) : ∀ (a : Nat) (x : Int), digs n a (x % 2 ^ (n * a)) = digs n a x
  | 0, _ => rfl
  | a + 1, x => by
    have hp := pow_pos' n
    have hq := pow_pos' (n * a)
    have e : (2 : Int) ^ (n * (a + 1)) = 2 ^ n * 2 ^ (n * a) := by rw [Nat.mul_add, Nat.mul_one, Nat.add_comm, Int.pow_add]
    have h0 := Int.emod_nonneg x (Int.ne_of_gt (pow_pos' (n * (a + 1))))
    have h1 := Int.emod_lt_of_pos x (pow_pos' (n * (a + 1)))
    have hx := Int.emod_add_mul_ediv x (2 ^ (n * (a + 1)))
    have em : x % 2 ^ (n * (a + 1)) % 2 ^ n = x % 2 ^ n := Int.emod_emod_of_dvd _ ⟨2 ^ (n * a), e⟩
    have hr := Int.emod_add_mul_ediv (x % 2 ^ (n * (a + 1))) (2 ^ n)
    have hr1 := Int.emod_nonneg (x % 2 ^ (n * (a + 1))) (Int.ne_of_gt hp)
    have hr2 := Int.emod_lt_of_pos (x % 2 ^ (n * (a + 1))) hp
    rw [em] at hr hr1 hr2
    have ed : x / 2 ^ n = x / 2 ^ (n * (a + 1)) * 2 ^ (n * a) + x % 2 ^ (n * (a + 1)) / 2 ^ n := by
      refine ediv_uniq (r := x % 2 ^ n) ?_ hr1 hr2
      rw [Int.add_mul, Int.mul_assoc, Int.mul_comm (2 ^ (n * a)) (2 ^ n), ← e, Int.mul_comm _ (2 ^ (n * (a + 1))), Int.mul_comm _ (2 ^ n)]
      omega
    have m1 : x % 2 ^ (n * (a + 1)) / 2 ^ n = (x / 2 ^ n) % 2 ^ (n * a) := by
      refine (emod_uniq (q := x / 2 ^ (n * (a + 1))) ed (Int.ediv_nonneg h0 (Int.le_of_lt hp)) ?_).symm
      refine Int.ediv_lt_of_lt_mul hp ?_
      rw [Int.mul_comm, ← e]; exact h1
    rw [digs, digs, em, m1, digs_mod n a]

theorem and_high (x s : Nat) : x &&& (x / 2 ^ s * 2 ^ s) = x / 2 ^ s * 2 ^ s := by
  refine Nat.eq_of_testBit_eq fun i => ?_
  rw [Nat.testBit_and, ← Nat.shiftRight_eq_div_pow, ← Nat.shiftLeft_eq, Nat.testBit_shiftLeft, Nat.testBit_shiftRight]
  by_cases h : s ≤ i
  · rw [decide_eq_true h, Nat.add_sub_cancel' h]; simp
  · simp [h]
theorem xor_low (x : Int) (s : Nat) (hx : 0 ≤ x) : Builtin.bitXor x (x / 2 ^ s * 2 ^ s) = x % 2 ^ s := by
  rw [bitXor_and]
  have h0 : 0 ≤ x / 2 ^ s * 2 ^ s := Int.mul_nonneg (Int.ediv_nonneg hx (Int.le_of_lt (pow_pos' s))) (Int.le_of_lt (pow_pos' s))
  have : Builtin.bitAnd x (x / 2 ^ s * 2 ^ s) = x / 2 ^ s * 2 ^ s := by
    unfold Builtin.bitAnd
    rw [decide_eq_true hx, decide_eq_true h0]
    show ((x.toNat &&& (x / 2 ^ s * 2 ^ s).toNat : Nat) : Int) = _
    obtain ⟨m, rfl⟩ := Int.eq_ofNat_of_zero_le hx
    have e : ((m : Int) / 2 ^ s * 2 ^ s) = ((m / 2 ^ s * 2 ^ s : Nat) : Int) := by norm_cast
    rw [e, Int.toNat_natCast, Int.toNat_natCast, and_high]
  rw [this]
  have := Int.emod_add_mul_ediv x (2 ^ s)
  rw [Int.mul_comm] at this
  omega

theorem ints_at {vs : List Value} {ds : List Int} (h : IntsAre vs ds) : ∀ {i : Nat} (hi : i < ds.length), ∃ t, vs[i]? = some (.int ds[i] t) := by
  induction h with
  | nil => intro i hi; exact absurd hi (Nat.not_lt_zero _)
  | cons n t _ ih =>
    intro i hi
    cases i with
    | zero => exact ⟨t, rfl⟩
    | succ i =>
      obtain ⟨t', e⟩ := ih (i := i) (by simpa using hi)
      exact ⟨t', by simpa using e⟩
theorem ints_len {vs : List Value} {ds : List Int} (h : IntsAre vs ds) : vs.length = ds.length := by
  induction h with
  | nil => rfl
  | cons n t _ ih => rw [List.length_cons, List.length_cons, ih]
theorem ints_noref {vs : List Value} {ds : List Int} (h : IntsAre vs ds) : ∀ v ∈ vs, ∀ x, v ≠ .ref x := by
  induction h with
  | nil => intro v hv; cases hv
  | cons n t _ ih =>
    intro v hv x
    rcases List.mem_cons.mp hv with rfl | hv
    · intro e; cases e
    · exact ih v hv x
theorem ints_append {vs ws : List Value} {ds es : List Int} (h : IntsAre vs ds) (h' : IntsAre ws es) : IntsAre (vs ++ ws) (ds ++ es) := by
  induction h with
  | nil => exact h'
  | cons n t _ ih => exact .cons n t ih
theorem ints_reverse {vs : List Value} {ds : List Int} (h : IntsAre vs ds) : IntsAre vs.reverse ds.reverse := by
  induction h with
  | nil => exact .nil
  | cons n t _ ih => rw [List.reverse_cons, List.reverse_cons]; exact ints_append ih (.cons n t .nil)
theorem ints_of {vs : List Value} {ds : List Int} (hl : vs.length = ds.length) (h : ∀ i (hi : i < ds.length), ∃ t, vs[i]? = some (.int ds[i] t)) : IntsAre vs ds := by
  induction ds generalizing vs with
  | nil => cases vs with
    | nil => exact .nil
    | cons => cases hl
  | cons n r ih => cases vs with
    | nil => cases hl
    | cons v vs =>
      obtain ⟨t, e⟩ := h 0 (Nat.zero_lt_succ _)
      cases e
      refine .cons n t (ih (by simpa using hl) fun i hi => ?_)
      obtain ⟨t', e'⟩ := h (i + 1) (by simpa using hi)
      exact ⟨t', by simpa using e'⟩

theorem dig_one (n : Nat) {ds : List Int} {lo hi : Int} (h0 : 0 ≤ lo) (e : lo + 1 = hi) (h2 : hi ≤ ds.length) : digVal n ((ds.drop lo.toNat).take (hi - lo).toNat) = ds[lo.toNat]'(by omega) := by
  have : (hi - lo).toNat = 1 := by omega
  rw [this, List.drop_eq_getElem_cons (by omega), List.take_succ_cons, List.take_zero]
  simp [digVal]
theorem dig_join (n : Nat) {ds : List Int} {lo mid hi : Int} (h0 : 0 ≤ lo) (h1 : lo ≤ mid) (h2 : mid ≤ hi) (h3 : hi ≤ ds.length) :
    digVal n ((ds.drop mid.toNat).take (hi - mid).toNat) * 2 ^ ((mid - lo) * n).toNat + digVal n ((ds.drop lo.toNat).take (mid - lo).toNat) = digVal n ((ds.drop lo.toNat).take (hi - lo).toNat) := by
  have e1 : (hi - lo).toNat = (mid - lo).toNat + (hi - mid).toNat := by omega
  have e2 : mid.toNat = lo.toNat + (mid - lo).toNat := by omega
  rw [e1, List.take_add, List.drop_drop, ← e2, digVal_append, List.length_take, List.length_drop, Nat.min_eq_left (by omega), Int.add_comm, Int.mul_comm (2 ^ _)]
  congr 2
  congr 1
  rw [Int.toNat_mul (by omega) (by omega), Nat.mul_comm]; rfl
theorem small_part {n : Nat} {ds : List Int} (h : Small n ds) (a b : Nat) : Small n ((ds.drop a).take b) := fun d hd => h d (List.mem_of_mem_drop (List.mem_of_mem_take hd))
theorem small_bits {n : Nat} {ds : List Int} (h : Small n ds) (k : Nat) (hk : n * ds.length ≤ k) : Builtin.Int.intBits (digVal n ds) ≤ k := by
  have hb := digVal_bound h
  refine Nat.le_trans (intBits_le_iff.mpr ?_) hk
  have e : ((2 ^ (n * ds.length) : Nat) : Int) = 2 ^ (n * ds.length) := by norm_cast
  omega
theorem fdiv_half (x : Int) : x.fdiv (2 ^ Int.toNat 1) = x / 2 := by
  rw [Int.fdiv_eq_ediv_of_nonneg _ (by decide)]; rfl

structure Filled (vs vs' : List Value) (lo : Nat) (ds : List Int) : Prop where
  len : vs'.length = vs.length
  old : ∀ i, (i < lo ∨ lo + ds.length ≤ i) → vs'[i]? = vs[i]?
  new : ∀ i (h : i < ds.length), ∃ t, vs'[lo + i]? = some (.int ds[i] t)
theorem Filled.one {vs : List Value} {lo : Nat} {x : Int} {t : Tok} (h : lo < vs.length) : Filled vs (vs.set lo (.int x t)) lo [x] where
  len := List.length_set
  old := fun i hi => List.getElem?_set_ne (by simp at hi; omega)
  new := fun i hi => by
    have : i = 0 := by simpa using hi
    subst this
    exact ⟨t, by simp [h]⟩
theorem Filled.trans {vs v1 v2 : List Value} {lo : Nat} {d1 d2 : List Int} (h1 : Filled vs v1 lo d1) (h2 : Filled v1 v2 (lo + d1.length) d2) : Filled vs v2 lo (d1 ++ d2) where
  len := h2.len.trans h1.len
  old := fun i hi => by
    rw [List.length_append] at hi
    rw [h2.old i (by omega), h1.old i (by omega)]
  new := fun i hi => by
    rw [List.length_append] at hi
    by_cases h : i < d1.length
    · obtain ⟨t, e⟩ := h1.new i h
      refine ⟨t, ?_⟩
      rw [h2.old (lo + i) (by omega), e, List.getElem_append_left h]
    · obtain ⟨t, e⟩ := h2.new (i - d1.length) (by omega)
      refine ⟨t, ?_⟩
      rw [List.getElem_append_right (by omega), ← e]
      congr 1; omega
theorem Filled.all {vs vs' : List Value} {ds : List Int} (h : Filled vs vs' 0 ds) (e : ds.length = vs.length) : IntsAre vs' ds :=
  ints_of (h.len.trans e.symm) fun i hi => by
    obtain ⟨t, q⟩ := h.new i hi
    exact ⟨t, by rw [← q, Nat.zero_add]⟩
theorem digs_two (n a b : Nat) (x : Int) : digs n a (x % 2 ^ (n * a)) ++ digs n b (x / 2 ^ (n * a)) = digs n (a + b) x := by rw [digs_mod, ← digs_split]
theorem digs_1 (n : Nat) {x : Int} (h0 : 0 ≤ x) (h1 : x < 2 ^ n) : digs n 1 x = [x] := by rw [digs, digs, Int.emod_eq_of_lt h0 h1]

section
variable {c : Cfg} {A : Around} {g : Heap} {l l' : Owns} {α : Type} {t : Sem α} {Q : α → Heap → Owns → Prop}
theorem W.toSeq {a : Addr} {vs : List Value} (U : Turn a (.list vs) (.seq vs) l l') (h : W c A t g l' Q) : W c A t g l Q := fun s S => by
  have S' := S.turn (tk := s.toks) (h' := s.heap) U (fun _ _ _ e => e) (Heap.PlainList.isList (S.own _ U.mem).1)
  exact h s S'
end

section
variable {c : Cfg} {A : Around} {g : Heap} {l l' : Owns} {env : Env}
theorem W_pair {x y : Str} {px py : Pos} {k : Nat} {pos : Pos} {a : Addr} {v w : Value} {Q : Unit → Heap → Owns → Prop} (hh : A.handled = none) (ht : g.get? a = some (tupObj [v, w]))
    (h : W c A (storeName env x v) g l fun _ g1 l1 => W c A (storeName env y w) g1 l1 fun _ g2 l2 => Q () g2 l2) : W c A (assign (.Tuple [.Name x px, .Name y py] k pos) env (.ref a)) g l Q := by
  refine W_unpack hh ht ?_ rfl rfl
  show W c A (assignInOrder [assign (.Name x px) env, assign (.Name y py) env] [v, w]) g l Q
  refine W_order (W_assignName (W.mono h fun _ g1 l1 _ h1 => ?_))
  exact W_order (W_assignName (W.mono h1 fun _ g2 l2 _ h2 => W_order0 h2))
end

/-- one step of the long division -/
theorem long_step {n : Nat} {b hi r d : Int} {qs : List Int} (hb : 0 < b) (hd : 0 ≤ d ∧ d < 2 ^ n) (hr : r = hi % b) (hq : digVal n qs.reverse = hi / b) :
    (r * 2 ^ n + d) % b = (d + 2 ^ n * hi) % b ∧ digVal n (qs ++ [(r * 2 ^ n + d) / b]).reverse = (d + 2 ^ n * hi) / b ∧ 0 ≤ (r * 2 ^ n + d) / b ∧ (r * 2 ^ n + d) / b < 2 ^ n := by
  have hP := pow_pos' n
  have h1 := Int.emod_nonneg hi (Int.ne_of_gt hb)
  have h2 := Int.emod_lt_of_pos hi hb
  have h3 := Int.emod_add_mul_ediv hi b
  have hr0 : 0 ≤ r * 2 ^ n := Int.mul_nonneg (by omega) (Int.le_of_lt hP)
  have hr1 : r * 2 ^ n ≤ (b - 1) * 2 ^ n := Int.mul_le_mul_of_nonneg_right (by omega) (Int.le_of_lt hP)
  rw [Int.sub_mul, Int.one_mul] at hr1
  have h4 := Int.emod_add_mul_ediv (r * 2 ^ n + d) b
  have h5 := Int.emod_nonneg (r * 2 ^ n + d) (Int.ne_of_gt hb)
  have h6 := Int.emod_lt_of_pos (r * 2 ^ n + d) hb
  have e : d + 2 ^ n * hi = ((r * 2 ^ n + d) / b + 2 ^ n * (hi / b)) * b + (r * 2 ^ n + d) % b := by
    have : 2 ^ n * hi = 2 ^ n * r + 2 ^ n * (hi / b) * b := by
      rw [Int.mul_assoc, ← Int.mul_add, hr]
      congr 1
      rw [Int.mul_comm (hi / b)]; exact h3.symm
    rw [Int.add_mul, this, Int.mul_comm ((r * 2 ^ n + d) / b) b, Int.mul_comm (2 ^ n) r]
    omega
  refine ⟨(emod_uniq e h5 h6).symm, ?_, Int.ediv_nonneg (by omega) (by omega), Int.ediv_lt_of_lt_mul hb (by have := Int.mul_comm b (2 ^ n); omega)⟩
  rw [List.reverse_append, List.reverse_singleton, List.singleton_append, digVal, hq, ediv_uniq e h5 h6]
end Mine
-- part D2
open PySem PySem.W PyProof.Rows PySem.Calls PySem.Spec
set_option Elab.async false
set_option linter.unusedVariables false
namespace Mine

abbrev sOf (l : List Nat) : Str := ⟨l.toArray⟩
theorem sOf_self (x : Str) : sOf x.cps.toList = x := by cases x; rfl

structure Num (x : Str) (n : Int) : Prop where
  reads : PySem.intText? x = some n
  one : 1 ≤ x.length
  len : x.length ≤ 640
  dig : ∀ c ∈ x.cps.toList, 48 ≤ c ∧ c ≤ 57
theorem num_of {n : Int} (h0 : 0 ≤ n) (h1 : n < 10 ^ 10) : Num (Str.ofString (toString n)) n where
  reads := KIN.num_reads h0 h1
  one := by
    obtain ⟨m, rfl⟩ := Int.eq_ofNat_of_zero_le h0
    show 1 ≤ (Str.ofString (toString ((m : Nat) : Int))).cps.size
    rw [← Array.length_toList, KIN.signs_num, List.length_map]
    exact toDigits_len_ge 10 m
  len := Nat.le_trans (KT.len_num h0 h1) (by decide)
  dig := by
    obtain ⟨m, rfl⟩ := Int.eq_ofNat_of_zero_le h0
    intro c hc
    rw [KIN.signs_num] at hc
    obtain ⟨ch, hch, e⟩ := List.mem_map.mp hc
    have r := digit_range (Nat.isDigit_of_mem_toDigits (by decide) (by decide) hch)
    rw [← e]
    exact r
theorem Num.rstrip {x : Str} {n : Int} (h : Num x n) : Txt.rstrip x = x := by
  obtain ⟨hi, h1, h2, h3, h4⟩ := rstrip_cut (x := x) fun c hc => by have := h.dig c hc; omega
  have e : hi = x.length := by
    rcases Nat.lt_or_ge hi x.length with q | q
    · have := h3 hi (Nat.le_refl _) q
      have hm : x.cps.getD hi 0 ∈ x.cps.toList := by
        have q' : hi < x.cps.size := q
        rw [Array.getD, dif_pos q']
        exact Array.mem_toList_iff.mpr (Array.getElem_mem _)
      have hd := h.dig _ hm
      generalize x.cps.getD hi 0 = c at *
      have : ∀ c, 48 ≤ c → c ≤ 57 → spS ⟨#[c]⟩ = false := by
        intro c a b
        have : c = 48 ∨ c = 49 ∨ c = 50 ∨ c = 51 ∨ c = 52 ∨ c = 53 ∨ c = 54 ∨ c = 55 ∨ c = 56 ∨ c = 57 := by omega
        rcases this with rfl | rfl | rfl | rfl | rfl | rfl | rfl | rfl | rfl | rfl <;> decide
      rw [this c hd.1 hd.2] at *
      contradiction
    · omega
  rw [h2, e]
  show Str.mk (x.cps.extract 0 x.cps.size) = x
  rw [Array.extract_size]
theorem occ_none' {x : Str} {c : Nat} (h : c ∉ x.cps.toList) : (Builtin.Str.occurrences x ⟨#[c]⟩ 0 x.length (x.length + 1)).isEmpty = true := by
  rw [List.isEmpty_iff, List.eq_nil_iff_forall_not_mem]
  intro i hi
  obtain ⟨h1, h2⟩ := StrLaws.occ_spec x ⟨#[c]⟩ 0 x.length (x.length + 1) i hi
  unfold Builtin.Str.subAt at h2
  have h3 := eq_of_beq h2
  have h1' : i + 1 ≤ x.cps.size := h1
  have : (x.cps.extract i (i + 1))[0]? = some c := by
    have e : x.cps.extract i (i + (Str.mk #[c]).length) = x.cps.extract i (i + 1) := rfl
    rw [← e, h3]; rfl
  rw [Array.getElem?_extract] at this
  split at this
  · exact h (Array.mem_toList_iff.mpr (Array.mem_of_getElem? this))
  · cases this
theorem Num.occ {x : Str} {n : Int} (h : Num x n) : (Builtin.Str.occurrences x (Str.ofString "_") 0 x.length (x.length + 1)).isEmpty = true :=
  occ_none' (c := 95) fun hc => by have := h.dig _ hc; omega

theorem toList_len (x : Str) : x.cps.toList.length = x.length := Array.length_toList
theorem slice_all (x : Str) : Txt.slice x (some 0) (some (x.length : Int)) = x := by
  rw [eq_of_beq (slice_closesL (x := x) (i := 0) (j := x.length) (by omega) (by omega) (by omega))]
  show sOf ((x.cps.toList.drop 0).take _) = x
  rw [List.drop_zero, List.take_of_length_le (by rw [toList_len]; omega), sOf_self]
theorem slice_upto {x : Str} {k : Int} (h0 : 0 ≤ k) (h1 : k ≤ x.length) : Txt.slice x none (some k) = sOf (x.cps.toList.take k.toNat) := by
  rw [eq_of_beq (slice_closes_toL h0 h1), Int.sub_zero]
  rfl
theorem slice_from {x : Str} {k : Int} (h0 : 0 ≤ k) (h1 : k ≤ x.length) : Txt.slice x (some k) none = sOf (x.cps.toList.drop k.toNat) := by
  rw [slice_from_eq h0 h1 rfl]
  show sOf _ = _
  congr 1
  exact List.take_of_length_le (by rw [List.length_drop]; have : x.cps.toList.length = x.length := Array.length_toList; omega)

section
variable {c : Cfg} {A : Around} {g : Heap} {l l' : Owns} {env : Env} {x : Str} {t : Tok} {Q : Value → Heap → Owns → Prop}
theorem W_lenStr (hz : x.length < 2 ^ 62) (h : ∀ k, Q (.int x.length k) g l) : W c A (call (.builtin "len") [.str x t]) g l Q := fun s S =>
  P.len_str (by omega) (Post.mk' S.toks (h _))
end
end Mine
-- part D3
open PySem PySem.W PyProof.Rows PySem.Calls PySem.Spec
set_option Elab.async false
set_option linter.unusedVariables false
set_option maxRecDepth 100000
namespace Mine

abbrev codeN : Array Nat := #[14, 10, 4, 1, 1, 22, 0, 31, 16, 127, 0, 13, 7, 22, 0, 31, 16, 127, 0, 1]
abbrev codeV : Array Nat := #[14, 14, 4, 1, 1, 9, 4294966783, 0, 0, 2147483648, 0, 0, 0, 0, 0, 13, 11, 9, 4294966783, 0, 0, 2147483648, 0, 0, 0, 0, 0, 1]
def Quiet (code : Array Nat) : Prop := ∀ c, 32 ≤ c → c < 127 → ∀ seen, ∃ s', Sre.inSet code c code.size 5 true seen = .ok (false, s')
theorem quietN : Quiet codeN := by
  intro c h0 h1 seen
  obtain ⟨k, rfl⟩ : ∃ k, c = k + 32 := ⟨c - 32, by omega⟩
  iterate 95 (rcases k with _ | k; exact ⟨_, rfl⟩)
  omega
theorem quietV : Quiet codeV := by
  intro c h0 h1 seen
  obtain ⟨k, rfl⟩ : ∃ k, c = k + 32 := ⟨c - 32, by omega⟩
  iterate 95 (rcases k with _ | k; exact ⟨_, rfl⟩)
  omega
theorem admitted_none {m : Sre.M} (hq : Quiet m.code) (ht : ∀ i, i < m.lim → 32 ≤ m.text.getD i 0 ∧ m.text.getD i 0 < 127) : ∀ (fuel s : Nat) (seen : Sre.Seen), ∃ seen', Sre.M.admitted m fuel s seen = .ok (none, seen')
  | 0, _, seen => ⟨seen, rfl⟩
  | fuel + 1, s, seen => by
    unfold Sre.M.admitted
    split
    · exact ⟨seen, rfl⟩
    · rename_i h
      obtain ⟨s', e⟩ := hq _ (ht s (by omega)).1 (ht s (by omega)).2 seen
      rw [e]
      exact admitted_none hq ht fuel (s + 1) s'
theorem from_fails {m : Sre.M} (hf : m.hasFirstSet = true) (hq : Quiet m.code) (ht : ∀ i, i < m.lim → 32 ≤ m.text.getD i 0 ∧ m.text.getD i 0 < 127) (s : Nat) (first : Bool) : ∃ seen', m.attemptFrom s first = ({ m with seen := seen' } : Sre.M).say false := by
  unfold Sre.M.attemptFrom
  obtain ⟨seen', e⟩ := admitted_none hq ht (m.lim + 1 - s) s m.seen
  rw [hf, e]
  exact ⟨seen', rfl⟩
structure Fails (m : Sre.M) : Prop where
  answer : m.answer = some false
  frames : m.frames = []
  outcome : m.outcome = none
theorem from_fails' {m : Sre.M} (hf : m.hasFirstSet = true) (hq : Quiet m.code) (ht : ∀ i, i < m.lim → 32 ≤ m.text.getD i 0 ∧ m.text.getD i 0 < 127) {s : Nat} {first : Bool} (h1 : m.frames = []) (h2 : m.outcome = none) : Fails (m.attemptFrom s first) := by
  obtain ⟨seen', e⟩ := from_fails hf hq ht s first
  rw [e]
  exact ⟨rfl, h1, h2⟩
theorem search_fails {code : Array Nat} (hc : code = codeN ∨ code = codeV) {text : Array Nat} (ht : ∀ c ∈ text.toList, 32 ≤ c ∧ c < 127) : Fails (Sre.forSearch code text 0 0 text.size false) := by
  have ht' : ∀ i, i < text.size → 32 ≤ text.getD i 0 ∧ text.getD i 0 < 127 := fun i hi => by
    rw [Array.getD, dif_pos hi]
    exact ht _ (Array.mem_toList_iff.mpr (Array.getElem_mem _))
  rcases hc with rfl | rfl
  · unfold Sre.forSearch
    dsimp only
    split
    · exact ⟨rfl, rfl, rfl⟩
    · exact from_fails' rfl quietN ht' rfl rfl
  · unfold Sre.forSearch
    dsimp only
    split
    · exact ⟨rfl, rfl, rfl⟩
    · exact from_fails' rfl quietV ht' rfl rfl
section
variable {M : Model} {A : Around} {E : Value → Shared → Prop} {s : Shared}
theorem runs_out {m : Sre.M} (h : Fails m) : (m.runFor 4).outcome = some .failed := by
  have e1 : m.step.outcome = some .failed := by
    unfold Sre.M.step
    rw [h.outcome, h.answer, h.frames]; rfl
  have e : m.runFor 4 = m.step := by
    show (if m.outcome.isSome then m else m.step.runFor 3) = _
    rw [h.outcome]
    show m.step.runFor 3 = _
    show (if m.step.outcome.isSome then m.step else _) = _
    rw [e1]; rfl
  rw [e, e1]
theorem wp_runToEnd {m : Sre.M} (h : Fails m) {F : Option Sre.M → Shared → Prop} (hF : F none s) : wpAny M A (Builtin.Re.reRunToEnd m) F E s := by
  have e := runs_out h
  have hd : Builtin.Re.reDrive (2 ^ 64) m = pure (m.runFor 4) := by
    show (if (m.runFor 4).outcome.isSome then pure (m.runFor 4) else _) = _
    rw [e]; rfl
  unfold Builtin.Re.reRunToEnd
  rw [hd]
  refine wpAny_bind (wpAny_pure ?_)
  generalize hq : List.range Sre.names.size = q
  clear hq
  rw [e]
  refine wpAny_bind (wpAny_mono (Q := fun _ s' => s' = s) (E := E) ?_ (fun _ s' hs => ?_) fun _ _ x => x)
  · induction q with
    | nil => exact wpAny_pure rfl
    | cons i q ih =>
      rw [List.forIn_cons]
      by_cases hb : (Sre.M.runFor 4 m).seen.has i = true
      · rw [if_pos hb]
        exact wpAny_bind (wpAny_bind (wpAny_rule (wpAny_pure ih)))
      · rw [if_neg hb]
        exact wpAny_bind (wpAny_pure ih)
  · subst hs
    exact wpAny_pure hF
end
end Mine
namespace Mine
theorem pat_attrs : PlainAttrs "re.Pattern" := ⟨⟨"object.__getattribute__", by rw [typeLookup_type, builtinLookup_eq_fast]; kernel_rfl, by decide +kernel⟩, by rw [typeLookup_type, builtinLookup_eq_fast]; kernel_rfl⟩
theorem slot_search : Slot "re.Pattern" "search" "re.Pattern.search" :=
  .of (owner := "re.Pattern") (n := "search") (by rw [typeLookup_type, builtinLookup_eq_fast]; kernel_rfl) (by decide +kernel) (by decide +kernel) (by decide +kernel)
    (by first | exact .inl (by decide +kernel) | exact .inr (by decide +kernel)) (by rw [isSubtype_type]; kernel_rfl)
theorem type_search : typeOf (.builtin "re.Pattern.search") = pure (.type "method_descriptor") := by show builtinType _ = _; rw [builtinType_eq_fast]; kernel_rfl
theorem entry_search : entryFor table "re.Pattern.search" = some Builtin.«re.Pattern.search» := entryFor_of_tree (by kernel_rfl)
theorem args_search (a b : Value) : argsOk "re.Pattern.search" ⟨[a, b], []⟩ := by unfold argsOk; kernel_rfl
section
variable {c : Cfg} {A : Around} {g : Heap} {l l' : Owns} {env : Env} {x : Str} {t : Tok} {Q : Value → Heap → Owns → Prop} {a ca : Addr} {fs items : Array Value} {n : Nat}
theorem W_mSearch {pl : Sem Bool} {Q : Value × List Value → Heap → Owns → Prop} (ho : c.K.lookup a = some ⟨.type "re.Pattern", none, .fields fs, #[]⟩) (h : Q (.builtin "re.Pattern.search", [.ref a]) g l) : W c A (getMethod (.ref a) "search" pl) g l Q := fun s S => by
  have e := S.keep _ _ (S.base.K _ _ ho)
  exact getMethod_builtin ⟨_, e, rfl⟩ pat_attrs slot_search type_search (fun b q => by cases q; exact ⟨_, e, rfl⟩) (Post.mk' S h)
theorem W_search (ho : c.K.lookup a = some ⟨.type "re.Pattern", none, .fields fs, #[]⟩) (hi : c.K.lookup ca = some ⟨.type "tuple", none, .seq items n, #[]⟩) (h5 : fs.getD 5 .none = .ref ca) (h2 : fs.getD 2 .none = .int 0 0) (h6 : fs.getD 6 .none = .int 0 0)
    (hc : (items.map Builtin.Re.reRawOf).map Int.toNat = codeN ∨ (items.map Builtin.Re.reRawOf).map Int.toNat = codeV) (hx : ∀ c ∈ x.cps.toList, 32 ≤ c ∧ c < 127) (hz : x.length < 2 ^ 60) (h : Q .none g l) : W c A (call (.builtin "re.Pattern.search") [.ref a, .str x t]) g l Q := fun s S => by
  have e := S.keep _ _ (S.base.K _ _ ho)
  have e2 := S.keep _ _ (S.base.K _ _ hi)
  refine wpAny_call_entry slot_search ⟨_, e, rfl⟩ entry_search ?_ (args_search _ _)
  unfold Builtin.«re.Pattern.search»
  unfold Builtin.Re.reTarget
  refine wpAny_bind ?_
  refine wpAny_bind (wpAny_of_eq (a := [some (.str x t), none, none]) (by kernel_rfl) ?_)
  dsimp only
  refine wpAny_bind (wpAny_pure (wpAny_bind (wpAny_pure ?_)))
  refine wpAny_bind (wpAny_fieldsOf e rfl ?_)
  refine wpAny_bind (wpAny_of_eq (a := (x.cps, 0)) rfl ?_)
  rw [h6, h5, h2]
  refine wpAny_bind (wpAny_of_eq (a := ()) rfl ?_)
  unfold Builtin.Re.reRawItems
  refine wpAny_bind (wpAny_bind (wpAny_seqItems e2 rfl (wpAny_pure ?_)))
  refine wpAny_pure ?_
  dsimp only
  unfold Builtin.Re.reAnswer
  have hm : min (Int.toNat (2 ^ 63 - 1)) x.cps.size = x.cps.size := Nat.min_eq_right (by have : x.cps.size < 2 ^ 60 := hz; omega)
  have hm0 : min (Int.toNat 0) x.cps.size = 0 := Nat.min_eq_left (Nat.zero_le _)
  rw [hm, hm0]
  refine wpAny_bind (wp_runToEnd (search_fails hc hx) ?_)
  exact wpAny_pure ⟨_, rfl, Post.mk' S h⟩
end
end Mine
-- part D4
open PySem PySem.W PyProof.Rows PySem.Calls PySem.Spec
set_option Elab.async false
set_option linter.unusedVariables false
set_option maxRecDepth 100000
namespace Mine
section
variable {c : Cfg} {A : Around} {g : Heap} {l l' : Owns} {env : Env} {Q : Value → Heap → Owns → Prop}

/-- {g, l} a call's code {Q} -/
def WR (c : Cfg) (A : Around) (code : Code) (g : Heap) (l : Owns) (Q : Value → Heap → Owns → Prop) : Prop := ∀ s, St c g s l → codeAny c.M A code (fun r s' => match r with | .ok (.ret v) => Post c g Q v s' | _ => False) s

section
variable {name qual : Str} {params : Arguments} {body : List Stmt} {scope : Scope} {cl : List (Str × Addr)} {dV kV doc pm cdv ct : Value} {an : Option Addr} {f : Addr} {pos : List Value} {kw : List (Str × Value)}
theorem WR_defK {ns : List Str} {vs : List Value} {Q : Value → Heap → Owns → Prop} {oc : Value} {od : Option Addr} {osl : Array (Option Value)} (hroom : A.depth < recursionLimit)
    (ho : c.K.lookup f = some ⟨oc, od, .func (fnX name qual params body scope cl dV kV doc pm an cdv ct), osl⟩) (hcd : codeIn c.K cdv qual = true)
    (hb : ∀ s : Shared, c.K.In s.heap → BindsTo s (fnX name qual params body scope cl dV kV doc pm an cdv ct) ⟨pos, kw⟩ (ns.zip vs)) (hloc : ∀ y ∈ ns.zip vs, scope.names.lookup y.1 = some .local) (hns : ns.Nodup)
    (h : ∀ L, W c (A.deeper (envX qual scope L f cdv cl)) (execs body (envX qual scope L f cdv cl)) g ((L, .fr (zipFrame ns vs)) :: l) (RetQ c Q))
    (hcell : ∀ x ∈ scope.names, x.2 ≠ .cell) (hco : scope.isCoroutine = false := by rfl) (hgen : scope.isGenerator = false := by rfl) (hk : scope.kind = .function := by rfl) : WR c A (.call (.ref f) ⟨pos, kw⟩) g l Q := fun s S => by
  have X := S.base.K.keeps S.keep
  refine codeAny_call_def (fd := fnX name qual params body scope cl dV kV doc pm an cdv ct) (body := body) (binds := ns.zip vs) hroom (X _ _ ho) rfl (S.base.T.nolimit.keeps S.keep) (codeRec_of X hcd) rfl (hb s X) hcell hloc (fun h₁ hns₁ hk₁ => ?_) hco hgen hk
  have S1 : St c g { s with heap := h₁, toks := s.toks + (ns.zip vs).length } ((s.heap.objs.size, .fr (zipFrame ns vs)) :: l) := by
    refine S.grow (new := [(s.heap.objs.size, .fr (zipFrame ns vs))]) hk₁ (fun p hp => ?_) (List.nodup_cons.mpr ⟨List.not_mem_nil, List.nodup_nil⟩)
    rw [List.mem_singleton.mp hp]
    refine ⟨⟨by rw [zipFrame_names]; exact hns, ?_⟩, Nat.le_refl _⟩
    have e : (fun x => (ns.zip vs).reverse.lookup x) = lk (zipFrame ns vs) := by funext y; rw [zipFrame_lk, lookup_reverse _ (zip_nodup ns vs hns)]
    rw [← e]; exact hns₁
  refine (h s.heap.objs.size).run S1 fun fl g' l' s' u S' q => ?_
  obtain ⟨g2, l2, u2, S2, hq⟩ := q s' S'
  cases fl <;> exact Post.mk (u.trans u2) S2 hq
end

theorem Room.under {n : Nat} (r : Room A (n + 1)) (C : Addr) (rest : List Value) : Room (A.under (.builtin "type.__call__" ⟨.ref C :: rest, []⟩)) n := by
  have h1 : (Code.builtin "type.__call__" ⟨.ref C :: rest, []⟩).weight ≤ 1 := Nat.le_of_ble_eq_true (by kernel_rfl)
  have h2 : (Code.builtin "type.__call__" ⟨.ref C :: rest, []⟩).cUnits ≤ 8 := Nat.le_of_ble_eq_true (by kernel_rfl)
  refine ⟨r.h, ?_, ?_⟩
  · have := r.d
    show A.depth + _ + n < _
    omega
  · have := r.u
    show A.units + _ + 16 * n < _
    omega

/-- a class is called: its own __init__ runs -/
theorem W_make {C fI : Addr} {rest : List Value} (hm : makesIn c.K C = true) (hi : findIn c.K (.ref C) "__init__" = some (some (.ref fI))) (hf : typeIn c.K (.ref fI) = some (.type "function"))
    (h : ∀ x dx, WR c (A.under (.builtin "type.__call__" ⟨.ref C :: rest, []⟩)) (.call (.ref fI) ⟨.ref x :: rest, []⟩) g ((x, .obj (instObj C dx)) :: (dx, .obj emptyDict) :: l) fun v g' l' => v = .none ∧ Q (.ref x) g' l') : W c A (call (.ref C) rest) g l Q := fun s S => by
  have X := S.base.K.keeps S.keep
  obtain ⟨hh, gg, d, t, os⟩ := s
  refine wpAny_call (make_core (makes_of X hm) (looks_findIn X hi) (fun self => bind_fn X self hf) (.inl rfl) ?_)
  have S1 : St c g ⟨(hh.push emptyDict).push (instObj C hh.objs.size), gg, d, t, os⟩ ((hh.objs.size + 1, .obj (instObj C hh.objs.size)) :: (hh.objs.size, .obj emptyDict) :: l) := by
    have S1 := S.push (tk := t) emptyDict
    have S2 := S1.push (tk := t) (instObj C hh.objs.size)
    have e : (hh.push emptyDict).objs.size = hh.objs.size + 1 := Heap.size_push ..
    rw [show ({ heap := hh.push emptyDict, gens := gg, drawn := d, toks := t, os := os } : Shared).heap.objs.size = hh.objs.size + 1 from e] at S2
    exact S2
  refine codeAny_mono (h _ _ _ S1) fun r s' z => ?_
  rcases r with e | (v | _ | _ | _) <;> first | exact z.elim | skip
  obtain ⟨g', l', u, S', rfl, hq⟩ := z
  exact ⟨rfl, Post.mk u S' hq⟩

-- names that are no names
theorem W_debug {pos : Pos} (h : Q (.bool true) g l) : W c A (eval (.Name "__debug__" pos) env) g l Q := fun s S => by
  rw [arm_eval_Name]
  refine wpAny_bind (wpAny_standAt ?_)
  rw [if_pos (by decide)]
  exact wpAny_bind (wpAny_rule (wpAny_pure (Post.mk' S h)))
theorem W_truthyNone {Q : Bool → Heap → Owns → Prop} (h : Q false g l) : W c A (truthy .none) g l Q := W_now (fun _ _ _ h => truthy_none h) h
theorem W_typeStr {x : Str} {t : Tok} (h : Q (.type "str") g l) : W c A (call (.type "type") [.str x t]) g l Q := W_now (fun s _ _ h => call_type_of (typeIs_str s x t) (by decide) h) h
theorem W_typeList {a : Addr} {vs : List Value} (hl : ListAt g l a vs) (h : Q (.type "list") g l) : W c A (call (.type "type") [.ref a]) g l Q := fun s S => call_type_of (hl.is S).typeIs (by decide) (Post.mk' S h)
theorem W_isType {T U : String} (h : Q (.bool (Value.type T == Value.type U)) g l) : W c A (compareOp .Is (.type T) (.type U)) g l Q := W_now (fun _ _ _ h => wpAny_is_plain rfl h) h
theorem W_isNotType {T U : String} (h : Q (.bool (!(Value.type T == Value.type U))) g l) : W c A (compareOp .IsNot (.type T) (.type U)) g l Q := W_now (fun _ _ _ h => wpAny_isNot_plain rfl h) h
theorem W_Attr {n attr : Str} {np pos : Pos} (h : W c A (eval (.Name n np) env) g l fun o g1 l1 => W c A (getAttr o attr true) g1 l1 Q) : W c A (eval (.Attribute (.Name n np) attr pos) env) g l Q := fun s S =>
  Attribute_name (h.run S fun _ _ _ s1 u1 S1 h1 => up u1 (h1 s1 S1))

/-- all other live objects -/
def others (h : Heap) (p q : Addr) : List (Addr × Obj) := (List.range h.objs.size).filterMap fun b => if b = p ∨ b = q then none else (h.get? b).map fun o => (b, o)
theorem mem_others {h : Heap} {p q b : Addr} {o : Obj} (hb : b ≠ p) (hb2 : b ≠ q) (e : h.get? b = some o) : (b, o) ∈ others h p q := by
  refine List.mem_filterMap.mpr ⟨b, List.mem_range.mpr (Heap.lt_size e), ?_⟩
  rw [if_neg (by rintro (h | h) <;> contradiction), e]; rfl
theorem of_others {h : Heap} {p q : Addr} {x : Addr × Obj} (hx : x ∈ others h p q) : h.get? x.1 = some x.2 ∧ x.1 ≠ p ∧ x.1 ≠ q := by
  obtain ⟨b, _, e⟩ := List.mem_filterMap.mp hx
  split at e
  · cases e
  · rename_i hn
    obtain ⟨o, ho, rfl⟩ := Option.map_eq_some_iff.mp e
    exact ⟨ho, fun h => hn (.inl h), fun h => hn (.inr h)⟩

theorem own_unique {a : Addr} {x y : Own} : ∀ {l : Owns}, (l.map (·.1)).Nodup → (a, x) ∈ l → (a, y) ∈ l → x = y
  | [], _, h, _ => by cases h
  | p :: l, hn, h1, h2 => by
    rw [List.map_cons, List.nodup_cons] at hn
    rcases List.mem_cons.mp h1 with q1 | q1 <;> rcases List.mem_cons.mp h2 with q2 | q2
    · rw [← q1] at q2; cases q2; rfl
    · exact absurd (by rw [← q1]; exact List.mem_map_of_mem (f := (·.1)) q2) hn.1
    · exact absurd (by rw [← q2]; exact List.mem_map_of_mem (f := (·.1)) q1) hn.1
    · exact own_unique hn.2 q1 q2
theorem heap0 (b : Addr) : ({} : Heap).get? b = none := rfl
theorem turn_of {a : Addr} {x x' : Own} : ∀ {l : Owns}, (a, x) ∈ l → ∃ l', Turn a x x' l l'
  | p :: l, h => by
    by_cases e : p = (a, x)
    · subst e; exact ⟨_, .head⟩
    · rcases List.mem_cons.mp h with q | q
      · exact absurd q.symm e
      · obtain ⟨l', U⟩ := turn_of (x' := x') q
        exact ⟨_, .tail U⟩

/-- an attribute of an object of the call's own is set -/
theorem W_setAttr {L x dx C : Addr} {r : List (Str × Option Value)} {name : Str} {v : Value} {es : List DictEntry} {n : Nat} {Q : Unit → Heap → Owns → Prop} (hL : (L, Own.fr r) ∈ l) (hx : (x, Own.obj (instObj C dx)) ∈ l) (hdx : (dx, Own.obj (dictOf es n)) ∈ l)
    (hs : findIn c.K (.ref C) "__setattr__" = some (some (.builtin "object.__setattr__"))) (hp : plainOver c.K C = true) (ht : takerIn c.K C name = some none) (hh : hasDictIn c.K C = true) (hl : (getL name es).isSome = true) (hz : ∀ hsh key, (putL name hsh key v es).length ≤ 1000)
    (T : Obj → Owns) (hT : ∀ o, Turn dx (.obj (dictOf es n)) (.obj o) l (T o)) (h : ∀ hsh tk, Q () g (T (dictOf (putL name hsh (.str name tk) v es) (putN name es n)))) : W c A (setAttr (.ref x) name v) g l Q := fun s S => by
  have X := S.base.K.keeps S.keep
  have hLd : L ≠ dx := fun e => by
    subst e
    have := own_unique S.nodup hL hdx
    cases this
  have hns := S.ns hL
  have I : InstAt s.heap x (instObj C dx) C (some (dictOf es n)) := ⟨(S.own _ hx).1, rfl, rfl, (S.own _ hdx).1⟩
  have F : Fr {} L s.heap (lk r) := ⟨hns.2, (fun b o e => by rw [heap0] at e; cases e), Nat.zero_le _⟩
  have N : News {} L s.heap ([] ++ (dx, dictOf es n) :: others s.heap L dx) := fun p hp => by
    rcases List.mem_cons.mp hp with rfl | hp
    · exact ⟨(S.own _ hdx).1, hLd.symm, rfl⟩
    · have := of_others hp
      exact ⟨this.1, this.2.1, rfl⟩
  refine set_plain X I hs (osa_dict (s := { s with toks := s.toks + 1 }) F N X I rfl hp ht hh hl (fun _ h => by cases h) (fun p hp => (of_others hp).2.2) (putName_dict ..) rfl (hz _ _) fun h' F' N' => ?_)
  have U := hT (dictOf (putL name (PyData.keyHash c.w.params name) (.str name (s.toks + 1)) v es) (putN name es n))
  refine Post.mk' (?_ : St c g _ _) (h (PyData.keyHash c.w.params name) (s.toks + 1))
  have hk : ∀ b o, b ≠ L → b ≠ dx → s.heap.get? b = some o → h'.get? b = some o := fun b o h1 h2 e => (N' (b, o) (List.mem_append_right _ (.tail _ (mem_others h1 h2 e)))).1
  have hgL : g.get? L = none := (S.own _ hL).2.1
  have hgd : g.get? dx = none := (S.own _ hdx).2.1
  have hne : ∀ {a b : Addr} {o : Obj}, g.get? a = none → g.get? b = some o → b ≠ a := fun h1 h2 e => by rw [e, h1] at h2; cases h2
  refine ⟨fun b o e => hk b o (hne hgL e) (hne hgd e) (S.keep b o e), fun p hp => ?_, by rw [U.keys]; exact S.nodup, ?_, S.base, S.gens, S.os⟩
  · rcases U.other S.nodup p hp with rfl | ⟨hm, ne⟩
    · exact ⟨(N' _ (List.mem_append_right _ (.head _))).1, (S.own _ hdx).2⟩
    · obtain ⟨a, y⟩ := p
      by_cases e : a = L
      · subst e
        have := own_unique S.nodup hm hL
        subst this
        exact ⟨⟨hns.1, F'.ns⟩, (S.own _ hL).2⟩
      · exact ⟨(S.own _ hm).1.to fun o he => hk _ o e ne he, (S.own _ hm).2⟩
  · exact S.tabs.to fun t ht o e => hk _ o (fun q => (S.own _ hL).2.2 t ht q.symm) (fun q => (S.own _ hdx).2.2 t ht q.symm) e
theorem W_AssignAttr {o : Expr} {attr : Str} {pos' pos : Pos} {e : Expr} {Q : Flow → Heap → Owns → Prop} (h : W c A (eval e env) g l fun v g1 l1 => W c A (eval o env) g1 l1 fun ov g2 l2 => W c A (setAttr ov attr v) g2 l2 fun _ g3 l3 => Q .next g3 l3)
    (hs : swapsWith e (some (.Attribute o attr pos')) pos.line env = pure false := by rfl) : W c A (exec (.Assign [.Attribute o attr pos'] e pos) env) g l Q := fun s S =>
  plainObj_wpAny_Assign_Attribute (h.run S fun _ _ _ _ u1 S1 h1 => h1.run S1 fun _ _ _ _ u2 S2 h2 => h2.run S2 fun _ _ _ _ u3 S3 h3 => Post.mk ((u1.trans u2).trans u3) S3 h3) hs

/-- a table that stands, and its list -/
def Hdr (C : Addr) (g : Heap) (x a : Addr) : Prop := ∃ dx hsh tk n, g.get? x = some (instObj C dx) ∧ g.get? dx = some (dictOf [⟨hsh, .str "_headers" tk, .ref a⟩] n)
theorem Hdr.mono {C x a : Addr} {g' : Heap} (h : Hdr C g x a) (u : Sub g g') : Hdr C g' x a := let ⟨dx, hsh, tk, n, e1, e2⟩ := h; ⟨dx, hsh, tk, n, u _ _ e1, u _ _ e2⟩
theorem W_getHdr {C x a : Addr} {ex : Bool} (H : Hdr C g x a) (hg : plainGet c.K C "_headers" = true) (hh : hasDictIn c.K C = true) (ha : findIn c.K (.ref C) "_headers" = some none) (h : Q (.ref a) g l) : W c A (getAttr (.ref x) "_headers" ex) g l Q := fun s S => by
  obtain ⟨dx, hsh, tk, n, e1, e2⟩ := H
  have I : InstAt s.heap x (instObj C dx) C (some (dictOf [⟨hsh, .str "_headers" tk, .ref a⟩] n)) := ⟨S.keep _ _ e1, rfl, rfl, S.keep _ _ e2⟩
  exact get_value (S.base.K.keeps S.keep) I (plainGet_of hg).1 (findObj_own hh ha rfl rfl) rfl (Post.mk' S.toks h)
theorem W_hdrMethod {C x a f : Addr} {name : Str} {pl : Sem Bool} {Q : Value × List Value → Heap → Owns → Prop} (H : Hdr C g x a) (hg : plainGet c.K C name = true) (hf : findIn c.K (.ref C) name = some (some (.ref f))) (ht : isFn c.K (.ref f) = true) (hn : (Value.str "_headers" 0).isStr name = false)
    (h : Q (.ref f, [.ref x]) g l) : W c A (getMethod (.ref x) name pl) g l Q := fun s S => by
  obtain ⟨dx, hsh, tk, n, e1, e2⟩ := H
  have I : InstAt s.heap x (instObj C dx) C (some (dictOf [⟨hsh, .str "_headers" tk, .ref a⟩] n)) := ⟨S.keep _ _ e1, rfl, rfl, S.keep _ _ e2⟩
  have hn' : (Value.str "_headers" tk).isStr name = false := hn
  have hl : getL name [⟨hsh, .str "_headers" tk, .ref a⟩] = some none := by
    unfold getL
    rw [List.find?_cons_of_neg (by rw [hn']; exact Bool.false_ne_true), List.find?_nil]
    rfl
  exact method_fn (S.base.K.keeps S.keep) I (plainGet_of hg).1 (plainGet_of hg).2 hf (beq_iff_eq.mp ht) (by show (lookIn name (dictOf _ n)).map _ = _; rw [lookIn_dict, hl]; rfl) (Post.mk' S h)

-- calls with a keyword
theorem W_MethodKW {o : Expr} {name : Str} {apos pos : Pos} {args : List Expr} {kws : List Keyword} {pl : Sem Bool}
    (h : W c A (eval o env) g l fun ov g1 l1 => W c A (getMethod ov name pl) g1 l1 fun fx g2 l2 => W c A (callWith pos fx.1 fx.2 (backTo pos (starEach args env)) (backToKw pos (keywordEach kws env))) g2 l2 Q)
    (he : eval (.Call (.Attribute o name apos) args kws pos) env = (do
      let ov ← eval o env
      standAt apos.atName
      let (f, first) ← holding [ov] (getMethod ov name pl)
      callWith pos f first (backTo pos (starEach args env)) (backToKw pos (keywordEach kws env))) := by rfl) : W c A (eval (.Call (.Attribute o name apos) args kws pos) env) g l Q := fun _ S =>
  methodCall_KW (h.run S fun _ _ _ _ u1 S1 h1 => h1.run S1 fun _ _ _ s2 u2 S2 h2 => up (u1.trans u2) (h2 s2 S2)) he
theorem W_withKW {f : Addr} {x : Value} {e : Expr} {rest : List Expr} {pos kp : Pos} {k : Str} {ke : Expr} (hk : keepIn c.K (.ref f) = true)
    (h : W c A (spliced (backTo pos (starEach (e :: rest) env))) g l fun vs g1 l1 => W c A (eval ke env) g1 l1 fun kv g2 l2 => W c A (call (.ref f) (x :: vs) [(k, kv)]) g2 l2 Q)
    (hplain : ((backTo pos (starEach (e :: rest) env)).any (·.1) || (backToKw pos (keywordEach [⟨some k, ke, kp⟩] env)).any (·.1.isNone)) = false := by rfl) (he : starEach (e :: rest) env = (false, eval e env) :: starEach rest env := by rfl) :
    W c A (callWith pos (.ref f) [x] (backTo pos (starEach (e :: rest) env)) (backToKw pos (keywordEach [⟨some k, ke, kp⟩] env))) g l Q := fun s S => by
  refine callWith_KW S.base.K hk rfl (h.run S fun vs g1 l1 s1 u1 S1 h1 => ?_) hplain he
  show wpAny c.M A ((eval ke env >>= fun v => standAt pos >>= fun _ => pure v) >>= fun v => holding [v] (evalAll []) >>= fun r => pure (v :: r)) _ _ s1
  refine wpAny_bind (wpAny_bind (h1.run S1 fun kv g2 l2 s2 u2 S2 h2 => wpAny_bind (wpAny_standAt (wpAny_pure (wpAny_bind (wpAny_holding (wpAny_pure (wpAny_pure ⟨S2.base.K.keeps S2.keep, up (u1.trans u2) (h2 s2 S2)⟩))))))))
end
end Mine
-- part D5
open PySem PySem.W PyProof.Rows PySem.Calls PySem.Spec
set_option Elab.async false
set_option linter.unusedVariables false
set_option maxRecDepth 100000
namespace Mine
section
variable {c : Cfg} {A : Around} {g : Heap} {l l' : Owns} {env : Env} {Q : Value → Heap → Owns → Prop}
section
variable {name qual : Str} {params : Arguments} {body : List Stmt} {scope : Scope} {cl : List (Str × Addr)} {dV kV doc pm cdv ct : Value} {an : Option Addr} {f : Addr} {pos : List Value} {kw : List (Str × Value)}
/-- a def that takes **kw, called with none -/
theorem W_defA {ns : List Str} {vs : Addr → List Value} {Q : Value → Heap → Owns → Prop} {oc : Value} {od : Option Addr} {osl : Array (Option Value)} (hroom : A.depth < recursionLimit)
    (ho : c.K.lookup f = some ⟨oc, od, .func (fnX name qual params body scope cl dV kV doc pm an cdv ct), osl⟩) (hcd : codeIn c.K cdv qual = true)
    (hb : ∀ (M : Model) (A : Around) (E : Value → Shared → Prop) (F : List (Str × Value) → Shared → Prop) (s : Shared), F (ns.zip (vs s.heap.objs.size)) { s with heap := s.heap.push emptyDict } → wpAny M A (bindArgs (fnX name qual params body scope cl dV kV doc pm an cdv ct) ⟨pos, kw⟩) F E s)
    (hloc : ∀ D, ∀ y ∈ ns.zip (vs D), scope.names.lookup y.1 = some .local) (hns : ns.Nodup)
    (h : ∀ L D, (D == sysModules) = false → W c (A.deeper (envX qual scope L f cdv cl)) (execs body (envX qual scope L f cdv cl)) g ((L, .fr (zipFrame ns (vs D))) :: (D, .obj emptyDict) :: l) (RetQ c Q))
    (hcell : ∀ x ∈ scope.names, x.2 ≠ .cell) (hco : scope.isCoroutine = false := by rfl) (hgen : scope.isGenerator = false := by rfl) (hk : scope.kind = .function := by rfl) : W c A (call (.ref f) pos kw) g l Q := fun s S => by
  have X := S.base.K.keeps S.keep
  have hlim := S.base.T.nolimit.keeps S.keep
  refine wpAny_call (codeAny_call_function (fd := fnX name qual params body scope cl dV kV doc pm an cdv ct) hroom (X _ _ ho) rfl hco hgen rfl (codeRec_of X hcd) (hb _ _ _ _ s ?_))
  refine wpAny_newFunctionEnv hcell (hloc _) (fun h₁ hns₁ hsb₁ => ?_) hk
  have kd : ∀ b o, (s.heap.push emptyDict).get? b = some o → h₁.get? b = some o := fun b o e => hsb₁.extBut b o (Nat.ne_of_lt (Heap.lt_size e)) (Heap.get?_push_of_some _ e)
  have hD : (s.heap.objs.size == sysModules) = false := beq_eq_false_iff_ne.mpr (Nat.ne_of_gt (modules_low hlim))
  refine ⟨(hlim.push _).keeps kd, codeAny_func ?_⟩
  have S1 := S.push (tk := s.toks) emptyDict
  have S2 : St c g { s with heap := h₁, toks := s.toks + (ns.zip (vs s.heap.objs.size)).length } (((s.heap.push emptyDict).objs.size, .fr (zipFrame ns (vs s.heap.objs.size))) :: (s.heap.objs.size, .obj emptyDict) :: l) := by
    refine S1.grow (new := [((s.heap.push emptyDict).objs.size, .fr (zipFrame ns (vs s.heap.objs.size)))]) kd (fun p hp => ?_) (List.nodup_cons.mpr ⟨List.not_mem_nil, List.nodup_nil⟩)
    rw [List.mem_singleton.mp hp]
    refine ⟨⟨by rw [zipFrame_names]; exact hns, ?_⟩, Nat.le_refl _⟩
    have e : (fun x => (ns.zip (vs s.heap.objs.size)).reverse.lookup x) = lk (zipFrame ns (vs s.heap.objs.size)) := by funext y; rw [zipFrame_lk, lookup_reverse _ (zip_nodup ns _ hns)]
    rw [← e]; exact hns₁
  refine (h _ s.heap.objs.size hD).run S2 fun fl g' l' s' u S' q => ?_
  obtain ⟨g2, l2, u2, S2, hq⟩ := q s' S'
  cases fl <;> exact Post.mk (u.trans u2) S2 hq
end

theorem St.dict0 {s : Shared} {d : Addr} (S : St c g s l) (hm : (d, Own.obj emptyDict) ∈ l) : s.heap.DictAt (strKind c.prog c.w) d [] 0 := ⟨_, #[], (S.own _ hm).1, ⟨rfl, rfl, rfl⟩, rfl, (fun e he => by simp at he), .nil, List.nodup_nil⟩
theorem W_mItems {d : Addr} {pl : Sem Bool} {Q : Value × List Value → Heap → Owns → Prop} (hm : (d, Own.obj emptyDict) ∈ l) (h : Q (.builtin "dict.items", [.ref d]) g l) : W c A (getMethod (.ref d) "items" pl) g l Q := fun s S =>
  getMethod_builtin ⟨_, (S.own _ hm).1, rfl⟩ PySem.F.plainAttrs_dict PySem.F.slot_dict_items PySem.F.type_dict_items (fun a e => by cases e; exact ⟨_, (S.own _ hm).1, rfl⟩) (Post.mk' S h)
abbrev viewObj (d : Addr) : Obj := { cls := .type "dict_items", data := .fields #[.ref d] }
abbrev itemIt (d : Addr) : Obj := { cls := .type "dict_itemiterator", dict := none, data := .fields #[.none, .bool false, .ref d, .int (0 : Nat) 0, .int (0 : Nat) 0, .int (0 : Nat) 0, .none, .none], slots := #[] }
theorem W_items0 {d : Addr} (hm : (d, Own.obj emptyDict) ∈ l) (hd : (d == sysModules) = false) (h : ∀ v, Q (.ref v) g ((v, .obj (viewObj d)) :: l)) : W c A (call (.builtin "dict.items") [.ref d]) g l Q := fun s S =>
  call_meetsIn PySem.F.slot_dict_items ⟨_, (S.own _ hm).1, rfl⟩ PySem.F.entry_dict_items (PySem.F.args_dict_items_1 _) (meets_dict_items (strKind c.prog c.w) d hd) ⟨⟨[], (S.dict0 hm).dictOf⟩, Post.mk' (S.push (tk := s.toks) (viewObj d)) (h _)⟩
theorem W_iterItems0 {v d : Addr} (hv : (v, Own.obj (viewObj d)) ∈ l) (hm : (d, Own.obj emptyDict) ∈ l) (h : ∀ it, Q (.ref it) g ((it, .obj (itemIt d)) :: l)) : W c A (pyIter (.ref v)) g l Q := fun s S =>
  wpAny_pyIter_items (knd := strKind c.prog c.w) (kvs := []) (ep := 0) ⟨_, (S.own _ hv).1, rfl, rfl⟩ (S.dict0 hm) (Post.mk' (S.push (tk := s.toks) (itemIt d)) (h _))
/-- a loop over the items of an empty dict -/
theorem WC_items0 {target : Expr} {body orelse : List Stmt} {it d : Addr} {Q : Flow → Heap → Owns → Prop} (hh : A.handled = none) (hm : (d, Own.obj emptyDict) ∈ l) (h : W c A (execs orelse env) g l Q) : WC c A (.forLoop target (.ref it) body orelse env) g ((it, .obj (itemIt d)) :: l) Q := fun s S => by
  refine codeAny_forLoop_any (fun k s' => s' = s) ?_ 0 rfl
  rintro k s1 rfl
  have hit : IsItemIter s1.heap it d 0 0 0 .none .none := (S.own _ (.head _)).1
  refine wpAny_pyNext_items_end (knd := strKind c.prog c.w) (kvs := []) hh hit (S.dict0 (.tail _ hm)) rfl fun h' he => ?_
  exact h.run (S.lose (tk := s1.toks) he) fun f g3 l3 s3 u3 S3 q => Post.mk u3 S3 q
end
end Mine
-- part D6
open PySem PySem.W PyProof.Rows PySem.Calls PySem.Spec
set_option Elab.async false
set_option linter.unusedVariables false
set_option maxRecDepth 100000
namespace Mine
/-- the rows of a table -/
inductive RowsAre (g : Heap) : List Value → List (Str × Str) → Prop
  | nil : RowsAre g [] []
  | cons {p : Addr} {n v : Str} {t1 t2 : Tok} {hv : List Value} {rs : List (Str × Str)} : g.get? p = some (tupObj [.str n t1, .str v t2]) → RowsAre g hv rs → RowsAre g (.ref p :: hv) ((n, v) :: rs)
theorem RowsAre.mono {g g' : Heap} {hv : List Value} {rs : List (Str × Str)} (h : RowsAre g hv rs) (u : Sub g g') : RowsAre g' hv rs := by
  induction h with
  | nil => exact .nil
  | cons e _ ih => exact .cons (u _ _ e) ih
theorem RowsAre.append {g : Heap} {hv hw : List Value} {rs qs : List (Str × Str)} (h : RowsAre g hv rs) (h' : RowsAre g hw qs) : RowsAre g (hv ++ hw) (rs ++ qs) := by
  induction h with
  | nil => exact h'
  | cons e _ ih => exact .cons e ih
theorem RowsAre.length {g : Heap} {hv : List Value} {rs : List (Str × Str)} (h : RowsAre g hv rs) : hv.length = rs.length := by
  induction h with
  | nil => rfl
  | cons e _ ih => rw [List.length_cons, List.length_cons, ih]
theorem RowsAre.at {g : Heap} {hv : List Value} {rs : List (Str × Str)} (h : RowsAre g hv rs) : ∀ {i : Nat} (hi : i < rs.length), ∃ p t1 t2, hv[i]? = some (.ref p) ∧ g.get? p = some (tupObj [.str rs[i].1 t1, .str rs[i].2 t2]) := by
  induction h with
  | nil => intro i hi; exact absurd hi (Nat.not_lt_zero _)
  | cons e _ ih =>
    intro i hi
    cases i with
    | zero => exact ⟨_, _, _, rfl, e⟩
    | succ i =>
      obtain ⟨p, t1, t2, e1, e2⟩ := ih (i := i) (by simpa using hi)
      exact ⟨p, t1, t2, by simpa using e1, by simpa using e2⟩
/-- signs that a header may bear -/
def Fine (s : Str) : Prop := (∀ c ∈ s.cps.toList, 32 ≤ c ∧ c < 127) ∧ s.length < 2 ^ 16
theorem join_one (sep v : Str) : Txt.join sep [v] = v := rfl
end Mine
-- part D7
open PySem PySem.W PyProof.Rows PySem.Calls PySem.Spec
set_option Elab.async false
set_option linter.unusedVariables false
set_option maxRecDepth 100000
namespace Mine
section
variable {c : Cfg} {A : Around} {g : Heap} {l l' : Owns} {env : Env}
/-- a comprehension over a list: what it has gathered after i items is told by R0 -/
theorem comp_over {a : Addr} {vs : List Value} {scope : Scope} {cl : List (Str × Addr)} {target : Expr} {ifs : List Expr} {elt : Expr} {names : List Str} {R : List Value → Heap → Owns → Prop} (hh : A.handled = none) (hl : ListAt g l a vs) (hz : vs.length ≤ sizeLine)
    (R0 : Nat → List Value → Heap → Prop) (hlen : ∀ i ys g1, R0 i ys g1 → ys.length ≤ i) (h0 : R0 0 [] g)
    (turn : ∀ it acc C i v ys r g1, i < vs.length → vs[i]? = some v → Sub g g1 → R0 i ys g1 → r.map (·.1) = names → W c A (assign target (compEnvC scope cl C env) v) g1 ((it, .iter a (i + 1)) :: (acc, .list ys) :: (C, .fr r) :: l) fun _ g2 l2 =>
      TurnQ c A (compEnvC scope cl C env) ifs elt (fun ys' g3 l3 => ∃ r', l3 = (it, .iter a (i + 1)) :: (acc, .list ys) :: (C, .fr r') :: l ∧ r'.map (·.1) = names ∧ Sub g g3 ∧ R0 (i + 1) ys' g3) ys g2 l2)
    (fin : ∀ ys g1, Sub g g1 → R0 vs.length ys g1 → R ys g1 l) : W c A (pyIter (.ref a)) g l fun itv g2 l2 => ∃ it, itv = .ref it ∧ CompIt c A env scope cl target ifs elt names g2 l2 it R := by
  refine W_iterList hl fun it => ⟨it, rfl, ⟨fun i => .iter a i, vs.length, fun i v => vs[i]? = some v, fun g l => ListAt g l a vs, fun i ys g1 l1 => l1 = l ∧ Sub g g1 ∧ R0 i ys g1, l, feeds_list hh it a vs, hz, rfl, ?_, ?_, ⟨rfl, Sub.refl _, h0⟩, ?_, ?_⟩⟩
  · rintro acc C i ys r g1 l1 ⟨rfl, u, h⟩
    exact (hl.mono u).tail.tail
  · rintro i ys g1 l1 ⟨_, _, h⟩
    exact hlen _ _ _ h
  · rintro acc C i v ys r g1 l1 hi hv u ⟨rfl, _, h⟩ hr
    refine W.mono (turn it acc C i v ys r g1 hi hv u h hr) fun _ g2 l2 u2 q => ?_
    have key : ∀ {ys' : List Value} {g3 : Heap} {l3 : Owns}, (∃ r', l3 = (it, Own.iter a (i + 1)) :: (acc, .list ys) :: (C, .fr r') :: l1 ∧ r'.map (·.1) = names ∧ Sub g g3 ∧ R0 (i + 1) ys' g3) → ∃ r' l4, l3 = (it, Own.iter a (i + 1)) :: (acc, .list ys) :: (C, .fr r') :: l4 ∧ r'.map (·.1) = names ∧ l4 = l1 ∧ Sub g g3 ∧ R0 (i + 1) ys' g3 := by
      rintro ys' g3 l3 ⟨r', e, hn, hu, h⟩
      exact ⟨r', l1, e, hn, rfl, hu, h⟩
    have sh : ∀ {ys' : List Value} {g3 : Heap} {l3 : Owns}, Shift c g3 l3 (fun g3 l3 => ∃ r', l3 = (it, Own.iter a (i + 1)) :: (acc, .list ys) :: (C, .fr r') :: l1 ∧ r'.map (·.1) = names ∧ Sub g g3 ∧ R0 (i + 1) ys' g3) → Shift c g3 l3 (fun g3 l3 => ∃ r' l4, l3 = (it, Own.iter a (i + 1)) :: (acc, .list ys) :: (C, .fr r') :: l4 ∧ r'.map (·.1) = names ∧ l4 = l1 ∧ Sub g g3 ∧ R0 (i + 1) ys' g3) := by
      intro ys' g3 l3 h s S
      obtain ⟨g4, l4, u4, S4, p⟩ := h s S
      exact ⟨g4, l4, u4, S4, key p⟩
    unfold TurnQ at q ⊢
    have go : ∀ {z : Bool} {g3 : Heap} {l3 : Owns}, ((z = true → W c A (eval elt (compEnvC scope cl C env)) g3 l3 fun y g4 l4 => Shift c g4 l4 fun g5 l5 => ∃ r', l5 = (it, Own.iter a (i + 1)) :: (acc, .list ys) :: (C, .fr r') :: l1 ∧ r'.map (·.1) = names ∧ Sub g g5 ∧ R0 (i + 1) (ys ++ [y]) g5) ∧ (z = false → Shift c g3 l3 fun g5 l5 => ∃ r', l5 = (it, Own.iter a (i + 1)) :: (acc, .list ys) :: (C, .fr r') :: l1 ∧ r'.map (·.1) = names ∧ Sub g g5 ∧ R0 (i + 1) ys g5)) →
        ((z = true → W c A (eval elt (compEnvC scope cl C env)) g3 l3 fun y g4 l4 => Shift c g4 l4 fun g5 l5 => ∃ r' l6, l5 = (it, Own.iter a (i + 1)) :: (acc, .list ys) :: (C, .fr r') :: l6 ∧ r'.map (·.1) = names ∧ l6 = l1 ∧ Sub g g5 ∧ R0 (i + 1) (ys ++ [y]) g5) ∧ (z = false → Shift c g3 l3 fun g5 l5 => ∃ r' l6, l5 = (it, Own.iter a (i + 1)) :: (acc, .list ys) :: (C, .fr r') :: l6 ∧ r'.map (·.1) = names ∧ l6 = l1 ∧ Sub g g5 ∧ R0 (i + 1) ys g5)) := fun h =>
      ⟨fun e => W.mono (h.1 e) fun y g4 l4 _ q => sh q, fun e => sh (h.2 e)⟩
    match ifs, q with
    | [], q => exact go q
    | [t], q => exact W.mono q fun z g3 l3 _ q => go q
    | _ :: _ :: _, q => exact q.elim
  · rintro ys g1 l1 u ⟨rfl, _, h⟩
    exact fin ys g1 u h
end
theorem frame1 {r : List (Str × Option Value)} {n : Str} (h : r.map (·.1) = [n]) : ∃ o, r = [(n, o)] := by
  match r, h with
  | [(a, o)], h => cases h; exact ⟨o, rfl⟩
theorem frame2 {r : List (Str × Option Value)} {n m : Str} (h : r.map (·.1) = [n, m]) : ∃ o p, r = [(n, o), (m, p)] := by
  match r, h with
  | [(a, o), (b, p)], h => cases h; exact ⟨o, p, rfl⟩

theorem lo1_fine {c : Nat} (h : 32 ≤ c ∧ c < 127) : 32 ≤ lo1 c ∧ lo1 c < 127 := by unfold lo1; split <;> omega
theorem up1_fine {c : Nat} (h : 32 ≤ c ∧ c < 127) : 32 ≤ up1 c ∧ up1 c < 127 := by unfold up1; split <;> omega
theorem Fine.lower_eq {s : Str} (h : Fine s) : Txt.lower s = sOf (s.cps.toList.map lo1) := by
  rw [lower_ascii fun c hc => by have := h.1 c hc; omega]
  show Str.mk _ = Str.mk _
  congr 1
  apply Array.toList_inj.mp
  rw [Array.toList_map]
theorem Fine.upper_eq {s : Str} (h : Fine s) : Txt.upper s = sOf (s.cps.toList.map up1) := by
  rw [upper_ascii fun c hc => by have := h.1 c hc; omega]
  show Str.mk _ = Str.mk _
  congr 1
  apply Array.toList_inj.mp
  rw [Array.toList_map]
theorem Fine.lower {s : Str} (h : Fine s) : Fine (Txt.lower s) := by
  rw [h.lower_eq]
  refine ⟨fun c hc => ?_, ?_⟩
  · obtain ⟨b, hb, rfl⟩ := List.mem_map.mp (show c ∈ s.cps.toList.map lo1 from hc)
    exact lo1_fine (h.1 b hb)
  · show (s.cps.toList.map lo1).toArray.size < _
    rw [List.size_toArray, List.length_map, toList_len]; exact h.2
theorem Fine.upper {s : Str} (h : Fine s) : Fine (Txt.upper s) := by
  rw [h.upper_eq]
  refine ⟨fun c hc => ?_, ?_⟩
  · obtain ⟨b, hb, rfl⟩ := List.mem_map.mp (show c ∈ s.cps.toList.map up1 from hc)
    exact up1_fine (h.1 b hb)
  · show (s.cps.toList.map up1).toArray.size < _
    rw [List.size_toArray, List.length_map, toList_len]; exact h.2
theorem Fine.lowFit {s : Str} (h : Fine s) : Builtin.Str.tooLong (Txt.lower s).length = false := fit_lower (Nat.le_trans (Nat.le_of_lt h.2) (by decide))
theorem Fine.upFit {s : Str} (h : Fine s) : Builtin.Str.tooLong (Txt.upper s).length = false := fit_upper (Nat.le_trans (Nat.le_of_lt h.2) (by decide))

section
variable {c : Cfg} {A : Around} {g : Heap} {l l' : Owns} {cenv : Env} {t elt : Expr} {P : List Value → Heap → Owns → Prop} {ys : List Value}
theorem turnIf (h : W c A (isTrue t cenv (eval t cenv)) g l fun z g1 l1 => (z = true → W c A (eval elt cenv) g1 l1 fun y g2 l2 => Shift c g2 l2 (P (ys ++ [y]))) ∧ (z = false → Shift c g1 l1 (P ys))) : TurnQ c A cenv [t] elt P ys g l := h
theorem turnAll (h : W c A (eval elt cenv) g l fun y g2 l2 => Shift c g2 l2 (P (ys ++ [y]))) : TurnQ c A cenv [] elt P ys g l := ⟨fun _ => h, fun e => by cases e⟩
end
theorem strs_append {vs ws : List Value} {ds es : List Str} (h : StrsAre vs ds) (h' : StrsAre ws es) : StrsAre (vs ++ ws) (ds ++ es) := by
  induction h with
  | nil => exact h'
  | cons n t _ ih => exact .cons n t ih
theorem strs_len {vs : List Value} {ds : List Str} (h : StrsAre vs ds) : vs.length = ds.length := by
  induction h with
  | nil => rfl
  | cons n t _ ih => rw [List.length_cons, List.length_cons, ih]
theorem strs_at {vs : List Value} {ds : List Str} (h : StrsAre vs ds) : ∀ {i : Nat} (hi : i < ds.length), ∃ t, vs[i]? = some (.str ds[i] t) := by
  induction h with
  | nil => intro i hi; exact absurd hi (Nat.not_lt_zero _)
  | cons n t _ ih =>
    intro i hi
    cases i with
    | zero => exact ⟨t, rfl⟩
    | succ i =>
      obtain ⟨t', e⟩ := ih (i := i) (by simpa using hi)
      exact ⟨t', by simpa using e⟩
theorem take_step {α : Type} {rs : List α} {i : Nat} (h : i < rs.length) : rs.take (i + 1) = rs.take i ++ [rs[i]] := by
  rw [List.take_succ, List.getElem?_eq_getElem h]; rfl
theorem take_all {α : Type} (rs : List α) {n : Nat} (h : n = rs.length) : rs.take n = rs := by rw [h, List.take_length]
end Mine
-- part D8
open PySem PySem.W PyProof.Rows PySem.Calls PySem.Spec
set_option Elab.async false
set_option linter.unusedVariables false
set_option maxRecDepth 100000
namespace Mine
/-- a list of pairs (text, number) -/
inductive PairsAre (g : Heap) : List Value → List (Str × Int) → Prop
  | nil : PairsAre g [] []
  | cons {p : Addr} {n : Str} {m : Int} {t1 t2 : Tok} {hv : List Value} {rs : List (Str × Int)} : g.get? p = some (tupObj [.str n t1, .int m t2]) → PairsAre g hv rs → PairsAre g (.ref p :: hv) ((n, m) :: rs)
theorem PairsAre.mono {g g' : Heap} {hv : List Value} {rs : List (Str × Int)} (h : PairsAre g hv rs) (u : Sub g g') : PairsAre g' hv rs := by
  induction h with
  | nil => exact .nil
  | cons e _ ih => exact .cons (u _ _ e) ih
theorem PairsAre.append {g : Heap} {hv hw : List Value} {rs qs : List (Str × Int)} (h : PairsAre g hv rs) (h' : PairsAre g hw qs) : PairsAre g (hv ++ hw) (rs ++ qs) := by
  induction h with
  | nil => exact h'
  | cons e _ ih => exact .cons e ih
theorem PairsAre.length {g : Heap} {hv : List Value} {rs : List (Str × Int)} (h : PairsAre g hv rs) : hv.length = rs.length := by
  induction h with
  | nil => rfl
  | cons e _ ih => rw [List.length_cons, List.length_cons, ih]
theorem PairsAre.at {g : Heap} {hv : List Value} {rs : List (Str × Int)} (h : PairsAre g hv rs) : ∀ {i : Nat} (hi : i < rs.length), ∃ p t1 t2, hv[i]? = some (.ref p) ∧ g.get? p = some (tupObj [.str rs[i].1 t1, .int rs[i].2 t2]) := by
  induction h with
  | nil => intro i hi; exact absurd hi (Nat.not_lt_zero _)
  | cons e _ ih =>
    intro i hi
    cases i with
    | zero => exact ⟨_, _, _, rfl, e⟩
    | succ i =>
      obtain ⟨p, t1, t2, e1, e2⟩ := ih (i := i) (by simpa using hi)
      exact ⟨p, t1, t2, by simpa using e1, by simpa using e2⟩
theorem PairsAre.take {g : Heap} {hv : List Value} {rs : List (Str × Int)} (h : PairsAre g hv rs) : ∀ k, PairsAre g (hv.take k) (rs.take k) := by
  induction h with
  | nil => intro k; rw [List.take_nil, List.take_nil]; exact .nil
  | cons e _ ih =>
    intro k
    cases k with
    | zero => exact .nil
    | succ k => exact .cons e (ih k)

/-- the run that holds a place, and the place in it -/
def loc : List (Str × Int) → Int → Nat × Int
  | [], p => (0, p)
  | (_, m) :: r, p => if p < m then (0, p) else ((loc r (p - m)).1 + 1, (loc r (p - m)).2)
def total (rs : List (Str × Int)) : Int := (rs.map (·.2)).sum
def share (rs : List (Str × Int)) (c : Str) : Int := ((rs.filter fun p => p.1 == c).map (·.2)).sum
/-- what the way back finds -/
def findUp : List (Str × Int) → Str → Int → Int → Option Int
  | [], _, _, _ => none
  | (d, m) :: r, c, left, place => if d == c then (if left < m then some (place + left) else findUp r c (left - m) (place + m)) else findUp r c left (place + m)
def Pos (rs : List (Str × Int)) : Prop := ∀ p ∈ rs, 1 ≤ p.2 ∧ p.2 < 2 ^ 10
theorem Pos.tail {p : Str × Int} {rs : List (Str × Int)} (h : Pos (p :: rs)) : Pos rs := fun q hq => h q (.tail _ hq)
theorem total_nonneg : ∀ {rs : List (Str × Int)}, Pos rs → 0 ≤ total rs ∧ total rs ≤ rs.length * 2 ^ 10
  | [], _ => by simp [total]
  | p :: rs, h => by
    have ih := total_nonneg h.tail
    have := h p (.head _)
    simp only [total, List.map_cons, List.sum_cons, List.length_cons] at ih ⊢
    omega
theorem share_le : ∀ {rs : List (Str × Int)} (c : Str), Pos rs → 0 ≤ share rs c ∧ share rs c ≤ total rs
  | [], _, _ => by simp [total, share]
  | p :: rs, c, h => by
    have ih := share_le c h.tail
    have := h p (.head _)
    simp only [total, share, List.map_cons, List.sum_cons, List.filter_cons] at ih ⊢
    split <;> (try simp only [List.map_cons, List.sum_cons]) <;> omega
theorem total_append (a b : List (Str × Int)) : total (a ++ b) = total a + total b := by simp [total, List.sum_append]
theorem loc_cons (c : Str) (m : Int) (r : List (Str × Int)) (p : Int) : loc ((c, m) :: r) p = if p < m then (0, p) else ((loc r (p - m)).1 + 1, (loc r (p - m)).2) := rfl
theorem total_cons (q : Str × Int) (r : List (Str × Int)) : total (q :: r) = q.2 + total r := by simp [total]
theorem loc_lt : ∀ {rs : List (Str × Int)} {p : Int}, 0 ≤ p → p < total rs → (loc rs p).1 < rs.length
  | [], p, h0, h1 => by simp [total] at h1; omega
  | (c, m) :: rs, p, h0, h1 => by
    rw [total_cons] at h1
    rw [loc_cons]
    by_cases h : p < m
    · rw [if_pos h]; exact Nat.zero_lt_succ _
    · rw [if_neg h]
      have := loc_lt (rs := rs) (p := p - m) (by omega) (by simp only at h1; omega)
      simp only [List.length_cons]; omega
theorem loc_step {rs : List (Str × Int)} {k : Nat} {p : Int} (hk : k < rs.length) (h : rs[k].2 ≤ p) : (loc (rs.drop k) p).1 = (loc (rs.drop (k + 1)) (p - rs[k].2)).1 + 1 ∧ (loc (rs.drop k) p).2 = (loc (rs.drop (k + 1)) (p - rs[k].2)).2 := by
  rw [List.drop_eq_getElem_cons hk]
  generalize rs[k] = q at *
  obtain ⟨c, m⟩ := q
  rw [loc_cons, if_neg (by simp only at h; omega)]
  exact ⟨rfl, rfl⟩
theorem loc_stop {rs : List (Str × Int)} {k : Nat} {p : Int} (hk : k < rs.length) (h : p < rs[k].2) : loc (rs.drop k) p = (0, p) := by
  rw [List.drop_eq_getElem_cons hk]
  generalize rs[k] = q at *
  obtain ⟨c, m⟩ := q
  rw [loc_cons, if_pos h]
end Mine
namespace Mine
abbrev lowRow (p : Str × Int) : Str × Int := (Txt.lower p.1, p.2)
theorem share_low (rs : List (Str × Int)) (c : Str) : ((rs.filter fun p => Txt.lower p.1 == c).map (·.2)).sum = share (rs.map lowRow) c := by
  unfold share
  rw [List.filter_map, List.map_map]
  rfl
def downL (ru : List (Str × Int)) (X : Int) : Str := ((ru[(loc ru (X % total ru)).1]?).map (·.1)).getD Str.empty
def downM (ru : List (Str × Int)) (X : Int) : Int := X / total ru * share ru (Txt.lower (Txt.upper (downL ru X))) + share (ru.take (loc ru (X % total ru)).1) (downL ru X) + (loc ru (X % total ru)).2
theorem downL_eq {ru : List (Str × Int)} {X : Int} {k : Nat} (hk : k < ru.length) (e : (loc ru (X % total ru)).1 = k) : downL ru X = ru[k].1 := by
  unfold downL
  rw [e, List.getElem?_eq_getElem hk]; rfl
theorem bits64 {a : Int} (h0 : -(2 ^ 64) < a) (h1 : a < 2 ^ 64) : Builtin.Int.intBits a ≤ 64 := intBits_le_iff.mpr (by omega)
end Mine
namespace Mine
theorem findUp_at {ru : List (Str × Int)} {i : Nat} (h : i < ru.length) (c : Str) (left place : Int) : findUp (ru.drop i) c left place = if ru[i].1 == c then (if left < ru[i].2 then some (place + left) else findUp (ru.drop (i + 1)) c (left - ru[i].2) (place + ru[i].2)) else findUp (ru.drop (i + 1)) c left (place + ru[i].2) := by
  rw [List.drop_eq_getElem_cons h]
  rfl
theorem div_bound {X T : Int} (hT : 0 < T) (h0 : -(2 ^ 62) ≤ X) (h1 : X ≤ 2 ^ 62) : -(2 ^ 64) < X / T ∧ X / T < 2 ^ 64 := by
  constructor
  · have := Int.le_ediv_of_mul_le hT (a := -(2 ^ 62)) (b := X) (by
      have : -(2 ^ 62) * T ≤ -(2 ^ 62) * 1 := by omega
      omega)
    omega
  · have := Int.ediv_le_self (b := T) (a := 2 ^ 62) (by decide)
    have h3 := Int.ediv_le_ediv hT h1
    omega
end Mine
namespace Mine
theorem loop_ret {c : Cfg} {P : Heap → Owns → Prop} {Q : Flow → Heap → Owns → Prop} {g : Heap} {l : Owns} {v : Value} (h : Q (.ret v) g l) : LoopQ c P Q (.ret v) g l := h
end Mine
-- part E0
open PySem PySem.W PyProof.Rows PySem.Calls PySem.Spec
set_option Elab.async false
set_option linter.unusedVariables false
set_option maxRecDepth 100000
namespace Mine
theorem join_sOf (ls : List (List Nat)) : Txt.join (Str.ofString "") (ls.map sOf) = sOf ls.flatten := by
  have key : ∀ (ls : List (List Nat)) (acc : List Nat), List.foldl (fun acc p => acc ++ (Str.ofString "").cps ++ p.cps) acc.toArray (ls.map sOf) = (acc ++ ls.flatten).toArray := fun ls => by
    induction ls with
    | nil => intro acc; simp
    | cons a r ih =>
      intro acc
      rw [List.map_cons, List.foldl_cons, show acc.toArray ++ (Str.ofString "").cps ++ (sOf a).cps = (acc ++ a).toArray by
        have : (Str.ofString "").cps = #[] := by decide
        rw [this]; simp, ih]
      simp
  cases ls with
  | nil => rfl
  | cons a r =>
    show Str.mk (List.foldl _ (sOf a).cps (r.map sOf)) = _
    rw [key r a]
    simp
theorem charAt_sOf {l : List Nat} {k : Int} (h0 : 0 ≤ k) (h1 : k < l.length) : Txt.charAt (sOf l) k = some (l[k.toNat]'(by omega)) := by
  unfold Txt.charAt
  have hl : (sOf l).length = l.length := List.size_toArray
  rw [hl, seqIndex_of h0 h1]
  show (sOf l).cps[k.toNat]? = _
  rw [List.getElem?_toArray, List.getElem?_eq_getElem (by omega)]
theorem item_sOf {l : List Nat} {k : Int} (h0 : 0 ≤ k) (h1 : k < l.length) : Txt.item (sOf l) k = sOf [l[k.toNat]'(by omega)] := by
  unfold Txt.item
  rw [charAt_sOf h0 h1]; rfl
theorem fits_small {k : Int} (h0 : 0 ≤ k) (h1 : k < 2 ^ 62) : fitsSsize k = true := by
  unfold fitsSsize
  simp
  omega
theorem sOf_length (l : List Nat) : (sOf l).length = l.length := List.size_toArray

theorem log_small {a : Int} (h0 : 0 ≤ a) (h1 : a < 2 ^ 60) : a.natAbs.log2 < 1920 := by
  by_cases h : a.natAbs = 0
  · rw [h]; decide
  · exact Nat.lt_trans ((Nat.log2_lt h).mpr (show a.natAbs < 2 ^ 60 by omega)) (by decide)

theorem app_sOf (a b : List Nat) : sOf a ++ sOf b = sOf (a ++ b) := by
  apply PySem.Str.ext'
  show (sOf a ++ sOf b).cps = _
  rw [PySem.Str.cps_append]
  simp
theorem flatten_ones (ds : List Nat) : (ds.map fun d => [d]).flatten = ds := by
  induction ds with
  | nil => rfl
  | cons d r ih => rw [List.map_cons, List.flatten_cons, ih]; rfl
section
variable {c : Cfg} {A : Around} {g : Heap} {l l' : Owns} {x y : Str} {t u : Tok} {Q : Value → Heap → Owns → Prop}
theorem W_iaddStr (hz : x.length + y.length ≤ sizeLine) (h : ∀ k, Q (.str (x ++ y) k) g l) : W c A (inplaceOp .Add (.str x t) (.str y u)) g l Q := W_toks (mk := Value.str _) (fun _ _ _ h => PyProof.Rows.iadd_str h hz) h
end
end Mine
-- part E1
open PySem PySem.W PyProof.Rows PySem.Calls PySem.Spec
set_option Elab.async false
set_option linter.unusedVariables false
set_option maxRecDepth 100000
namespace Mine
section
variable {c : Cfg} {A : Around} {g : Heap} {l l' : Owns} {env : Env}

theorem Hdr.inst {C x a : Addr} {s : Shared} (H : Hdr C g x a) (S : St c g s l) : ∃ ox od, InstAt s.heap x ox C od := by
  obtain ⟨dx, hsh, tk, n, e1, e2⟩ := H
  exact ⟨instObj C dx, some (dictOf [⟨hsh, .str "_headers" tk, .ref a⟩] n), ⟨S.keep _ _ e1, rfl, rfl, S.keep _ _ e2⟩⟩
/-- obj[i] = v by the class's own method -/
theorem W_setItemI {C x a f : Addr} {i v : Value} {Q : Unit → Heap → Owns → Prop} (H : Hdr C g x a) (hq : noSeq c.K C = true) (hs : findIn c.K (.ref C) "__setitem__" = some (some (.ref f))) (hf : isFn c.K (.ref f) = true)
    (h : W c A (call (.ref f) [.ref x, i, v]) g l fun _ g' l' => Q () g' l') : W c A (setItem (.ref x) i v) g l Q := fun s S => by
  obtain ⟨ox, od, I⟩ := H.inst S
  have X := S.base.K.keeps S.keep
  unfold setItem sequenceKey
  refine wpAny_holding (wpAny_bind (wpAny_bind (I.type.here (wpAny_bind ((anyM_none X hq).here ?_)))))
  rw [if_pos (show (!false) = true from rfl)]
  exact wpAny_pure (wpAny_bind (special_fn X I hs (beq_iff_eq.mp hf) (h.run S fun _ _ _ _ u S' q => wpAny_pure (Post.mk u S' q))))
/-- del obj[i] -/
theorem W_delItemI {C x a f : Addr} {i : Value} {Q : Unit → Heap → Owns → Prop} (H : Hdr C g x a) (hq : noSeq c.K C = true) (hs : findIn c.K (.ref C) "__delitem__" = some (some (.ref f))) (hf : isFn c.K (.ref f) = true)
    (h : W c A (call (.ref f) [.ref x, i]) g l fun _ g' l' => Q () g' l') : W c A (delItem (.ref x) i) g l Q := fun s S => by
  obtain ⟨ox, od, I⟩ := H.inst S
  have X := S.base.K.keeps S.keep
  unfold delItem sequenceKey
  refine wpAny_holding (wpAny_bind (wpAny_bind (I.type.here (wpAny_bind ((anyM_none X hq).here ?_)))))
  rw [if_pos (show (!false) = true from rfl)]
  exact wpAny_pure (wpAny_bind (special_fn X I hs (beq_iff_eq.mp hf) (h.run S fun _ _ _ _ u S' q => wpAny_pure (Post.mk u S' q))))
theorem W_DelSub {x : Str} {px p pos : PySem.Pos} {i : Expr} {Q : Flow → Heap → Owns → Prop} (h : W c A (eval (.Name x px) env) g l fun ov g1 l1 => W c A (eval i env) g1 l1 fun iv g2 l2 => W c A (delItem ov iv) g2 l2 fun _ g3 l3 => Q .next g3 l3) : W c A (exec (.Delete [.Subscript (.Name x px) i p] pos) env) g l Q := fun s S => by
  refine wpAny_Delete (wpAny_deleteEach_cons ?_)
  rw [arm_delete_Subscript]
  refine wpAny_bind (h.run S fun ov g1 l1 s1 u1 S1 h1 => wpAny_bind (wpAny_holding (h1.run S1 fun iv g2 l2 s2 u2 S2 h2 => wpAny_bind (wpAny_standAt (wpAny_bind (wpAny_holding (h2.run S2 fun _ g3 l3 s3 u3 S3 h3 => wpAny_release ?_)))))))
  exact wpAny_deleteEach_nil (Post.mk ((u1.trans u2).trans u3) S3 h3)

/-- a[:] = b -/
theorem W_setSlice {a b sl : Addr} {vs ws : List Value} {Q : Unit → Heap → Owns → Prop} (U : Turn a (.list vs) (.list ws) l l') (hb : ListAt g l b ws) (hne : a ≠ b) (hs : g.get? sl = some (sliceObj .none .none)) (hz : vs.length + ws.length ≤ sizeLine) (h : Q () g l') : W c A (setItem (.ref a) (.ref sl) (.ref b)) g l Q := fun s S => by
  have hl := Heap.PlainList.isList (S.own _ U.mem).1
  obtain ⟨n, ho⟩ := (S.own _ U.mem).1
  obtain ⟨ob, hob, hcb, nb, hdb⟩ := hb.is S
  have hos := S.keep _ _ hs
  have hTs : s.TypeIs (.ref sl) "slice" := ⟨_, hos, rfl⟩
  unfold setItem
  try with_reducible refine wpAny_holding ?_
  first | refine wpAny_bind (wpAny_pure ?_) | skip
  refine wpAny_bind (wpAny_sequenceKey hl.typeIs (by decide) ?_)
  refine wpAny_bind (wpAny_callSpecial?_slot (name := Str.ofString "__setitem__") hl.typeIs slot_list_setitem
    (wpAny_call_entry slot_list_setitem hl.typeIs entry_list_setitem ?_ (args_list_setitem _ _ _)))
  show wpAny _ _ (Builtin.List.listSubscript? (.ref sl) >>= _) _ _ s
  refine wpAny_bind ?_
  unfold Builtin.List.listSubscript?
  refine wpAny_bind (wpAny_specialOf hTs slice_no_index ?_)
  simp only [Option.isNone_none, if_true]
  refine wpAny_pure ?_
  show wpAny _ _ (typeOf (.ref sl) >>= _) _ _ s
  refine wpAny_bind (wpAny_typeOf hTs ?_)
  rw [if_neg (by decide)]
  rw [listSliceParts_eq]
  refine wpAny_bind (wpAny_bind (wpAny_field hos rfl (x := .none) rfl (wpAny_bind (wpAny_listPart .none ?_))))
  rw [if_neg (by decide)]
  refine wpAny_bind (wpAny_field hos rfl (x := .none) rfl (wpAny_bind (wpAny_listPart .none ?_)))
  refine wpAny_bind (wpAny_field hos rfl (x := .none) rfl (wpAny_bind (wpAny_listPart .none (wpAny_pure ?_))))
  have hsr : Builtin.List.listSameRef (Value.ref a) (Value.ref b) = false := beq_eq_false_iff_ne.mpr hne
  rw [hsr, if_neg Bool.false_ne_true]
  refine wpAny_bind ?_
  unfold Builtin.List.listAllItems
  refine wpAny_bind (wpAny_typeOf (T := "list") ⟨ob, hob, hcb⟩ ?_)
  rw [if_pos (by decide)]
  unfold Builtin.List.listItems
  refine wpAny_bind (wpAny_seqItems hob hdb (wpAny_pure ?_))
  refine wpAny_bind (wpAny_bind (wpAny_seqItems ho rfl (wpAny_pure ?_)))
  refine wpAny_bind (wpAny_of_eq (sliceIndices_raw none none none vs.toArray.size (by simp)) ?_)
  rw [show sliceBounds none none none vs.toArray.size = (0, (vs.toArray.size : Int), 1) from rfl]
  dsimp only
  rw [if_pos (by decide)]
  refine wpAny_bind (wpAny_rule ?_)
  rw [if_neg (by unfold Builtin.List.listTooLong; rw [decide_eq_true_eq, List.size_toArray, List.size_toArray]; omega)]
  have hf : vs.toArray.extract 0 (Int.toNat 0) ++ ws.toArray ++ vs.toArray.extract (max 0 (vs.toArray.size : Int)).toNat = ws.toArray := by
    have e1 : (max 0 (vs.toArray.size : Int)).toNat = vs.toArray.size := by omega
    simp only [e1]
    simp
  refine wpAny_bind ?_
  show wpAny _ _ (updateSeq a _) _ _ s
  refine wpAny_updateSeq ho rfl ?_ ?_ ?_
  · refine wpAny_bind (wpAny_letGo (wpAny_pure ⟨_, rfl, wpAny_pure ?_⟩))
    refine Post.mk' (S.turn (tk := s.toks) U (Ext_of_same (Heap.SameBut.update _ _ _)) ⟨if ws.toArray.size == vs.toArray.size then n else n + 1, ?_⟩) h
    rw [Heap.get?_update_self _ ho rfl]
    unfold Obj.mapSeq
    dsimp only
    rw [hf]
  · rw [List.size_toArray]; omega
  · rw [hf, List.size_toArray]; omega
theorem W_setSlice' {a b sl : Addr} {vs ws : List Value} {l0 l0' : Owns} {Q : Unit → Heap → Owns → Prop} (U : Turn a (.list vs) (.list ws) l0 l0') (hs : g.get? sl = some (sliceObj .none .none)) (hz : vs.length + ws.length ≤ sizeLine) (h : Q () g ((b, .list ws) :: l0')) : W c A (setItem (.ref a) (.ref sl) (.ref b)) g ((b, .list ws) :: l0) Q := fun s S => by
  have hne : a ≠ b := fun e => by
    have hn := S.nodup
    rw [List.map_cons, List.nodup_cons] at hn
    exact hn.1 (by rw [← e]; exact List.mem_map_of_mem (f := (·.1)) U.mem)
  exact W_setSlice (.tail U) (.own (.head _)) hne hs hz h s S
end
end Mine
namespace Mine
theorem find_at {α : Type} {P : α → Bool} {rs : List α} {i : Nat} (h : i < rs.length) (hn : (rs.take i).find? P = none) (hp : P rs[i] = true) : rs.find? P = some rs[i] := by
  have e : rs.find? P = (rs.take i ++ rs.drop i).find? P := by rw [List.take_append_drop]
  rw [e, List.find?_append, hn, List.drop_eq_getElem_cons h, List.find?_cons_of_pos hp]; rfl
end Mine
-- part E2
open PySem PySem.W PyProof.Rows PySem.Calls PySem.Spec
set_option Elab.async false
set_option linter.unusedVariables false
set_option maxRecDepth 100000
open PySem.SeqAt
namespace Mine
section
variable {c : Cfg} {A : Around} {g : Heap} {l l' : Owns} {env : Env}
abbrev signI (x : Str) (t : Tok) (i : Nat) : Own := .like fun o => o.cls = .type "str_ascii_iterator" ∧ o.data = .fields #[.str x t, .int i 0]
theorem feeds_str (hh : A.handled = none) (it : Addr) (x : Str) (t : Tok) : Feeds c A it (fun i => signI x t i) x.length (fun i v => ∃ n u, x.cps[i]? = some n ∧ v = .str ⟨#[n]⟩ u) (fun g l => True) where
  item := fun i g l hi hl s S => by
    have hit : s.heap.IsStrIter it "str_ascii_iterator" x t i := (S.own _ (.head _)).1
    have hx : x.cps[i]? = some (x.cps[i]'hi) := Array.getElem?_eq_getElem hi
    refine wpAny_pyNext_ascii_item hit hx fun h' hit' hs => ?_
    exact Post.mk' (S.turn (x' := signI x t (i + 1)) (tk := s.toks + 1) .head (Ext_of_same hs) hit') ⟨_, rfl, ⟨_, _, hx, rfl⟩, rfl, rfl⟩
  done := fun g l hl s S => by
    have hit : s.heap.IsStrIter it "str_ascii_iterator" x t x.length := (S.own _ (.head _)).1
    exact wpAny_pyNext_ascii_end hh hit (by show x.cps[x.cps.size]? = none; simp) fun h' he => Post.mk' (S.lose (tk := s.toks) he) ⟨rfl, rfl, rfl⟩
  go := fun i g l target v hV s S => by
    obtain ⟨n, u, _, rfl⟩ := hV
    have nothing : wpAny c.M A (pure () : Sem Unit) (Post c g fun _ g' l' => g' = g ∧ l' = (it, signI x t (i + 1)) :: l) (fun _ _ => False) s := wpAny_pure (Post.mk' S ⟨rfl, rfl⟩)
    cases target <;> exact nothing
  self := fun i g l hl s S => wpAny_pyIter_striter_ascii (S.own _ (.head _)).1 (Post.mk' S ⟨rfl, rfl, rfl⟩)
theorem W_iterStr {x : Str} {t : Tok} {Q : Value → Heap → Owns → Prop} (ha : x.cps.all (· < 128) = true) (h : ∀ it, Q (.ref it) g ((it, signI x t 0) :: l)) : W c A (pyIter (.str x t)) g l Q := fun s S => by
  refine wpAny_pyIter_ascii ha ?_
  refine Post.mk' (S.grow (tk := s.toks) (new := [(s.heap.objs.size, signI x t 0)]) (fun _ _ e => Heap.get?_push_of_some _ e) (fun p hp => ?_) (List.nodup_cons.mpr ⟨List.not_mem_nil, List.nodup_nil⟩)) (h _)
  rw [List.mem_singleton.mp hp]
  exact ⟨⟨_, Heap.get?_push_size _ rfl, rfl, rfl⟩, Nat.le_refl _⟩
/-- a comprehension over the signs of a text, no tests -/
theorem comp_signs {x : Str} {t : Tok} {scope : Scope} {cl : List (Str × Addr)} {target : Expr} {elt : Expr} {names : List Str} {R : List Value → Heap → Owns → Prop} (hh : A.handled = none) (ha : x.cps.all (· < 128) = true) (hz : x.length ≤ sizeLine)
    (R0 : Nat → List Value → Heap → Prop) (hlen : ∀ i ys g1, R0 i ys g1 → ys.length ≤ i) (h0 : R0 0 [] g)
    (turn : ∀ it acc C i n u ys r g1, i < x.length → x.cps[i]? = some n → Sub g g1 → R0 i ys g1 → r.map (·.1) = names → W c A (assign target (compEnvC scope cl C env) (.str ⟨#[n]⟩ u)) g1 ((it, signI x t (i + 1)) :: (acc, .list ys) :: (C, .fr r) :: l) fun _ g2 l2 =>
      W c A (eval elt (compEnvC scope cl C env)) g2 l2 fun y g3 l3 => ∃ r', l3 = (it, signI x t (i + 1)) :: (acc, .list ys) :: (C, .fr r') :: l ∧ r'.map (·.1) = names ∧ Sub g g3 ∧ R0 (i + 1) (ys ++ [y]) g3)
    (fin : ∀ ys g1, Sub g g1 → R0 x.length ys g1 → R ys g1 l) : W c A (pyIter (.str x t)) g l fun itv g2 l2 => ∃ it, itv = .ref it ∧ CompIt c A env scope cl target [] elt names g2 l2 it R := by
  refine W_iterStr ha fun it => ⟨it, rfl, ⟨fun i => signI x t i, x.length, _, fun g l => True, fun i ys g1 l1 => l1 = l ∧ Sub g g1 ∧ R0 i ys g1, l, feeds_str hh it x t, hz, rfl, ?_, ?_, ⟨rfl, Sub.refl _, h0⟩, ?_, ?_⟩⟩
  · intros; trivial
  · rintro i ys g1 l1 ⟨_, _, h⟩
    exact hlen _ _ _ h
  · rintro acc C i v ys r g1 l1 hi ⟨n, u, hn, rfl⟩ u1 ⟨rfl, _, h⟩ hr
    refine W.mono (turn it acc C i n u ys r g1 hi hn u1 h hr) fun _ g2 l2 u2 q => turnAll (W.mono q fun y g3 l3 u3 q => ?_)
    obtain ⟨r', rfl, hr', hu, h⟩ := q
    exact Shift.done ⟨r', l1, rfl, hr', rfl, hu, h⟩
  · rintro ys g1 l1 u ⟨rfl, _, h⟩
    exact fin ys g1 u h

-- lists that are alike
/-- two values that are equal -/
inductive Alike (g : Heap) : Value → Value → Prop
  | int {a t u} : Alike g (.int a t) (.int a u)
  | str {a t u} : Alike g (.str a t) (.str a u)
  | pair {p q : Addr} {a b : Str} {t1 t2 u1 u2 : Tok} : g.get? p = some (tupObj [.str a t1, .str b t2]) → g.get? q = some (tupObj [.str a u1, .str b u2]) → Alike g (.ref p) (.ref q)
theorem Alike.eq {v w : Value} (h : Alike g v w) {s : Shared} (k : Sub g s.heap) (hu : A.units + 1 < cLine) : EqAt A.in1 s v w true := by
  cases h with
  | @int a t u => have := (MeetsSeq.EqGives.int a a t u).at A.in1 s; rwa [beq_self_eq_true] at this
  | @str a t u => have := (eqGives_str a a t u).at A.in1 s; rwa [beq_self_eq_true] at this
  | @pair p q a b t1 t2 u1 u2 e1 e2 =>
    by_cases hpq : p = q
    · subst hpq; exact EqAt.same _
    · refine EqAt.of_refs hpq ?_
      have := RcAt.tuples (A := A.in1) (s := s) (items := #[.str a t1, .str b t2]) (items2 := #[.str a u1, .str b u2]) (e := fun _ => true) ⟨_, k _ _ e1, rfl, _, rfl⟩ ⟨_, k _ _ e2, rfl, _, rfl⟩ hu (fun j h1 h2 => by
        have h1' : j < 2 := h1
        match j, h1' with
        | 0, _ => have := (eqGives_str a a t1 u1).at A.in1.in1 s; rwa [beq_self_eq_true] at this
        | 1, _ => have := (eqGives_str b b t2 u2).at A.in1.in1 s; rwa [beq_self_eq_true] at this)
      exact this
def AllAlike (g : Heap) (vs ws : List Value) : Prop := vs.length = ws.length ∧ ∀ i (h1 : i < vs.length) (h2 : i < ws.length), Alike g vs[i] ws[i]
theorem all_true (n : Nat) : ((List.range n).all fun _ => true) = true := List.all_eq_true.mpr fun _ _ => rfl
theorem W_eqList {a b : Addr} {vs ws : List Value} {Q : Value → Heap → Owns → Prop} (ha : ListAt g l a vs) (hb : ListAt g l b ws) (hw : AllAlike g vs ws) (hu : A.units + 1 < cLine) (h : Q (.bool true) g l) : W c A (compareOp .Eq (.ref a) (.ref b)) g l Q := fun s S => by
  refine eq_listAt (e := fun _ => true) (ha.is S) (hb.is S) (by rw [List.size_toArray, List.size_toArray]; exact hw.1) (by omega) (fun j h1 h2 => ?_) ?_
  · exact (hw.2 j (by simpa using h1) (by simpa using h2)).eq S.keep hu
  · rw [all_true]; exact Post.mk' S h
theorem W_neList {a b : Addr} {vs ws : List Value} {Q : Value → Heap → Owns → Prop} (ha : ListAt g l a vs) (hb : ListAt g l b ws) (hw : AllAlike g vs ws) (hu : A.units + 1 < cLine) (h : Q (.bool false) g l) : W c A (compareOp .NotEq (.ref a) (.ref b)) g l Q := fun s S => by
  refine RcNeAt.lists (e := fun _ => true) (ha.is S) (hb.is S) (by rw [List.size_toArray, List.size_toArray]; exact hw.1) (by omega) (fun j h1 h2 => ?_) _ _ _ _ ?_
  · exact (hw.2 j (by simpa using h1) (by simpa using h2)).eq S.keep hu
  · rw [all_true]; exact Post.mk' S h
theorem W_eqNil {a b : Addr} {vs : List Value} {Q : Value → Heap → Owns → Prop} (ha : ListAt g l a vs) (hb : ListAt g l b []) (hu : A.units + 1 < cLine) (h : Q (.bool vs.isEmpty) g l) : W c A (compareOp .Eq (.ref a) (.ref b)) g l Q := by
  cases vs with
  | nil => exact W_eqList ha hb ⟨rfl, fun i h1 => absurd h1 (Nat.not_lt_zero _)⟩ hu h
  | cons v r => exact fun s S => eq_list_lengthsAt (ha.is S) (hb.is S) (by simp) (by omega) (Post.mk' S h)
end
theorem alike_strs {g : Heap} : ∀ {vs ws : List Value} {xs : List Str}, StrsAre vs xs → StrsAre ws xs → AllAlike g vs ws
  | _, _, _, .nil, .nil => ⟨rfl, fun i h1 => absurd h1 (Nat.not_lt_zero _)⟩
  | _, _, _, .cons y t h, .cons _ u h' => by
    have ih := alike_strs (g := g) h h'
    refine ⟨by rw [List.length_cons, List.length_cons, ih.1], fun i h1 h2 => ?_⟩
    cases i with
    | zero => exact .str
    | succ i => simpa using ih.2 i (by simpa using h1) (by simpa using h2)
theorem alike_ints {g : Heap} : ∀ {vs ws : List Value} {xs : List Int}, IntsAre vs xs → IntsAre ws xs → AllAlike g vs ws
  | _, _, _, .nil, .nil => ⟨rfl, fun i h1 => absurd h1 (Nat.not_lt_zero _)⟩
  | _, _, _, .cons y t h, .cons _ u h' => by
    have ih := alike_ints (g := g) h h'
    refine ⟨by rw [List.length_cons, List.length_cons, ih.1], fun i h1 h2 => ?_⟩
    cases i with
    | zero => exact .int
    | succ i => simpa using ih.2 i (by simpa using h1) (by simpa using h2)
theorem alike_rows {g : Heap} : ∀ {vs ws : List Value} {xs : List (Str × Str)}, RowsAre g vs xs → RowsAre g ws xs → AllAlike g vs ws
  | _, _, _, .nil, .nil => ⟨rfl, fun i h1 => absurd h1 (Nat.not_lt_zero _)⟩
  | _, _, _, .cons e h, .cons e' h' => by
    have ih := alike_rows h h'
    refine ⟨by rw [List.length_cons, List.length_cons, ih.1], fun i h1 h2 => ?_⟩
    cases i with
    | zero => exact .pair e e'
    | succ i => simpa using ih.2 i (by simpa using h1) (by simpa using h2)
end Mine
-- part E3
open PySem PySem.W PyProof.Rows PySem.Calls PySem.Spec
set_option Elab.async false
set_option linter.unusedVariables false
set_option maxRecDepth 100000
namespace Mine
theorem bits_le' {a : Int} {n : Nat} (h0 : 0 ≤ a) (h : a < 2 ^ n) : Builtin.Int.intBits a ≤ n := intBits_le_iff.mpr (by
  have e : ((2 ^ n : Nat) : Int) = 2 ^ n := by norm_cast
  omega)
def hexD (r : Int) : List Int := digs 4 ((Builtin.Int.intBits r + 4 - 1) / 4) r
theorem hexD_zero : hexD 0 = [] := rfl
theorem hexD_step {r : Int} (h : 0 < r) : hexD r = r % 16 :: hexD (r / 16) := by
  obtain ⟨b, hb⟩ : ∃ b, b = Builtin.Int.intBits r := ⟨_, rfl⟩
  have h1 : r.natAbs < 2 ^ b := intBits_le_iff.mp (by omega)
  have h2 : ∀ m, m < b → 2 ^ m ≤ r.natAbs := fun m hm => by
    rcases Nat.lt_or_ge r.natAbs (2 ^ m) with q | q
    · have := intBits_le_iff.mpr q; omega
    · exact q
  have key : (b + 4 - 1) / 4 = (Builtin.Int.intBits (r / 16) + 4 - 1) / 4 + 1 := by
    by_cases h16 : r < 16
    · have e0 : r / 16 = 0 := Int.ediv_eq_zero_of_lt (by omega) h16
      rw [e0]
      show _ = (0 + 4 - 1) / 4 + 1
      have hb4 : b ≤ 4 := by rw [hb]; exact intBits_le_iff.mpr (by omega)
      have hb1 : 1 ≤ b := by
        rcases Nat.eq_zero_or_pos b with q | q
        · rw [q] at h1; simp at h1; omega
        · exact q
      omega
    · have hb5 : 5 ≤ b := by
        rcases Nat.lt_or_ge b 5 with q | q
        · have h3 : 2 ^ b ≤ 2 ^ 4 := Nat.pow_le_pow_right (by decide) (by omega)
          omega
        · exact q
      have e1 : (2 : Nat) ^ b = 16 * 2 ^ (b - 4) := by
        obtain ⟨k, rfl⟩ : ∃ k, b = k + 4 := ⟨b - 4, by omega⟩
        rw [Nat.add_sub_cancel, Nat.pow_add, Nat.mul_comm]
      have e2 : (2 : Nat) ^ (b - 1) = 16 * 2 ^ (b - 5) := by
        obtain ⟨k, rfl⟩ : ∃ k, b = k + 5 := ⟨b - 5, by omega⟩
        rw [Nat.add_sub_cancel, show k + 5 - 1 = k + 4 by omega, Nat.pow_add, Nat.mul_comm]
      have h3 := h2 (b - 1) (by omega)
      have le : Builtin.Int.intBits (r / 16) ≤ b - 4 := intBits_le_iff.mpr (by omega)
      have ge : ¬ Builtin.Int.intBits (r / 16) ≤ b - 5 := fun q => by
        have := intBits_le_iff.mp q
        omega
      omega
  unfold hexD
  rw [← hb, key, digs]
  rfl
theorem hexD_val {r : Int} (h : 0 ≤ r) : digVal 4 (hexD r) = r := by
  unfold hexD
  rw [digVal_digs, Int.emod_eq_of_lt h]
  have hk : Builtin.Int.intBits r ≤ 4 * ((Builtin.Int.intBits r + 4 - 1) / 4) := by omega
  have := intBits_le_iff.mp hk
  have e : ((2 ^ (4 * ((Builtin.Int.intBits r + 4 - 1) / 4)) : Nat) : Int) = 2 ^ (4 * ((Builtin.Int.intBits r + 4 - 1) / 4)) := by norm_cast
  omega
theorem hexD_small (r : Int) : ∀ d ∈ hexD r, 0 ≤ d ∧ d < 16 := fun d hd => by
  have := digs_small 4 _ r d hd
  simpa using this
theorem hexD_len {r : Int} (h0 : 0 ≤ r) (h : r < 2 ^ 60) : (hexD r).length ≤ 16 := by
  unfold hexD
  rw [digs_length]
  have := bits_le' h0 h
  omega

def signsOf (ds : List Int) : List Nat := ds.map fun d => (97 + d).toNat
def nameL (r : Int) : List Nat := 110 :: signsOf (hexD r)
def nameS (r : Int) : Str := sOf (nameL r)
theorem signs_range (r : Int) : ∀ c ∈ signsOf (hexD r), 97 ≤ c ∧ c ≤ 112 := fun c hc => by
  obtain ⟨d, hd, rfl⟩ := List.mem_map.mp hc
  have := hexD_small r d hd
  omega
theorem nameL_range (r : Int) : ∀ c ∈ nameL r, 97 ≤ c ∧ c ≤ 112 := fun c hc => by
  rcases List.mem_cons.mp hc with rfl | hc
  · omega
  · exact signs_range r c hc
theorem nameL_len {r : Int} (h0 : 0 ≤ r) (h : r < 2 ^ 60) : (nameL r).length ≤ 17 := by
  have := hexD_len h0 h
  unfold nameL signsOf
  rw [List.length_cons, List.length_map]; omega
theorem fine_name {r : Int} (h0 : 0 ≤ r) (h : r < 2 ^ 60) : Fine (nameS r) := ⟨fun c hc => by have := nameL_range r c hc; omega, by
  show (nameL r).toArray.size < _
  rw [List.size_toArray]; have := nameL_len h0 h; omega⟩
theorem low_sOf {l : List Nat} (h : ∀ c ∈ l, 97 ≤ c ∧ c ≤ 122) : l.map lo1 = l := by
  have : l.map lo1 = l.map id := List.map_congr_left fun c hc => by
    have := h c hc
    show lo1 c = c
    unfold lo1; rw [if_neg (by omega)]
  rw [this, List.map_id]
theorem low_up_sOf {l : List Nat} (h : ∀ c ∈ l, 97 ≤ c ∧ c ≤ 122) : (l.map up1).map lo1 = l := by
  rw [List.map_map]
  have : l.map (lo1 ∘ up1) = l.map id := List.map_congr_left fun c hc => by
    have := h c hc
    show lo1 (up1 c) = c
    have e : up1 c = c - 32 := by unfold up1; rw [if_pos (by omega)]
    rw [e]; unfold lo1; rw [if_pos (by omega)]; omega
  rw [this, List.map_id]
theorem upper_name {r : Int} (h0 : 0 ≤ r) (h : r < 2 ^ 60) : Txt.upper (nameS r) = sOf ((nameL r).map up1) := (fine_name h0 h).upper_eq
theorem low_name {r : Int} (h0 : 0 ≤ r) (h : r < 2 ^ 60) : Txt.lower (nameS r) = nameS r := by
  rw [(fine_name h0 h).lower_eq]
  show sOf ((nameL r).map lo1) = _
  rw [low_sOf fun c hc => by have := nameL_range r c hc; omega]; rfl
theorem low_upName {r : Int} (h0 : 0 ≤ r) (h : r < 2 ^ 60) : Txt.lower (Txt.upper (nameS r)) = nameS r := by
  rw [(fine_name h0 h).upper.lower_eq, upper_name h0 h]
  show sOf (((nameL r).map up1).map lo1) = _
  rw [low_up_sOf fun c hc => by have := nameL_range r c hc; omega]; rfl
theorem name_inj {r s : Int} (hr : 0 ≤ r) (hs : 0 ≤ s) (e : nameS r = nameS s) : r = s := by
  have e1 : nameL r = nameL s := by
    have := congrArg (fun x => x.cps.toList) e
    simpa [nameS] using this
  have e2 : signsOf (hexD r) = signsOf (hexD s) := (List.cons.inj e1).2
  have e3 : ∀ {a b : List Int}, (∀ d ∈ a, 0 ≤ d) → (∀ d ∈ b, 0 ≤ d) → signsOf a = signsOf b → a = b := by
    intro a
    induction a with
    | nil => intro b _ _ h; cases b with
      | nil => rfl
      | cons => cases h
    | cons x a ih => intro b h1 h2 h; cases b with
      | nil => cases h
      | cons y b =>
        have h' := List.cons.inj h
        have hx := h1 x (.head _)
        have hy := h2 y (.head _)
        have h8 : (97 + x).toNat = (97 + y).toNat := h'.1
        rw [ih (fun d hd => h1 d (.tail _ hd)) (fun d hd => h2 d (.tail _ hd)) h'.2]
        congr 1; omega
  have e4 := e3 (fun d hd => (hexD_small r d hd).1) (fun d hd => (hexD_small s d hd).1) e2
  rw [← hexD_val hr, ← hexD_val hs, e4]

-- remainders, for either sign of m
def rest (x m : Int) : Int := if m < 0 then -(x.fmod m) else x.fmod m
def sg (m x : Int) : Int := if m < 0 then -x else x
theorem fdiv_sg {x m : Int} (hm : m ≠ 0) : x.fdiv m = sg m x / sg m m := by
  unfold sg
  by_cases h : m < 0
  · rw [if_pos h, if_pos h, ← Int.fdiv_eq_ediv_of_nonneg _ (by omega), Int.neg_fdiv_neg]
  · rw [if_neg h, if_neg h, Int.fdiv_eq_ediv_of_nonneg _ (by omega)]
theorem rest_sg {x m : Int} (hm : m ≠ 0) : rest x m = sg m x % sg m m := by
  unfold rest sg
  by_cases h : m < 0
  · rw [if_pos h, if_pos h, if_pos h, Int.fmod_def]
    have e := fdiv_sg (x := x) hm
    unfold sg at e
    rw [if_pos h, if_pos h] at e
    rw [e]
    have := Int.emod_add_mul_ediv (-x) (-m)
    rw [Int.neg_mul] at this
    omega
  · rw [if_neg h, if_neg h, if_neg h, Int.fmod_eq_emod_of_nonneg _ (by omega)]
theorem sg_pos {m : Int} (hm : m ≠ 0) : 0 < sg m m := by unfold sg; split <;> omega
theorem rest_bound {x m : Int} (hm : m ≠ 0) : 0 ≤ rest x m ∧ rest x m < sg m m := by
  rw [rest_sg hm]
  exact ⟨Int.emod_nonneg _ (Int.ne_of_gt (sg_pos hm)), Int.emod_lt_of_pos _ (sg_pos hm)⟩
theorem sg_sub (m x y : Int) : sg m (x - y) = sg m x - sg m y := by unfold sg; split <;> omega
theorem rest_iff {x z m : Int} (hm : m ≠ 0) : rest z m = rest x m ↔ (z - x).fmod m = 0 := by
  have h0 : (z - x).fmod m = 0 ↔ rest (z - x) m = 0 := by unfold rest; split <;> omega
  rw [h0, rest_sg hm, rest_sg hm, rest_sg hm, sg_sub, Int.emod_eq_emod_iff_emod_sub_eq_zero]
theorem back_eq (x m : Int) : x.fdiv m * m + x.fmod m = x := by
  have := Int.mul_fdiv_add_fmod x m
  rw [Int.mul_comm]; exact this
theorem fdiv_bound {x m : Int} (hm : m ≠ 0) (h0 : -(10 ^ 9) ≤ x) (h1 : x ≤ 10 ^ 9) : -(10 ^ 9) ≤ x.fdiv m ∧ x.fdiv m ≤ 10 ^ 9 := by
  rw [fdiv_sg hm]
  have hp := sg_pos hm
  have hs : -(10 ^ 9) ≤ sg m x ∧ sg m x ≤ 10 ^ 9 := by unfold sg; split <;> omega
  constructor
  · exact Int.le_ediv_of_mul_le hp (by
      have : -(10 ^ 9) * sg m m ≤ -(10 ^ 9) * 1 := by omega
      omega)
  · exact Int.le_trans (Int.ediv_le_ediv hp hs.2) (Int.ediv_le_self _ (by decide))
def pairOf (x m : Int) : Str × Str := if x.fdiv m < 0 then (Txt.upper (nameS (rest x m)), Str.ofString (toString (-1 - x.fdiv m))) else (nameS (rest x m), Str.ofString (toString (x.fdiv m)))
theorem low_pair {x m : Int} (hm : m ≠ 0) (hb : sg m m < 2 ^ 60) : Txt.lower (pairOf x m).1 = nameS (rest x m) := by
  have hr := rest_bound (x := x) hm
  unfold pairOf
  split
  · exact low_upName hr.1 (by omega)
  · exact low_name hr.1 (by omega)
theorem fine_pair {x m : Int} (hm : m ≠ 0) (hb : sg m m < 2 ^ 60) : Fine (pairOf x m).1 := by
  have hr := rest_bound (x := x) hm
  unfold pairOf
  split
  · exact (fine_name hr.1 (by omega)).upper
  · exact fine_name hr.1 (by omega)
theorem num_pair {x m : Int} (hm : m ≠ 0) (h0 : -(10 ^ 9) ≤ x) (h1 : x ≤ 10 ^ 9) : Num (pairOf x m).2 (if x.fdiv m < 0 then -1 - x.fdiv m else x.fdiv m) := by
  have hq := fdiv_bound hm h0 h1
  unfold pairOf
  split
  · exact num_of (by omega) (by omega)
  · exact num_of (by omega) (by omega)
theorem alike_iff {x z m : Int} (hm : m ≠ 0) (hb : sg m m < 2 ^ 60) : (Txt.lower (pairOf z m).1 == Txt.lower (pairOf x m).1) = decide ((z - x).fmod m = 0) := by
  rw [low_pair hm hb, low_pair hm hb]
  by_cases h : (z - x).fmod m = 0
  · rw [decide_eq_true h, (rest_iff hm).mpr h]; simp
  · rw [decide_eq_false h, beq_eq_false_iff_ne]
    intro e
    exact h ((rest_iff hm).mp (name_inj (rest_bound hm).1 (rest_bound hm).1 e))
theorem num_fine' {x : Str} {n : Int} (h : Num x n) : Fine x := ⟨fun c hc => by have := h.dig c hc; omega, Nat.lt_of_le_of_lt h.len (by decide)⟩
end Mine
namespace Mine
theorem abs_rest {x m : Int} (hm : m ≠ 0) : (if x.fmod m < 0 then -(x.fmod m) else x.fmod m) = rest x m := by
  have h := rest_bound (x := x) hm
  unfold rest at h ⊢
  split <;> split <;> rename_i h1 h2 <;> simp only [h2, if_true, if_false] at h <;> omega
end Mine
namespace Mine
theorem pair_signs {x m : Int} (hm : m ≠ 0) (hb : sg m m < 2 ^ 60) : ∃ ls, (pairOf x m).1 = sOf ls ∧ ls.length ≤ 17 ∧ 1 ≤ ls.length ∧ (∀ c ∈ ls, 65 ≤ c ∧ c ≤ 122) ∧ (ls.drop 1).map lo1 = signsOf (hexD (rest x m)) ∧ ls[0]? = some (if x.fdiv m < 0 then 78 else 110) := by
  have hr := rest_bound (x := x) hm
  have hl := nameL_len hr.1 (by omega : rest x m < 2 ^ 60)
  unfold pairOf
  by_cases h : x.fdiv m < 0
  · rw [if_pos h, if_pos h]
    refine ⟨(nameL (rest x m)).map up1, upper_name hr.1 (by omega), by rw [List.length_map]; exact hl, by rw [List.length_map]; exact Nat.succ_le_succ (Nat.zero_le _), fun c hc => ?_, ?_, rfl⟩
    · obtain ⟨b, hb, rfl⟩ := List.mem_map.mp hc
      have := nameL_range _ b hb
      unfold up1; split <;> omega
    · show ((signsOf (hexD (rest x m))).map up1).map lo1 = _
      exact low_up_sOf fun c hc => by have := signs_range _ c hc; omega
  · rw [if_neg h, if_neg h]
    refine ⟨nameL (rest x m), rfl, hl, Nat.succ_le_succ (Nat.zero_le _), fun c hc => by have := nameL_range _ c hc; omega, ?_, rfl⟩
    show (signsOf (hexD (rest x m))).map lo1 = _
    exact low_sOf fun c hc => by have := signs_range _ c hc; omega
end Mine
namespace Mine
abbrev same (x m z : Int) : Bool := decide ((z - x).fmod m = 0)
section
variable {x m : Int} {n : Str} (hm : m ≠ 0) (hb : sg m m < 2 ^ 60) (hn : Txt.lower n = nameS (rest x m))
include hm hb hn
theorem alike_at (z : Int) : (Txt.lower (pairOf z m).1 == Txt.lower n) = same x m z := by
  have := alike_iff (x := x) (z := z) hm hb
  rw [low_pair (x := x) hm hb] at this
  rw [hn]; exact this
theorem rows_same (zs : List Int) : ((zs.map (pairOf · m)).filter fun p => Txt.lower p.1 == Txt.lower n) = (zs.filter (same x m)).map (pairOf · m) := by
  rw [List.filter_map]
  congr 1
  exact List.filter_congr fun z _ => alike_at hm hb hn z
theorem rows_other (zs : List Int) : ((zs.map (pairOf · m)).filter fun p => Txt.lower p.1 != Txt.lower n) = (zs.filter fun z => !same x m z).map (pairOf · m) := by
  rw [List.filter_map]
  congr 1
  refine List.filter_congr fun z _ => ?_
  show (!(Txt.lower (pairOf z m).1 == Txt.lower n)) = _
  rw [alike_at hm hb hn z]
theorem rows_find (zs : List Int) : ((zs.map (pairOf · m)).find? fun p => Txt.lower p.1 == Txt.lower n) = (zs.filter (same x m)).head?.map (pairOf · m) := by
  rw [← List.head?_filter, rows_same hm hb hn, List.head?_map]
end
def Near (zs : List Int) : Prop := ∀ z ∈ zs, -(10 ^ 5) ≤ z ∧ z ≤ 10 ^ 5
theorem Near.filter {zs : List Int} (h : Near zs) (P : Int → Bool) : Near (zs.filter P) := fun z hz => h z (List.mem_filter.mp hz).1
theorem Near.snoc {zs : List Int} {x : Int} (h : Near zs) (h0 : -(10 ^ 5) ≤ x) (h1 : x ≤ 10 ^ 5) : Near (zs ++ [x]) := fun z hz => by
  rcases List.mem_append.mp hz with hz | hz
  · exact h z hz
  · rw [List.mem_singleton.mp hz]; exact ⟨h0, h1⟩
end Mine
-- part E4
open PySem PySem.W PyProof.Rows PySem.Calls PySem.Spec
set_option Elab.async false
set_option linter.unusedVariables false
set_option maxRecDepth 100000
namespace Mine
section
variable {c : Cfg} {A : Around} {g : Heap} {l l' : Owns}
variable {name qual : Str} {params : Arguments} {body : List Stmt} {scope : Scope} {cl : List (Str × Addr)} {dV kV doc pm cdv ct : Value} {an : Option Addr} {fo : Obj} {f : Addr} {pos : List Value} {kw : List (Str × Value)}
/-- a def with cells: pn, pv its parameters; ns, vs its plain names and their values; xs, ws its cells -/
theorem WR_defC {pn : List Str} {pv : List Value} {ns : List Str} {vs : List Value} {xs : List Str} {ws : List (Option Value)} {Q : Value → Heap → Owns → Prop} {oc : Value} {od : Option Addr} {osl : Array (Option Value)} (hroom : A.depth < recursionLimit)
    (ho : c.K.lookup f = some ⟨oc, od, .func (fnX name qual params body scope [] dV kV doc pm an cdv ct), osl⟩) (hcd : codeIn c.K cdv qual = true)
    (hb : ∀ s : Shared, c.K.In s.heap → BindsTo s (fnX name qual params body scope [] dV kV doc pm an cdv ct) ⟨pos, kw⟩ (pn.zip pv))
    (hkind : ∀ x ∈ pn, scope.names.lookup x = some .local ∨ (scope.names.lookup x = some .cell ∧ x ∈ xs))
    (hpn : pn.Nodup) (hns : ns.Nodup) (hxs : xs.Nodup) (hcl : ∀ n, cellsFrom n scope.names [] = cellList n xs [])
    (hL : ((pn.zip pv).filter fun p => decide (scope.names.lookup p.1 = some .local)) = ns.zip vs)
    (hC : (xs.map fun x => ((pn.zip pv).filter fun p => !decide (scope.names.lookup p.1 = some .local)).lookup x) = ws)
    (h : ∀ L, W c (A.deeper (envX qual scope L f cdv (cellList (L + 1) xs []))) (execs body (envX qual scope L f cdv (cellList (L + 1) xs []))) g ((L, .fr (zipFrame ns vs)) :: (cellOwns (L + 1) ws ++ l)) (RetQ c Q))
    (hco : scope.isCoroutine = false := by rfl) (hgen : scope.isGenerator = false := by rfl) (hk : scope.kind = .function := by rfl) : WR c A (.call (.ref f) ⟨pos, kw⟩) g l Q := fun s S => by
  have hpz := zip_nodup pn pv hpn
  refine codeAny_call_function (fd := fnX name qual params body scope [] dV kV doc pm an cdv ct) hroom (S.keep _ _ (S.base.K _ _ ho)) rfl hco hgen rfl (codeRec_of (S.base.K.keeps S.keep) hcd) (hb s (S.base.K.keeps S.keep) _ _ _ _ ?_)
  have hxi : ∀ x ∈ xs, ∃ i, xs[i]? = some x := fun x hx => by
    obtain ⟨i, hi, e⟩ := List.mem_iff_getElem.mp hx
    exact ⟨i, by rw [List.getElem?_eq_getElem hi, e]⟩
  refine wpAny_newFunctionEnv_cells hk (fun x hx => ?_) fun env' he s' X => ?_
  · have hm : x.1 ∈ pn := (List.of_mem_zip hx).1
    refine (hkind x.1 hm).imp id fun ⟨a, b⟩ => ⟨a, ?_⟩
    obtain ⟨i, e⟩ := hxi _ b
    show ((cellsFrom (s.heap.objs.size + 1) scope.names []).lookup x.1).isSome = true
    rw [hcl, cellList_at xs _ _ i _ hxs e]; rfl
  subst he
  refine ⟨(S.base.T.nolimit.keeps S.keep).keeps X.toInCall.keep, codeAny_func ?_⟩
  obtain ⟨h₁, tk, rfl, _⟩ := X.done
  have hk₁ := X.toInCall.keep
  have env_eq : newEnv scope s.heap.objs.size mainGlobals (cellsFrom (s.heap.objs.size + 1) scope.names []) (qual ++ ".<locals>.") (some f) cdv none builtinsNs = envX qual scope s.heap.objs.size f cdv (cellList (s.heap.objs.size + 1) xs []) := by rw [hcl]; rfl
  have S1 : St c g { s with heap := h₁, toks := tk } (((s.heap.objs.size, .fr (zipFrame ns vs)) :: cellOwns (s.heap.objs.size + 1) ws) ++ l) := by
    refine S.grow hk₁ (fun p hp => ?_) ?_
    · rcases List.mem_cons.mp hp with rfl | hp
      · refine ⟨⟨by rw [zipFrame_names]; exact hns, ?_⟩, Nat.le_refl _⟩
        have e : bindL (newEnv scope s.heap.objs.size mainGlobals (cellsFrom (s.heap.objs.size + 1) scope.names []) (qual ++ ".<locals>.") (some f) cdv none builtinsNs).kindOf (pn.zip pv) (fun _ => none) = lk (zipFrame ns vs) := by
          funext y
          rw [bindL_filter _ _ _ _ hpz, zipFrame_lk, ← hL]
          simp only [Option.or_none]; rfl
        have := X.toInCall.ns
        rw [← e]; exact this
      · obtain ⟨i, w, e, rfl⟩ := cellOwns_at ws _ p hp
        refine ⟨?_, by show s.heap.objs.size ≤ s.heap.objs.size + 1 + i; omega⟩
        rw [← hC] at e
        rw [List.getElem?_map] at e
        obtain ⟨x, hx, hw⟩ := Option.map_eq_some_iff.mp e
        have hl : (newEnv scope s.heap.objs.size mainGlobals (cellsFrom (s.heap.objs.size + 1) scope.names []) (qual ++ ".<locals>.") (some f) cdv none builtinsNs).cells.lookup x = some (s.heap.objs.size + 1 + i) := by
          show (cellsFrom (s.heap.objs.size + 1) scope.names []).lookup x = _
          rw [hcl]; exact cellList_at xs _ _ i _ hxs hx
        have := X.cell x _ hl
        rw [bindC_filter _ _ _ _ hpz] at this
        simp only [Option.or_none] at this
        rw [← hw]; exact this
    · rw [List.map_cons, List.nodup_cons]
      refine ⟨fun hm => ?_, cellOwns_nodup _ _⟩
      obtain ⟨p, hp, e⟩ := List.mem_map.mp hm
      obtain ⟨i, w', _, rfl⟩ := cellOwns_at ws _ p hp
      exact absurd e (by show s.heap.objs.size + 1 + i ≠ s.heap.objs.size; omega)
  have hh := (h s.heap.objs.size).run S1 (E := fun e s' => wpAny c.M (A.deeper (envX qual scope s.heap.objs.size f cdv (cellList (s.heap.objs.size + 1) xs []))) (leaving (envX qual scope s.heap.objs.size f cdv (cellList (s.heap.objs.size + 1) xs [])) e) (fun _ _ => False) (fun _ _ => False) s') (F := fun fl s' => Post c g Q (retOf fl) s') fun fl g' l' s' u S' q => by
    obtain ⟨g2, l2, u2, S2, hq⟩ := q s' S'
    exact Post.mk (u.trans u2) S2 hq
  show wpAny _ (A.deeper (newEnv scope s.heap.objs.size mainGlobals (cellsFrom (s.heap.objs.size + 1) scope.names []) (qual ++ ".<locals>.") (some f) cdv none builtinsNs)) (execs body (newEnv scope s.heap.objs.size mainGlobals (cellsFrom (s.heap.objs.size + 1) scope.names []) (qual ++ ".<locals>.") (some f) cdv none builtinsNs)) _ _ _
  rw [env_eq]
  exact wpAny_mono hh (fun fl s' x => by cases fl <;> exact x) fun e s' x => x
end
end Mine
-- part P_02
open PySem PySem.W PyProof.Rows PySem.Calls PySem.Spec
set_option Elab.async false
set_option maxRecDepth 100000
namespace Mine
structure Dat where
  w : World
  loose : List Str
  mean : ExcName → Option Value
  mg : Str → Option Value
  mb : Str → Option Value
  gens : Array GenState
  os : OsState
abbrev theTabs : List Tab := [⟨193, 189, 147, 4, Str.ofString "_str_to_int_inner.<locals>.inner"⟩, ⟨221, 217, 187, 4, Str.ofString "_int2digits.<locals>.inner"⟩, ⟨228, 224, 202, 4, Str.ofString "_digits2int.<locals>.inner"⟩]
@[reducible] noncomputable def cfg (d : Dat) : Cfg := { prog := PySem.Challenge.pw_ny0356_02, w := d.w, K := Mine.hd.heap_39 d.w.params, p := topProg, loose := d.loose, mean := d.mean, mg := d.mg, mb := d.mb, tabs := theTabs, gens := d.gens, os := d.os }
end Mine
-- part B_02
open PySem PySem.W PyProof.Rows PySem.Calls PySem.Spec
set_option Elab.async false
set_option maxRecDepth 100000
set_option maxHeartbeats 4000000
set_option linter.unusedVariables false
namespace Mine
def LawIs : Prop := ∀ (d : Dat) (A : Around) (g : Heap) (sa : Addr) (vs : List Value) (ns : List Int), Room A 40 → g.IsList sa vs.toArray → IntsAre vs ns → ns.length ≤ 63 →
  WR (cfg d) A (.call (.ref 270) ⟨[.ref sa], []⟩) g [] fun v _ _ => v = .bool true
theorem holds_of (spec : LawIs) : PySem.Challenge.rw_ny0356_02.Holds := by
  refine Mine.hd ?_
  k_fill
  intro w s₀ s₁ mg mb G Y fa o pm cd doc dV kV ho hd hcd hD hmg hg args vals as hpre hlay hrd hwl hlo
  have KX := km_in_of Y
  km_tabs Y
  refine Ground.open G ?_
  intro T B D TE TW
  km_lay T hmg ho hd cd
  wrow_args hpre hlay hrd hwl hlo
  refine enter_call ?_
  rename_i ns _ _ _ _ _ _ _ sa vs _ hL _ _ _ hI _ hcond _
  have hfa : mg (Str.ofString "law") = some (.ref 270) := mg_of KX T.g (by (show nsIn (Mine.hd.heap_39 _) _ _ = _); k_is)
  have e2 : fa = 270 := by
    have h3 : mg (Str.ofString "law") = some (.ref fa) := hmg
    rw [hfa] at h3
    cases h3; rfl
  subst e2
  clear hd hcd hD hmg
  refine kn_post hT9 (fun _ _ => rfl) ?_
  obtain ⟨loose, T'⟩ : ∃ lo, Top topProg lo (ExcName.means s₀.heap) mg mb (ghostOf s₁.heap [(193, 189), (228, 224), (221, 217)]) := ⟨_, ghost_top hT9 T⟩
  have hC := ghost_code hT9
  have S : St (cfg ⟨w, loose, ExcName.means s₀.heap, mg, mb, #[], s₁.os⟩) (ghostOf s₁.heap [(193, 189), (228, 224), (221, 217)]) s₁ [] := by
    refine ⟨fun b o e => of_hideAll _ e, (fun p hp => by cases hp), List.nodup_nil, ?_, ⟨ghost_K hT9 KX (by kernel_rfl), T', ?_⟩, hg, rfl⟩
    · intro t ht
      refine ⟨hideAll_none _ ?_, .inl ?_⟩
      · simp only [List.mem_cons, List.not_mem_nil, or_false] at ht
        rcases ht with rfl | rfl | rfl <;> simp
      · simp only [List.mem_cons, List.not_mem_nil, or_false] at ht
        rcases ht with rfl | rfl | rfl <;> exact hT8 _ (by simp)
    · intro t ht
      obtain ⟨c1, c2, c3, _⟩ := hC
      simp only [List.mem_cons, List.not_mem_nil, or_false] at ht
      rcases ht with rfl | rfl | rfl <;> first | exact c1 | exact c2 | exact c3
  refine codeAny_mono (spec _ callerA _ sa vs ns ⟨rfl, by decide, by decide⟩ (ghost_list hT9 hL) hI (by omega) _ S) fun r s' z => ?_
  rcases r with e | (v | _ | _ | _) <;> first | exact z.elim | skip
  obtain ⟨g', l', u, S', rfl⟩ := z
  refine ⟨⟨.inl ⟨.bool true, .bool true, [], rfl, fun _ => rfl,   .bool _, by kernel_rfl, fun _ => ⟨List.nodup_nil, fun a ha => by cases ha⟩⟩, fun b o e => S'.keep _ _ (u _ _ e), S'.os, S'.gens⟩, ?_⟩
  have gr : ∀ t ∈ theTabs, GrownAt t.P s'.heap := fun t ht => by
    rcases (S'.tabs t ht).2 with e | ⟨c', e, _⟩
    · exact ⟨_, e⟩
    · exact ⟨_, e⟩
  have g1 := gr _ (.head _)
  have g2 := gr _ (.tail _ (.head _))
  have g3 := gr _ (.tail _ (.tail _ (.head _)))
  exact ⟨by first | exact g1 | exact g2 | exact g3, by first | exact g1 | exact g2 | exact g3, by first | exact g1 | exact g2 | exact g3, trivial⟩
end Mine
-- the walker
open PySem PySem.W PyProof.Rows PySem.Calls PySem.Spec
set_option Elab.async false
set_option maxRecDepth 100000
set_option linter.unusedVariables false
set_option maxHeartbeats 4000000
namespace Mine
local macro_rules | `(tactic| walk_at "m.mem") => `(tactic| ((try dsimp only [compEnvC]); repeat (first | with_reducible exact List.mem_cons_self | apply List.mem_cons_of_mem)))
local macro_rules | `(tactic| walk_at "m.has") => `(tactic| repeat (first | with_reducible exact Has.here | apply Has.there))
local macro_rules | `(tactic| walk_at "m.put") => `(tactic| repeat (first | with_reducible exact Put.here | apply Put.there))
local macro_rules | `(tactic| walk_at "m.turn") => `(tactic| ((try dsimp only [compEnvC]); repeat (first | with_reducible exact Turn.head | apply Turn.tail)))
local macro_rules | `(tactic| walk_at "m.ns") => `(tactic| ((show nsIn (Mine.hd.heap_39 _) _ _ = _); k_is))
local macro_rules | `(tactic| walk_at "m.keep") => `(tactic| ((show keepIn (Mine.hd.heap_39 _) _ = _); k_is))
local macro_rules | `(tactic| walk_at "m.binds") => `(tactic| (intro s X; first | exact BindsTo.of_eq rfl | (refine' binds_K X ?e1 ?e2 ?e3 ?e4 ?e5; (case e1 => rfl); (case e2 => (show List.lookup _ (Mine.hd.heap_39 _) = _); k_is); (case e3 => rfl); (case e4 => rfl); (case e5 => rfl))))
local macro_rules | `(tactic| walk_at "m.enter") => `(tactic| ((case ho => (show List.lookup _ (Mine.hd.heap_39 _) = _); k_is); (case hcd => (show codeIn (Mine.hd.heap_39 _) _ _ = _); k_is); (case hb => walk_at "m.binds"); (case hloc => exact locs rfl); (case hns => decide); (case hcell => decide); (case co => rfl); (case gen => rfl); (case kd => rfl)))
local macro_rules | `(tactic| walk_at "m.enterC") => `(tactic| ((case ho => (show List.lookup _ (Mine.hd.heap_39 _) = _); k_is); (case hcd => (show codeIn (Mine.hd.heap_39 _) _ _ = _); k_is); (case hb => walk_at "m.binds"); (case hkind => decide); (case hpn => decide); (case hns => decide); (case hxs => decide); (case hcl => intro n; rfl); (case hL => rfl); (case hC => rfl); (case co => rfl); (case gen => rfl); (case kd => rfl)))
local macro_rules | `(tactic| walk_at "m.enterF") => `(tactic| ((case fd => rfl); (case fb => intro s _; exact BindsTo.of_eq rfl); (case floc => exact locs rfl); (case fns => decide); (case fcell => decide); (case fco => rfl); (case fgen => rfl); (case fkd => rfl)))
local macro_rules | `(tactic| walk_at "m.nest") => `(tactic| ((case ht => simp); (case hd => (show (List.map (fun x => Tab.P x) theTabs).Nodup); decide); (case n1 => rfl); (case n2 => rfl); (case n3 => rfl); (case n4 => rfl); (case n5 => rfl); (case n6 => rfl); (case n7 => rfl); (case n8 => rfl); (case n9 => rfl)))
local macro_rules | `(tactic| walk_at "m.go") => `(tactic| (first | ((with_reducible refine' gName ?_); (first | ((with_reducible refine' W_local ?m ?h ?_ ?a ?b ?c); (case b => rfl); (case a => rfl); (case c => decide); (case m => walk_at "m.mem"); (case h => walk_at "m.has")) | ((with_reducible refine' W_cell ?m ?_ ?a ?b ?c ?d); (case c => rfl); (case a => rfl); (case b => rfl); (case d => decide); (case m => walk_at "m.mem")) | ((with_reducible refine' W_cellG ?m ?_ ?a ?b ?c ?d); (case c => rfl); (case a => rfl); (case b => rfl); (case d => decide); (case m => assumption)) | ((with_reducible refine' W_free ?m ?_ ?a ?b ?c ?d ?e); (case c => rfl); (case a => rfl); (case b => rfl); (case d => decide); (case e => decide); (case m => assumption)) | ((with_reducible refine' W_freeOwn ?m ?_ ?a ?b ?c ?d ?e); (case c => rfl); (case a => rfl); (case b => rfl); (case d => decide); (case e => decide); (case m => walk_at "m.mem")) | ((with_reducible refine' W_global ?e ?_ ?a ?b ?c ?d); (case c => rfl); (case a => rfl); (case b => rfl); (case d => decide); (case e => walk_at "m.ns")) | ((with_reducible refine' W_builtin ?e ?v ?_ ?n ?a ?b ?c ?d ?f); (case d => rfl); (case a => rfl); (case b => rfl); (case c => rfl); (case f => decide); (case n => decide); (case e => walk_at "m.ns"); (case v => boot_fact)))) | ((with_reducible refine' gEval ?_); (first | ((with_reducible refine' W_Attr ?_)) | ((with_reducible refine' W_BinOp ?_)) | ((with_reducible refine' W_int ?_); intro tk) | ((with_reducible refine' W_Method ?_ ?e); (case e => rfl)) | ((with_reducible refine' W_Call ?_ ?e); (case e => rfl)) | ((with_reducible refine' W_MethodKW ?_ ?e); (case e => rfl)) | ((with_reducible refine' W_Subscript ?_)) | ((with_reducible refine' W_Tuple ?_)) | ((with_reducible refine' W_str ?_); intro tk) | ((with_reducible refine' W_UnaryOp ?_)) | ((with_reducible refine' W_List ?_)) | ((with_reducible refine' W_Compare ?_ ?e); (case e => with_unfolding_all rfl)) | ((with_reducible refine' W_Slice ?_)) | ((with_reducible refine' W_none ?_)) | ((with_reducible refine' W_bool ?_)) | ((with_reducible refine' W_IfExp ?_)))) | ((with_reducible refine' gArgs ?_); (first | ((with_reducible refine' W_args ?_ ?e); (case e => rfl)) | ((with_reducible refine' W_args0 ?_)))) | ((with_reducible refine' gWith ?_); (first | ((with_reducible refine' W_withKW ?k ?_ ?e ?f); (case e => rfl); (case f => rfl); (case k => walk_at "m.keep")) | ((with_reducible refine' W_withKf ?k ?_ ?e ?f); (case e => rfl); (case f => rfl); (case k => walk_at "m.keep")) | ((with_reducible refine' W_withKm ?k ?_ ?e ?f); (case e => rfl); (case f => rfl); (case k => walk_at "m.keep")) | ((with_reducible refine' W_withBf ?_ ?e ?f); (case e => rfl); (case f => rfl)) | ((with_reducible refine' W_withBm ?_ ?e ?f); (case e => rfl); (case f => rfl)) | ((with_reducible refine' W_withT ?_ ?e ?f); (case e => rfl); (case f => rfl)) | ((with_reducible refine' W_withB0 ?_)) | ((with_reducible refine' W_withT0 ?_)) | ((with_reducible refine' W_withK0 ?k ?_); (case k => walk_at "m.keep")) | ((with_reducible refine' W_withFf ?k ?d ?_ ?e ?f); (case e => rfl); (case f => rfl); (case k => assumption); (case d => rfl)))) | ((with_reducible refine' gBin ?_); (first | ((with_reducible refine' W_add ?_); intro tk) | ((with_reducible refine' W_sub ?_); intro tk) | ((with_reducible refine' W_xor ?_); intro tk))) | ((with_reducible refine' W_cons ?_)) | ((with_reducible refine' gExec ?_); (first | ((with_reducible refine' W_Assign ?_ ?s); (case s => with_unfolding_all rfl)) | ((with_reducible refine' W_AugAssign ?_)) | ((with_reducible refine' W_If ?_)) | ((with_reducible refine' W_Return ?_)) | ((with_reducible refine' W_AssignTuple ?_ ?s ?t); (case s => with_unfolding_all rfl); (case t => with_unfolding_all rfl)) | ((with_reducible refine' W_AssignSub ?_ ?s); (case s => with_unfolding_all rfl)) | ((with_reducible refine' W_Expr ?_ ?i ?s); (case i => rfl); (case s => with_unfolding_all rfl)) | ((with_reducible refine' W_Return0 ?_)) | ((with_reducible refine' W_Continue ?_)) | ((with_reducible refine' W_Break ?_)))) | ((with_reducible refine' gStore ?_); (first | ((with_reducible refine' W_storeLocal ?p ?t ?_ ?a ?b); (case b => rfl); (case a => rfl); (case t => walk_at "m.turn"); (case p => walk_at "m.put")) | ((with_reducible refine' W_storeCell ?t ?_ ?a ?b ?c); (case c => rfl); (case a => rfl); (case b => rfl); (case t => walk_at "m.turn")))) | ((with_reducible refine' seq_next ?_)) | ((with_reducible refine' gCmp ?_); (first | ((with_reducible refine' W_eq ?_)) | ((with_reducible refine' W_ne ?_)) | ((with_reducible refine' W_lt ?_)) | ((with_reducible refine' W_le ?_)) | ((with_reducible refine' W_gt ?_)) | ((with_reducible refine' W_ge ?_)) | ((with_reducible refine' W_eqStr ?_)) | ((with_reducible refine' W_neStr ?_)) | ((with_reducible refine' W_isNone ?_)) | ((with_reducible refine' W_isNotNone ?_)) | ((with_reducible refine' W_isType ?_)) | ((with_reducible refine' W_isNotType ?_)))) | ((with_reducible refine' gTruthy ?_); (first | ((with_reducible refine' W_truthyB ?_)) | ((with_reducible refine' W_truthyI ?_)) | ((with_reducible refine' W_truthyNone ?_)))) | ((with_reducible refine' gTest ?_); (first | ((with_reducible refine' W_isCompare ?_ ?e); (case e => with_unfolding_all rfl)) | ((with_reducible refine' W_isNot ?_)) | ((with_reducible refine' W_isOr ?_)) | ((with_reducible refine' W_isAnd ?_)) | ((with_reducible refine' W_isValue ?_ ?e); (case e => rfl)))) | ((with_reducible refine' gLoad ?_); ((with_reducible refine' W_loadLocal ?m ?h ?_ ?a ?b); (case b => rfl); (case a => rfl); (case m => walk_at "m.mem"); (case h => walk_at "m.has"))) | ((with_reducible refine' W_part0 ?_)) | ((with_reducible refine' W_part ?_)) | ((with_reducible refine' gCall ?_); (first | ((with_reducible refine' W_typeStr ?_)) | ((with_reducible refine' W_bits ?_); intro tk) | ((with_reducible refine' W_abs ?_); intro tk) | ((with_reducible refine' W_ord ?_); intro tk) | ((with_reducible refine' W_count ?_); intro tk))) | ((with_reducible refine' gMeth ?_); (first | ((with_reducible refine' W_mBits ?_)) | ((with_reducible refine' W_mLower ?_)) | ((with_reducible refine' W_mUpper ?_)) | ((with_reducible refine' W_mRstrip ?_)) | ((with_reducible refine' W_mReplace ?_)) | ((with_reducible refine' W_mCount ?_)) | ((with_reducible refine' W_mJoin ?_)))) | ((with_reducible refine' gIn ?_); (first | ((with_reducible refine' W_iadd ?_); intro tk) | ((with_reducible refine' W_isub ?_); intro tk))) | ((with_reducible refine' gUn ?_); (first | ((with_reducible refine' W_neg ?_); intro tk) | ((with_reducible refine' W_invert ?_); intro tk))) | ((with_reducible refine' seq_ret ?_)) | ((with_reducible refine' W_nil ?_)) | ((with_reducible refine' W_newList ?z ?_); (case z => exact Nat.le_of_ble_eq_true rfl); intro nl)))
local macro_rules | `(tactic| walk_at "m.lk") => `(tactic| ((show List.lookup _ (Mine.hd.heap_39 _) = _); k_is))
local macro_rules | `(tactic| walk_at "m.hm") => `(tactic| ((refine' W_hdrMethod (C := 175) (by assumption) ?h1 ?h2 ?h3 ?h4 ?_); (case h2 => (show findIn (Mine.hd.heap_39 _) _ _ = _); k_is); (case h1 => (show plainGet (Mine.hd.heap_39 _) _ _ = _); k_is); (case h3 => (show isFn (Mine.hd.heap_39 _) _ = _); k_is); (case h4 => rfl)))
local macro_rules | `(tactic| walk_at "m.hg") => `(tactic| ((refine' W_getHdr (C := 175) (by assumption) ?h1 ?h2 ?h3 ?_); (case h1 => (show plainGet (Mine.hd.heap_39 _) _ _ = _); k_is); (case h2 => (show hasDictIn (Mine.hd.heap_39 _) _ = _); k_is); (case h3 => (show findIn (Mine.hd.heap_39 _) _ _ = _); k_is)))
-- part F1_02
theorem fill1 : (PySem.Challenge.rw_ny0356_02, Mine.hd.heap_39) = (PySem.Challenge.rw_ny0356_02, Mine.hd.heap_39) := by
  k_fill
  rfl
theorem bits_le {a : Int} {n : Nat} (h0 : 0 ≤ a) (h : a < 2 ^ n) : Builtin.Int.intBits a ≤ n := intBits_le_iff.mpr (by
  have e : ((2 ^ n : Nat) : Int) = 2 ^ n := by norm_cast
  omega)

theorem div2n1n (d : Dat) {A : Around} {g : Heap} {l : Owns} {a b n : Int} {ta tb tn : Tok} (R : Room A 1) (h1 : 0 ≤ a) (h2 : a < 2 ^ 60) (h3 : 0 < b) (h4 : b < 2 ^ 29) (h5 : 0 ≤ n) :
    W (cfg d) A (call (.ref 208) [.int a ta, .int b tb, .int n tn]) g l fun v g' l' => ∃ x t1 t2, v = .ref x ∧ l' = l ∧ g'.get? x = some (tupObj [.int (a / b) t1, .int (a % b) t2]) := by
  refine' W_defK (ns := [Str.ofString "a", Str.ofString "b", Str.ofString "n"]) (vs := [.int a ta, .int b tb, .int n tn]) R.depth ?ho ?hcd ?hb ?hloc ?hns ?_ ?hcell ?co ?gen ?kd
  walk_at "m.enter"
  intro L
  simp only [zipFrame]
  repeat (walk_at "m.go")
  have hb := bits_le (n := 60) h1 (by simpa using h2)
  refine one_t (decide_eq_true (by omega)) ?_
  repeat (walk_at "m.go")
  refine W_divmod (by omega) (by omega) fun x g' t1 t2 u e => ?_
  repeat (walk_at "m.go")
  refine ret_drop1 (ret_now ⟨x, t1, t2, rfl, rfl, ?_⟩)
  rw [Int.fdiv_eq_ediv_of_nonneg _ (by omega), Int.fmod_eq_emod_of_nonneg _ (by omega)] at e
  exact e
-- part F2_02
theorem digits2int (d : Dat) {A : Around} {g : Heap} {l : Owns} {n : Nat} {da : Addr} {vs : List Value} {ds : List Int} {tn : Tok} {m : Nat} (R : Room A (m + 2)) (hl : ListAt g l da vs) (hI : IntsAre vs ds) (hs : Small n ds) (hm : ds.length ≤ 2 ^ m) (hn : n ≤ 64) (hz : ds.length ≤ 2 ^ 16) :
    W (cfg d) A (call (.ref 229) [.ref da, .int n tn]) g l fun v g' l' => ∃ t, v = .int (digVal n ds) t ∧ l' = l := by
  refine' W_defC (pn := [Str.ofString "digits", Str.ofString "n"]) (pv := [.ref da, .int n tn]) (ns := []) (vs := []) (xs := [Str.ofString "digits", Str.ofString "n", Str.ofString "inner"]) (ws := [some (.ref da), some (.int n tn), none]) R.depth ?ho ?hcd ?hb ?hkind ?hpn ?hns ?hxs ?hcl ?hL ?hC ?_ ?co ?gen ?kd
  walk_at "m.enterC"
  intro L
  simp only [zipFrame, cellOwns, List.cons_append, List.nil_append]
  walk_at "m.go"
  refine' W_nestDef (t := ⟨228, 224, 202, 4, Str.ofString "_digits2int.<locals>.inner"⟩) (clos := [(Str.ofString "n", L + 1 + 1), (Str.ofString "inner", L + 1 + 1 + 1), (Str.ofString "digits", L + 1)]) ?ht ?hd ?_ ?n1 ?n2 ?n3 ?n4 ?n5 ?n6 ?n7 ?n8 ?n9
  walk_at "m.nest"
  intro f c' ctv doc pm g1 u1 hf hcr
  walk_at "m.go"
  walk_at "m.go"
  refine W.give (.tail .head) fun g2 u2 c1 => ?_
  refine W.give (.tail .head) fun g3 u3 c2 => ?_
  refine W.give (.tail .head) fun g4 u4 c3 => ?_
  have facts : ∀ G, Sub g4 G → G.get? f = some _ ∧ G.CodeRec (.ref c') (Str.ofString "_digits2int.<locals>.inner") ∧ G.IsCell (L + 1) (some (.ref da)) ∧ G.IsCell (L + 1 + 1) (some (.int n tn)) ∧ G.IsCell (L + 1 + 1 + 1) (some (.ref f)) := fun G u =>
    ⟨u _ _ (u4 _ _ (u3 _ _ (u2 _ _ hf))), hcr.keeps (u2.trans (u3.trans (u4.trans u))), c1.to fun o e => u _ _ (u4 _ _ (u3 _ _ e)), c2.to fun o e => u _ _ (u4 _ _ e), c3.to fun o e => u _ _ e⟩
  have len := ints_len hI
  have inner : ∀ (k : Nat) (A' : Around) (G : Heap) (M : Owns) (lo hi : Int) (tl th : Tok), Room A' (k + 1) → Sub g4 G → ListAt G M da vs → 0 ≤ lo → lo < hi → hi ≤ ds.length → hi - lo ≤ 2 ^ k →
      W (cfg d) A' (call (.ref f) [.int lo tl, .int hi th]) G M fun v g' l' => ∃ t, v = .int (digVal n ((ds.drop lo.toNat).take (hi - lo).toNat)) t ∧ l' = M := by
    intro k
    induction k using Nat.strongRecOn with
    | ind k ih =>
      intro A' G M lo hi tl th RA uG hl h0 h1 h2 h3
      obtain ⟨ff, fc, f1, f2, f3⟩ := facts G uG
      refine' W_def (ns := [Str.ofString "L", Str.ofString "R", Str.ofString "mid", Str.ofString "shift"]) (vs := [.int lo tl, .int hi th]) RA.depth ff ?fd fc ?fb ?floc ?fns ?_ ?fcell ?fco ?fgen ?fkd
      walk_at "m.enterF"
      intro L'
      simp only [zipFrame]
      repeat (walk_at "m.go")
      refine two (fun e => ?_) fun e => ?_
      · repeat (walk_at "m.go")
        have e' : lo + 1 = hi := by simpa using e
        obtain ⟨t, hx⟩ := ints_at hI (i := lo.toNat) (by omega)
        refine W_itemList hl.tail h0 (by omega) hx ?_
        repeat (walk_at "m.go")
        exact ret_drop1 (ret_now ⟨t, by rw [dig_one n h0 e' h2], rfl⟩)
      · have e' : lo + 1 ≠ hi := by simpa using e
        have hk : 1 ≤ k := by
          cases k with
          | zero => omega
          | succ k => omega
        have hk2 : (2 : Int) ^ k = 2 * 2 ^ (k - 1) := by
          obtain ⟨j, rfl⟩ : ∃ j, k = j + 1 := ⟨k - 1, by omega⟩
          rw [Int.pow_succ, Int.mul_comm]; rfl
        repeat (walk_at "m.go")
        refine W_rshift (by decide) fun tk => ?_
        rw [fdiv_half]
        obtain ⟨mid, hmid⟩ : ∃ m, m = (lo + hi) / 2 := ⟨_, rfl⟩
        rw [← hmid]
        repeat (walk_at "m.go")
        refine W_mul (IntMulOk.of_left (bits_le (n := 64) (by omega) (by omega))) fun tk => ?_
        have hsh : 0 ≤ (mid - lo) * n := Int.mul_nonneg (by omega) (by omega)
        have hsh2 : (mid - lo) * n ≤ 2 ^ 16 * 64 := Int.mul_le_mul (by omega) (by omega) (by omega) (by omega)
        repeat (walk_at "m.go")
        refine W.mono (ih (k - 1) (by omega) _ G _ mid hi _ _ ((RA.deeper _).le (by omega)) uG hl.tail (by omega) (by omega) h2 (by omega)) fun v G2 l2 uG2 hr => ?_
        obtain ⟨t2, rfl, rfl⟩ := hr
        obtain ⟨ff, fc, f1, f2, f3⟩ := facts G2 (uG.trans uG2)
        repeat (walk_at "m.go")
        refine W_lshift hsh ?_ fun tk => ?_
        · have := small_bits (small_part hs mid.toNat (hi - mid).toNat) (64 * 2 ^ 16) (Nat.mul_le_mul hn (by rw [List.length_take, List.length_drop]; omega))
          omega
        repeat (walk_at "m.go")
        refine W.mono (ih (k - 1) (by omega) _ G2 _ lo mid _ _ ((RA.deeper _).le (by omega)) (uG.trans uG2) (hl.mono uG2).tail (by omega) (by omega) (by omega) (by omega)) fun v G3 l3 uG3 hr => ?_
        obtain ⟨t3, rfl, rfl⟩ := hr
        repeat (walk_at "m.go")
        exact ret_drop1 (ret_now ⟨_, by rw [dig_join n h0 (by omega) (by omega) h2], rfl⟩)
  obtain ⟨ff, fc, f1, f2, f3⟩ := facts g4 (Sub.refl _)
  have hl4 : ListAt g4 l da vs := hl.mono (u1.trans (u2.trans (u3.trans u4)))
  repeat (walk_at "m.go")
  refine W_truthyList hl4.tail (by omega) ?_
  refine two (fun e => ?_) fun e => ?_
  · repeat (walk_at "m.go")
    refine W_len hl4.tail (by omega) fun t => ?_
    repeat (walk_at "m.go")
    have hne : 0 < vs.length := by
      cases vs with
      | nil => cases e
      | cons => exact Nat.zero_lt_succ _
    have hm' : (ds.length : Int) ≤ 2 ^ m := by
      have : ((2 ^ m : Nat) : Int) = 2 ^ m := by norm_cast
      omega
    refine W.mono (inner m _ g4 _ 0 vs.length _ _ (R.deeper _) (Sub.refl _) hl4.tail (by omega) (by omega) (by omega) (by omega)) fun v G3 l3 uG3 hr => ?_
    obtain ⟨t3, rfl, rfl⟩ := hr
    repeat (walk_at "m.go")
    refine ret_drop1 (ret_now ⟨t3, ?_, rfl⟩)
    rw [show (0 : Int).toNat = 0 from rfl, List.drop_zero, List.take_of_length_le (by omega)]
  · repeat (walk_at "m.go")
    have hne : ds = [] := by
      cases vs with
      | nil => exact List.length_eq_zero_iff.mp (by rw [← len]; rfl)
      | cons => cases e
    subst hne
    exact ret_drop1 (ret_now ⟨_, rfl, rfl⟩)
-- part F3_02
theorem int2digits (d : Dat) {A : Around} {g : Heap} {l : Owns} {n : Nat} {a : Int} {ta tn : Tok} (R : Room A 9) (h0 : 0 ≤ a) (h1 : a < 2 ^ 64) (hn0 : 1 ≤ n) (hn : n ≤ 64) :
    W (cfg d) A (call (.ref 222) [.int a ta, .int n tn]) g l fun v g' l' => ∃ x vs, v = .ref x ∧ IntsAre vs (digs n ((Builtin.Int.intBits a + n - 1) / n) a) ∧ l' = (x, .seq vs) :: l := by
  refine' W_defC (pn := [Str.ofString "a", Str.ofString "n"]) (pv := [.int a ta, .int n tn]) (ns := [Str.ofString "a"]) (vs := [.int a ta]) (xs := [Str.ofString "n", Str.ofString "a_digits", Str.ofString "inner"]) (ws := [some (.int n tn), none, none]) R.depth ?ho ?hcd ?hb ?hkind ?hpn ?hns ?hxs ?hcl ?hL ?hC ?_ ?co ?gen ?kd
  walk_at "m.enterC"
  intro L
  simp only [zipFrame, cellOwns, List.cons_append, List.nil_append]
  have hb : Builtin.Int.intBits a ≤ 64 := bits_le h0 (by simpa using h1)
  repeat (walk_at "m.go")
  refine W_floordiv (by omega) (by omega) fun tk => ?_
  obtain ⟨K, hK⟩ : ∃ K, K = (Builtin.Int.intBits a + n - 1) / n := ⟨_, rfl⟩
  rw [← hK]
  have eK : ((Builtin.Int.intBits a : Int) + n - 1).fdiv n = (K : Int) := by
    rw [Int.fdiv_eq_ediv_of_nonneg _ (by omega), hK]
    rw [show ((Builtin.Int.intBits a : Int) + n - 1) = ((Builtin.Int.intBits a + n - 1 : Nat) : Int) by omega]
    norm_cast
  rw [eK]
  have hKb : K ≤ 64 + 64 := by
    rw [hK]; exact Nat.le_trans (Nat.div_le_self _ _) (by omega)
  have hKn : Builtin.Int.intBits a ≤ n * K := by
    have := Nat.lt_div_mul_add (a := Builtin.Int.intBits a + n - 1) (b := n) (by omega)
    rw [← hK, Nat.mul_comm] at this
    omega
  refine W_mulList1 (by walk_at "m.mem") (by omega) (by omega) fun arr => ?_
  refine W.toSeq .head ?_
  refine W.drop ?_ ((List.sublist_cons_self _ _).cons_cons _)
  rw [Int.toNat_natCast]
  repeat (walk_at "m.go")
  refine' W_nestDef (t := ⟨221, 217, 187, 4, Str.ofString "_int2digits.<locals>.inner"⟩) (clos := [(Str.ofString "n", L + 1), (Str.ofString "inner", L + 1 + 1 + 1), (Str.ofString "a_digits", L + 1 + 1)]) ?ht ?hd ?_ ?n1 ?n2 ?n3 ?n4 ?n5 ?n6 ?n7 ?n8 ?n9
  walk_at "m.nest"
  intro f c' ctv doc pm g1 u1 hf hcr
  walk_at "m.go"
  walk_at "m.go"
  refine W.give (.tail (.tail .head)) fun g2 u2 c1 => ?_
  refine W.give (.tail (.tail .head)) fun g3 u3 c2 => ?_
  refine W.give (.tail (.tail .head)) fun g4 u4 c3 => ?_
  have facts : ∀ G, Sub g4 G → G.get? f = some _ ∧ G.CodeRec (.ref c') (Str.ofString "_int2digits.<locals>.inner") ∧ G.IsCell (L + 1) (some (.int n tn)) ∧ G.IsCell (L + 1 + 1) (some (.ref arr)) ∧ G.IsCell (L + 1 + 1 + 1) (some (.ref f)) := fun G u =>
    ⟨u _ _ (u4 _ _ (u3 _ _ (u2 _ _ hf))), hcr.keeps (u2.trans (u3.trans (u4.trans u))), c1.to fun o e => u _ _ (u4 _ _ (u3 _ _ e)), c2.to fun o e => u _ _ (u4 _ _ e), c3.to fun o e => u _ _ e⟩
  have inner : ∀ (k : Nat) (A' : Around) (G : Heap) (M : List Value → Owns) (vs : List Value) (x lo hi : Int) (tx tl th : Tok), Room A' (k + 1) → Sub g4 G → (∀ a b, Turn arr (.seq a) (.seq b) (M a) (M b)) → 0 ≤ lo → lo < hi → hi ≤ vs.length → vs.length ≤ 128 → hi - lo ≤ 2 ^ k → 0 ≤ x → x < 2 ^ (n * (hi - lo).toNat) →
      W (cfg d) A' (call (.ref f) [.int x tx, .int lo tl, .int hi th]) G (M vs) fun v g' l' => v = .none ∧ ∃ vs', l' = M vs' ∧ Filled vs vs' lo.toNat (digs n (hi - lo).toNat x) := by
    intro k
    induction k using Nat.strongRecOn with
    | ind k ih =>
      intro A' G M vs x lo hi tx tl th RA uG hM h0 h1 h2 hvs h3 hx0 hx1
      obtain ⟨ff, fc, f1, f2, f3⟩ := facts G uG
      refine' W_def (ns := [Str.ofString "x", Str.ofString "L", Str.ofString "R", Str.ofString "mid", Str.ofString "shift", Str.ofString "upper", Str.ofString "lower"]) (vs := [.int x tx, .int lo tl, .int hi th]) RA.depth ff ?fd fc ?fb ?floc ?fns ?_ ?fcell ?fco ?fgen ?fkd
      walk_at "m.enterF"
      intro L'
      simp only [zipFrame]
      repeat (walk_at "m.go")
      refine two (fun e => ?_) fun e => ?_
      · repeat (walk_at "m.go")
        have e' : lo + 1 = hi := by simpa using e
        have e1 : (hi - lo).toNat = 1 := by omega
        refine W_setItem (.tail (hM vs (vs.set lo.toNat (.int x tx)))) (.inr rfl) h0 (by omega) (by omega) ?_
        repeat (walk_at "m.go")
        refine ret_drop1 (ret_now ⟨rfl, _, rfl, ?_⟩)
        rw [e1, Nat.mul_one] at hx1
        rw [e1, digs_1 n hx0 hx1]
        exact Filled.one (by omega)
      · have e' : lo + 1 ≠ hi := by simpa using e
        have hk : 1 ≤ k := by
          cases k with
          | zero => omega
          | succ k => omega
        have hk2 : (2 : Int) ^ k = 2 * 2 ^ (k - 1) := by
          obtain ⟨j, rfl⟩ : ∃ j, k = j + 1 := ⟨k - 1, by omega⟩
          rw [Int.pow_succ, Int.mul_comm]; rfl
        repeat (walk_at "m.go")
        refine W_rshift (by decide) fun tk => ?_
        rw [fdiv_half]
        obtain ⟨mid, hmid⟩ : ∃ m, m = (lo + hi) / 2 := ⟨_, rfl⟩
        rw [← hmid]
        repeat (walk_at "m.go")
        refine W_mul (IntMulOk.of_left (bits_le (n := 64) (by omega) (by omega))) fun tk => ?_
        have hsh : 0 ≤ (mid - lo) * n := Int.mul_nonneg (by omega) (by omega)
        have hsh2 : (mid - lo) * n ≤ 2 ^ 16 * 64 := Int.mul_le_mul (by omega) (by omega) (by omega) (by omega)
        have hshn : ((mid - lo) * n).toNat = n * (mid - lo).toNat := by rw [Int.toNat_mul (by omega) (by omega), Nat.mul_comm]; rfl
        repeat (walk_at "m.go")
        obtain ⟨p, hp⟩ : ∃ p, p = (mid - lo).toNat := ⟨_, rfl⟩
        obtain ⟨q, hq⟩ : ∃ q, q = (hi - mid).toNat := ⟨_, rfl⟩
        have hpq : (hi - lo).toNat = p + q := by omega
        rw [← hp] at hshn
        have hP := pow_pos' (n * p)
        have hxq : x / 2 ^ (n * p) < 2 ^ (n * q) := by
          refine Int.ediv_lt_of_lt_mul hP ?_
          rw [← Int.pow_add, ← Nat.mul_add, Nat.add_comm, ← hpq]; exact hx1
        have hxn : 0 ≤ x / 2 ^ (n * p) := Int.ediv_nonneg hx0 (Int.le_of_lt hP)
        refine W_rshift hsh fun tk => ?_
        rw [hshn, Int.fdiv_eq_ediv_of_nonneg _ (Int.le_of_lt hP)]
        repeat (walk_at "m.go")
        refine W_lshift hsh ?_ fun tk => ?_
        · have h5 := bits_le hxn hxq
          have : n * q ≤ 64 * 128 := Nat.mul_le_mul hn (by omega)
          omega
        rw [hshn]
        walk_at "m.go"
        rw [xor_low x _ hx0]
        repeat (walk_at "m.go")
        refine W.mono (ih (k - 1) (by omega) _ G (fun w => (L', .fr _) :: M w) vs (x % 2 ^ (n * p)) lo mid _ _ _ ((RA.deeper _).le (by omega)) uG (fun a b => .tail (hM a b)) h0 (by omega) (by omega) hvs (by omega) (Int.emod_nonneg _ (Int.ne_of_gt hP)) (by rw [← hp]; exact Int.emod_lt_of_pos _ hP)) fun v G2 l2 uG2 hr => ?_
        obtain ⟨rfl, vs1, rfl, hF1⟩ := hr
        refine none_end ?_
        obtain ⟨ff, fc, f1, f2, f3⟩ := facts G2 (uG.trans uG2)
        have hl1 := hF1.len
        repeat (walk_at "m.go")
        refine W.mono (ih (k - 1) (by omega) _ G2 (fun w => (L', .fr _) :: M w) vs1 (x / 2 ^ (n * p)) mid hi _ _ _ ((RA.deeper _).le (by omega)) (uG.trans uG2) (fun a b => .tail (hM a b)) (by omega) (by omega) (by omega) (by omega) (by omega) hxn (by rw [← hq]; exact hxq)) fun v G3 l3 uG3 hr => ?_
        obtain ⟨rfl, vs2, rfl, hF2⟩ := hr
        refine none_end ?_
        repeat (walk_at "m.go")
        refine next_drop1 (ret_next ⟨rfl, vs2, rfl, ?_⟩)
        rw [hpq, ← digs_two]
        rw [← hp] at hF1
        rw [← hq] at hF2
        refine hF1.trans ?_
        rw [digs_length, show lo.toNat + p = mid.toNat by omega]
        exact hF2
  obtain ⟨ff, fc, f1, f2, f3⟩ := facts g4 (Sub.refl _)
  repeat (walk_at "m.go")
  have aK : a < 2 ^ (n * K) := by
    have := intBits_le_iff.mp hKn
    have e : ((2 ^ (n * K) : Nat) : Int) = 2 ^ (n * K) := by norm_cast
    omega
  refine two (fun e => ?_) fun e => ?_
  · have e' : a ≠ 0 := by simpa using e
    have hK1 : 0 < K := by
      rcases Nat.eq_zero_or_pos K with q | q
      · subst q
        rw [Nat.mul_zero] at aK
        omega
      · exact q
    repeat (walk_at "m.go")
    refine W_len (.seq (.head _)) (by rw [List.length_replicate]; omega) fun t => ?_
    rw [List.length_replicate]
    repeat (walk_at "m.go")
    refine W.mono (inner 7 _ g4 (fun w => (arr, .seq w) :: (L, .fr _) :: l) (List.replicate K _) a 0 K _ _ _ (R.deeper _) (Sub.refl _) (fun a b => .head) (by omega) (by omega) (by rw [List.length_replicate]; omega) (by rw [List.length_replicate]; omega) (by omega) h0 (by rw [Int.sub_zero, Int.toNat_natCast]; exact aK)) fun v G2 l2 uG2 hr => ?_
    obtain ⟨rfl, vs1, rfl, hF1⟩ := hr
    refine none_end ?_
    obtain ⟨ff, fc, f1, f2, f3⟩ := facts G2 uG2
    repeat (walk_at "m.go")
    refine Shift.sub ((List.sublist_cons_self _ _).cons_cons _) (Shift.done ⟨arr, vs1, rfl, ?_, rfl⟩)
    rw [Int.sub_zero, Int.toNat_natCast] at hF1
    exact hF1.all (by rw [digs_length, List.length_replicate])
  · have e' : a = 0 := by simpa using e
    have hK0 : K = 0 := by
      rw [hK, e']
      show (0 + n - 1) / n = 0
      exact Nat.div_eq_of_lt (by omega)
    repeat (walk_at "m.go")
    refine Shift.sub ((List.sublist_cons_self _ _).cons_cons _) (Shift.done ⟨arr, _, rfl, ?_, rfl⟩)
    subst hK0
    exact .nil
-- part F4_02
theorem divmodPos (d : Dat) {A : Around} {g : Heap} {l : Owns} {a b : Int} {ta tb : Tok} (R : Room A 12) (h0 : 0 ≤ a) (h1 : a < 2 ^ 64) (hb0 : 0 < b) (hb1 : b < 2 ^ 29) :
    W (cfg d) A (call (.ref 236) [.int a ta, .int b tb]) g l fun v g' l' => ∃ x t1 t2, v = .ref x ∧ l' = l ∧ g'.get? x = some (tupObj [.int (a / b) t1, .int (a % b) t2]) := by
  refine' W_defK (ns := [Str.ofString "a", Str.ofString "b", Str.ofString "n", Str.ofString "a_digits", Str.ofString "r", Str.ofString "q_digits", Str.ofString "a_digit", Str.ofString "q_digit", Str.ofString "q"]) (vs := [.int a ta, .int b tb]) R.depth ?ho ?hcd ?hb ?hloc ?hns ?_ ?hcell ?co ?gen ?kd
  walk_at "m.enter"
  intro L
  simp only [zipFrame]
  have hn : Builtin.Int.intBits b ≤ 29 := bits_le (by omega) (by simpa using hb1)
  obtain ⟨n, hN⟩ : ∃ n, n = Builtin.Int.intBits b := ⟨_, rfl⟩
  have hn1 : 1 ≤ n := by
    rcases Nat.eq_zero_or_pos n with q | q
    · rw [hN] at q
      have := intBits_le_iff.mp (Nat.le_of_eq q)
      simp at this
      omega
    · exact q
  rw [← hN] at hn
  repeat (walk_at "m.go")
  rw [← hN]
  refine W.mono (int2digits d ((R.deeper _).le (by omega)) h0 h1 hn1 (by omega)) fun v g1 l1 u1 hr => ?_
  obtain ⟨arr, vs, rfl, hI, rfl⟩ := hr
  obtain ⟨K, hK⟩ : ∃ K, K = (Builtin.Int.intBits a + n - 1) / n := ⟨_, rfl⟩
  rw [← hK] at hI
  have hba : Builtin.Int.intBits a ≤ 64 := bits_le h0 (by simpa using h1)
  have hKb : K ≤ 128 := by
    rw [hK]; exact Nat.le_trans (Nat.div_le_self _ _) (by omega)
  have hKn : Builtin.Int.intBits a ≤ n * K := by
    have := Nat.lt_div_mul_add (a := Builtin.Int.intBits a + n - 1) (b := n) (by omega)
    rw [← hK, Nat.mul_comm] at this
    omega
  have aK : a < 2 ^ (n * K) := by
    have := intBits_le_iff.mp hKn
    have e : ((2 ^ (n * K) : Nat) : Int) = 2 ^ (n * K) := by norm_cast
    omega
  have len := ints_len hI
  rw [digs_length] at len
  repeat (walk_at "m.go")
  refine W_For ?_
  repeat (walk_at "m.go")
  refine W_reversed (.seq (by walk_at "m.mem")) fun it => ?_
  refine W_iterRev (.head _) ?_
  rw [show (vs.length : Int) - 1 = (vs.length : Int) - 1 - ((0 : Nat) : Int) by simp]
  rename_i tn t0 qd
  have hsm := digs_small n K a
  refine WC_for (feeds_rev (by exact R.h) it arr vs (ints_noref hI)) (fun i G M => ∃ ws qs r tr o1 o2, M = (qd, Own.list ws) :: (arr, Own.seq vs) :: (L, Own.fr [(Str.ofString "a", some (.int a ta)), (Str.ofString "b", some (.int b tb)), (Str.ofString "n", some (.int n tn)), (Str.ofString "a_digits", some (.ref arr)), (Str.ofString "r", some (.int r tr)), (Str.ofString "q_digits", some (.ref qd)), (Str.ofString "a_digit", o1), (Str.ofString "q_digit", o2), (Str.ofString "q", none)]) :: l
      ∧ IntsAre ws qs ∧ qs.length = i ∧ Small n qs ∧ r = digVal n ((digs n K a).drop (K - i)) % b ∧ digVal n qs.reverse = digVal n ((digs n K a).drop (K - i)) / b) ?_ ?_ ?_ ?_
  · rintro i G M ⟨ws, qs, r, tr, o1, o2, rfl, _⟩
    exact .seq (.tail _ (.head _))
  · refine ⟨[], [], 0, t0, none, none, rfl, .nil, rfl, (fun _ h => by cases h), ?_, ?_⟩
    · rw [Nat.sub_zero, List.drop_of_length_le (by rw [digs_length]; omega)]; simp [digVal]
    · rw [Nat.sub_zero, List.drop_of_length_le (by rw [digs_length]; omega)]; simp [digVal]
  · rintro i v G M hi hv uG ⟨ws, qs, r, tr, o1, o2, rfl, hW, hlen, hS, hr, hq⟩
    obtain ⟨td, hd⟩ := ints_at hI (i := K - 1 - i) (by rw [digs_length]; omega)
    rw [len, hd] at hv
    cases hv
    obtain ⟨dg, hdg⟩ : ∃ x, x = (digs n K a)[K - 1 - i]'(by rw [digs_length]; omega) := ⟨_, rfl⟩
    rw [← hdg]
    have hdg2 : 0 ≤ dg ∧ dg < 2 ^ n := hsm dg (by rw [hdg]; exact List.getElem_mem _)
    have hstep := long_step (qs := qs) (r := r) hb0 hdg2 hr hq
    have hdrop : dg + 2 ^ n * digVal n ((digs n K a).drop (K - i)) = digVal n ((digs n K a).drop (K - (i + 1))) := by
      rw [show K - (i + 1) = K - 1 - i by omega, List.drop_eq_getElem_cons (i := K - 1 - i) (by rw [digs_length]; omega), digVal, ← hdg, show K - 1 - i + 1 = K - i by omega]
    rw [hdrop] at hstep
    have hr0 : 0 ≤ r := by rw [hr]; exact Int.emod_nonneg _ (by omega)
    have hr1 : r < b := by rw [hr]; exact Int.emod_lt_of_pos _ hb0
    have hp29 : (2 : Int) ^ n ≤ 2 ^ 29 := by
      have h3 : (2 : Nat) ^ n ≤ 2 ^ 29 := Nat.pow_le_pow_right (by decide) hn
      have e : ((2 ^ n : Nat) : Int) = 2 ^ n := by norm_cast
      omega
    have hm1 : r * 2 ^ n ≤ 2 ^ 29 * 2 ^ 29 := Int.mul_le_mul (by omega) hp29 (Int.le_of_lt (pow_pos' n)) (by decide)
    have hm0 : 0 ≤ r * 2 ^ n := Int.mul_nonneg hr0 (Int.le_of_lt (pow_pos' n))
    refine W_assignName ?_
    repeat (walk_at "m.go")
    refine W_lshift (by omega) ?_ fun tk => ?_
    · have := bits_le (n := 29) hr0 (by simpa using (by omega : r < 2 ^ 29))
      omega
    rw [Int.toNat_natCast]
    repeat (walk_at "m.go")
    refine W.mono (div2n1n d ((R.deeper _).le (by omega)) (by omega) (by omega) hb0 hb1 (by omega)) fun v g2 l2 u2 hres => ?_
    obtain ⟨x, t1, t2, rfl, rfl, hx⟩ := hres
    refine W_pair (by exact R.h) hx ?_
    repeat (walk_at "m.go")
    refine W_mAppend (by walk_at "m.mem") ?_
    repeat (walk_at "m.go")
    refine W_append (.tail .head) (by rw [ints_len hW, hlen]; exact Nat.le_trans (Nat.le_trans (Nat.le_of_lt hi) (by rw [len]; exact hKb)) (by decide)) (none_end ?_)
    repeat (walk_at "m.go")
    refine Shift.done ⟨_, rfl, _, qs ++ [(r * 2 ^ n + dg) / b], _, _, _, _, rfl, ints_append hW (.cons _ _ .nil), by rw [List.length_append, hlen]; rfl, ?_, hstep.1, hstep.2.1⟩
    intro x hx
    rcases List.mem_append.mp hx with hx | hx
    · exact hS x hx
    · rw [List.mem_singleton.mp hx]; exact hstep.2.2
  · rintro G M uG ⟨ws, qs, r, tr, o1, o2, rfl, hW, hlen, hS, hr, hq⟩
    have hfin : digVal n ((digs n K a).drop (K - vs.length)) = a := by
      rw [len, Nat.sub_self, List.drop_zero, digVal_digs, Int.emod_eq_of_lt h0 aK]
    rw [hfin] at hr hq
    repeat (walk_at "m.go")
    refine W_mReverse (by walk_at "m.mem") ?_
    repeat (walk_at "m.go")
    have hwl : ws.length = vs.length := by rw [ints_len hW, hlen]
    refine W_reverse .head (by rw [hwl, len]; exact Nat.le_trans hKb (by decide)) (none_end ?_)
    repeat (walk_at "m.go")
    have hS' : Small n qs.reverse := fun x hx => hS x (List.mem_reverse.mp hx)
    refine W.mono (digits2int d (m := 7) ((R.deeper _).le (by omega)) (.own (.head _)) (ints_reverse hW) hS' (by rw [List.length_reverse, hlen, len]; exact hKb) (by omega) (by rw [List.length_reverse, hlen, len]; omega)) fun v g2 l2 u2 hres => ?_
    obtain ⟨tq, rfl, rfl⟩ := hres
    rw [hq]
    repeat (walk_at "m.go")
    refine W_newTuple (by exact Nat.le_of_ble_eq_true rfl) fun x g3 u3 e3 => ?_
    repeat (walk_at "m.go")
    rw [hr] at e3
    exact ret_drop1 (ret_drop1 (ret_drop1 (ret_now ⟨x, _, _, rfl, rfl, e3⟩)))
theorem idmPP (d : Dat) {A : Around} {g : Heap} {l : Owns} {a b : Int} {ta tb : Tok} (R : Room A 13) (h0 : 0 ≤ a) (h1 : a < 2 ^ 64) (hb0 : 0 < b) (hb1 : b < 2 ^ 29) :
    W (cfg d) A (call (.ref 243) [.int a ta, .int b tb]) g l fun v g' l' => ∃ x t1 t2, v = .ref x ∧ l' = l ∧ g'.get? x = some (tupObj [.int (a / b) t1, .int (a % b) t2]) := by
  refine' W_defK (ns := [Str.ofString "a", Str.ofString "b", Str.ofString "q", Str.ofString "r"]) (vs := [.int a ta, .int b tb]) R.depth ?ho ?hcd ?hb ?hloc ?hns ?_ ?hcell ?co ?gen ?kd
  walk_at "m.enter"
  intro L
  simp only [zipFrame]
  repeat (walk_at "m.go")
  refine one_f (beq_eq_false_iff_ne.mpr (by omega)) ?_
  repeat (walk_at "m.go")
  refine one_f (decide_eq_false (by omega)) ?_
  repeat (walk_at "m.go")
  refine one_f (decide_eq_false (by omega)) ?_
  repeat (walk_at "m.go")
  refine W.mono (divmodPos d (R.deeper _) h0 h1 hb0 hb1) fun v g2 l2 u2 hres => ?_
  obtain ⟨x, t1, t2, rfl, rfl, hx⟩ := hres
  repeat (walk_at "m.go")
  exact ret_drop1 (ret_now ⟨x, _, _, rfl, rfl, hx⟩)
theorem idmP (d : Dat) {A : Around} {g : Heap} {l : Owns} {a b : Int} {ta tb : Tok} (R : Room A 14) (h0 : -(2 ^ 63) ≤ a) (h1 : a < 2 ^ 63) (hb0 : 0 < b) (hb1 : b < 2 ^ 29) :
    W (cfg d) A (call (.ref 243) [.int a ta, .int b tb]) g l fun v g' l' => ∃ x t1 t2, v = .ref x ∧ l' = l ∧ g'.get? x = some (tupObj [.int (a / b) t1, .int (a % b) t2]) := by
  rcases Int.lt_or_le a 0 with hneg | hpos
  rotate_left
  · exact idmPP d (R.le (by omega)) hpos (by omega) hb0 hb1
  refine' W_defK (ns := [Str.ofString "a", Str.ofString "b", Str.ofString "q", Str.ofString "r"]) (vs := [.int a ta, .int b tb]) R.depth ?ho ?hcd ?hb ?hloc ?hns ?_ ?hcell ?co ?gen ?kd
  walk_at "m.enter"
  intro L
  simp only [zipFrame]
  repeat (walk_at "m.go")
  refine one_f (beq_eq_false_iff_ne.mpr (by omega)) ?_
  repeat (walk_at "m.go")
  refine one_f (decide_eq_false (by omega)) ?_
  repeat (walk_at "m.go")
  refine one_t (decide_eq_true (by omega)) ?_
  have hbn : Builtin.bitNot a = -a - 1 := rfl
  repeat (walk_at "m.go")
  refine W.mono (idmPP d (R.deeper _) (a := Builtin.bitNot a) (by omega) (by omega) hb0 hb1) fun v g2 l2 u2 hres => ?_
  obtain ⟨x, t1, t2, rfl, rfl, hx⟩ := hres
  refine W_pair (by exact R.h) hx ?_
  repeat (walk_at "m.go")
  refine W_newTuple (by exact Nat.le_of_ble_eq_true rfl) fun x g3 u3 e3 => ?_
  repeat (walk_at "m.go")
  have h4 := Int.emod_add_mul_ediv (-a - 1) b
  have h5 := Int.emod_nonneg (-a - 1) (Int.ne_of_gt hb0)
  have h6 := Int.emod_lt_of_pos (-a - 1) hb0
  have e : a = (-((-a - 1) / b) - 1) * b + (b + (-((-a - 1) % b) - 1)) := by
    rw [Int.sub_mul, Int.neg_mul, Int.one_mul, Int.mul_comm ((-a - 1) / b) b]; omega
  have q1 : Builtin.bitNot (Builtin.bitNot a / b) = a / b := (ediv_uniq e (by omega) (by omega)).symm
  have q2 : b + Builtin.bitNot (Builtin.bitNot a % b) = a % b := (emod_uniq e (by omega) (by omega)).symm
  rw [q1, q2] at e3
  exact ret_drop1 (ret_now ⟨x, _, _, rfl, rfl, e3⟩)
theorem intDivmod (d : Dat) {A : Around} {g : Heap} {l : Owns} {a b : Int} {ta tb : Tok} (R : Room A 15) (h0 : -(2 ^ 62) ≤ a) (h1 : a ≤ 2 ^ 62) (hb : b ≠ 0) (hb0 : -(2 ^ 29) < b) (hb1 : b < 2 ^ 29) :
    W (cfg d) A (call (.ref 243) [.int a ta, .int b tb]) g l fun v g' l' => ∃ x t1 t2, v = .ref x ∧ l' = l ∧ g'.get? x = some (tupObj [.int (a.fdiv b) t1, .int (a.fmod b) t2]) := by
  rcases Int.lt_or_le b 0 with hneg | hpos
  rotate_left
  · rw [Int.fdiv_eq_ediv_of_nonneg _ hpos, Int.fmod_eq_emod_of_nonneg _ hpos]
    exact idmP d (R.le (by omega)) (by omega) (by omega) (by omega) hb1
  refine' W_defK (ns := [Str.ofString "a", Str.ofString "b", Str.ofString "q", Str.ofString "r"]) (vs := [.int a ta, .int b tb]) R.depth ?ho ?hcd ?hb ?hloc ?hns ?_ ?hcell ?co ?gen ?kd
  walk_at "m.enter"
  intro L
  simp only [zipFrame]
  repeat (walk_at "m.go")
  refine one_f (beq_eq_false_iff_ne.mpr (by omega)) ?_
  repeat (walk_at "m.go")
  refine one_t (decide_eq_true (by omega)) ?_
  repeat (walk_at "m.go")
  refine W.mono (idmP d (R.deeper _) (a := -a) (b := -b) (by omega) (by omega) (by omega) (by omega)) fun v g2 l2 u2 hres => ?_
  obtain ⟨x, t1, t2, rfl, rfl, hx⟩ := hres
  refine W_pair (by exact R.h) hx ?_
  repeat (walk_at "m.go")
  refine W_newTuple (by exact Nat.le_of_ble_eq_true rfl) fun x g3 u3 e3 => ?_
  repeat (walk_at "m.go")
  have e1 : a.fdiv b = -a / -b := by
    rw [← Int.fdiv_eq_ediv_of_nonneg _ (by omega), Int.neg_fdiv_neg]
  have e2 : a.fmod b = -(-a % -b) := by
    rw [Int.fmod_def, e1]
    have := Int.emod_add_mul_ediv (-a) (-b)
    rw [Int.neg_mul] at this
    omega
  rw [← e1, ← e2] at e3
  exact ret_drop1 (ret_now ⟨x, _, _, rfl, rfl, e3⟩)
-- part F5_02
theorem powers (d : Dat) {A : Around} {g : Heap} {l : Owns} {w : Int} {tw tb tm : Tok} (R : Room A 1) (h0 : 0 ≤ w) (h1 : w ≤ 2048) :
    W (cfg d) A (call (.ref 187) [.int w tw, .int 5 tb, .int 2048 tm]) g l fun v g' l' => ∃ x, v = .ref x ∧ l' = l := by
  refine' W_defK (ns := [Str.ofString "w", Str.ofString "base", Str.ofString "more_than", Str.ofString "show", Str.ofString "seen", Str.ofString "need", Str.ofString "ws", Str.ofString "lo", Str.ofString "d", Str.ofString "it", Str.ofString "first", Str.ofString "this", Str.ofString "hi", Str.ofString "sq"]) (vs := [.int w tw, .int 5 tb, .int 2048 tm, .bool false]) R.depth ?ho ?hcd ?hb ?hloc ?hns ?_ ?hcell ?co ?gen ?kd
  walk_at "m.enter"
  intro L
  simp only [zipFrame]
  repeat (walk_at "m.go")
  refine W_set0 fun s1 => ?_
  repeat (walk_at "m.go")
  refine W_set0 fun s2 => ?_
  repeat (walk_at "m.go")
  refine W_Set1 (by (show kdsCode (Mine.hd.heap_39 _) _ = true); kernel_rfl!) (by rfl) (by rfl) fun s3 => ?_
  repeat (walk_at "m.go")
  refine ⟨w, _, _, rfl, rfl, ?_⟩
  repeat (walk_at "m.go")
  refine W_While (fun n G M => ∃ t S, (n = 1 ∧ S = (fun x : Int => decide (x = w)) ∨ n = 0 ∧ S = (fun _ => false)) ∧ M = (s3, setI (cfg d) S n) :: (s2, setI (cfg d) (fun _ => false) 0) :: (s1, setI (cfg d) (fun _ => false) 0) :: (L, Own.fr [(Str.ofString "w", some (.int w t)), (Str.ofString "base", some (.int 5 tb)), (Str.ofString "more_than", some (.int 2048 tm)), (Str.ofString "show", some (.bool false)), (Str.ofString "seen", some (.ref s1)), (Str.ofString "need", some (.ref s2)), (Str.ofString "ws", some (.ref s3)), (Str.ofString "lo", none), (Str.ofString "d", none), (Str.ofString "it", none), (Str.ofString "first", none), (Str.ofString "this", none), (Str.ofString "hi", none), (Str.ofString "sq", none)]) :: l) 1 ⟨_, _, .inl ⟨rfl, rfl⟩, rfl⟩ ?_
  rintro n G M uG ⟨t, S, hS, rfl⟩
  repeat (walk_at "m.go")
  rcases hS with ⟨rfl, rfl⟩ | ⟨rfl, rfl⟩
  · refine W_truthySet (.head _) (by decide) ?_
    refine one_t rfl ?_
    repeat (walk_at "m.go")
    refine W_mPop (.head _) (by decide) ?_
    repeat (walk_at "m.go")
    refine W_pop1 .head fun t2 => ?_
    repeat (walk_at "m.go")
    refine W_inSet (.tail _ (.tail _ (.head _))) (by decide) ?_
    repeat (walk_at "m.go")
    refine ⟨(fun e => by cases e), fun _ => ?_⟩
    repeat (walk_at "m.go")
    refine one_t (decide_eq_true h1) ?_
    repeat (walk_at "m.go")
    exact Shift.done ⟨0, Nat.zero_lt_one, _, _, .inr ⟨rfl, rfl⟩, rfl⟩
  · refine W_truthySet (.head _) (by decide) ?_
    refine one_f rfl ?_
    repeat (walk_at "m.go")
    refine W_Dict0 fun dd => ?_
    repeat (walk_at "m.go")
    refine W_truthySet (.tail _ (.tail _ (.head _))) (by decide) ?_
    refine one_t rfl ?_
    repeat (walk_at "m.go")
    exact ret_drop1 (ret_drop1 (ret_drop1 (ret_drop1 (ret_drop1 (ret_now ⟨dd, rfl, rfl⟩)))))
theorem strInner (d : Dat) {A : Around} {g : Heap} {l : Owns} {x : Str} {n : Int} {tx : Tok} (R : Room A 2) (hx : Num x n) :
    W (cfg d) A (call (.ref 194) [.str x tx]) g l fun v g' l' => ∃ t, v = .int n t ∧ l' = l := by
  refine' W_defC (pn := [Str.ofString "s"]) (pv := [.str x tx]) (ns := []) (vs := []) (xs := [Str.ofString "s", Str.ofString "DIGLIM", Str.ofString "inner", Str.ofString "w5pow"]) (ws := [some (.str x tx), none, none, none]) R.depth ?ho ?hcd ?hb ?hkind ?hpn ?hns ?hxs ?hcl ?hL ?hC ?_ ?co ?gen ?kd
  walk_at "m.enterC"
  intro L
  simp only [zipFrame, cellOwns, List.cons_append, List.nil_append]
  have hlen := hx.len
  repeat (walk_at "m.go")
  refine' W_nestDef (t := ⟨193, 189, 147, 4, Str.ofString "_str_to_int_inner.<locals>.inner"⟩) (clos := [(Str.ofString "w5pow", L + 1 + 1 + 1 + 1), (Str.ofString "s", L + 1), (Str.ofString "inner", L + 1 + 1 + 1), (Str.ofString "DIGLIM", L + 1 + 1)]) ?ht ?hd ?_ ?n1 ?n2 ?n3 ?n4 ?n5 ?n6 ?n7 ?n8 ?n9
  walk_at "m.nest"
  intro f c' ctv doc pm g1 u1 hf hcr
  repeat (walk_at "m.go")
  refine W_lenStr (by omega) fun tl => ?_
  repeat (walk_at "m.go")
  refine W.mono (powers d ((R.deeper _).le (by omega)) (by omega) (by omega)) fun v g2 l2 u2 hr => ?_
  obtain ⟨dd, rfl, rfl⟩ := hr
  have hf2 := u2 _ _ hf
  have hcr2 := hcr.keeps u2
  repeat (walk_at "m.go")
  refine W_lenStr (by omega) fun tl => ?_
  repeat (walk_at "m.go")
  rename_i t0
  refine' W_def (ns := [Str.ofString "a", Str.ofString "b", Str.ofString "mid"]) (vs := [.int 0 t0, .int x.length tl]) (R.deeper _).depth hf2 ?fd hcr2 ?fb ?floc ?fns ?_ ?fcell ?fco ?fgen ?fkd
  walk_at "m.enterF"
  intro L'
  simp only [zipFrame]
  repeat (walk_at "m.go")
  refine one_t (decide_eq_true (by omega)) ?_
  repeat (walk_at "m.go")
  intro sl g3 u3 e3
  refine W_sliceStr (lo := some (0, t0)) (hi := some (x.length, tl)) e3 (Nat.le_trans hlen (by decide)) fun ts => ?_
  rw [show Txt.slice x (Option.map (·.1) (some ((0 : Int), t0))) (Option.map (·.1) (some ((x.length : Int), tl))) = x from slice_all x]
  repeat (walk_at "m.go")
  refine W_intText hx.reads hlen fun tn => ?_
  repeat (walk_at "m.go")
  refine ret_drop1 (ret_now ?_)
  repeat (walk_at "m.go")
  exact ret_drop1 (ret_drop1 (ret_drop1 (ret_drop1 (ret_drop1 (ret_now ⟨tn, rfl, rfl⟩)))))
theorem intFrom (d : Dat) {A : Around} {g : Heap} {l : Owns} {x : Str} {n : Int} {tx : Tok} (R : Room A 3) (hx : Num x n) :
    W (cfg d) A (call (.ref 201) [.str x tx]) g l fun v g' l' => ∃ t, v = .int n t ∧ l' = l := by
  refine' W_defK (ns := [Str.ofString "s"]) (vs := [.str x tx]) R.depth ?ho ?hcd ?hb ?hloc ?hns ?_ ?hcell ?co ?gen ?kd
  walk_at "m.enter"
  intro L
  simp only [zipFrame]
  have hlen := hx.len
  repeat (walk_at "m.go")
  refine W_rstrip (Nat.le_trans hlen (by decide)) fun ts => ?_
  rw [hx.rstrip]
  repeat (walk_at "m.go")
  refine W_replace0 hx.occ ?_
  repeat (walk_at "m.go")
  refine W.mono (strInner d (R.deeper _) hx) fun v g2 l2 u2 hr => ?_
  obtain ⟨t, rfl, rfl⟩ := hr
  repeat (walk_at "m.go")
  exact ret_drop1 (ret_now ⟨t, rfl, rfl⟩)
-- part F6_02
theorem convert (d : Dat) {A : Around} {g : Heap} {l : Owns} {x : Addr} {s : Str} {t : Tok} {b : Bool} (R : Room A 1) (hs : ∀ c ∈ s.cps.toList, 32 ≤ c ∧ c < 127) (hz : s.length < 2 ^ 60) :
    W (cfg d) A (call (.ref 76) [.ref x, .str s t] [(Str.ofString "name", .bool b)]) g l fun v g' l' => v = .str s t ∧ l' = l := by
  refine' W_defK (ns := [Str.ofString "self", Str.ofString "value", Str.ofString "name", Str.ofString "regex"]) (vs := [.ref x, .str s t, .bool b]) R.depth ?ho ?hcd ?hb ?hloc ?hns ?_ ?hcell ?co ?gen ?kd
  walk_at "m.enter"
  intro L
  simp only [zipFrame]
  repeat (walk_at "m.go")
  refine one_t (by decide) ?_
  cases b with
  | true =>
    repeat (walk_at "m.go")
    refine one_t rfl ?_
    repeat (walk_at "m.go")
    refine' W_mSearch ?lk1 ?_
    (case lk1 => walk_at "m.lk")
    repeat (walk_at "m.go")
    refine' W_search (ca := 40) ?lk2 ?lk3 ?r1 ?r2 ?r3 (.inl ?r4) hs hz ?_
    (case lk2 => walk_at "m.lk")
    (case lk3 => walk_at "m.lk")
    (case r1 => rfl)
    (case r2 => rfl)
    (case r3 => rfl)
    (case r4 => decide +kernel)
    repeat (walk_at "m.go")
    refine one_f rfl ?_
    repeat (walk_at "m.go")
    exact ret_drop1 (ret_now ⟨rfl, rfl⟩)
  | false =>
    repeat (walk_at "m.go")
    refine one_f rfl ?_
    repeat (walk_at "m.go")
    refine' W_mSearch ?lk4 ?_
    (case lk4 => walk_at "m.lk")
    repeat (walk_at "m.go")
    refine' W_search (ca := 45) ?lk5 ?lk6 ?q1 ?q2 ?q3 (.inr ?q4) hs hz ?_
    (case lk5 => walk_at "m.lk")
    (case lk6 => walk_at "m.lk")
    (case q1 => rfl)
    (case q2 => rfl)
    (case q3 => rfl)
    (case q4 => decide +kernel)
    repeat (walk_at "m.go")
    refine one_f rfl ?_
    repeat (walk_at "m.go")
    exact ret_drop1 (ret_now ⟨rfl, rfl⟩)
theorem make (d : Dat) {A : Around} {g : Heap} {l : Owns} (R : Room A 2) :
    W (cfg d) A (call (.ref 175) []) g l fun v g' l' => ∃ x a, v = .ref x ∧ l' = (a, .list []) :: l ∧ Hdr 175 g' x a := by
  refine' W_make (C := 175) (fI := 69) ?m1 ?m2 ?m3 ?_
  (case m1 => (show makesIn (Mine.hd.heap_39 _) _ = true); k_is)
  (case m2 => (show findIn (Mine.hd.heap_39 _) _ _ = _); k_is)
  (case m3 => (show typeIn (Mine.hd.heap_39 _) _ = _); k_is)
  intro x dx
  refine' WR_defK (ns := [Str.ofString "self", Str.ofString "headers", Str.ofString "k", Str.ofString "v"]) (vs := [.ref x, .none]) (R.under _ _).depth ?ho ?hcd ?hb ?hloc ?hns ?_ ?hcell ?co ?gen ?kd
  walk_at "m.enter"
  intro L
  simp only [zipFrame]
  repeat (walk_at "m.go")
  refine one_f rfl ?_
  repeat (walk_at "m.go")
  rename_i a
  refine W_typeList (.own (.head _)) ?_
  repeat (walk_at "m.go")
  refine one_f (by decide) ?_
  repeat (walk_at "m.go")
  refine W_AssignAttr ?_ (by with_unfolding_all rfl)
  repeat (walk_at "m.go")
  refine' W_setAttr (L := L) (dx := dx) (C := 175) (es := []) (n := 0) (.tail _ (.head _)) (.tail _ (.tail _ (.head _))) (.tail _ (.tail _ (.tail _ (.head _)))) ?s1 ?s2 ?s3 ?s4 rfl (fun _ _ => Nat.le_of_ble_eq_true rfl) (fun o => (a, .list []) :: (L, .fr _) :: (x, .obj (instObj 175 dx)) :: (dx, .obj o) :: l) (fun o => .tail (.tail (.tail .head))) ?_
  (case s1 => (show findIn (Mine.hd.heap_39 _) _ _ = _); k_is)
  (case s2 => (show plainOver (Mine.hd.heap_39 _) _ = _); k_is)
  (case s3 => (show takerIn (Mine.hd.heap_39 _) _ _ = _); k_is)
  (case s4 => (show hasDictIn (Mine.hd.heap_39 _) _ = _); k_is)
  intro hsh tk
  repeat (walk_at "m.go")
  refine one_t rfl ?_
  repeat (walk_at "m.go")
  refine W_For ?_
  repeat (walk_at "m.go")
  refine W_iterList (.own (.head _)) fun it => ?_
  refine WC_for (feeds_list (by exact R.h) it a []) (fun i G M => M = _) (fun i G M e => by subst e; exact .own (.head _)) rfl (fun i v G M hi => absurd hi (Nat.not_lt_zero _)) ?_
  rintro G M uG rfl
  repeat (walk_at "m.go")
  refine Shift.give (.tail (.tail .head)) fun g1 u1 e1 => ?_
  refine Shift.give (.tail (.tail .head)) fun g2 u2 e2 => ?_
  exact Shift.sub ((List.sublist_cons_self _ _).cons_cons _) (Shift.done ⟨rfl, x, a, rfl, rfl, dx, hsh, tk, _, u2 _ _ e1, e2⟩)
-- part F7_02
theorem addHeader (d : Dat) {A : Around} {g : Heap} {x a : Addr} {hv : List Value} {n v : Str} {tn tv : Tok} (M : List Value → Owns) (R : Room A 2) (hM : ∀ p q, Turn a (.list p) (.list q) (M p) (M q)) (H : Hdr 175 g x a) (hn : Fine n) (hv' : Fine v) (hz : hv.length < 2 ^ 16) :
    W (cfg d) A (call (.ref 172) [.ref x, .str n tn, .str v tv]) g (M hv) fun r g' l' => r = .none ∧ ∃ p t1 t2, l' = M (hv ++ [.ref p]) ∧ g'.get? p = some (tupObj [.str n t1, .str v t2]) := by
  refine' W_defA (ns := [Str.ofString "self", Str.ofString "_name", Str.ofString "_value", Str.ofString "_params", Str.ofString "parts", Str.ofString "k", Str.ofString "v"]) (vs := fun D => [.ref x, .str n tn, .str v tv, .ref D]) R.depth ?ho ?hcd ?hb ?hloc ?hns ?_ ?hcell ?co ?gen ?kd
  (case ho => (show List.lookup _ (Mine.hd.heap_39 _) = _); k_is)
  (case hcd => (show codeIn (Mine.hd.heap_39 _) _ _ = _); k_is)
  (case hb => intro M A E F s h Γ p hΓ; exact h)
  (case hloc => intro D; exact locs rfl)
  (case hns => decide)
  (case hcell => decide)
  (case co => rfl)
  (case gen => rfl)
  (case kd => rfl)
  intro L D hD
  simp only [zipFrame]
  repeat (walk_at "m.go")
  refine one_t rfl ?_
  repeat (walk_at "m.go")
  walk_at "m.hm"
  repeat (walk_at "m.go")
  rename_i pl
  refine W.mono (convert d ((R.deeper _).le (by omega)) hv'.1 (Nat.lt_trans hv'.2 (by decide))) fun r g1 l1 u1 hr => ?_
  obtain ⟨rfl, rfl⟩ := hr
  have H1 := H.mono u1
  repeat (walk_at "m.go")
  refine W_mAppend (.head _) ?_
  repeat (walk_at "m.go")
  refine W_append .head (Nat.zero_le _) (none_end ?_)
  repeat (walk_at "m.go")
  refine W_For ?_
  repeat (walk_at "m.go")
  refine W_mItems (by walk_at "m.mem") ?_
  repeat (walk_at "m.go")
  refine W_items0 (by walk_at "m.mem") hD fun vw => ?_
  repeat (walk_at "m.go")
  refine W_iterItems0 (.head _) (by walk_at "m.mem") fun it => ?_
  refine WC_items0 (by exact R.h) (by walk_at "m.mem") ?_
  repeat (walk_at "m.go")
  walk_at "m.hg"
  refine W_mAppend (.tail _ (.tail _ (.tail _ (.tail _ (hM hv hv).mem)))) ?_
  repeat (walk_at "m.go")
  walk_at "m.hm"
  repeat (walk_at "m.go")
  refine W.mono (convert d ((R.deeper _).le (by omega)) hn.1 (Nat.lt_trans hn.2 (by decide))) fun r g2 l2 u2 hr => ?_
  obtain ⟨rfl, rfl⟩ := hr
  repeat (walk_at "m.go")
  refine W_join (ys := [v]) (.own (.tail _ (.head _))) (.cons v tv .nil) (by have := hv'.2; have h2 : (Str.ofString "; ").length = 2 := (by decide); simp only [List.map_cons, List.map_nil, List.sum_cons, List.sum_nil, List.length_cons, List.length_nil]; rw [h2]; omega) fun tj => ?_
  rw [join_one]
  repeat (walk_at "m.go")
  refine W_newTuple (by exact Nat.le_of_ble_eq_true rfl) fun p g3 u3 e3 => ?_
  repeat (walk_at "m.go")
  refine W_append (l' := _) (.tail (.tail (.tail (.tail (hM hv (hv ++ [.ref p])))))) (Nat.le_trans (Nat.le_of_lt hz) (by decide)) (none_end ?_)
  repeat (walk_at "m.go")
  exact next_drop1 (next_drop1 (next_drop1 (next_drop1 (ret_next ⟨rfl, p, _, _, rfl, e3⟩))))
-- part F8_02

theorem getAll (d : Dat) {A : Around} {g : Heap} {l : Owns} {x a : Addr} {hv : List Value} {rs : List (Str × Str)} {n : Str} {tn : Tok} (R : Room A 2) (H : Hdr 175 g x a) (hl : ListAt g l a hv) (hr : RowsAre g hv rs) (hf : ∀ p ∈ rs, Fine p.1) (hn : Fine n) (hz : rs.length < 2 ^ 16) :
    W (cfg d) A (call (.ref 114) [.ref x, .str n tn]) g l fun r g' l' => ∃ b ws, r = .ref b ∧ l' = (b, .list ws) :: l ∧ StrsAre ws ((rs.filter fun p => Txt.lower p.1 == Txt.lower n).map (·.2)) := by
  refine' W_defC (pn := [Str.ofString "self", Str.ofString "name"]) (pv := [.ref x, .str n tn]) (ns := [Str.ofString "self"]) (vs := [.ref x]) (xs := [Str.ofString "name"]) (ws := [some (.str n tn)]) R.depth ?ho ?hcd ?hb ?hkind ?hpn ?hns ?hxs ?hcl ?hL ?hC ?_ ?co ?gen ?kd
  walk_at "m.enterC"
  intro L
  simp only [zipFrame, cellOwns, List.cons_append, List.nil_append]
  repeat (walk_at "m.go")
  walk_at "m.hm"
  repeat (walk_at "m.go")
  refine W_lower hn.lowFit fun tl => ?_
  repeat (walk_at "m.go")
  refine W.mono (convert d ((R.deeper _).le (by omega)) hn.lower.1 (Nat.lt_trans hn.lower.2 (by decide))) fun r g1 l1 u1 hres => ?_
  obtain ⟨rfl, rfl⟩ := hres
  have H1 := H.mono u1
  have hr1 := hr.mono u1
  have hlen := hr.length
  repeat (walk_at "m.go")
  refine' W_ListComp (cl := [(Str.ofString "name", L + 1)]) [Str.ofString "kv"] ?_ ?c1 ?c2 ?c3 ?c4 ?c5 ?c6
  (case c1 => decide)
  (case c2 => rfl)
  (case c3 => decide)
  (case c4 => decide)
  (case c5 => rfl)
  (case c6 => intro _; rfl)
  repeat (walk_at "m.go")
  walk_at "m.hg"
  refine comp_over (by exact R.h) (hl.mono u1).tail.tail (Nat.le_trans (Nat.le_of_lt (by rw [hlen]; exact hz)) (by decide)) (fun i ys g2 => StrsAre ys (((rs.take i).filter fun p => Txt.lower p.1 == Txt.lower n).map (·.2))) ?_ .nil ?_ ?_
  · intro i ys g2 h
    rw [strs_len h, List.length_map]
    exact Nat.le_trans (List.length_filter_le _ _) (List.length_take_le _ _)
  · intro it acc C i v ys r g2 hi hv u2 hI hr'
    obtain ⟨o, rfl⟩ := frame1 hr'
    have hir : i < rs.length := by omega
    obtain ⟨p, t1, t2, e1, e2⟩ := (hr1.mono u2).at hir
    rw [hv] at e1
    cases e1
    refine W_assignName ?_
    repeat (walk_at "m.go")
    refine turnIf ?_
    repeat (walk_at "m.go")
    refine W_itemTup (j := 0) e2 (by decide) (by decide) rfl rfl ?_
    repeat (walk_at "m.go")
    have hfi := hf rs[i] (List.getElem_mem _)
    refine W_lower hfi.lowFit fun tl => ?_
    repeat (walk_at "m.go")
    refine two (fun e => ?_) fun e => ?_
    · repeat (walk_at "m.go")
      refine W_itemTup (j := 1) e2 (by decide) (by decide) rfl rfl ?_
      refine Shift.done ⟨_, rfl, rfl, u2, ?_⟩
      rw [take_step hir, List.filter_append, List.map_append, List.filter_cons, if_pos e]
      exact strs_append hI (.cons _ _ .nil)
    · refine Shift.done ⟨_, rfl, rfl, u2, ?_⟩
      rw [take_step hir, List.filter_append, List.map_append, List.filter_cons, if_neg (by rw [e]; exact Bool.false_ne_true)]
      simpa using hI
  · intro ys g2 u2 hI acc
    rw [take_all rs hlen] at hI
    repeat (walk_at "m.go")
    exact Shift.sub (((List.sublist_cons_self _ _).trans (List.sublist_cons_self _ _)).cons_cons _) (Shift.done ⟨acc, ys, rfl, rfl, hI⟩)
theorem itemsOf (d : Dat) {A : Around} {g : Heap} {l : Owns} {x a : Addr} {hv : List Value} (R : Room A 1) (H : Hdr 175 g x a) (hl : ListAt g l a hv) (hz : hv.length < 2 ^ 16) :
    W (cfg d) A (call (.ref 139) [.ref x]) g l fun r g' l' => ∃ b, r = .ref b ∧ l' = (b, .list hv) :: l := by
  refine' W_defK (ns := [Str.ofString "self"]) (vs := [.ref x]) R.depth ?ho ?hcd ?hb ?hloc ?hns ?_ ?hcell ?co ?gen ?kd
  walk_at "m.enter"
  intro L
  simp only [zipFrame]
  repeat (walk_at "m.go")
  walk_at "m.hg"
  repeat (walk_at "m.go")
  intro sl g1 u1 e1
  refine W_sliceList (lo := none) (hi := none) (hl.mono u1).tail e1 .none .none (Nat.le_trans (Nat.le_of_lt hz) (by decide)) fun b => ?_
  rw [slicePick_all]
  repeat (walk_at "m.go")
  exact Shift.sub ((List.sublist_cons_self _ _).cons_cons _) (Shift.done ⟨b, rfl, rfl⟩)
-- part H1_02

theorem delItemOf (d : Dat) {A : Around} {g : Heap} {x a : Addr} {hv : List Value} {rs : List (Str × Str)} {n : Str} {tn : Tok} (M : List Value → Owns) (R : Room A 2) (hM : ∀ p q, Turn a (.list p) (.list q) (M p) (M q)) (H : Hdr 175 g x a) (hr : RowsAre g hv rs) (hf : ∀ p ∈ rs, Fine p.1) (hn : Fine n) (hz : rs.length < 2 ^ 16) :
    W (cfg d) A (call (.ref 95) [.ref x, .str n tn]) g (M hv) fun r g' l' => r = .none ∧ ∃ hw, l' = M hw ∧ RowsAre g' hw (rs.filter fun p => Txt.lower p.1 != Txt.lower n) := by
  refine' W_defC (pn := [Str.ofString "self", Str.ofString "name"]) (pv := [.ref x, .str n tn]) (ns := [Str.ofString "self"]) (vs := [.ref x]) (xs := [Str.ofString "name"]) (ws := [some (.str n tn)]) R.depth ?ho ?hcd ?hb ?hkind ?hpn ?hns ?hxs ?hcl ?hL ?hC ?_ ?co ?gen ?kd
  walk_at "m.enterC"
  intro L
  simp only [zipFrame, cellOwns, List.cons_append, List.nil_append]
  repeat (walk_at "m.go")
  walk_at "m.hm"
  repeat (walk_at "m.go")
  refine W_lower hn.lowFit fun tl => ?_
  repeat (walk_at "m.go")
  refine W.mono (convert d ((R.deeper _).le (by omega)) hn.lower.1 (Nat.lt_trans hn.lower.2 (by decide))) fun r g1 l1 u1 hres => ?_
  obtain ⟨rfl, rfl⟩ := hres
  have H1 := H.mono u1
  have hr1 := hr.mono u1
  have hlen := hr.length
  repeat (walk_at "m.go")
  refine' W_ListComp (cl := [(Str.ofString "name", L + 1)]) [Str.ofString "kv"] ?_ ?c1 ?c2 ?c3 ?c4 ?c5 ?c6
  (case c1 => decide)
  (case c2 => rfl)
  (case c3 => decide)
  (case c4 => decide)
  (case c5 => rfl)
  (case c6 => intro _; rfl)
  repeat (walk_at "m.go")
  walk_at "m.hg"
  have hmem : ListAt g1 (M hv) a hv := .own (hM hv hv).mem
  refine comp_over (by exact R.h) hmem.tail.tail (Nat.le_trans (Nat.le_of_lt (by rw [hlen]; exact hz)) (by decide)) (fun i ys g2 => RowsAre g2 ys ((rs.take i).filter fun p => Txt.lower p.1 != Txt.lower n)) ?_ .nil ?_ ?_
  · intro i ys g2 h
    rw [h.length]
    exact Nat.le_trans (List.length_filter_le _ _) (List.length_take_le _ _)
  · intro it acc C i v ys r g2 hi hv u2 hI hr'
    obtain ⟨o, rfl⟩ := frame1 hr'
    have hir : i < rs.length := by omega
    obtain ⟨p, t1, t2, e1, e2⟩ := (hr1.mono u2).at hir
    rw [hv] at e1
    cases e1
    refine W_assignName ?_
    repeat (walk_at "m.go")
    refine turnIf ?_
    repeat (walk_at "m.go")
    refine W_itemTup (j := 0) e2 (by decide) (by decide) rfl rfl ?_
    repeat (walk_at "m.go")
    have hfi := hf rs[i] (List.getElem_mem _)
    refine W_lower hfi.lowFit fun tl => ?_
    repeat (walk_at "m.go")
    refine two (fun e => ?_) fun e => ?_
    · repeat (walk_at "m.go")
      refine Shift.done ⟨_, rfl, rfl, u2, ?_⟩
      rw [take_step hir, List.filter_append, List.filter_cons, if_pos e]
      exact hI.append (.cons e2 .nil)
    · refine Shift.done ⟨_, rfl, rfl, u2, ?_⟩
      rw [take_step hir, List.filter_append, List.filter_cons, if_neg (by rw [e]; exact Bool.false_ne_true)]
      simpa using hI
  · intro ys g2 u2 hI acc
    rw [take_all rs hlen] at hI
    have H2 := H1.mono u2
    have hyl : ys.length ≤ rs.length := by rw [hI.length]; exact List.length_filter_le _ _
    repeat (walk_at "m.go")
    walk_at "m.hg"
    repeat (walk_at "m.go")
    intro sl g3 u3 e3
    refine W_setSlice' (.tail (.tail (hM hv ys))) e3 (Nat.le_trans (by omega : hv.length + ys.length ≤ 2 ^ 17) (by decide)) ?_
    repeat (walk_at "m.go")
    exact next_drop1 (next_drop1 (next_drop1 (ret_next ⟨rfl, ys, rfl, hI.mono u3⟩)))
theorem setItemOf (d : Dat) {A : Around} {g : Heap} {x a : Addr} {hv : List Value} {rs : List (Str × Str)} {n v : Str} {tn tv : Tok} (M : List Value → Owns) (R : Room A 3) (hM : ∀ p q, Turn a (.list p) (.list q) (M p) (M q)) (H : Hdr 175 g x a) (hr : RowsAre g hv rs) (hf : ∀ p ∈ rs, Fine p.1) (hn : Fine n) (hv' : Fine v) (hz : rs.length < 2 ^ 15) :
    W (cfg d) A (call (.ref 90) [.ref x, .str n tn, .str v tv]) g (M hv) fun r g' l' => r = .none ∧ ∃ hw, l' = M hw ∧ RowsAre g' hw ((rs.filter fun p => Txt.lower p.1 != Txt.lower n) ++ [(n, v)]) := by
  refine' W_defK (ns := [Str.ofString "self", Str.ofString "name", Str.ofString "val"]) (vs := [.ref x, .str n tn, .str v tv]) R.depth ?ho ?hcd ?hb ?hloc ?hns ?_ ?hcell ?co ?gen ?kd
  walk_at "m.enter"
  intro L
  simp only [zipFrame]
  repeat (walk_at "m.go")
  refine W_DelSub ?_
  repeat (walk_at "m.go")
  refine' W_delItemI (C := 175) (f := 95) H ?d1 ?d2 ?d3 ?_
  (case d1 => (show noSeq (Mine.hd.heap_39 _) _ = _); k_is)
  (case d2 => (show findIn (Mine.hd.heap_39 _) _ _ = _); k_is)
  (case d3 => (show isFn (Mine.hd.heap_39 _) _ = _); k_is)
  refine W.mono (delItemOf d (fun w => (L, .fr _) :: M w) (R.deeper _) (fun p q => .tail (hM p q)) H hr hf hn (by omega)) fun r g1 l1 u1 hres => ?_
  obtain ⟨rfl, hw, rfl, hR1⟩ := hres
  have H1 := H.mono u1
  have hwl : hw.length ≤ rs.length := by rw [hR1.length]; exact List.length_filter_le _ _
  repeat (walk_at "m.go")
  walk_at "m.hg"
  refine W_mAppend (.tail _ (hM hw hw).mem) ?_
  repeat (walk_at "m.go")
  walk_at "m.hm"
  repeat (walk_at "m.go")
  refine W.mono (convert d ((R.deeper _).le (by omega)) hn.1 (Nat.lt_trans hn.2 (by decide))) fun r g2 l2 u2 hr => ?_
  obtain ⟨rfl, rfl⟩ := hr
  have H2 := H1.mono u2
  repeat (walk_at "m.go")
  walk_at "m.hm"
  repeat (walk_at "m.go")
  refine W.mono (convert d ((R.deeper _).le (by omega)) hv'.1 (Nat.lt_trans hv'.2 (by decide))) fun r g3 l3 u3 hr => ?_
  obtain ⟨rfl, rfl⟩ := hr
  repeat (walk_at "m.go")
  refine W_newTuple (by exact Nat.le_of_ble_eq_true rfl) fun p g4 u4 e4 => ?_
  repeat (walk_at "m.go")
  refine W_append (l' := _) (.tail (hM hw (hw ++ [.ref p]))) (Nat.le_trans (by omega : hw.length ≤ 2 ^ 15) (by decide)) (none_end ?_)
  repeat (walk_at "m.go")
  exact next_drop1 (ret_next ⟨rfl, hw ++ [.ref p], rfl, (hR1.mono (u2.trans (u3.trans u4))).append (.cons e4 .nil)⟩)
-- part H2_02

def GotIs (rs : List (Str × Str)) (n : Str) (dv r : Value) : Prop := (∃ p t, rs.find? (fun p => Txt.lower p.1 == Txt.lower n) = some p ∧ r = .str p.2 t) ∨ (rs.find? (fun p => Txt.lower p.1 == Txt.lower n) = none ∧ r = dv)
theorem getOf (d : Dat) {A : Around} {g : Heap} {l : Owns} {x a : Addr} {hv : List Value} {rs : List (Str × Str)} {n : Str} {tn : Tok} {dv : Value} (R : Room A 2) (H : Hdr 175 g x a) (hl : ListAt g l a hv) (hr : RowsAre g hv rs) (hf : ∀ p ∈ rs, Fine p.1) (hn : Fine n) (hz : rs.length < 2 ^ 16) :
    W (cfg d) A (call (.ref 122) [.ref x, .str n tn, dv]) g l fun r g' l' => GotIs rs n dv r ∧ l' = l := by
  refine' W_defK (ns := [Str.ofString "self", Str.ofString "name", Str.ofString "default", Str.ofString "k", Str.ofString "v"]) (vs := [.ref x, .str n tn, dv]) R.depth ?ho ?hcd ?hb ?hloc ?hns ?_ ?hcell ?co ?gen ?kd
  walk_at "m.enter"
  intro L
  simp only [zipFrame]
  repeat (walk_at "m.go")
  walk_at "m.hm"
  repeat (walk_at "m.go")
  refine W_lower hn.lowFit fun tl => ?_
  repeat (walk_at "m.go")
  refine W.mono (convert d ((R.deeper _).le (by omega)) hn.lower.1 (Nat.lt_trans hn.lower.2 (by decide))) fun r g1 l1 u1 hres => ?_
  obtain ⟨rfl, rfl⟩ := hres
  have H1 := H.mono u1
  have hr1 := hr.mono u1
  have hl1 := hl.mono u1
  have hlen := hr.length
  repeat (walk_at "m.go")
  refine W_For ?_
  repeat (walk_at "m.go")
  walk_at "m.hg"
  refine W_iterList hl1.tail fun it => ?_
  refine WC_for (feeds_list (by exact R.h) it a hv) (fun i G M => ∃ o1 o2, M = (L, Own.fr [(Str.ofString "self", some (.ref x)), (Str.ofString "name", some (.str (Txt.lower n) tl)), (Str.ofString "default", some dv), (Str.ofString "k", o1), (Str.ofString "v", o2)]) :: l ∧ (rs.take i).find? (fun p => Txt.lower p.1 == Txt.lower n) = none ∧ Sub g1 G) ?_ ⟨_, _, rfl, rfl, Sub.refl _⟩ ?_ ?_
  · rintro i G M ⟨o1, o2, rfl, _, uG⟩
    exact (hl1.mono uG).tail
  · rintro i v G M hi hvi uG ⟨o1, o2, rfl, hnone, _⟩
    have hir : i < rs.length := by omega
    obtain ⟨p, t1, t2, e1, e2⟩ := (hr1.mono uG).at hir
    rw [hvi] at e1
    cases e1
    have hfi := hf rs[i] (List.getElem_mem _)
    refine W_pair (by exact R.h) e2 ?_
    repeat (walk_at "m.go")
    refine W_lower hfi.lowFit fun tl => ?_
    repeat (walk_at "m.go")
    refine two (fun e => ?_) fun e => ?_
    · repeat (walk_at "m.go")
      refine loop_ret ?_
      repeat (walk_at "m.go")
      refine ret_drop1 (ret_drop1 (ret_now ⟨.inl ⟨rs[i], t2, ?_, rfl⟩, rfl⟩))
      exact find_at hir hnone e
    · repeat (walk_at "m.go")
      refine Shift.done ⟨_, rfl, _, _, rfl, ?_, uG⟩
      rw [take_step hir, List.find?_append, hnone, List.find?_cons_of_neg (by rw [e]; exact Bool.false_ne_true)]
      rfl
  · rintro G M uG ⟨o1, o2, rfl, hnone, _⟩
    rw [take_all rs hlen] at hnone
    repeat (walk_at "m.go")
    exact ret_drop1 (ret_now ⟨.inr ⟨hnone, rfl⟩, rfl⟩)

theorem getOf0 (d : Dat) {A : Around} {g : Heap} {l : Owns} {x a : Addr} {hv : List Value} {rs : List (Str × Str)} {n : Str} {tn : Tok} (R : Room A 2) (H : Hdr 175 g x a) (hl : ListAt g l a hv) (hr : RowsAre g hv rs) (hf : ∀ p ∈ rs, Fine p.1) (hn : Fine n) (hz : rs.length < 2 ^ 16) :
    W (cfg d) A (call (.ref 122) [.ref x, .str n tn]) g l fun r g' l' => GotIs rs n .none r ∧ l' = l := by
  refine' W_defK (ns := [Str.ofString "self", Str.ofString "name", Str.ofString "default", Str.ofString "k", Str.ofString "v"]) (vs := [.ref x, .str n tn, .none]) R.depth ?ho ?hcd ?hb ?hloc ?hns ?_ ?hcell ?co ?gen ?kd
  walk_at "m.enter"
  intro L
  simp only [zipFrame]
  repeat (walk_at "m.go")
  walk_at "m.hm"
  repeat (walk_at "m.go")
  refine W_lower hn.lowFit fun tl => ?_
  repeat (walk_at "m.go")
  refine W.mono (convert d ((R.deeper _).le (by omega)) hn.lower.1 (Nat.lt_trans hn.lower.2 (by decide))) fun r g1 l1 u1 hres => ?_
  obtain ⟨rfl, rfl⟩ := hres
  have H1 := H.mono u1
  have hr1 := hr.mono u1
  have hl1 := hl.mono u1
  have hlen := hr.length
  repeat (walk_at "m.go")
  refine W_For ?_
  repeat (walk_at "m.go")
  walk_at "m.hg"
  refine W_iterList hl1.tail fun it => ?_
  refine WC_for (feeds_list (by exact R.h) it a hv) (fun i G M => ∃ o1 o2, M = (L, Own.fr [(Str.ofString "self", some (.ref x)), (Str.ofString "name", some (.str (Txt.lower n) tl)), (Str.ofString "default", some .none), (Str.ofString "k", o1), (Str.ofString "v", o2)]) :: l ∧ (rs.take i).find? (fun p => Txt.lower p.1 == Txt.lower n) = none ∧ Sub g1 G) ?_ ⟨_, _, rfl, rfl, Sub.refl _⟩ ?_ ?_
  · rintro i G M ⟨o1, o2, rfl, _, uG⟩
    exact (hl1.mono uG).tail
  · rintro i v G M hi hvi uG ⟨o1, o2, rfl, hnone, _⟩
    have hir : i < rs.length := by omega
    obtain ⟨p, t1, t2, e1, e2⟩ := (hr1.mono uG).at hir
    rw [hvi] at e1
    cases e1
    have hfi := hf rs[i] (List.getElem_mem _)
    refine W_pair (by exact R.h) e2 ?_
    repeat (walk_at "m.go")
    refine W_lower hfi.lowFit fun tl => ?_
    repeat (walk_at "m.go")
    refine two (fun e => ?_) fun e => ?_
    · repeat (walk_at "m.go")
      refine loop_ret ?_
      repeat (walk_at "m.go")
      refine ret_drop1 (ret_drop1 (ret_now ⟨.inl ⟨rs[i], t2, ?_, rfl⟩, rfl⟩))
      exact find_at hir hnone e
    · repeat (walk_at "m.go")
      refine Shift.done ⟨_, rfl, _, _, rfl, ?_, uG⟩
      rw [take_step hir, List.find?_append, hnone, List.find?_cons_of_neg (by rw [e]; exact Bool.false_ne_true)]
      rfl
  · rintro G M uG ⟨o1, o2, rfl, hnone, _⟩
    rw [take_all rs hlen] at hnone
    repeat (walk_at "m.go")
    exact ret_drop1 (ret_now ⟨.inr ⟨hnone, rfl⟩, rfl⟩)

theorem setdefOf (d : Dat) {A : Around} {g : Heap} {x a : Addr} {hv : List Value} {rs : List (Str × Str)} {n v : Str} {tn tv : Tok} (M : List Value → Owns) (R : Room A 3) (hM : ∀ p q, Turn a (.list p) (.list q) (M p) (M q)) (H : Hdr 175 g x a) (hr : RowsAre g hv rs) (hf : ∀ p ∈ rs, Fine p.1) (hn : Fine n) (hv' : Fine v) (hz : rs.length < 2 ^ 15) :
    W (cfg d) A (call (.ref 165) [.ref x, .str n tn, .str v tv]) g (M hv) fun r g' l' =>
      (∃ p t, rs.find? (fun p => Txt.lower p.1 == Txt.lower n) = some p ∧ r = .str p.2 t ∧ l' = M hv) ∨ (rs.find? (fun p => Txt.lower p.1 == Txt.lower n) = none ∧ r = .str v tv ∧ ∃ hw, l' = M hw ∧ RowsAre g' hw (rs ++ [(n, v)])) := by
  refine' W_defK (ns := [Str.ofString "self", Str.ofString "name", Str.ofString "value", Str.ofString "result"]) (vs := [.ref x, .str n tn, .str v tv]) R.depth ?ho ?hcd ?hb ?hloc ?hns ?_ ?hcell ?co ?gen ?kd
  walk_at "m.enter"
  intro L
  simp only [zipFrame]
  repeat (walk_at "m.go")
  walk_at "m.hm"
  repeat (walk_at "m.go")
  refine W.mono (getOf0 d (R.deeper _) H (.own (.tail _ (hM hv hv).mem)) hr hf hn (by omega)) fun r g1 l1 u1 hres => ?_
  obtain ⟨hgot, rfl⟩ := hres
  have H1 := H.mono u1
  have hlen := hr.length
  rcases hgot with ⟨p, t, hfd, rfl⟩ | ⟨hfd, rfl⟩
  · repeat (walk_at "m.go")
    refine one_f rfl ?_
    repeat (walk_at "m.go")
    exact ret_drop1 (ret_now (.inl ⟨p, t, hfd, rfl, rfl⟩))
  · repeat (walk_at "m.go")
    refine one_t rfl ?_
    repeat (walk_at "m.go")
    walk_at "m.hg"
    refine W_mAppend (.tail _ (hM hv hv).mem) ?_
    repeat (walk_at "m.go")
    walk_at "m.hm"
    repeat (walk_at "m.go")
    refine W.mono (convert d ((R.deeper _).le (by omega)) hn.1 (Nat.lt_trans hn.2 (by decide))) fun r g2 l2 u2 hr => ?_
    obtain ⟨rfl, rfl⟩ := hr
    have H2 := H1.mono u2
    repeat (walk_at "m.go")
    walk_at "m.hm"
    repeat (walk_at "m.go")
    refine W.mono (convert d ((R.deeper _).le (by omega)) hv'.1 (Nat.lt_trans hv'.2 (by decide))) fun r g3 l3 u3 hr => ?_
    obtain ⟨rfl, rfl⟩ := hr
    repeat (walk_at "m.go")
    refine W_newTuple (by exact Nat.le_of_ble_eq_true rfl) fun p g4 u4 e4 => ?_
    repeat (walk_at "m.go")
    refine W_append (l' := _) (.tail (hM hv (hv ++ [.ref p]))) (Nat.le_trans (by omega : hv.length ≤ 2 ^ 15) (by decide)) (none_end ?_)
    repeat (walk_at "m.go")
    exact ret_drop1 (ret_now (.inr ⟨hfd, rfl, hv ++ [.ref p], rfl, (hr.mono (u1.trans (u2.trans (u3.trans u4)))).append (.cons e4 .nil)⟩))
-- part H3_02

theorem lawPair (d : Dat) {A : Around} {g : Heap} {l : Owns} {x m : Int} {tx tm : Tok} (R : Room A 17) (h0 : -(10 ^ 9) ≤ x) (h1 : x ≤ 10 ^ 9) (hm : m ≠ 0) (hm0 : -(2 ^ 20) < m) (hm1 : m < 2 ^ 20) :
    W (cfg d) A (call (.ref 248) [.int x tx, .int m tm]) g l fun r g' l' => ∃ p t1 t2, r = .ref p ∧ l' = l ∧ g'.get? p = some (tupObj [.str (pairOf x m).1 t1, .str (pairOf x m).2 t2]) := by
  have hrb := rest_bound (x := x) hm
  have hsg : sg m m < 2 ^ 20 := by unfold sg; split <;> omega
  have hq := fdiv_bound hm h0 h1
  refine' W_defK (ns := [Str.ofString "x", Str.ofString "m", Str.ofString "quotient", Str.ofString "rest", Str.ofString "name"]) (vs := [.int x tx, .int m tm]) R.depth ?ho ?hcd ?hb ?hloc ?hns ?_ ?hcell ?co ?gen ?kd
  walk_at "m.enter"
  intro L
  simp only [zipFrame]
  repeat (walk_at "m.go")
  refine W.mono (intDivmod d ((R.deeper _).le (by omega)) (by omega) (by omega) hm (by omega) (by omega)) fun r g1 l1 u1 hres => ?_
  obtain ⟨p, t1, t2, rfl, rfl, ep⟩ := hres
  refine W_pair (by exact R.h) ep ?_
  walk_at "m.go"
  walk_at "m.go"
  walk_at "m.go"
  walk_at "m.go"
  refine W.mono (P := fun f g' l' => f = .next ∧ g' = g1 ∧ ∃ t, l' = (L, Own.fr [(Str.ofString "x", some (.int x tx)), (Str.ofString "m", some (.int m tm)), (Str.ofString "quotient", some (.int (x.fdiv m) t1)), (Str.ofString "rest", some (.int (rest x m) t)), (Str.ofString "name", none)]) :: l) ?_ ?_
  · repeat (walk_at "m.go")
    refine two (fun e => ?_) fun e => ?_
    · have e' : m < 0 := by simpa using e
      repeat (walk_at "m.go")
      rename_i tneg
      refine ⟨rfl, rfl, tneg, ?_⟩
      rw [show rest x m = -(x.fmod m) from by unfold rest; rw [if_pos e']]
    · have e' : ¬ m < 0 := by simpa using e
      repeat (walk_at "m.go")
      refine ⟨rfl, rfl, t2, ?_⟩
      rw [show rest x m = x.fmod m from by unfold rest; rw [if_neg e']]
  rintro f g' l' u ⟨rfl, rfl, tr, rfl⟩
  obtain ⟨r, hr⟩ : ∃ r, r = rest x m := ⟨_, rfl⟩
  rw [← hr] at hrb ⊢
  repeat (walk_at "m.go")
  refine' W_ListComp (cl := []) [Str.ofString "digit"] ?_ ?c1 ?c2 ?c3 ?c4 ?c5 ?c6
  (case c1 => decide)
  (case c2 => rfl)
  (case c3 => decide)
  (case c4 => decide)
  (case c5 => rfl)
  (case c6 => intro _; rfl)
  repeat (walk_at "m.go")
  refine W.mono (int2digits d (n := 4) ((R.deeper _).le (by omega)) hrb.1 (by omega) (by decide) (by decide)) fun rr g2 l2 u2 hres => ?_
  obtain ⟨arr, vs, rfl, hI, rfl⟩ := hres
  have hI : IntsAre vs (hexD r) := hI
  have hvl := ints_len hI
  have hhl := hexD_len hrb.1 (by omega : r < 2 ^ 60)
  refine comp_over (by exact R.h) (.seq (.head _)) (Nat.le_trans (by omega : vs.length ≤ 16) (by decide)) (fun i ys g3 => StrsAre ys (((hexD r).take i).map fun d => sOf [(97 + d).toNat])) ?_ .nil ?_ ?_
  · intro i ys g3 h
    rw [strs_len h, List.length_map]
    exact List.length_take_le _ _
  · intro it acc C i v ys fr g3 hi hvi u3 hS hr'
    obtain ⟨o, rfl⟩ := frame1 hr'
    have him : i < (hexD r).length := by omega
    obtain ⟨t, e1⟩ := ints_at hI him
    rw [hvi] at e1
    cases e1
    have hd := hexD_small r _ (List.getElem_mem him)
    generalize hdd : (hexD r)[i] = dg at *
    refine W_assignName ?_
    repeat (walk_at "m.go")
    refine turnAll ?_
    repeat (walk_at "m.go")
    refine W_chr (by omega) (by omega) fun tc => ?_
    refine Shift.done ⟨_, rfl, rfl, u3, ?_⟩
    rw [take_step him, List.map_append, hdd]
    exact strs_append hS (.cons _ _ .nil)
  intro ys g3 u3 hS acc
  rw [take_all _ hvl] at hS
  repeat (walk_at "m.go")
  have hjn : (hexD r).map (fun d => sOf [(97 + d).toNat]) = ((signsOf (hexD r)).map fun d => [d]).map sOf := by
    unfold signsOf
    rw [List.map_map, List.map_map]; rfl
  rw [hjn] at hS
  have hsl : (signsOf (hexD r)).length ≤ 16 := by unfold signsOf; rw [List.length_map]; exact hhl
  refine W_join (.own (.head _)) hS (by
    have : ((((signsOf (hexD r)).map fun d => [d]).map sOf).map (·.length)).sum = (signsOf (hexD r)).length := by
      rw [List.map_map, List.map_map]
      generalize signsOf (hexD r) = q
      induction q with
      | nil => rfl
      | cons a q ih => rw [List.map_cons, List.sum_cons, ih, List.length_cons]; show 1 + _ = _; omega
    rw [this, show (Str.ofString "").length = 0 from (by decide), Nat.mul_zero]; omega) fun tj => ?_
  rw [join_sOf, flatten_ones]
  have hn1 : (Str.ofString "n") = sOf [110] := by decide
  refine W_addStr (by rw [hn1, sOf_length, sOf_length]; exact Nat.le_trans (by show 1 + _ ≤ 17; omega) (by decide)) fun tn => ?_
  rw [hn1, app_sOf]
  refine W.drop ?_ ((List.sublist_cons_self _ _).trans (List.sublist_cons_self _ _))
  rw [show sOf ([110] ++ signsOf (hexD r)) = nameS r from rfl]
  have hfn := fine_name hrb.1 (by omega : r < 2 ^ 60)
  repeat (walk_at "m.go")
  refine two (fun e => ?_) fun e => ?_
  · have e' : x.fdiv m < 0 := by simpa using e
    repeat (walk_at "m.go")
    refine W_upper hfn.upFit fun t3 => ?_
    repeat (walk_at "m.go")
    refine W_strInt (log_small (by omega) (by omega)) fun t4 => ?_
    repeat (walk_at "m.go")
    refine W_newTuple (by exact Nat.le_of_ble_eq_true rfl) fun pp g4 u4 e4 => ?_
    repeat (walk_at "m.go")
    have hp : pairOf x m = (Txt.upper (nameS r), Str.ofString (toString (-1 - x.fdiv m))) := by unfold pairOf; rw [if_pos e', ← hr]
    rw [hp]
    exact ret_drop1 (ret_now ⟨pp, _, _, rfl, rfl, e4⟩)
  · have e' : ¬ x.fdiv m < 0 := by simpa using e
    repeat (walk_at "m.go")
    refine W_strInt (log_small (by omega) (by omega)) fun t4 => ?_
    repeat (walk_at "m.go")
    refine W_newTuple (by exact Nat.le_of_ble_eq_true rfl) fun pp g4 u4 e4 => ?_
    repeat (walk_at "m.go")
    have hp : pairOf x m = (nameS r, Str.ofString (toString (x.fdiv m))) := by unfold pairOf; rw [if_neg e', ← hr]
    rw [hp]
    exact ret_drop1 (ret_now ⟨pp, _, _, rfl, rfl, e4⟩)
theorem lawDue (d : Dat) {A : Around} {g : Heap} {l : Owns} {x m : Int} {tx tm : Tok} (R : Room A 2) (h0 : -(10 ^ 9) ≤ x) (h1 : x ≤ 10 ^ 9) (hm : m ≠ 0) (hm0 : -(2 ^ 20) < m) (hm1 : m < 2 ^ 20) :
    W (cfg d) A (call (.ref 255) [.int x tx, .int m tm]) g l fun r g' l' => ∃ p t1 t2, r = .ref p ∧ l' = l ∧ g'.get? p = some (tupObj [.str (pairOf x m).1 t1, .str (pairOf x m).2 t2]) := by
  have hrb := rest_bound (x := x) hm
  have hsg : sg m m < 2 ^ 20 := by unfold sg; split <;> omega
  have hq := fdiv_bound hm h0 h1
  obtain ⟨r, hr⟩ : ∃ r, r = rest x m := ⟨_, rfl⟩
  rw [← hr] at hrb
  have hhl := hexD_len hrb.1 (by omega : r < 2 ^ 60)
  have hsl : (signsOf (hexD r)).length ≤ 16 := by unfold signsOf; rw [List.length_map]; exact hhl
  refine' W_defK (ns := [Str.ofString "x", Str.ofString "m", Str.ofString "left", Str.ofString "name"]) (vs := [.int x tx, .int m tm]) R.depth ?ho ?hcd ?hb ?hloc ?hns ?_ ?hcell ?co ?gen ?kd
  walk_at "m.enter"
  intro L
  simp only [zipFrame]
  repeat (walk_at "m.go")
  refine W_mod hm fun t1 => ?_
  repeat (walk_at "m.go")
  rename_i ta ts
  rw [abs_rest hm, ← hr]
  have hn1 : (Str.ofString "n") = sOf [110] := by decide
  rw [hn1]
  refine W_While (fun n G M => ∃ pre left tl tn, n = left.toNat ∧ 0 ≤ left ∧ pre ++ signsOf (hexD left) = signsOf (hexD r) ∧ M = (L, Own.fr [(Str.ofString "x", some (.int x tx)), (Str.ofString "m", some (.int m tm)), (Str.ofString "left", some (.int left tl)), (Str.ofString "name", some (.str (sOf (110 :: pre)) tn))]) :: l) r.toNat ⟨[], r, ta, ts, rfl, hrb.1, rfl, rfl⟩ ?_
  rintro n G M uG ⟨pre, left, tl, tn, rfl, hl0, hpre, rfl⟩
  repeat (walk_at "m.go")
  refine two (fun e => ?_) fun e => ?_
  · have e' : 0 < left := by simpa using e
    repeat (walk_at "m.go")
    refine W_mod (by decide) fun t2 => ?_
    have hf := Int.fmod_eq_emod_of_nonneg left (b := 16) (by decide)
    have hfb : 0 ≤ left % 16 ∧ left % 16 < 16 := ⟨Int.emod_nonneg _ (by decide), Int.emod_lt_of_pos _ (by decide)⟩
    rw [hf]
    have hab : Str.ofString "abcdefghijklmnop" = sOf [97, 98, 99, 100, 101, 102, 103, 104, 105, 106, 107, 108, 109, 110, 111, 112] := by decide
    refine W_itemStr (fits_small hfb.1 (by omega)) (by rw [hab, charAt_sOf hfb.1 (by show _ < ((16 : Nat) : Int); omega)]; rfl) fun t3 => ?_
    rw [hab, item_sOf hfb.1 (by show _ < ((16 : Nat) : Int); omega)]
    have hst := hexD_step e'
    have hlen : pre.length + 1 ≤ 16 := by
      have := congrArg List.length hpre
      rw [List.length_append, hst] at this
      unfold signsOf at this hsl
      rw [List.map_cons, List.length_cons] at this
      omega
    have hch : ∀ k : Int, (h0 : 0 ≤ k) → (h1 : k < 16) → ([97, 98, 99, 100, 101, 102, 103, 104, 105, 106, 107, 108, 109, 110, 111, 112] : List Nat)[k.toNat]'(by show _ < 16; omega) = (97 + k).toNat := by
      intro k h0 h1
      have : k = 0 ∨ k = 1 ∨ k = 2 ∨ k = 3 ∨ k = 4 ∨ k = 5 ∨ k = 6 ∨ k = 7 ∨ k = 8 ∨ k = 9 ∨ k = 10 ∨ k = 11 ∨ k = 12 ∨ k = 13 ∨ k = 14 ∨ k = 15 := by omega
      rcases this with rfl | rfl | rfl | rfl | rfl | rfl | rfl | rfl | rfl | rfl | rfl | rfl | rfl | rfl | rfl | rfl <;> rfl
    rw [hch _ hfb.1 hfb.2]
    refine W_iaddStr (by rw [sOf_length, sOf_length]; exact Nat.le_trans (by show pre.length + 1 + 1 ≤ 18; omega) (by decide)) fun t4 => ?_
    rw [app_sOf]
    repeat (walk_at "m.go")
    refine W_ifloordiv (by decide) (by decide) fun t5 => ?_
    rw [Int.fdiv_eq_ediv_of_nonneg _ (by decide)]
    repeat (walk_at "m.go")
    refine Shift.done ⟨(left / 16).toNat, by omega, pre ++ [(97 + left % 16).toNat], left / 16, _, _, rfl, by omega, ?_, rfl⟩
    rw [List.append_assoc, ← hpre, hst]
    rfl
  · have e' : left = 0 := by
      have : ¬ 0 < left := by simpa using e
      omega
    subst e'
    have hpre' : pre = signsOf (hexD r) := by rw [← hpre, hexD_zero]; simp [signsOf]
    subst hpre'
    rw [show sOf (110 :: signsOf (hexD r)) = nameS r from rfl]
    have hfn := fine_name hrb.1 (by omega : r < 2 ^ 60)
    repeat (walk_at "m.go")
    refine W_floordiv hm (by omega) fun t6 => ?_
    repeat (walk_at "m.go")
    refine two (fun e => ?_) fun e => ?_
    · have e' : x.fdiv m < 0 := by simpa using e
      repeat (walk_at "m.go")
      refine W_upper hfn.upFit fun t3 => ?_
      repeat (walk_at "m.go")
      refine W_floordiv hm (by omega) fun t7 => ?_
      repeat (walk_at "m.go")
      refine W_strInt (log_small (by omega) (by omega)) fun t4 => ?_
      repeat (walk_at "m.go")
      refine W_newTuple (by exact Nat.le_of_ble_eq_true rfl) fun pp g4 u4 e4 => ?_
      repeat (walk_at "m.go")
      have hp : pairOf x m = (Txt.upper (nameS r), Str.ofString (toString (-1 - x.fdiv m))) := by unfold pairOf; rw [if_pos e', ← hr]
      rw [hp]
      exact ret_drop1 (ret_now ⟨pp, _, _, rfl, rfl, e4⟩)
    · have e' : ¬ x.fdiv m < 0 := by simpa using e
      repeat (walk_at "m.go")
      refine W_floordiv hm (by omega) fun t7 => ?_
      repeat (walk_at "m.go")
      refine W_strInt (log_small (by omega) (by omega)) fun t4 => ?_
      repeat (walk_at "m.go")
      refine W_newTuple (by exact Nat.le_of_ble_eq_true rfl) fun pp g4 u4 e4 => ?_
      repeat (walk_at "m.go")
      have hp : pairOf x m = (nameS r, Str.ofString (toString (x.fdiv m))) := by unfold pairOf; rw [if_neg e', ← hr]
      rw [hp]
      exact ret_drop1 (ret_now ⟨pp, _, _, rfl, rfl, e4⟩)
-- part H4_02

theorem lawBack (d : Dat) {A : Around} {g : Heap} {l : Owns} {x m : Int} {tn tv tm : Tok} (R : Room A 10) (h0 : -(10 ^ 9) ≤ x) (h1 : x ≤ 10 ^ 9) (hm : m ≠ 0) (hm0 : -(2 ^ 20) < m) (hm1 : m < 2 ^ 20) :
    W (cfg d) A (call (.ref 260) [.str (pairOf x m).1 tn, .str (pairOf x m).2 tv, .int m tm]) g l fun r g' l' => ∃ t, r = .int x t ∧ l' = l := by
  have hrb := rest_bound (x := x) hm
  have hsg : sg m m < 2 ^ 20 := by unfold sg; split <;> omega
  have hq := fdiv_bound hm h0 h1
  have hnum := num_pair hm h0 h1
  obtain ⟨ls, hls, hll, hl1, hlr, hld, hl0⟩ := pair_signs (x := x) hm (by omega : sg m m < 2 ^ 60)
  obtain ⟨val, hval⟩ : ∃ v, v = (pairOf x m).2 := ⟨_, rfl⟩
  rw [hls, ← hval]
  rw [← hval] at hnum
  obtain ⟨r, hr⟩ : ∃ r, r = rest x m := ⟨_, rfl⟩
  rw [← hr] at hrb hld
  have hhl := hexD_len hrb.1 (by omega : r < 2 ^ 60)
  refine' W_defK (ns := [Str.ofString "name", Str.ofString "value", Str.ofString "m", Str.ofString "rest"]) (vs := [.str (sOf ls) tn, .str val tv, .int m tm]) R.depth ?ho ?hcd ?hb ?hloc ?hns ?_ ?hcell ?co ?gen ?kd
  walk_at "m.enter"
  intro L
  simp only [zipFrame]
  repeat (walk_at "m.go")
  refine' W_ListComp (cl := []) [Str.ofString "sign"] ?_ ?c1 ?c2 ?c3 ?c4 ?c5 ?c6
  (case c1 => decide)
  (case c2 => rfl)
  (case c3 => decide)
  (case c4 => decide)
  (case c5 => rfl)
  (case c6 => intro _; rfl)
  repeat (walk_at "m.go")
  intro sl g1 u1 e1
  rename_i t1
  refine W_sliceStr (lo := some (1, t1)) (hi := none) e1 (by rw [sOf_length]; exact Nat.le_trans hll (by decide)) fun t2 => ?_
  rw [show Txt.slice (sOf ls) (Option.map (·.1) (some ((1 : Int), t1))) (Option.map (·.1) (none : Option (Int × Tok))) = sOf (ls.drop 1) from by
    show Txt.slice (sOf ls) (some 1) none = _
    rw [slice_from (by decide) (by rw [sOf_length]; omega)]
    rfl]
  have hfd : Fine (sOf (ls.drop 1)) := ⟨fun c hc => by have := hlr c (List.mem_of_mem_drop (show c ∈ ls.drop 1 from hc)); omega, by rw [sOf_length, List.length_drop]; omega⟩
  repeat (walk_at "m.go")
  refine W_lower hfd.lowFit fun t3 => ?_
  rw [hfd.lower_eq, show sOf ((sOf (ls.drop 1)).cps.toList.map lo1) = sOf (signsOf (hexD r)) from by rw [← hld]]
  have hsl : (signsOf (hexD r)).length = (hexD r).length := by unfold signsOf; rw [List.length_map]
  refine comp_signs (by exact R.h) ?_ (by rw [sOf_length, hsl]; exact Nat.le_trans hhl (by decide)) (fun i ys g3 => IntsAre ys ((hexD r).take i)) ?_ .nil ?_ ?_
  · rw [Array.all_eq_true_iff_forall_mem]
    intro c hc
    have := signs_range r c (by simpa using hc)
    exact decide_eq_true (by omega)
  · intro i ys g3 h
    rw [ints_len h]
    exact List.length_take_le _ _
  · intro it acc C i n u ys fr g3 hi hn u3 hS hr'
    obtain ⟨o, rfl⟩ := frame1 hr'
    have him : i < (hexD r).length := by rw [sOf_length, hsl] at hi; exact hi
    have hd := hexD_small r _ (List.getElem_mem him)
    have hnn : n = (97 + (hexD r)[i]).toNat := by
      have hn' : (signsOf (hexD r))[i]? = some n := by simpa using hn
      unfold signsOf at hn'
      rw [List.getElem?_map, List.getElem?_eq_getElem him] at hn'
      exact (Option.some.inj hn').symm
    generalize hdd : (hexD r)[i] = dg at *
    refine W_assignName ?_
    repeat (walk_at "m.go")
    rename_i t5 t6 t7
    refine ⟨_, rfl, rfl, u3, ?_⟩
    rw [take_step him, hdd, hnn, show (((97 + dg).toNat : Nat) : Int) - 97 = dg by omega]
    exact ints_append hS (.cons _ _ .nil)
  intro ys g3 u3 hS acc
  rw [take_all _ (by rw [sOf_length, hsl])] at hS
  repeat (walk_at "m.go")
  have hsm : Small 4 (hexD r) := fun d hd => by have := hexD_small r d hd; simpa using this
  refine W.mono (digits2int d (m := 4) (n := 4) ((R.deeper _).le (by omega)) (.own (.head _)) hS hsm hhl (by decide) (Nat.le_trans hhl (by decide))) fun rr g4 l4 u4 hres => ?_
  obtain ⟨td, rfl, rfl⟩ := hres
  rw [hexD_val hrb.1]
  refine W.drop ?_ (List.sublist_cons_self _ _)
  walk_at "m.go"
  walk_at "m.go"
  walk_at "m.go"
  refine W.mono (P := fun f g' l' => f = .next ∧ g' = g4 ∧ ∃ t, l' = (L, Own.fr [(Str.ofString "name", some (.str (sOf ls) tn)), (Str.ofString "value", some (.str val tv)), (Str.ofString "m", some (.int m tm)), (Str.ofString "rest", some (.int (x.fmod m) t))]) :: l) ?_ ?_
  · repeat (walk_at "m.go")
    refine two (fun e => ?_) fun e => ?_
    · have e' : m < 0 := by simpa using e
      repeat (walk_at "m.go")
      rename_i tneg
      refine ⟨rfl, rfl, tneg, ?_⟩
      rw [show x.fmod m = -r from by rw [hr]; unfold rest; rw [if_pos e']; omega]
    · have e' : ¬ m < 0 := by simpa using e
      repeat (walk_at "m.go")
      refine ⟨rfl, rfl, td, ?_⟩
      rw [show x.fmod m = r from by rw [hr]; unfold rest; rw [if_neg e']]
  rintro f g' l' u ⟨rfl, rfl, tr, rfl⟩
  have hbe := back_eq x m
  repeat (walk_at "m.go")
  have hl00 : (0 : Int) < ls.length := by omega
  refine W_itemStr (by decide) (by rw [charAt_sOf (by decide) hl00]; rfl) fun t8 => ?_
  rw [item_sOf (by decide) hl00]
  have hh0 : ls[(0 : Int).toNat]'(by show 0 < ls.length; omega) = if x.fdiv m < 0 then 78 else 110 := by
    have := hl0
    rw [List.getElem?_eq_getElem (by omega)] at this
    exact Option.some.inj this
  rw [hh0]
  repeat (walk_at "m.go")
  by_cases hneg : x.fdiv m < 0
  · rw [if_pos hneg] at hnum ⊢
    refine one_t (by decide) ?_
    repeat (walk_at "m.go")
    refine W.mono (intFrom d ((R.deeper _).le (by omega)) hnum) fun rr g5 l5 u5 hres => ?_
    obtain ⟨t9, rfl, rfl⟩ := hres
    repeat (walk_at "m.go")
    refine W_mul (IntMulOk.of_left (bits64 (by omega) (by omega))) fun t10 => ?_
    repeat (walk_at "m.go")
    rw [show (-1 - (-1 - x.fdiv m)) = x.fdiv m by omega, hbe]
    exact ret_drop1 (ret_now ⟨_, rfl, rfl⟩)
  · rw [if_neg hneg] at hnum ⊢
    refine one_f (by decide) ?_
    repeat (walk_at "m.go")
    refine W.mono (intFrom d ((R.deeper _).le (by omega)) hnum) fun rr g5 l5 u5 hres => ?_
    obtain ⟨t9, rfl, rfl⟩ := hres
    repeat (walk_at "m.go")
    refine W_mul (IntMulOk.of_left (bits64 (by omega) (by omega))) fun t10 => ?_
    repeat (walk_at "m.go")
    rw [hbe]
    exact ret_drop1 (ret_now ⟨_, rfl, rfl⟩)
-- part H5_02

/-- the table's rows are the row's pairs -/
abbrev CallIs (m : Int) (M : List Value → Owns) (k : Nat) : Value → Heap → Owns → Prop := fun r g' l' => ∃ ra rv zs hw, r = .ref ra ∧ g'.IsList ra rv.toArray ∧ IntsAre rv zs ∧ Near zs ∧ zs.length ≤ k + 1 ∧ l' = M hw ∧ RowsAre g' hw (zs.map (pairOf · m))
theorem lawCall (d : Dat) {A : Around} {g : Heap} {xt a ra : Addr} {hv rv : List Value} {zs : List Int} {dd x m : Int} {td tx tm : Tok} (M : List Value → Owns) (R : Room A 19) (hM : ∀ p q, Turn a (.list p) (.list q) (M p) (M q)) (H : Hdr 175 g xt a) (hr : RowsAre g hv (zs.map (pairOf · m))) (hra : g.IsList ra rv.toArray) (hI : IntsAre rv zs) (hnear : Near zs) (hz : zs.length < 2 ^ 10)
    (h0 : -(10 ^ 5) ≤ x) (h1 : x ≤ 10 ^ 5) (hm : m ≠ 0) (hm0 : -(2 ^ 20) < m) (hm1 : m < 2 ^ 20) :
    W (cfg d) A (call (.ref 265) [.ref xt, .ref ra, .int dd td, .int x tx, .int m tm]) g (M hv) (CallIs m M zs.length) := by
  have hsg : sg m m < 2 ^ 60 := by unfold sg; split <;> omega
  have hlow := low_pair (x := x) hm hsg
  have hfp : ∀ z, Fine (pairOf z m).1 := fun z => fine_pair hm hsg
  have hfr : ∀ p ∈ zs.map (pairOf · m), Fine p.1 := fun p hp => by
    obtain ⟨z, _, rfl⟩ := List.mem_map.mp hp
    exact hfp z
  have hfv : Fine (pairOf x m).2 := num_fine' (num_pair hm (by omega) (by omega))
  have hvl := ints_len hI
  have hlr : (zs.map (pairOf · m)).length = zs.length := List.length_map ..
  refine' W_defC (pn := [Str.ofString "table", Str.ofString "row", Str.ofString "deed", Str.ofString "x", Str.ofString "m"]) (pv := [.ref xt, .ref ra, .int dd td, .int x tx, .int m tm]) (ns := [Str.ofString "table", Str.ofString "row", Str.ofString "deed", Str.ofString "name", Str.ofString "value", Str.ofString "alike", Str.ofString "others"]) (vs := [.ref xt, .ref ra, .int dd td]) (xs := [Str.ofString "x", Str.ofString "m"]) (ws := [some (.int x tx), some (.int m tm)]) R.depth ?ho ?hcd ?hb ?hkind ?hpn ?hns ?hxs ?hcl ?hL ?hC ?_ ?co ?gen ?kd
  walk_at "m.enterC"
  intro L
  simp only [zipFrame, cellOwns, List.cons_append, List.nil_append]
  repeat (walk_at "m.go")
  refine W.mono (lawPair d ((R.deeper _).le (by omega)) (by omega) (by omega) hm hm0 hm1) fun r g1 l1 u1 hres => ?_
  obtain ⟨p, t1, t2, rfl, rfl, ep⟩ := hres
  obtain ⟨nm, hnm⟩ : ∃ n, n = (pairOf x m).1 := ⟨_, rfl⟩
  obtain ⟨vl, hvv⟩ : ∃ n, n = (pairOf x m).2 := ⟨_, rfl⟩
  have hfn : Fine nm := by rw [hnm]; exact hfp x
  rw [← hnm] at hlow
  rw [← hnm, ← hvv] at ep
  rw [← hvv] at hfv
  refine W_pair (by exact R.h) ep ?_
  repeat (walk_at "m.go")
  refine' W_AssignComp (cl := [(Str.ofString "x", L + 1), (Str.ofString "m", L + 1 + 1)]) [Str.ofString "y"] ?f0 ?_ ?f1 ?f2 ?f3 ?f4 ?f5 ?f6
  (case f0 => with_unfolding_all rfl)
  (case f1 => decide)
  (case f2 => rfl)
  (case f3 => decide)
  (case f4 => decide)
  (case f5 => rfl)
  (case f6 => intro _; rfl)
  repeat (walk_at "m.go")
  have hra1 : g1.IsList ra rv.toArray := hra.at fun o e => u1 _ _ e
  refine comp_over (by exact R.h) (.here hra1) (Nat.le_trans (by omega : rv.length ≤ 2 ^ 10) (by decide)) (fun i ys g2 => IntsAre ys ((zs.take i).filter (same x m))) ?_ .nil ?_ ?_
  · intro i ys g2 h
    rw [ints_len h]
    exact Nat.le_trans (List.length_filter_le _ _) (List.length_take_le _ _)
  · intro it acc C i v ys r g2 hi hvi u2 hS hr'
    obtain ⟨o, rfl⟩ := frame1 hr'
    have him : i < zs.length := by omega
    obtain ⟨t, e1⟩ := ints_at hI him
    rw [hvi] at e1
    cases e1
    refine W_assignName ?_
    repeat (walk_at "m.go")
    refine turnIf ?_
    repeat (walk_at "m.go")
    refine W_mod hm fun t3 => ?_
    repeat (walk_at "m.go")
    refine two (fun e => ?_) fun e => ?_
    · repeat (walk_at "m.go")
      refine Shift.done ⟨_, rfl, rfl, u2, ?_⟩
      rw [take_step him, List.filter_append, List.filter_cons, if_pos (decide_eq_true (by simpa using e))]
      exact ints_append hS (.cons _ _ .nil)
    · refine Shift.done ⟨_, rfl, rfl, u2, ?_⟩
      rw [take_step him, List.filter_append, List.filter_cons, if_neg (by rw [decide_eq_true_eq]; simpa using e)]
      simpa using hS
  intro al g2 u2 hal aa C r
  rw [take_all _ hvl] at hal
  repeat (walk_at "m.go")
  refine ⟨_, rfl, ?_⟩
  refine seq_next ?_
  refine W.give .head fun g3 u3 haa => ?_
  have haa3 : g3.IsList aa al.toArray := Heap.PlainList.isList haa
  have hra3 : g3.IsList ra rv.toArray := hra1.at fun o e => u3 _ _ (u2 _ _ e)
  repeat (walk_at "m.go")
  refine' W_AssignComp (cl := [(Str.ofString "x", L + 1), (Str.ofString "m", L + 1 + 1)]) [Str.ofString "y"] ?e0 ?_ ?e1 ?e2 ?e3 ?e4 ?e5 ?e6
  (case e0 => with_unfolding_all rfl)
  (case e1 => decide)
  (case e2 => rfl)
  (case e3 => decide)
  (case e4 => decide)
  (case e5 => rfl)
  (case e6 => intro _; rfl)
  repeat (walk_at "m.go")
  refine comp_over (by exact R.h) (.here hra3) (Nat.le_trans (by omega : rv.length ≤ 2 ^ 10) (by decide)) (fun i ys g2 => IntsAre ys ((zs.take i).filter fun z => !same x m z)) ?_ .nil ?_ ?_
  · intro i ys g2 h
    rw [ints_len h]
    exact Nat.le_trans (List.length_filter_le _ _) (List.length_take_le _ _)
  · intro it acc C i v ys r g4 hi hvi u4 hS hr'
    obtain ⟨o, rfl⟩ := frame1 hr'
    have him : i < zs.length := by omega
    obtain ⟨t, e1⟩ := ints_at hI him
    rw [hvi] at e1
    cases e1
    refine W_assignName ?_
    repeat (walk_at "m.go")
    refine turnIf ?_
    repeat (walk_at "m.go")
    refine W_mod hm fun t3 => ?_
    repeat (walk_at "m.go")
    refine two (fun e => ?_) fun e => ?_
    · have e' : ¬ (zs[i] - x).fmod m = 0 := by simpa using e
      repeat (walk_at "m.go")
      refine Shift.done ⟨_, rfl, rfl, u4, ?_⟩
      rw [take_step him, List.filter_append, List.filter_cons, if_pos (by unfold same; rw [decide_eq_false e']; rfl)]
      exact ints_append hS (.cons _ _ .nil)
    · have e' : (zs[i] - x).fmod m = 0 := by simpa using e
      refine Shift.done ⟨_, rfl, rfl, u4, ?_⟩
      rw [take_step him, List.filter_append, List.filter_cons, if_neg (by unfold same; rw [decide_eq_true e']; decide)]
      simpa using hS
  intro ov g4 u4 hov oa C2 r2
  rw [take_all _ hvl] at hov
  repeat (walk_at "m.go")
  refine ⟨_, rfl, ?_⟩
  refine seq_next ?_
  refine W.give .head fun g5 u5 hoa => ?_
  have hoa5 : g5.IsList oa ov.toArray := Heap.PlainList.isList hoa
  have haa5 : g5.IsList aa al.toArray := haa3.at fun o e => u5 _ _ (u4 _ _ e)
  have hra5 : g5.IsList ra rv.toArray := hra3.at fun o e => u5 _ _ (u4 _ _ e)
  have U5 : Sub g g5 := u1.trans (u2.trans (u3.trans (u4.trans u5)))
  have H5 := H.mono U5
  have hr5 := hr.mono U5
  obtain ⟨os, hos⟩ : ∃ os, os = zs.filter fun z => !same x m z := ⟨_, rfl⟩
  obtain ⟨as, has⟩ : ∃ as, as = zs.filter (same x m) := ⟨_, rfl⟩
  have hosn : Near os := by rw [hos]; exact hnear.filter _
  have hasn : Near as := by rw [has]; exact hnear.filter _
  have hosl : os.length ≤ zs.length := by rw [hos]; exact List.length_filter_le _ _
  have hasl : as.length ≤ zs.length := by rw [has]; exact List.length_filter_le _ _
  rw [← hos] at hov
  rw [← has] at hal
  have hovl := ints_len hov
  have hall := ints_len hal
  have hro := rows_other hm hsg hlow zs
  rw [← hos] at hro
  have hrf := rows_find hm hsg hlow zs
  rw [← has] at hrf
  have hpx : (nm, vl) = pairOf x m := by rw [hnm, hvv]
  have hzv : rv.length ≤ 2 ^ 10 := by omega
  have hM3 : ∀ (F : Own) p q, Turn a (.list p) (.list q) ((L, F) :: (L + 1, Own.cell (some (.int x tx))) :: (L + 1 + 1, Own.cell (some (.int m tm))) :: M p) ((L, F) :: (L + 1, Own.cell (some (.int x tx))) :: (L + 1 + 1, Own.cell (some (.int m tm))) :: M q) := fun F p q => .tail (.tail (.tail (hM p q)))
  repeat (walk_at "m.go")
  refine two (fun e => ?_) fun e => ?_
  · repeat (walk_at "m.go")
    refine' W_setItemI (C := 175) (f := 90) H5 ?d1 ?d2 ?d3 ?_
    (case d1 => (show noSeq (Mine.hd.heap_39 _) _ = _); k_is)
    (case d2 => (show findIn (Mine.hd.heap_39 _) _ _ = _); k_is)
    (case d3 => (show isFn (Mine.hd.heap_39 _) _ = _); k_is)
    refine W.mono (setItemOf d (fun w => (L, .fr _) :: (L + 1, Own.cell (some (.int x tx))) :: (L + 1 + 1, Own.cell (some (.int m tm))) :: M w) ((R.deeper _).le (by omega)) (hM3 _) H5 hr5 hfr hfn hfv (by rw [hlr]; omega)) fun r g6 l6 u6 hres => ?_
    obtain ⟨rfl, hw, rfl, hR6⟩ := hres
    rw [hro, hpx, ← List.map_singleton (f := (pairOf · m)), ← List.map_append] at hR6
    repeat (walk_at "m.go")
    refine W_addList (.here (hoa5.at fun o e => u6 _ _ e)) (.own (.head _)) (Nat.le_trans (by show ov.length + 1 ≤ 2 ^ 10 + 1; omega) (by decide)) fun nr => ?_
    repeat (walk_at "m.go")
    refine ret_give .head fun g7 u7 hnr => ?_
    exact ret_drop1 (ret_drop1 (ret_drop1 (ret_drop1 (ret_now ⟨nr, _, os ++ [x], hw, rfl, Heap.PlainList.isList hnr, ints_append hov (.cons _ _ .nil), hosn.snoc h0 h1, by rw [List.length_append]; show os.length + 1 ≤ _; omega, rfl, hR6.mono u7⟩))))
  repeat (walk_at "m.go")
  refine two (fun e => ?_) fun e => ?_
  · repeat (walk_at "m.go")
    walk_at "m.hm"
    repeat (walk_at "m.go")
    refine W.mono (addHeader d (fun w => (L, .fr _) :: (L + 1, Own.cell (some (.int x tx))) :: (L + 1 + 1, Own.cell (some (.int m tm))) :: M w) ((R.deeper _).le (by omega)) (hM3 _) H5 hfn hfv (by rw [hr5.length, hlr]; omega)) fun r g6 l6 u6 hres => ?_
    obtain ⟨rfl, p2, w1, w2, rfl, ep2⟩ := hres
    have hR6 : RowsAre g6 (hv ++ [.ref p2]) ((zs ++ [x]).map (pairOf · m)) := by
      rw [List.map_append, List.map_singleton, ← hpx]
      exact (hr5.mono u6).append (.cons ep2 .nil)
    refine none_end ?_
    repeat (walk_at "m.go")
    refine W_addList (.here (hra5.at fun o e => u6 _ _ e)) (.own (.head _)) (Nat.le_trans (by show rv.length + 1 ≤ 2 ^ 10 + 1; omega) (by decide)) fun nr => ?_
    repeat (walk_at "m.go")
    refine ret_give .head fun g7 u7 hnr => ?_
    exact ret_drop1 (ret_drop1 (ret_drop1 (ret_drop1 (ret_now ⟨nr, _, zs ++ [x], _, rfl, Heap.PlainList.isList hnr, ints_append hI (.cons _ _ .nil), hnear.snoc h0 h1, by rw [List.length_append]; exact Nat.le_refl _, rfl, hR6.mono u7⟩))))
  repeat (walk_at "m.go")
  refine two (fun e => ?_) fun e => ?_
  · repeat (walk_at "m.go")
    refine W_DelSub ?_
    repeat (walk_at "m.go")
    refine' W_delItemI (C := 175) (f := 95) H5 ?k1 ?k2 ?k3 ?_
    (case k1 => (show noSeq (Mine.hd.heap_39 _) _ = _); k_is)
    (case k2 => (show findIn (Mine.hd.heap_39 _) _ _ = _); k_is)
    (case k3 => (show isFn (Mine.hd.heap_39 _) _ = _); k_is)
    refine W.mono (delItemOf d (fun w => (L, .fr _) :: (L + 1, Own.cell (some (.int x tx))) :: (L + 1 + 1, Own.cell (some (.int m tm))) :: M w) ((R.deeper _).le (by omega)) (hM3 _) H5 hr5 hfr hfn (by rw [hlr]; omega)) fun r g6 l6 u6 hres => ?_
    obtain ⟨rfl, hw, rfl, hR6⟩ := hres
    rw [hro] at hR6
    repeat (walk_at "m.go")
    exact ret_drop1 (ret_drop1 (ret_drop1 (ret_now ⟨oa, ov, os, hw, rfl, hoa5.at fun o e => u6 _ _ e, hov, hosn, by omega, rfl, hR6⟩)))
  repeat (walk_at "m.go")
  walk_at "m.hm"
  repeat (walk_at "m.go")
  have hcat : ∃ z0 r, as ++ [x] = z0 :: r ∧ -(10 ^ 5) ≤ z0 ∧ z0 ≤ 10 ^ 5 := by
    cases hq : as with
    | nil => exact ⟨x, [], rfl, h0, h1⟩
    | cons z r =>
      have := hasn z (by rw [hq]; exact .head _)
      exact ⟨z, r ++ [x], rfl, this.1, this.2⟩
  obtain ⟨z0, zr, ecat, hz0, hz1⟩ := hcat
  refine W.mono (P := fun r g' l' => ∃ t hw, r = .str (pairOf z0 m).2 t ∧ l' = (L, Own.fr [(Str.ofString "table", some (.ref xt)), (Str.ofString "row", some (.ref ra)), (Str.ofString "deed", some (.int dd td)), (Str.ofString "name", some (.str nm t1)), (Str.ofString "value", some (.str vl t2)), (Str.ofString "alike", some (.ref aa)), (Str.ofString "others", some (.ref oa))]) :: (L + 1, Own.cell (some (.int x tx))) :: (L + 1 + 1, Own.cell (some (.int m tm))) :: M hw ∧ RowsAre g' hw ((if as.isEmpty then zs ++ [x] else zs).map (pairOf · m))) ?_ ?_
  · refine W.mono (setdefOf d (fun w => (L, .fr _) :: (L + 1, Own.cell (some (.int x tx))) :: (L + 1 + 1, Own.cell (some (.int m tm))) :: M w) ((R.deeper _).le (by omega)) (hM3 _) H5 hr5 hfr hfn hfv (by rw [hlr]; omega)) fun r g6 l6 u6 hres => ?_
    rcases hres with ⟨p, t, hfd, rfl, rfl⟩ | ⟨hfd, rfl, hw, rfl, hR6⟩
    · rw [hrf] at hfd
      cases hq : as with
      | nil => rw [hq] at hfd; cases hfd
      | cons z r =>
        rw [hq] at hfd ecat
        cases hfd
        cases ecat
        exact ⟨t, hv, rfl, rfl, hr5.mono u6⟩
    · rw [hrf] at hfd
      cases hq : as with
      | nil =>
        rw [hq] at ecat
        cases ecat
        rw [hpx, ← List.map_singleton (f := (pairOf · m)), ← List.map_append] at hR6
        refine ⟨t2, hw, ?_, rfl, hR6⟩
        rw [← hpx]
      | cons z r => rw [hq] at hfd; cases hfd
  rintro r g6 l6 u6 ⟨ts, hw, rfl, rfl, hR6⟩
  repeat (walk_at "m.go")
  refine W_addList (.here (haa5.at fun o e => u6 _ _ e)) (.own (.head _)) (Nat.le_trans (by show al.length + 1 ≤ 2 ^ 10 + 1; omega) (by decide)) fun nr => ?_
  have hcv : IntsAre (al ++ [.int x tx]) (z0 :: zr) := by rw [← ecat]; exact ints_append hal (.cons _ _ .nil)
  obtain ⟨tz, ez⟩ := ints_at hcv (i := 0) (Nat.zero_lt_succ _)
  repeat (walk_at "m.go")
  refine W_itemList (v := .int z0 tz) (.own (.head _)) (by decide) (by decide) ez ?_
  repeat (walk_at "m.go")
  refine W.mono (lawDue d ((R.deeper _).le (by omega)) (by omega) (by omega) hm hm0 hm1) fun r g7 l7 u7 hres => ?_
  obtain ⟨pd, q1, q2, rfl, rfl, epd⟩ := hres
  repeat (walk_at "m.go")
  refine W_itemTup (j := 1) epd (by decide) (by decide) rfl rfl ?_
  repeat (walk_at "m.go")
  refine one_f (bne_self_eq_false _) ?_
  repeat (walk_at "m.go")
  have U7 := u6.trans u7
  refine W_eqNil (.here (haa5.at fun o e => U7 _ _ e)) (.own (.head _)) (by have := (R.deeper (envX (Str.ofString "x") default 0 0 .none [])).u; show A.units + 3 + 1 < _; have h3 : A.units + 3 + 16 * 18 < cLine := this; omega) ?_
  repeat (walk_at "m.go")
  have hae : al.isEmpty = as.isEmpty := by
    cases hq : as with
    | nil => rw [hq] at hal; cases hal; rfl
    | cons z r => rw [hq] at hal; cases hal; rfl
  refine two (fun e => ?_) fun e => ?_
  · rw [hae] at e
    rw [if_pos e] at hR6
    repeat (walk_at "m.go")
    refine W_addList (.here (hra5.at fun o e => U7 _ _ e)) (.own (.head _)) (Nat.le_trans (by show rv.length + 1 ≤ 2 ^ 10 + 1; omega) (by decide)) fun nr2 => ?_
    repeat (walk_at "m.go")
    refine ret_give .head fun g8 u8 hnr => ?_
    exact ret_drop1 (ret_drop1 (ret_drop1 (ret_drop1 (ret_drop1 (ret_drop1 (ret_drop1 (ret_now ⟨nr2, _, zs ++ [x], _, rfl, Heap.PlainList.isList hnr, ints_append hI (.cons _ _ .nil), hnear.snoc h0 h1, by rw [List.length_append]; exact Nat.le_refl _, rfl, hR6.mono (u7.trans u8)⟩)))))))
  · rw [hae] at e
    rw [if_neg (by rw [e]; exact Bool.false_ne_true)] at hR6
    repeat (walk_at "m.go")
    exact ret_drop1 (ret_drop1 (ret_drop1 (ret_drop1 (ret_drop1 (ret_drop1 (ret_now ⟨ra, rv, zs, hw, rfl, hra5.at fun o e => U7 _ _ e, hI, hnear, by omega, rfl, hR6.mono u7⟩))))))
-- part H6_02

theorem lawIs : LawIs := by
  intro d A g sa vs ns R hL hN hlen
  have hsl := ints_len hN
  refine' WR_defC (pn := [Str.ofString "script"]) (pv := [.ref sa]) (ns := [Str.ofString "script", Str.ofString "table", Str.ofString "row", Str.ofString "y", Str.ofString "name", Str.ofString "due"]) (vs := [.ref sa]) (xs := [Str.ofString "m", Str.ofString "x"]) (ws := [none, none]) R.depth ?ho ?hcd ?hb ?hkind ?hpn ?hns ?hxs ?hcl ?hL ?hC ?_ ?co ?gen ?kd
  walk_at "m.enterC"
  intro L
  simp only [zipFrame, cellOwns, List.cons_append, List.nil_append]
  have hcat : ∃ f0 r, ns ++ [-12] = f0 :: r := by
    cases ns with
    | nil => exact ⟨-12, [], rfl⟩
    | cons n r => exact ⟨n, r ++ [-12], rfl⟩
  obtain ⟨f0, fr, ecat⟩ := hcat
  repeat (walk_at "m.go")
  refine W_addList (.here hL) (.own (.head _)) (Nat.le_trans (by show vs.length + 1 ≤ 64; omega) (by decide)) fun c1 => ?_
  generalize ecv : (vs ++ _ : List Value) = cv
  have hcv : IntsAre cv (f0 :: fr) := by rw [← ecv, ← ecat]; exact ints_append hN (.cons _ _ .nil)
  obtain ⟨tz, ez⟩ := ints_at hcv (i := 0) (Nat.zero_lt_succ _)
  have ez : cv[(0 : Int).toNat]? = some (.int f0 tz) := ez
  repeat (walk_at "m.go")
  refine W_itemList (.own (.head _)) (by decide) (by decide) ez ?_
  repeat (walk_at "m.go")
  refine W_mod (by decide) fun t1 => ?_
  refine W.drop ?_ ((List.sublist_cons_self _ _).trans (List.sublist_cons_self _ _))
  have hm0 : 0 ≤ (if f0 < 0 then -f0 else f0).fmod 1000 ∧ (if f0 < 0 then -f0 else f0).fmod 1000 < 1000 := by
    rw [Int.fmod_eq_emod_of_nonneg _ (by decide)]
    exact ⟨Int.emod_nonneg _ (by decide), Int.emod_lt_of_pos _ (by decide)⟩
  generalize (if f0 < 0 then -f0 else f0).fmod 1000 = mm at *
  walk_at "m.go"
  walk_at "m.go"
  walk_at "m.go"
  walk_at "m.go"
  refine W.mono (P := fun f g' l' => f = .next ∧ g' = g ∧ ∃ m t, m ≠ 0 ∧ -1000 ≤ m ∧ m ≤ 1000 ∧ l' = [(L, Own.fr [(Str.ofString "script", some (.ref sa)), (Str.ofString "table", none), (Str.ofString "row", none), (Str.ofString "y", none), (Str.ofString "name", none), (Str.ofString "due", none)]), (L + 1, Own.cell (some (.int m t))), (L + 1 + 1, Own.cell none)]) ?_ ?_
  · repeat (walk_at "m.go")
    refine W_addList (.here hL) (.own (.head _)) (Nat.le_trans (by show vs.length + 1 ≤ 64; omega) (by decide)) fun c2 => ?_
    generalize ecv2 : (vs ++ _ : List Value) = cv2
    have hcv2 : IntsAre cv2 (f0 :: fr) := by rw [← ecv2, ← ecat]; exact ints_append hN (.cons _ _ .nil)
    obtain ⟨tz2, ez2⟩ := ints_at hcv2 (i := 0) (Nat.zero_lt_succ _)
    have ez2 : cv2[(0 : Int).toNat]? = some (.int f0 tz2) := ez2
    repeat (walk_at "m.go")
    refine W_itemList (.own (.head _)) (by decide) (by decide) ez2 ?_
    refine W.drop ?_ ((List.sublist_cons_self _ _).trans (List.sublist_cons_self _ _))
    repeat (walk_at "m.go")
    refine two (fun e => ?_) fun e => ?_
    · repeat (walk_at "m.go")
      exact ⟨rfl, rfl, _, _, by omega, by omega, by omega, rfl⟩
    · repeat (walk_at "m.go")
      exact ⟨rfl, rfl, _, _, by omega, by omega, by omega, rfl⟩
  rintro f g' l' u ⟨rfl, rfl, m, tm, hm, hmb1, hmb2, rfl⟩
  have hsg : sg m m < 2 ^ 60 := by unfold sg; split <;> omega
  have hfp : ∀ z, Fine (pairOf z m).1 := fun z => fine_pair hm hsg
  have hfr : ∀ zs : List Int, ∀ p ∈ zs.map (pairOf · m), Fine p.1 := fun zs p hp => by
    obtain ⟨z, _, rfl⟩ := List.mem_map.mp hp
    exact hfp z
  repeat (walk_at "m.go")
  refine W.mono (make d ((R.deeper _).le (by omega))) fun r g1 l1 u1 hres => ?_
  obtain ⟨xt, a, rfl, rfl, H1⟩ := hres
  have hL1 : g1.IsList sa vs.toArray := hL.at fun o e => u1 _ _ e
  repeat (walk_at "m.go")
  rename_i r0
  refine W.give .head fun g2 u2 hr0 => ?_
  have hr02 : g2.IsList r0 ([] : List Value).toArray := Heap.PlainList.isList hr0
  have hL2 : g2.IsList sa vs.toArray := hL1.at fun o e => u2 _ _ e
  have H2 := H1.mono u2
  repeat (walk_at "m.go")
  refine W_For ?_
  repeat (walk_at "m.go")
  intro sl g3 u3 e3
  have hL3 : g3.IsList sa vs.toArray := hL2.at fun o e => u3 _ _ e
  refine W_sliceList (lo := some 1) (hi := some 9) (.here hL3) e3 (.int _ _) (.int _ _) (Nat.le_trans (by omega : vs.length ≤ 63) (by decide)) fun b => ?_
  have hz9 := kmk_run (x := 1) (y := 9) hN (by decide) (by decide)
  have hzl9 : (slicePick vs.toArray (some 1) (some 9) none).toList.length ≤ 63 := by
    have h9 := slicePick_size_le vs.toArray (some 1) (some 9) none
    have h10 : vs.toArray.size = vs.length := List.size_toArray
    rw [Array.length_toList]; omega
  generalize (slicePick vs.toArray (some 1) (some 9) none).toList = zs9 at *
  repeat (walk_at "m.go")
  refine W_addList (.own (.tail _ (.head _))) (.own (.head _)) (Nat.le_trans (by show 5 + zs9.length ≤ 68; omega) (by decide)) fun la => ?_
  generalize elv : (_ ++ zs9 : List Value) = lv
  have hlvl : lv.length ≤ 68 := by rw [← elv, List.length_append]; show 5 + _ ≤ _; omega
  obtain ⟨xs, hlv⟩ : ∃ xs, IntsAre lv xs := ⟨_, by rw [← elv]; exact ints_append (.cons _ _ (.cons _ _ (.cons _ _ (.cons _ _ (.cons _ _ .nil))))) hz9⟩
  have hlx := ints_len hlv
  refine W.drop ?_ (.cons_cons _ (.cons _ (.cons _ (List.Sublist.refl _))))
  refine W.give .head fun g4 u4 hla => ?_
  have hla4 : g4.IsList la lv.toArray := Heap.PlainList.isList hla
  have U4 : Sub g2 g4 := u3.trans u4
  have H4 := H2.mono U4
  refine W_iterList (.here hla4) fun it => ?_
  refine WC_for (feeds_list (by exact R.h) it la lv) (fun i G M => ∃ ra rv zs hv oy on od ox, M = [(a, Own.list hv), (L, Own.fr [(Str.ofString "script", some (.ref sa)), (Str.ofString "table", some (.ref xt)), (Str.ofString "row", some (.ref ra)), (Str.ofString "y", oy), (Str.ofString "name", on), (Str.ofString "due", od)]), (L + 1, Own.cell (some (.int m tm))), (L + 1 + 1, Own.cell ox)] ∧ G.IsList ra rv.toArray ∧ IntsAre rv zs ∧ Near zs ∧ zs.length ≤ i ∧ RowsAre G hv (zs.map (pairOf · m)) ∧ Sub g4 G) ?_ ⟨r0, [], [], [], _, _, _, _, rfl, hr02.at fun o e => U4 _ _ e, .nil, (fun _ h => by cases h), Nat.zero_le _, .nil, Sub.refl _⟩ ?_ ?_
  · rintro i G M ⟨ra, rv, zs, hv, oy, on, od, ox, rfl, _, _, _, _, _, uG⟩
    exact .here (hla4.at fun o e => uG _ _ e)
  · rintro i v G M hi hvi uG ⟨ra, rv, zs, hv, oy, on, od, ox, rfl, hra, hI, hnear, hzi, hR, _⟩
    obtain ⟨ty, ey⟩ := ints_at hlv (i := i) (by omega)
    rw [hvi] at ey
    cases ey
    generalize xs[i] = y at *
    have HG := H4.mono uG
    refine W_assignName ?_
    repeat (walk_at "m.go")
    refine W_floordiv (by decide) (by decide) fun t2 => ?_
    repeat (walk_at "m.go")
    refine W_pow (by decide) (by decide) fun t3 => ?_
    refine W_mod (by decide) fun t4 => ?_
    have hm6 : 0 ≤ (if y.fdiv 4 < 0 then -(y.fdiv 4) else y.fdiv 4).fmod (10 ^ (4 : Int).toNat) ∧ (if y.fdiv 4 < 0 then -(y.fdiv 4) else y.fdiv 4).fmod (10 ^ (4 : Int).toNat) < 10 ^ 4 := by
      rw [Int.fmod_eq_emod_of_nonneg _ (by decide)]
      exact ⟨Int.emod_nonneg _ (by decide), Int.emod_lt_of_pos _ (by decide)⟩
    generalize (if y.fdiv 4 < 0 then -(y.fdiv 4) else y.fdiv 4).fmod (10 ^ (4 : Int).toNat) = hh at *
    walk_at "m.go"
    walk_at "m.go"
    walk_at "m.go"
    refine W.mono (P := fun f g' l' => f = .next ∧ g' = G ∧ ∃ x tx, -(10 ^ 4) ≤ x ∧ x ≤ 10 ^ 4 ∧ l' = [(it, Own.iter la (i + 1)), (a, Own.list hv), (L, Own.fr [(Str.ofString "script", some (.ref sa)), (Str.ofString "table", some (.ref xt)), (Str.ofString "row", some (.ref ra)), (Str.ofString "y", some (.int y ty)), (Str.ofString "name", on), (Str.ofString "due", od)]), (L + 1, Own.cell (some (.int m tm))), (L + 1 + 1, Own.cell (some (.int x tx)))]) ?_ ?_
    · repeat (walk_at "m.go")
      refine two (fun e => ?_) fun e => ?_
      · repeat (walk_at "m.go")
        exact ⟨rfl, rfl, _, _, by omega, by omega, rfl⟩
      · repeat (walk_at "m.go")
        exact ⟨rfl, rfl, _, _, by omega, by omega, rfl⟩
    rintro f g' l' u ⟨rfl, rfl, x, tx, hx0, hx1, rfl⟩
    repeat (walk_at "m.go")
    refine W_mod (by decide) fun t5 => ?_
    repeat (walk_at "m.go")
    refine W.mono (lawCall d (fun w => (it, .iter la (i + 1)) :: (a, .list w) :: (L, .fr _) :: (L + 1, Own.cell (some (.int m tm))) :: (L + 1 + 1, Own.cell (some (.int x tx))) :: []) ((R.deeper _).le (by omega)) (fun _ _ => .tail .head) HG hR hra hI hnear (by omega) (by omega) (by omega) hm (by omega) (by omega)) fun r g5 l5 u5 hres => ?_
    obtain ⟨ra2, rv2, zs2, hw, rfl, hra2, hI2, hnear2, hz2, rfl, hR2⟩ := hres
    have H5 := HG.mono u5
    have hlen2 := ints_len hI2
    repeat (walk_at "m.go")
    refine one_f rfl ?_
    repeat (walk_at "m.go")
    refine W_mod hm fun t6 => ?_
    repeat (walk_at "m.go")
    refine W_floordiv hm (by omega) fun t7 => ?_
    repeat (walk_at "m.go")
    refine W_mul (IntMulOk.of_left (bits64 (by omega) (by omega))) fun t8 => ?_
    repeat (walk_at "m.go")
    have hbe := back_eq x m
    have hrb := rest_bound (x := x) hm
    have hfm : -1000 ≤ x.fmod m ∧ x.fmod m ≤ 1000 := by
      unfold rest at hrb
      have : sg m m ≤ 1000 := by unfold sg; split <;> omega
      split at hrb <;> omega
    have hmq : m * (-1 - x.fdiv m) = -m - (x - x.fmod m) := by
      rw [Int.mul_sub, Int.mul_comm m (x.fdiv m)]; omega
    have hx2 : (x.fmod m + m * (-1 - x.fdiv m) - x).fmod m = 0 := by
      have : x.fmod m + m * (-1 - x.fdiv m) - x = m * (-1 - x.fdiv m - x.fdiv m) := by
        have e9 : m * (-1 - x.fdiv m - x.fdiv m) = m * (-1 - x.fdiv m) - m * x.fdiv m := Int.mul_sub ..
        rw [e9, hmq, Int.mul_comm m (x.fdiv m)]; omega
      rw [this, Int.mul_fmod_right]
    generalize hx2d : x.fmod m + m * (-1 - x.fdiv m) = x2 at *
    have hx2b : -(10 ^ 9) ≤ x2 ∧ x2 ≤ 10 ^ 9 := by omega
    have hrest : rest x2 m = rest x m := (rest_iff hm).mpr hx2
    refine W.mono (lawPair d ((R.deeper _).le (by omega)) hx2b.1 hx2b.2 hm (by omega) (by omega)) fun r g6 l6 u6 hres => ?_
    obtain ⟨p, q1, q2, rfl, rfl, ep⟩ := hres
    have hlow := low_pair (x := x2) hm hsg
    rw [hrest] at hlow
    have hfn := hfp x2
    generalize (pairOf x2 m).1 = nm at *
    have H6 := H5.mono u6
    have hra6 : g6.IsList ra2 rv2.toArray := hra2.at fun o e => u6 _ _ e
    repeat (walk_at "m.go")
    refine W_itemTup (j := 0) ep (by decide) (by decide) rfl rfl ?_
    repeat (walk_at "m.go")
    refine' W_AssignComp (cl := [(Str.ofString "x", L + 1 + 1), (Str.ofString "m", L + 1)]) [Str.ofString "z"] ?f0 ?_ ?f1 ?f2 ?f3 ?f4 ?f5 ?f6
    (case f0 => with_unfolding_all rfl)
    (case f1 => decide)
    (case f2 => rfl)
    (case f3 => decide)
    (case f4 => decide)
    (case f5 => rfl)
    (case f6 => intro _; rfl)
    repeat (walk_at "m.go")
    refine comp_over (by exact R.h) (.here hra6) (Nat.le_trans (by omega : rv2.length ≤ 2 ^ 10) (by decide)) (fun i ys g2 => StrsAre ys (((zs2.take i).filter (same x m)).map fun z => (pairOf z m).2)) ?_ .nil ?_ ?_
    · intro i ys g2 h
      rw [strs_len h, List.length_map]
      exact Nat.le_trans (List.length_filter_le _ _) (List.length_take_le _ _)
    · intro it2 acc C i2 v2 ys r g7 hi2 hvi2 u7 hS hr'
      obtain ⟨o, rfl⟩ := frame1 hr'
      have him : i2 < zs2.length := by omega
      obtain ⟨t, e1⟩ := ints_at hI2 him
      rw [hvi2] at e1
      cases e1
      have hzn := hnear2 zs2[i2] (List.getElem_mem _)
      refine W_assignName ?_
      repeat (walk_at "m.go")
      refine turnIf ?_
      repeat (walk_at "m.go")
      refine W_mod hm fun t9 => ?_
      repeat (walk_at "m.go")
      refine two (fun e => ?_) fun e => ?_
      · repeat (walk_at "m.go")
        refine W.mono (lawDue d ((R.deeper _).le (by omega)) (by omega) (by omega) hm (by omega) (by omega)) fun r g8 l8 u8 hres => ?_
        obtain ⟨pd, w1, w2, rfl, rfl, epd⟩ := hres
        repeat (walk_at "m.go")
        refine W_itemTup (j := 1) epd (by decide) (by decide) rfl rfl ?_
        refine Shift.done ⟨_, rfl, rfl, u7.trans u8, ?_⟩
        rw [take_step him, List.filter_append, List.filter_cons, if_pos (decide_eq_true (by simpa using e)), List.map_append]
        exact strs_append hS (.cons _ _ .nil)
      · refine Shift.done ⟨_, rfl, rfl, u7, ?_⟩
        rw [take_step him, List.filter_append, List.filter_cons, if_neg (by rw [decide_eq_true_eq]; simpa using e)]
        simpa using hS
    intro dv g7 u7 hdue du C r
    rw [take_all _ hlen2] at hdue
    repeat (walk_at "m.go")
    refine ⟨_, rfl, ?_⟩
    refine seq_next ?_
    refine W.give .head fun g8 u8 hdu => ?_
    have hdu8 : g8.IsList du dv.toArray := Heap.PlainList.isList hdu
    have U8 : Sub g5 g8 := u6.trans (u7.trans u8)
    have H8 := H5.mono U8
    have hR8 := hR2.mono U8
    have hra8 : g8.IsList ra2 rv2.toArray := hra2.at fun o e => U8 _ _ e
    have hrs := rows_same hm hsg hlow zs2
    have hrf := rows_find hm hsg hlow zs2
    obtain ⟨as, has⟩ : ∃ as, as = zs2.filter (same x m) := ⟨_, rfl⟩
    rw [← has] at hdue hrs hrf
    have hasl : as.length ≤ zs2.length := by rw [has]; exact List.length_filter_le _ _
    have hdl := strs_len hdue
    rw [List.length_map] at hdl
    have hunits : A.units + 3 + 16 * 39 < cLine := (R.deeper (envX (Str.ofString "x") default 0 0 .none [])).u
    repeat (walk_at "m.go")
    walk_at "m.hm"
    repeat (walk_at "m.go")
    refine W.mono (getAll d ((R.deeper _).le (by omega)) H8 (.own (by walk_at "m.mem")) hR8 (hfr zs2) hfn (by rw [List.length_map]; omega)) fun r g9 l9 u9 hres => ?_
    obtain ⟨gb, gw, rfl, rfl, hgw⟩ := hres
    rw [hrs, List.map_map] at hgw
    repeat (walk_at "m.go")
    refine W_neList (.own (.head _)) (.here (hdu8.at fun o e => u9 _ _ e)) (alike_strs hgw hdue) (by show A.units + 3 + 1 < _; omega) ?_
    repeat (walk_at "m.go")
    refine ⟨(fun e => by cases e), fun _ => ?_⟩
    have H9 := H8.mono u9
    have hR9 := hR8.mono u9
    repeat (walk_at "m.go")
    walk_at "m.hm"
    repeat (walk_at "m.go")
    rename_i tnone
    refine W.mono (getOf d (dv := .str (Str.ofString "none") tnone) ((R.deeper _).le (by omega)) H9 (.own (by walk_at "m.mem")) hR9 (hfr zs2) hfn (by rw [List.length_map]; omega)) fun r g10 l10 u10 hres => ?_
    obtain ⟨hgot, rfl⟩ := hres
    have hhead : ∃ sv ts rest, r = .str sv ts ∧ (as.map fun z => (pairOf z m).2) ++ [Str.ofString "none"] = sv :: rest := by
      rcases hgot with ⟨p, t, hfd, rfl⟩ | ⟨hfd, rfl⟩
      · rw [hrf] at hfd
        cases hq : as with
        | nil => rw [hq] at hfd; cases hfd
        | cons z q =>
          rw [hq] at hfd
          cases hfd
          exact ⟨_, t, _, rfl, rfl⟩
      · rw [hrf] at hfd
        cases hq : as with
        | nil => exact ⟨_, tnone, [], rfl, rfl⟩
        | cons z q => rw [hq] at hfd; cases hfd
    obtain ⟨sv, ts, srest, rfl, ehead⟩ := hhead
    have U10 : Sub g8 g10 := u9.trans u10
    repeat (walk_at "m.go")
    refine W_addList (.here (hdu8.at fun o e => U10 _ _ e)) (.own (.head _)) (Nat.le_trans (by show dv.length + 1 ≤ 2 ^ 10 + 1; omega) (by decide)) fun cn => ?_
    generalize ecn : (dv ++ _ : List Value) = cnv
    have hcnv : StrsAre cnv (sv :: srest) := by rw [← ecn, ← ehead]; exact strs_append hdue (.cons _ _ .nil)
    obtain ⟨tsv, esv⟩ := strs_at hcnv (i := 0) (Nat.zero_lt_succ _)
    have esv : cnv[(0 : Int).toNat]? = some (.str sv tsv) := esv
    repeat (walk_at "m.go")
    refine W_itemList (.own (.head _)) (by decide) (by decide) esv ?_
    repeat (walk_at "m.go")
    refine one_f (bne_self_eq_false _) ?_
    refine W.drop ?_ (.cons _ (.cons _ (.cons _ (List.Sublist.refl _))))
    repeat (walk_at "m.go")
    exact Shift.done ⟨_, rfl, ra2, rv2, zs2, hw, _, _, _, _, rfl, hra8.at fun o e => U10 _ _ e, hI2, hnear2, by omega, hR8.mono U10, uG.trans (u5.trans (U8.trans U10))⟩
  · rintro G M uG ⟨ra, rv, zs, hv, oy, on, od, ox, rfl, hra, hI, hnear, hzi, hR, _⟩
    repeat (walk_at "m.go")
    have HG := H4.mono uG
    have hRl := hR.length
    rw [List.length_map] at hRl
    have hzl := ints_len hI
    have hunits : A.units + 3 + 16 * 39 < cLine := (R.deeper (envX (Str.ofString "x") default 0 0 .none [])).u
    walk_at "m.hm"
    repeat (walk_at "m.go")
    refine W.mono (itemsOf d ((R.deeper _).le (by omega)) HG (.own (.head _)) (by omega)) fun r g5 l5 u5 hres => ?_
    obtain ⟨ib, rfl, rfl⟩ := hres
    have hR5 := hR.mono u5
    have hra5 : g5.IsList ra rv.toArray := hra.at fun o e => u5 _ _ e
    repeat (walk_at "m.go")
    refine' W_ListComp (cl := [(Str.ofString "m", L + 1)]) [Str.ofString "z"] ?_ ?c1 ?c2 ?c3 ?c4 ?c5 ?c6
    (case c1 => decide)
    (case c2 => rfl)
    (case c3 => decide)
    (case c4 => decide)
    (case c5 => rfl)
    (case c6 => intro _; rfl)
    repeat (walk_at "m.go")
    refine comp_over (by exact R.h) (.here hra5) (Nat.le_trans (by omega : rv.length ≤ 2 ^ 10) (by decide)) (fun i ys g2 => RowsAre g2 ys ((zs.take i).map (pairOf · m))) ?_ .nil ?_ ?_
    · intro i ys g2 h
      rw [h.length, List.length_map]
      exact List.length_take_le _ _
    · intro it2 acc C i2 v2 ys r g7 hi2 hvi2 u7 hS hr'
      obtain ⟨o, rfl⟩ := frame1 hr'
      have him : i2 < zs.length := by omega
      obtain ⟨t, e1⟩ := ints_at hI him
      rw [hvi2] at e1
      cases e1
      have hzn := hnear zs[i2] (List.getElem_mem _)
      refine W_assignName ?_
      repeat (walk_at "m.go")
      refine turnAll ?_
      repeat (walk_at "m.go")
      refine W.mono (lawDue d ((R.deeper _).le (by omega)) (by omega) (by omega) hm (by omega) (by omega)) fun r g8 l8 u8 hres => ?_
      obtain ⟨pd, w1, w2, rfl, rfl, epd⟩ := hres
      refine Shift.done ⟨_, rfl, rfl, u7.trans u8, ?_⟩
      rw [take_step him, List.map_append]
      exact (hS.mono u8).append (.cons epd .nil)
    intro dr g6 u6 hdr da
    rw [take_all _ hzl] at hdr
    repeat (walk_at "m.go")
    refine W_neList (.own (.tail _ (.head _))) (.own (.head _)) (alike_rows (hR5.mono u6) hdr) (by show A.units + 3 + 1 < _; omega) ?_
    repeat (walk_at "m.go")
    refine one_f rfl ?_
    refine W.drop ?_ ((List.sublist_cons_self _ _).trans (List.sublist_cons_self _ _))
    have H6 := (HG.mono u5).mono u6
    repeat (walk_at "m.go")
    refine' W_ListComp (cl := [(Str.ofString "m", L + 1)]) [Str.ofString "name", Str.ofString "value"] ?_ ?e1 ?e2 ?e3 ?e4 ?e5 ?e6
    (case e1 => decide)
    (case e2 => rfl)
    (case e3 => decide)
    (case e4 => decide)
    (case e5 => rfl)
    (case e6 => intro _; rfl)
    repeat (walk_at "m.go")
    walk_at "m.hm"
    repeat (walk_at "m.go")
    refine W.mono (itemsOf d ((R.deeper _).le (by omega)) H6 (.own (.head _)) (by omega)) fun r g7 l7 u7 hres => ?_
    obtain ⟨ib2, rfl, rfl⟩ := hres
    have U7 : Sub G g7 := u5.trans (u6.trans u7)
    have hR7 := hR.mono U7
    refine comp_over (by exact R.h) (.own (.head _)) (Nat.le_trans (by omega : hv.length ≤ 2 ^ 10) (by decide)) (fun i ys g2 => IntsAre ys (zs.take i)) ?_ .nil ?_ ?_
    · intro i ys g2 h
      rw [ints_len h]
      exact List.length_take_le _ _
    · intro it2 acc C i2 v2 ys r g8 hi2 hvi2 u8 hS hr'
      obtain ⟨o, o2, rfl⟩ := frame2 hr'
      have him : i2 < zs.length := by omega
      obtain ⟨p, s1, s2, e1, e2⟩ := (hR7.mono u8).at (i := i2) (by rw [List.length_map]; exact him)
      rw [hvi2] at e1
      cases e1
      rw [List.getElem_map] at e2
      have hzn := hnear zs[i2] (List.getElem_mem _)
      refine W_pair (by exact R.h) e2 ?_
      repeat (walk_at "m.go")
      refine turnAll ?_
      repeat (walk_at "m.go")
      refine W.mono (lawBack d ((R.deeper _).le (by omega)) (by omega) (by omega) hm (by omega) (by omega)) fun r g9 l9 u9 hres => ?_
      obtain ⟨t', rfl, rfl⟩ := hres
      refine Shift.done ⟨_, rfl, rfl, u8.trans u9, ?_⟩
      rw [take_step him]
      exact ints_append hS (.cons _ _ .nil)
    intro ys g8 u8 hI8 ya
    rw [take_all _ hRl] at hI8
    repeat (walk_at "m.go")
    refine W_eqList (.own (.head _)) (.here (hra.at fun o e => u8 _ _ (U7 _ _ e))) (alike_ints hI8 hI) (by show A.units + 3 + 1 < _; omega) ?_
    repeat (walk_at "m.go")
    exact Shift.done rfl
end Mine
theorem PySem.Challenge.cw_ny0356_02_holds : PySem.Challenge.rw_ny0356_02.Holds := by
  exact Mine.holds_of Mine.lawIs
