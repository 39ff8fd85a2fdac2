import PyProof.Rows.All
import Wide.All
import OpenK.AllK
import Wide.FinOn
import OpenK.XOpen
import OpenK.ZHead
import Lean
import PySem.Challenge.RW_rx0117_01
set_option Elab.async false
namespace Mine
section
open PySem PySem.W PyProof.Rows PySem.Calls PySem.Spec
set_option maxRecDepth 100000

/-- a value, its token hidden -/
inductive AV where
  | int (i : Int)
  | str (x : Str)
  | val (v : Value)

noncomputable def VR : AV → Value → Prop
  | .int i, v => ∃ t, v = .int i t
  | .str x, v => ∃ t, v = .str x t
  | .val u, v => v = u

noncomputable def VRs : List AV → List Value → Prop
  | [], vs => vs = []
  | a :: as, vs => ∃ v r, vs = v :: r ∧ VR a v ∧ VRs as r
/-! the values of a call's arguments, one goal for all of them -/
@[elab_as_elim] theorem vrs1 {a : AV} {P : List Value → Prop} {vs : List Value} (h : VRs [a] vs) (k : ∀ v, VR a v → P [v]) : P vs := by
  obtain ⟨v, _, rfl, r, rfl⟩ := h
  exact k v r
@[elab_as_elim] theorem vrs2 {a b : AV} {P : List Value → Prop} {vs : List Value} (h : VRs [a, b] vs) (k : ∀ v, VR a v → ∀ u, VR b u → P [v, u]) : P vs := by
  obtain ⟨v, _, rfl, r, u, _, rfl, q, rfl⟩ := h
  exact k v r u q
@[elab_as_elim] theorem vrs3 {a b c : AV} {P : List Value → Prop} {vs : List Value} (h : VRs [a, b, c] vs) (k : ∀ v, VR a v → ∀ u, VR b u → ∀ t, VR c t → P [v, u, t]) : P vs := by
  obtain ⟨v, _, rfl, r, u, _, rfl, q, t, _, rfl, o, rfl⟩ := h
  exact k v r u q t o

noncomputable abbrev OP := Obj → Prop
noncomputable abbrev Led := List (Addr × OP)

structure Rep (base : Heap) (S : Led) (h : Heap) : Prop where
  keep : ∀ b o, base.get? b = some o → h.get? b = some o
  mem : ∀ p ∈ S, ∃ o, h.get? p.1 = some o ∧ p.2 o
  fresh : ∀ p ∈ S, base.get? p.1 = none
  nodup : (S.map (·.1)).Nodup
  last : ∃ a o, base.objs.size = a + 1 ∧ base.get? a = some o

structure AOk (A : Around) (n : Nat) : Prop where
  handled : A.handled = none
  depth : A.depth + n < 900
  units : A.units + 10 * n < 9000

inductive PostI (base : Heap) (Q : Led → Prop) (s : Shared) (s' : Shared) : Prop
  | mk (S' : Led) (h' : Heap) (tk' : Nat) (e : s' = { s with heap := h', toks := tk' }) (R : Rep base S' h') (q : Q S') : PostI base Q s s'
noncomputable abbrev Post {α : Type} (base : Heap) (Q : α → Led → Prop) (s : Shared) (a : α) (s' : Shared) : Prop := PostI base (Q a) s s'
theorem PostI.re {base : Heap} {Q : Led → Prop} {s s' : Shared} {h : Heap} {k : Nat} (p : PostI base Q { s with heap := h, toks := k } s') : PostI base Q s s' := by
  obtain ⟨S', h', k', e, R, q⟩ := p
  exact ⟨S', h', k', e, R, q⟩

noncomputable def NoE : Value → Shared → Prop := fun _ _ => False

structure W {α : Type} (prog : Program) (w : World) (base : Heap) (n : Nat) (t : Sem α) (S : Led) (Q : α → Led → Prop) : Prop where
  run : ∀ A s, AOk A n → Rep base S s.heap → wpAny (model prog w) A t (Post base Q s) NoE s

inductive Hid (Q : AV → Led → Prop) (v : Value) (S' : Led) : Prop
  | mk (a : AV) (r : VR a v) (q : Q a S') : Hid Q v S'
noncomputable def WV (prog : Program) (w : World) (base : Heap) (n : Nat) (t : Sem Value) (S : Led) (Q : AV → Led → Prop) : Prop :=
  W prog w base n t S (Hid Q)

section
variable {prog : Program} {w : World} {base : Heap} {n : Nat} {S : Led}

theorem AOk.le {A : Around} {n m : Nat} (h : AOk A n) (hm : m ≤ n) : AOk A m := ⟨h.handled, by have := h.depth; lia, by have := h.units; lia⟩
theorem AOk.in1 {A : Around} {n : Nat} (h : AOk A (n + 1)) : AOk A.in1 n := ⟨h.handled, by have := h.depth; show A.depth + n < 900; lia, by have := h.units; show A.units + 1 + 10 * n < 9000; lia⟩
theorem AOk.deeper {A : Around} {n : Nat} (h : AOk A (n + 1)) (env : Env) : AOk (A.deeper env) n :=
  ⟨h.handled, by have := h.depth; show A.depth + 1 + n < 900; lia, by have := h.units; show A.units + 3 + 10 * n < 9000; lia⟩
theorem AOk.room {A : Around} {n : Nat} (h : AOk A n) : A.depth < recursionLimit := by have := h.depth; show A.depth < 1000; lia
theorem AOk.line {A : Around} {n : Nat} (h : AOk A n) : A.units < cLine := by have := h.units; show A.units < 9900; lia

theorem Post.go {α β : Type} {Q : β → Led → Prop} {f : α → Sem β} {s s₁ : Shared} {a : α} {A : Around} (p : Post base (fun a S₁ => W prog w base n (f a) S₁ Q) s a s₁) (hA : AOk A n) :
    wpAny (model prog w) A (f a) (Post base Q s) NoE s₁ := by
  obtain ⟨S₁, h₁, k₁, rfl, R₁, q⟩ := p
  refine wpAny_mono (q.run A _ hA R₁) (fun b s₂ p₂ => ?_) fun _ _ x => x
  obtain ⟨S₂, h₂, k₂, rfl, R₂, q₂⟩ := p₂
  exact ⟨S₂, h₂, k₂, rfl, R₂, q₂⟩
theorem Post.mono {α : Type} {Q Q' : α → Led → Prop} {s s' : Shared} {a : α} (p : Post base Q s a s') (h : ∀ S', Q a S' → Q' a S') : Post base Q' s a s' := by
  obtain ⟨S', h', k', e, R, q⟩ := p
  exact ⟨S', h', k', e, R, h _ q⟩
theorem Post.self {α : Type} {Q : α → Led → Prop} {s : Shared} {a : α} (R : Rep base S s.heap) (q : Q a S) : Post base Q s a s := ⟨S, s.heap, s.toks, rfl, R, q⟩
theorem Post.tok {α : Type} {Q : α → Led → Prop} {s : Shared} {a : α} {k : Nat} (R : Rep base S s.heap) (q : Q a S) : Post base Q s a { s with toks := k } := ⟨S, s.heap, k, rfl, R, q⟩

theorem W.pure {α : Type} {a : α} {Q : α → Led → Prop} (h : Q a S) : W prog w base n (pure a) S Q := .mk fun _ _ _ R => wpAny_pure (.self R h)
theorem W.bind {α β : Type} {m : Sem α} {f : α → Sem β} {Q : β → Led → Prop} (h : W prog w base n m S (fun a S₁ => W prog w base n (f a) S₁ Q)) : W prog w base n (m >>= f) S Q :=
  .mk fun A s hA R => wpAny_bind (wpAny_mono (h.run A s hA R) (fun _ _ p => p.go hA) fun _ _ x => x)
theorem W.mono {α : Type} {t : Sem α} {Q Q' : α → Led → Prop} (h : W prog w base n t S Q) (hq : ∀ a S', Q a S' → Q' a S') : W prog w base n t S Q' :=
  .mk fun A s hA R => wpAny_mono (h.run A s hA R) (fun a _ p => p.mono (hq a)) fun _ _ x => x
theorem W.le {α : Type} {t : Sem α} {Q : α → Led → Prop} {m : Nat} (h : W prog w base m t S Q) (hm : m ≤ n) : W prog w base n t S Q := .mk fun A s hA R => h.run A s (hA.le hm) R
theorem W.holding {α : Type} {vs : List Value} {t : Sem α} {Q : α → Led → Prop} (h : W prog w base n t S Q) : W prog w base n (holding vs t) S Q := .mk fun A s hA R => wpAny_holding (h.run A s hA R)
theorem W.standAt {pos : Pos} {Q : Unit → Led → Prop} (h : Q () S) : W prog w base n (standAt pos) S Q := .mk fun _ _ _ R => wpAny_standAt (.self R h)
theorem W.rule {tag : String} {Q : Unit → Led → Prop} (h : Q () S) : W prog w base n (PySem.rule tag) S Q := .mk fun _ _ _ R => wpAny_rule (.self R h)
theorem WV.mono {t : Sem Value} {Q Q' : AV → Led → Prop} (h : WV prog w base n t S Q) (hq : ∀ a S', Q a S' → Q' a S') : WV prog w base n t S Q' :=
  W.mono h fun _ _ ⟨a, r, q⟩ => ⟨a, r, hq a _ q⟩
theorem WV.le {t : Sem Value} {Q : AV → Led → Prop} {m : Nat} (h : WV prog w base m t S Q) (hm : m ≤ n) : WV prog w base n t S Q := W.le h hm

/-! lists of values -/
theorem VRs.length {as : List AV} : ∀ {vs : List Value}, VRs as vs → as.length = vs.length := by
  induction as with
  | nil => intro vs h; rw [show vs = [] from h]; rfl
  | cons a r ih => rintro vs ⟨v, q, rfl, _, h⟩; simp [ih h]
theorem VRs.get {as : List AV} : ∀ {vs : List Value} {i : Nat} {a : AV}, VRs as vs → as[i]? = some a → ∃ v, vs[i]? = some v ∧ VR a v := by
  induction as with
  | nil => intro vs i a h e; cases e
  | cons b r ih =>
    rintro vs i a ⟨v, q, rfl, hv, h⟩ e
    cases i with
    | zero => cases e; exact ⟨v, rfl, hv⟩
    | succ i => exact ih (vs := q) h e
theorem VRs.append {as bs : List AV} : ∀ {vs us : List Value}, VRs as vs → VRs bs us → VRs (as ++ bs) (vs ++ us) := by
  induction as with
  | nil => intro vs us h h'; rw [show vs = [] from h]; exact h'
  | cons a r ih => rintro vs us ⟨v, q, rfl, hv, h⟩ h'; exact ⟨v, q ++ us, rfl, hv, ih h h'⟩
theorem VRs.snoc {as : List AV} {vs : List Value} {a : AV} {v : Value} (h : VRs as vs) (hv : VR a v) : VRs (as ++ [a]) (vs ++ [v]) := h.append ⟨v, [], rfl, hv, rfl⟩
theorem VRs.set {as : List AV} : ∀ {vs : List Value} {i : Nat} {a : AV} {v : Value}, VRs as vs → VR a v → VRs (as.set i a) (vs.set i v) := by
  induction as with
  | nil => intro vs i a v h _; rw [show vs = [] from h]; exact rfl
  | cons b r ih =>
    rintro vs i a v ⟨u, q, rfl, hu, h⟩ hv
    cases i with
    | zero => exact ⟨v, q, rfl, hv, h⟩
    | succ i => exact ⟨u, q.set i v, rfl, hu, ih h hv⟩
theorem VRs.take {as : List AV} : ∀ {vs : List Value} (k : Nat), VRs as vs → VRs (as.take k) (vs.take k) := by
  induction as with
  | nil => intro vs k h; rw [show vs = [] from h]; simp; exact rfl
  | cons b r ih =>
    rintro vs k ⟨u, q, rfl, hu, h⟩
    cases k with
    | zero => exact rfl
    | succ k => exact ⟨u, q.take k, rfl, hu, ih k h⟩
theorem VRs.drop {as : List AV} : ∀ {vs : List Value} (k : Nat), VRs as vs → VRs (as.drop k) (vs.drop k) := by
  induction as with
  | nil => intro vs k h; rw [show vs = [] from h]; simp; exact rfl
  | cons b r ih =>
    rintro vs k ⟨u, q, rfl, hu, h⟩
    cases k with
    | zero => exact ⟨u, q, rfl, hu, h⟩
    | succ k => exact ih k h
theorem VRs.reverse {as : List AV} : ∀ {vs : List Value}, VRs as vs → VRs as.reverse vs.reverse := by
  induction as with
  | nil => intro vs h; rw [show vs = [] from h]; exact rfl
  | cons b r ih =>
    rintro vs ⟨u, q, rfl, hu, h⟩
    rw [List.reverse_cons, List.reverse_cons]
    exact (ih h).snoc hu

/-! the ledger -/
inductive Upd : Led → Addr → OP → OP → Led → Prop where
  | head {S : Led} {a : Addr} {P P' : OP} : Upd ((a, P) :: S) a P P' ((a, P') :: S)
  | tail {S S' : Led} {a : Addr} {P P' : OP} {e : Addr × OP} : Upd S a P P' S' → Upd (e :: S) a P P' (e :: S')
theorem Upd.memOld {S S' : Led} {a : Addr} {P P' : OP} (U : Upd S a P P' S') : (a, P) ∈ S := by
  induction U with
  | head => exact .head _
  | tail _ ih => exact .tail _ ih
theorem Upd.addrs {S S' : Led} {a : Addr} {P P' : OP} (U : Upd S a P P' S') : S'.map (·.1) = S.map (·.1) := by
  induction U with
  | head => rfl
  | tail _ ih => simp [ih]
theorem Upd.cases {S S' : Led} {a : Addr} {P P' : OP} (U : Upd S a P P' S') (hn : (S.map (·.1)).Nodup) : ∀ p ∈ S', p = (a, P') ∨ (p ∈ S ∧ p.1 ≠ a) := by
  induction U with
  | @head S a P P' =>
    intro p hp
    rcases List.mem_cons.mp hp with rfl | hp
    · exact .inl rfl
    · refine .inr ⟨.tail _ hp, fun e => ?_⟩
      rw [List.map_cons, List.nodup_cons] at hn
      exact hn.1 (e ▸ List.mem_map_of_mem (f := (·.1)) hp)
  | @tail S S' a P P' e U ih =>
    intro p hp
    rw [List.map_cons, List.nodup_cons] at hn
    rcases List.mem_cons.mp hp with rfl | hp
    · exact .inr ⟨.head _, fun q => hn.1 (q ▸ List.mem_map_of_mem (f := (·.1)) U.memOld)⟩
    · rcases ih hn.2 p hp with h | h
      · exact .inl h
      · exact .inr ⟨.tail _ h.1, h.2⟩

theorem Rep.gone {h : Heap} {a : Addr} {P : OP} (R : Rep base S h) (hm : (a, P) ∈ S) : base.get? a = none := R.fresh _ hm
theorem Rep.size {h : Heap} (R : Rep base S h) : base.objs.size ≤ h.objs.size := by
  obtain ⟨a, o, e, g⟩ := R.last
  rw [e]
  exact Heap.lt_size (R.keep _ _ g)
theorem Rep.get {h : Heap} {a : Addr} {P : OP} (R : Rep base S h) (hm : (a, P) ∈ S) : ∃ o, h.get? a = some o ∧ P o := R.mem _ hm
theorem Rep.update {h h' : Heap} {S' : Led} {a : Addr} {P P' : OP} (R : Rep base S h) (U : Upd S a P P' S') (hs : Heap.SameBut a h h') (hp : ∃ o, h'.get? a = some o ∧ P' o) : Rep base S' h' where
  keep := fun b o e => (hs.2 b (fun q => by rw [q, R.gone U.memOld] at e; cases e)).trans (R.keep b o e)
  mem := fun p hm => by
    rcases U.cases R.nodup p hm with rfl | ⟨hm, hne⟩
    · exact hp
    · obtain ⟨o, e, q⟩ := R.mem p hm
      exact ⟨o, (hs.2 _ hne).trans e, q⟩
  fresh := fun p hm => by
    rcases U.cases R.nodup p hm with e | ⟨hm, hne⟩
    · rw [e]; exact R.fresh (a, P) U.memOld
    · exact R.fresh p hm
  nodup := by rw [U.addrs]; exact R.nodup
  last := R.last
theorem Rep.drop {h : Heap} {S' : Led} (R : Rep base S h) (hs : S'.Sublist S) : Rep base S' h :=
  ⟨R.keep, fun p hm => R.mem p (hs.subset hm), fun p hm => R.fresh p (hs.subset hm), R.nodup.sublist (hs.map _), R.last⟩
theorem Rep.alloc {h h' : Heap} {P : OP} {o : Obj} (R : Rep base S h) (he : h'.get? h.objs.size = some o) (hp : P o) (hk : ∀ b o, h.get? b = some o → h'.get? b = some o) : Rep base ((h.objs.size, P) :: S) h' where
  keep := fun b o e => hk _ _ (R.keep b o e)
  mem := fun p hm => by
    rcases List.mem_cons.mp hm with rfl | hm
    · exact ⟨o, he, hp⟩
    · obtain ⟨o, e, q⟩ := R.mem p hm
      exact ⟨o, hk _ _ e, q⟩
  fresh := fun p hm => by
    rcases List.mem_cons.mp hm with rfl | hm
    · exact Heap.get?_none_of_le R.size
    · exact R.fresh p hm
  last := R.last
  nodup := by
    rw [List.map_cons, List.nodup_cons]
    refine ⟨fun hm => ?_, R.nodup⟩
    obtain ⟨p, hp, e⟩ := List.mem_map.mp hm
    obtain ⟨o, e', _⟩ := R.mem p hp
    rw [e] at e'
    exact absurd (Heap.lt_size e') (Nat.lt_irrefl _)
theorem Rep.push {h : Heap} {P : OP} {o : Obj} (R : Rep base S h) (hp : P o) (hf : o.isFreed = false := by rfl) : Rep base ((h.objs.size, P) :: S) (h.push o) :=
  R.alloc (Heap.get?_push_size _ hf) hp fun _ _ e => Heap.get?_push_of_some _ e
theorem Rep.grow {h h' : Heap} (R : Rep base S h) (hk : ∀ b o, h.get? b = some o → h'.get? b = some o) : Rep base S h' :=
  ⟨fun b o e => hk _ _ (R.keep b o e), fun p hm => let ⟨o, e, q⟩ := R.mem p hm; ⟨o, hk _ _ e, q⟩, R.fresh, R.nodup, R.last⟩
/-- forget what is not needed -/
theorem W.drop {α : Type} {t : Sem α} {S' : Led} {Q : α → Led → Prop} (h : W prog w base n t S' Q) (hs : S'.Sublist S) : W prog w base n t S Q := .mk fun A s hA R => h.run A s hA (R.drop hs)
theorem WV.drop {t : Sem Value} {S' : Led} {Q : AV → Led → Prop} (h : WV prog w base n t S' Q) (hs : S'.Sublist S) : WV prog w base n t S Q := W.drop h hs
theorem Rep.perm {h : Heap} {S' : Led} (R : Rep base S h) (hs : S'.Perm S) : Rep base S' h :=
  ⟨R.keep, fun p hm => R.mem p (hs.subset hm), fun p hm => R.fresh p (hs.subset hm), (hs.map _).nodup_iff.mpr R.nodup, R.last⟩
theorem W.perm {α : Type} {t : Sem α} {S' : Led} {Q : α → Led → Prop} (h : W prog w base n t S' Q) (hs : S'.Perm S) : W prog w base n t S Q := .mk fun A s hA R => h.run A s hA (R.perm hs)

/-! kinds of objects -/
noncomputable def PList (xs : List AV) : OP := fun o => ∃ vs k, o = { cls := .type "list", dict := none, data := .seq (List.toArray vs) k, slots := #[] } ∧ VRs xs vs
noncomputable def PTup (xs : List AV) : OP := fun o => ∃ vs k, o = { cls := .type "tuple", dict := none, data := .seq (List.toArray vs) k, slots := #[] } ∧ VRs xs vs
noncomputable def PCell (v : Option AV) : OP := fun o => ∃ u, o.data = .cell u ∧ match v with | none => True | some a => ∃ x, u = some x ∧ VR a x
noncomputable abbrev NM := List (Str × Option AV)
noncomputable def NMok (m : NM) (f : Str → Option Value) : Prop := ∀ p ∈ m, match p.2 with | none => True | some a => ∃ v, f p.1 = some v ∧ VR a v
noncomputable def PNs (m : NM) : OP := fun o => (m.map (·.1)).Nodup ∧ ∃ es ep, o.data = .dict es ep ∧ StrKeys es ∧ NMok m (nsFind es)
noncomputable def PExact (o : Obj) : OP := fun o' => o' = o
noncomputable def PLIter (l : Addr) (i : Nat) : OP := fun o => o.cls = .type "list_iterator" ∧ o.data = .fields #[.ref l, .int i 0]

theorem Rep.isL {h : Heap} {l : Addr} {xs : List AV} (R : Rep base S h) (hm : (l, PList xs) ∈ S) : ∃ vs k, PySem.IsL h l (List.toArray vs) k ∧ VRs xs vs := by
  obtain ⟨o, e, vs, k, rfl, hv⟩ := R.get hm
  exact ⟨vs, k, e, hv⟩
theorem Rep.list {h : Heap} {l : Addr} {xs : List AV} (R : Rep base S h) (hm : (l, PList xs) ∈ S) : ∃ vs, h.IsList l (List.toArray vs) ∧ VRs xs vs := by
  obtain ⟨vs, k, e, hv⟩ := R.isL hm
  exact ⟨vs, e.isList, hv⟩
theorem Rep.tuple {h : Heap} {l : Addr} {xs : List AV} (R : Rep base S h) (hm : (l, PTup xs) ∈ S) : ∃ vs, h.IsTuple l (List.toArray vs) ∧ VRs xs vs := by
  obtain ⟨o, e, vs, k, rfl, hv⟩ := R.get hm
  exact ⟨vs, ⟨_, e, rfl, k, rfl⟩, hv⟩
theorem Rep.isLNew {h : Heap} {l : Addr} {xs xs' : List AV} {S' : Led} {vs vs' : List Value} {k : Nat} (R : Rep base S h) (hl : PySem.IsL h l (List.toArray vs) k) (U : Upd S l (PList xs) (PList xs') S') (f : Array Value → Array Value) (hf : f (List.toArray vs) = List.toArray vs') (hv : VRs xs' vs') :
    Rep base S' (h.update l (Obj.mapSeq f)) := by
  have := PySem.IsL.update hl f
  rw [hf] at this
  exact R.update U (Heap.SameBut.update ..) ⟨_, this, vs', _, rfl, hv⟩
theorem Rep.ns {h : Heap} {L : Addr} {m : NM} (R : Rep base S h) (hm : (L, PNs m) ∈ S) : (m.map (·.1)).Nodup ∧ ∃ f, h.Ns L f ∧ NMok m f := by
  obtain ⟨o, e, hn, es, ep, hd, hk, hf⟩ := R.get hm
  exact ⟨hn, nsFind es, ⟨o, es, ep, e, hd, hk, fun _ => rfl⟩, hf⟩
theorem PNs.of {h : Heap} {L : Addr} {m : NM} {f : Str → Option Value} (hd : (m.map (·.1)).Nodup) (hn : h.Ns L f) (hf : NMok m f) : ∃ o, h.get? L = some o ∧ PNs m o := by
  obtain ⟨o, es, ep, e, hd', hk, he⟩ := hn
  have : nsFind es = f := funext he
  exact ⟨o, e, hd, es, ep, hd', hk, this ▸ hf⟩

inductive SetN : NM → Str → AV → NM → Prop where
  | head {x : Str} {a : AV} {b : Option AV} {r : NM} : SetN ((x, b) :: r) x a ((x, some a) :: r)
  | tail {x : Str} {a : AV} {e : Str × Option AV} {r r' : NM} : SetN r x a r' → SetN (e :: r) x a (e :: r')
theorem SetN.names {m m' : NM} {x : Str} {a : AV} (h : SetN m x a m') : m'.map (·.1) = m.map (·.1) := by
  induction h with
  | head => rfl
  | tail _ ih => simp [ih]
theorem SetN.isMem {m m' : NM} {x : Str} {a : AV} (h : SetN m x a m') : x ∈ m.map (·.1) := by
  induction h with
  | head => exact .head _
  | tail _ ih => exact .tail _ ih
theorem SetN.cases {m m' : NM} {x : Str} {a : AV} (h : SetN m x a m') (hn : (m.map (·.1)).Nodup) : ∀ p ∈ m', p = (x, some a) ∨ (p ∈ m ∧ p.1 ≠ x) := by
  induction h with
  | @head x a b r =>
    intro p hp
    rcases List.mem_cons.mp hp with rfl | hp
    · exact .inl rfl
    · refine .inr ⟨.tail _ hp, fun e => ?_⟩
      rw [List.map_cons, List.nodup_cons] at hn
      exact hn.1 (e ▸ List.mem_map_of_mem (f := (·.1)) hp)
  | @tail x a e r r' h ih =>
    intro p hp
    rw [List.map_cons, List.nodup_cons] at hn
    rcases List.mem_cons.mp hp with rfl | hp
    · refine .inr ⟨.head _, fun q => hn.1 ?_⟩
      rw [q]; exact h.isMem
    · rcases ih hn.2 p hp with h | h
      · exact .inl h
      · exact .inr ⟨.tail _ h.1, h.2⟩
theorem SetN.ok {m m' : NM} {x : Str} {a : AV} {f : Str → Option Value} {v : Value} (h : SetN m x a m') (hn : (m.map (·.1)).Nodup) (hf : NMok m f) (hv : VR a v) : NMok m' (fun y => if y = x then some v else f y) := by
  intro p hp
  rcases h.cases hn p hp with rfl | ⟨hp, hne⟩
  · exact ⟨v, by simp, hv⟩
  · have := hf p hp
    cases q : p.2 with
    | none => trivial
    | some b =>
      rw [q] at this
      obtain ⟨u, e, r⟩ := this
      exact ⟨u, by simp [hne, e], r⟩
/-! a weaker ledger: entries gone, or less said of them -/
noncomputable def Forget : NM → NM → Prop
  | [], [] => True
  | (x, a) :: r, (y, b) :: q => x = y ∧ (a = none ∨ a = b) ∧ Forget r q
  | _, _ => False
theorem Forget.refl : ∀ m : NM, Forget m m
  | [] => trivial
  | (_, _) :: r => ⟨rfl, .inr rfl, Forget.refl r⟩
theorem Forget.keep {x : Str} {a : Option AV} {m m' : NM} (h : Forget m' m) : Forget ((x, a) :: m') ((x, a) :: m) := ⟨rfl, .inr rfl, h⟩
theorem Forget.drop {x : Str} {a : Option AV} {m m' : NM} (h : Forget m' m) : Forget ((x, none) :: m') ((x, a) :: m) := ⟨rfl, .inl rfl, h⟩
theorem Forget.names : ∀ {m' m : NM}, Forget m' m → m'.map (·.1) = m.map (·.1)
  | [], [], _ => rfl
  | (x, a) :: r, (y, b) :: q, ⟨h1, _, h2⟩ => by rw [List.map_cons, List.map_cons, Forget.names h2, show x = y from h1]
theorem Forget.ok {f : Str → Option Value} : ∀ {m' m : NM}, Forget m' m → NMok m f → NMok m' f
  | [], [], _, h => h
  | (x, a) :: r, (y, b) :: q, ⟨h1, h3, h2⟩, h => by
    intro p hp
    rcases List.mem_cons.mp hp with rfl | hp
    · rcases h3 with e | e
      · dsimp only; rw [e]; trivial
      · have := h (y, b) (.head _)
        dsimp only at this ⊢
        rw [e, show x = y from h1]; exact this
    · exact Forget.ok h2 (fun p hp => h p (.tail _ hp)) p hp
theorem PNs.forget {m' m : NM} (h : Forget m' m) (o : Obj) : PNs m o → PNs m' o := fun ⟨hn, es, ep, hd, hk, hf⟩ => ⟨by rw [h.names]; exact hn, es, ep, hd, hk, h.ok hf⟩
theorem PCell.forget {v : Option AV} (o : Obj) : PCell v o → PCell none o := fun ⟨u, hd, _⟩ => ⟨u, hd, trivial⟩

inductive Wk : Led → Led → Prop where
  | refl (S : Led) : Wk S S
  | nil (S : Led) : Wk [] S
  | keep {S' S : Led} {e : Addr × OP} : Wk S' S → Wk (e :: S') (e :: S)
  | skip {S' S : Led} {e : Addr × OP} : Wk S' S → Wk S' (e :: S)
  | weak {S' S : Led} {a : Addr} {P P' : OP} : (∀ o, P o → P' o) → Wk S' S → Wk ((a, P') :: S') ((a, P) :: S)
theorem Wk.spec {S' S : Led} (h : Wk S' S) : (S'.map (·.1)).Sublist (S.map (·.1)) ∧ ∀ p ∈ S', ∃ P, (p.1, P) ∈ S ∧ ∀ o, P o → p.2 o := by
  induction h with
  | refl S => exact ⟨List.Sublist.refl _, fun p hp => ⟨p.2, hp, fun _ x => x⟩⟩
  | nil S => exact ⟨List.nil_sublist _, fun p hp => nomatch hp⟩
  | keep _ ih =>
    refine ⟨ih.1.cons₂ _, fun p hp => ?_⟩
    rcases List.mem_cons.mp hp with rfl | hp
    · exact ⟨p.2, .head _, fun _ x => x⟩
    · obtain ⟨P, h1, h2⟩ := ih.2 p hp
      exact ⟨P, .tail _ h1, h2⟩
  | skip _ ih =>
    refine ⟨ih.1.cons _, fun p hp => ?_⟩
    obtain ⟨P, h1, h2⟩ := ih.2 p hp
    exact ⟨P, .tail _ h1, h2⟩
  | weak hw _ ih =>
    refine ⟨ih.1.cons₂ _, fun p hp => ?_⟩
    rcases List.mem_cons.mp hp with rfl | hp
    · exact ⟨_, .head _, hw⟩
    · obtain ⟨P, h1, h2⟩ := ih.2 p hp
      exact ⟨P, .tail _ h1, h2⟩
theorem Rep.wk {h : Heap} {S' : Led} (R : Rep base S h) (k : Wk S' S) : Rep base S' h := by
  obtain ⟨h1, h2⟩ := k.spec
  refine ⟨R.keep, fun p hp => ?_, fun p hp => ?_, R.nodup.sublist h1, R.last⟩
  · obtain ⟨P, hm, hw⟩ := h2 p hp
    obtain ⟨o, e, q⟩ := R.mem _ hm
    exact ⟨o, e, hw o q⟩
  · obtain ⟨P, hm, hw⟩ := h2 p hp
    exact R.fresh (p.1, P) hm
theorem W.wk {α : Type} {t : Sem α} {S' : Led} {Q : α → Led → Prop} (h : W prog w base n t S' Q) (hs : Wk S' S) : W prog w base n t S Q := .mk fun A s hA R => h.run A s hA (R.wk hs)
theorem WV.wk {t : Sem Value} {S' : Led} {Q : AV → Led → Prop} (h : WV prog w base n t S' Q) (hs : Wk S' S) : WV prog w base n t S Q := W.wk h hs
theorem Wk.ns {S' S : Led} {a : Addr} {m m' : NM} (h : Forget m' m) (k : Wk S' S) : Wk ((a, PNs m') :: S') ((a, PNs m) :: S) := .weak (PNs.forget h) k
theorem Wk.cell {S' S : Led} {a : Addr} {v : Option AV} (k : Wk S' S) : Wk ((a, PCell none) :: S') ((a, PCell v) :: S) := .weak PCell.forget k
end
end
section
open PySem PySem.W PyProof.Rows PySem.Calls PySem.Spec
set_option linter.all false
set_option maxRecDepth 100000

structure EnvOk (env : Env) (L : Addr) (ls : List Str) (cs fs : List (Str × Addr)) (gs : List Str) : Prop where
  kind : env.scope.kind = .function
  loc : env.locals = L
  glob : env.globals = mainGlobals
  blt : env.builtins = builtinsNs
  ls : ∀ x ∈ ls, env.kindOf x = some .local ∧ (x == ("__debug__" : Str)) = false
  cs : ∀ p ∈ cs, env.kindOf p.1 = some .cell ∧ env.cells.lookup p.1 = some p.2 ∧ (p.1 == ("__debug__" : Str)) = false
  fs : ∀ p ∈ fs, env.kindOf p.1 = some .free ∧ env.cells.lookup p.1 = some p.2 ∧ (p.1 == ("__debug__" : Str)) = false ∧ (p.1 == ("__classdict__" : Str)) = false
  gs : ∀ x ∈ gs, env.kindOf x = some .globalImplicit ∧ (x == ("__debug__" : Str)) = false

/-- what the top laid, as far as it is asked -/
structure TopIs (base : Heap) (gl : List (Str × AV)) (bl : List (Str × Value)) : Prop where
  g : ∃ mg, base.Ns mainGlobals mg ∧ (∀ p ∈ gl, ∃ v, mg p.1 = some v ∧ VR p.2 v) ∧ ∀ p ∈ bl, mg p.1 = none
  b : ∃ mb, base.Ns builtinsNs mb ∧ ∀ p ∈ bl, mb p.1 = some p.2
  lim : base.NoLimit

theorem Ns.keeps {h h' : Heap} {a : Addr} {m : Str → Option Value} (hn : h.Ns a m) (hk : ∀ b o, h.get? b = some o → h'.get? b = some o) : h'.Ns a m := by
  obtain ⟨o, es, ep, e, r⟩ := hn
  exact ⟨o, es, ep, hk _ _ e, r⟩

section
variable {prog : Program} {w : World} {base : Heap} {n : Nat} {S : Led} {env : Env} {L : Addr} {ls gs : List Str} {cs fs : List (Str × Addr)} {gl : List (Str × AV)} {bl : List (Str × Value)} {m : NM}

/-! names -/
theorem ld_loc {x : Str} {a : AV} {Q : AV → Led → Prop} (hE : EnvOk env L ls cs fs gs) (hl : x ∈ ls) (hS : (L, PNs m) ∈ S) (hm : (x, some a) ∈ m) (h : Q a S) : WV prog w base n (loadName env x) S Q := .mk fun A s hA R => by
  obtain ⟨_, f, hn, hf⟩ := R.ns hS
  obtain ⟨v, e, r⟩ := hf _ hm
  exact wpAny_loadName_local hE.kind (hE.ls x hl).1 (by rw [hE.loc]; exact hn) e (Post.self R ⟨a, r, h⟩)
theorem ev_loc {x : Str} {pos : Pos} {a : AV} {Q : AV → Led → Prop} (hE : EnvOk env L ls cs fs gs) (hl : x ∈ ls) (hS : (L, PNs m) ∈ S) (hm : (x, some a) ∈ m) (h : Q a S) : WV prog w base n (eval (.Name x pos) env) S Q :=
  .mk fun A s hA R => wpAny_Name ((ld_loc hE hl hS hm h).run A s hA R) (hE.ls x hl).2
theorem ev_cell {x : Str} {pos : Pos} {c : Addr} {a : AV} {Q : AV → Led → Prop} (hE : EnvOk env L ls cs fs gs) (hl : (x, c) ∈ cs) (hS : (c, PCell (some a)) ∈ S) (h : Q a S) : WV prog w base n (eval (.Name x pos) env) S Q := .mk fun A s hA R => by
  obtain ⟨o, e, u, hd, v, rfl, r⟩ := R.get hS
  have := hE.cs _ hl
  exact wpAny_Name (wpAny_loadName_cell hE.kind this.1 this.2.1 ⟨o, e, hd⟩ (Post.self R ⟨a, r, h⟩)) this.2.2
theorem ev_free {x : Str} {pos : Pos} {c : Addr} {a : AV} {Q : AV → Led → Prop} (hE : EnvOk env L ls cs fs gs) (hl : (x, c) ∈ fs) (hS : (c, PCell (some a)) ∈ S) (h : Q a S) : WV prog w base n (eval (.Name x pos) env) S Q := .mk fun A s hA R => by
  obtain ⟨o, e, u, hd, v, rfl, r⟩ := R.get hS
  have := hE.fs _ hl
  exact wpAny_Name (wpAny_loadName_free hE.kind this.1 this.2.1 ⟨o, e, hd⟩ (Post.self R ⟨a, r, h⟩) this.2.2.2) this.2.2.1
theorem ev_glob {x : Str} {pos : Pos} {v : AV} {Q : AV → Led → Prop} (hE : EnvOk env L ls cs fs gs) (T : TopIs base gl bl) (hl : x ∈ gs) (hg : (x, v) ∈ gl) (h : Q v S) : WV prog w base n (eval (.Name x pos) env) S Q := .mk fun A s hA R => by
  obtain ⟨mg, hn, hgl, _⟩ := T.g
  have := hE.gs _ hl
  obtain ⟨u, e, ru⟩ := hgl _ hg
  exact Name_function_global hE.kind this.1 (loadGlobal_global (by rw [hE.glob]; exact Ns.keeps hn R.keep) e (Post.self R ⟨v, ru, h⟩)) this.2
theorem ev_blt {x : Str} {pos : Pos} {v : Value} {Q : AV → Led → Prop} (hE : EnvOk env L ls cs fs gs) (T : TopIs base gl bl) (hl : x ∈ gs) (hg : (x, v) ∈ bl) (h : Q (.val v) S) : WV prog w base n (eval (.Name x pos) env) S Q := .mk fun A s hA R => by
  obtain ⟨mg, hn, _, hmiss⟩ := T.g
  obtain ⟨mb, hnb, hb⟩ := T.b
  have := hE.gs _ hl
  exact Name_function_global hE.kind this.1 (loadGlobal_builtin (by rw [hE.glob]; exact Ns.keeps hn R.keep) (hmiss _ hg) (by rw [hE.blt]; exact Ns.keeps hnb R.keep) (hb _ hg) (Post.self R ⟨.val v, rfl, h⟩)) this.2

theorem st_loc {x : Str} {a : AV} {v : Value} {m' : NM} {S' : Led} {Q : Unit → Led → Prop} (hE : EnvOk env L ls cs fs gs) (hl : x ∈ ls) (U : Upd S L (PNs m) (PNs m') S') (hm : SetN m x a m') (hv : VR a v) (h : Q () S') :
    W prog w base n (storeName env x v) S Q := .mk fun A s hA R => by
  obtain ⟨hd, f, hn, hf⟩ := R.ns U.memOld
  refine wpAny_storeName_local (hE.ls x hl).1 (by rw [hE.loc]; exact hn) (fun h' hn' hs' => ?_) (by rw [hE.kind]; rfl)
  rw [hE.loc] at hn' hs'
  exact ⟨S', h', _, rfl, R.update U hs' (PNs.of (by rw [hm.names]; exact hd) hn' (hm.ok hd hf hv)), h⟩
theorem st_cell {x : Str} {c : Addr} {a : AV} {v : Value} {b : Option AV} {S' : Led} {Q : Unit → Led → Prop} (hE : EnvOk env L ls cs fs gs) (hl : (x, c) ∈ cs) (U : Upd S c (PCell b) (PCell (some a)) S') (hv : VR a v) (h : Q () S') :
    W prog w base n (storeName env x v) S Q := .mk fun A s hA R => by
  obtain ⟨o, e, u, hd, _⟩ := R.get U.memOld
  have := hE.cs _ hl
  refine wpAny_storeName_cell hE.kind this.1 this.2.1 ⟨o, e, hd⟩ fun h' hc hs => ?_
  obtain ⟨o', e', hd'⟩ := hc
  exact ⟨S', h', s.toks, rfl, R.update U hs ⟨o', e', _, hd', v, rfl, hv⟩, h⟩

/-! expressions -/
theorem ev_int {i : Int} {k : Nat} {pos : Pos} {Q : AV → Led → Prop} (h : Q (.int i) S) : WV prog w base n (eval (.Constant (.int i) k pos) env) S Q := .mk fun _ _ _ R => wpAny_Constant_int (Post.tok R ⟨.int i, ⟨_, rfl⟩, h⟩)
theorem ev_str {x : Str} {k : Nat} {pos : Pos} {Q : AV → Led → Prop} (h : Q (.str x) S) : WV prog w base n (eval (.Constant (.str x) k pos) env) S Q := .mk fun _ _ _ R => wpAny_Constant_str (Post.tok R ⟨.str x, ⟨_, rfl⟩, h⟩)
theorem ev_bool {b : Bool} {k : Nat} {pos : Pos} {Q : AV → Led → Prop} (h : Q (.val (.bool b)) S) : WV prog w base n (eval (.Constant (.bool b) k pos) env) S Q := .mk fun _ _ _ R => wpAny_Constant_bool (Post.self R ⟨.val (.bool b), rfl, h⟩)
theorem ev_none {k : Nat} {pos : Pos} {Q : AV → Led → Prop} (h : Q (.val .none) S) : WV prog w base n (eval (.Constant .none k pos) env) S Q := .mk fun _ _ _ R => wpAny_Constant_none (Post.self R ⟨.val .none, rfl, h⟩)

/-- an operation on values, for all values that stand for the two -/
noncomputable def L2 (prog : Program) (w : World) (base : Heap) (n : Nat) (f : Value → Value → Sem Value) (a b : AV) (S : Led) (Q : AV → Led → Prop) : Prop := ∀ va vb, VR a va → VR b vb → WV prog w base n (f va vb) S Q
noncomputable def L1 (prog : Program) (w : World) (base : Heap) (n : Nat) (f : Value → Sem Value) (a : AV) (S : Led) (Q : AV → Led → Prop) : Prop := ∀ va, VR a va → WV prog w base n (f va) S Q
noncomputable def T1 (prog : Program) (w : World) (base : Heap) (n : Nat) (a : AV) (S : Led) (Q : Bool → Led → Prop) : Prop := ∀ va, VR a va → W prog w base n (truthy va) S Q

theorem WV.then {α : Type} {t : Sem Value} {f : Value → Sem α} {Q : α → Led → Prop} {A : Around} {s : Shared} (h : WV prog w base n t S (fun a S₁ => ∀ v, VR a v → W prog w base n (f v) S₁ Q)) (hA : AOk A n) (R : Rep base S s.heap) :
    wpAny (model prog w) A t (fun v s₁ => wpAny (model prog w) A (f v) (Post base Q s) NoE s₁) NoE s :=
  wpAny_mono (h.run A s hA R) (fun v s₁ p => (p.mono (fun _ ⟨_, r, q⟩ => q v r)).go hA) fun _ _ x => x

theorem ev_BinOp {l r : Expr} {op : Operator} {pos : Pos} {Q : AV → Led → Prop} (h : WV prog w base n (eval l env) S (fun a S₁ => WV prog w base n (eval r env) S₁ (fun b S₂ => L2 prog w base n (binaryOp op) a b S₂ Q))) :
    WV prog w base n (eval (.BinOp l op r pos) env) S Q := .mk fun A s hA R =>
  wpAny_BinOp (wpAny_mono (h.run A s hA R) (fun va s₁ p => by
    obtain ⟨S₁, h₁, k₁, rfl, R₁, a, ra, q⟩ := p
    refine wpAny_mono (q.run A _ hA R₁) (fun vb s₂ p => ?_) fun _ _ x => x
    obtain ⟨S₂, h₂, k₂, rfl, R₂, b, rb, q⟩ := p
    exact wpAny_mono ((q va vb ra rb).run A _ hA R₂) (fun v s₃ ⟨S₃, h₃, k₃, e, R₃, q₃⟩ => ⟨S₃, h₃, k₃, by rw [e], R₃, q₃⟩) fun _ _ x => x) fun _ _ x => x)
theorem ev_Compare {l r : Expr} {op : CmpOp} {pos : Pos} {Q : AV → Led → Prop} (h : WV prog w base n (eval l env) S (fun a S₁ => WV prog w base n (eval r env) S₁ (fun b S₂ => L2 prog w base n (compareOp op) a b S₂ Q)))
    (hm : behindInMarks op r = false := by with_unfolding_all rfl) : WV prog w base n (eval (.Compare l [op] [r] pos) env) S Q := .mk fun A s hA R =>
  wpAny_Compare1 (wpAny_mono (h.run A s hA R) (fun va s₁ p => by
    obtain ⟨S₁, h₁, k₁, rfl, R₁, a, ra, q⟩ := p
    refine wpAny_mono (q.run A _ hA R₁) (fun vb s₂ p => ?_) fun _ _ x => x
    obtain ⟨S₂, h₂, k₂, rfl, R₂, b, rb, q⟩ := p
    exact wpAny_mono ((q va vb ra rb).run A _ hA R₂) (fun v s₃ ⟨S₃, h₃, k₃, e, R₃, q₃⟩ => ⟨S₃, h₃, k₃, by rw [e], R₃, q₃⟩) fun _ _ x => x) fun _ _ x => x) hm
theorem ev_Unary {x : Expr} {op : UnaryOp} {pos : Pos} {Q : AV → Led → Prop} (h : WV prog w base n (eval x env) S (fun a S₁ => L1 prog w base n (unaryOp op) a S₁ Q)) : WV prog w base n (eval (.UnaryOp op x pos) env) S Q := .mk fun A s hA R =>
  wpAny_UnaryOp (WV.then h hA R)

/-- a test: the tree is a plain if's -/
noncomputable def WT (prog : Program) (w : World) (base : Heap) (n : Nat) (e : Expr) (env : Env) (S : Led) (Q : Bool → Led → Prop) : Prop := W prog w base n (isTrue e env (eval e env)) S Q

theorem t_Compare {l r : Expr} {op : CmpOp} {pos : Pos} {Q : Bool → Led → Prop} (h : WV prog w base n (eval l env) S (fun a S₁ => WV prog w base n (eval r env) S₁ (fun b S₂ => L2 prog w base n (compareOp op) a b S₂ (fun c S₃ => T1 prog w base n c S₃ Q))))
    (hm : behindInMarks op r = false := by with_unfolding_all rfl) : WT prog w base n (.Compare l [op] [r] pos) env S Q := .mk fun A s hA R =>
  wpAny_isTrue_Compare1 (wpAny_mono (h.run A s hA R) (fun va s₁ p => by
    obtain ⟨S₁, h₁, k₁, rfl, R₁, a, ra, q⟩ := p
    refine wpAny_mono (q.run A _ hA R₁) (fun vb s₂ p => ?_) fun _ _ x => x
    obtain ⟨S₂, h₂, k₂, rfl, R₂, b, rb, q⟩ := p
    refine wpAny_mono ((q va vb ra rb).run A _ hA R₂) (fun vc s₃ p => ?_) fun _ _ x => x
    obtain ⟨S₃, h₃, k₃, rfl, R₃, c, rc, q⟩ := p
    exact wpAny_mono ((q vc rc).run A _ hA R₃) (fun v s₄ ⟨S₄, h₄, k₄, e, R₄, q₄⟩ => ⟨S₄, h₄, k₄, by rw [e], R₄, q₄⟩) fun _ _ x => x) fun _ _ x => x) hm
theorem t_Not {x : Expr} {pos : Pos} {Q : Bool → Led → Prop} (h : WT prog w base n x env S (fun b => Q (!b))) : WT prog w base n (.UnaryOp .Not x pos) env S Q := .mk fun A s hA R =>
  wpAny_isTrue_Not (wpAny_mono (h.run A s hA R) (fun _ _ p => p) fun _ _ x => x)
theorem t_And {x y : Expr} {pos : Pos} {Q : Bool → Led → Prop} (h : WT prog w base n x env S (fun b S₁ => if b then WT prog w base n y env S₁ Q else Q false S₁)) : WT prog w base n (.BoolOp .And [x, y] pos) env S Q := .mk fun A s hA R => by
  refine wpAny_isTrue_BoolOp (wpAny_allTrue_And_cons (wpAny_mono (h.run A s hA R) (fun b s₁ p => ?_) fun _ _ x => x))
  obtain ⟨S₁, h₁, k₁, rfl, R₁, q⟩ := p
  cases b with
  | false => exact ⟨S₁, h₁, k₁, rfl, R₁, q⟩
  | true =>
    refine wpAny_allTrue_And_cons (wpAny_mono (q.run A _ hA R₁) (fun b s₂ p => ?_) fun _ _ x => x)
    obtain ⟨S₂, h₂, k₂, rfl, R₂, q⟩ := p
    cases b with
    | false => exact ⟨S₂, h₂, k₂, rfl, R₂, q⟩
    | true => exact wpAny_allTrue_And_nil ⟨S₂, h₂, k₂, rfl, R₂, q⟩
theorem w_Or_nil {Q : Bool → Led → Prop} (h : Q false S) : W prog w base n (allTrue .Or [] env) S Q := .mk fun _ _ _ R => wpAny_allTrue_Or_nil (Post.self R h)
theorem w_Or_cons {x : Expr} {r : List Expr} {Q : Bool → Led → Prop} (h : WT prog w base n x env S (fun b S₁ => if b then Q true S₁ else W prog w base n (allTrue .Or r env) S₁ Q)) : W prog w base n (allTrue .Or (x :: r) env) S Q := .mk fun A s hA R => by
  refine wpAny_allTrue_Or_cons (wpAny_mono (h.run A s hA R) (fun b s₁ p => ?_) fun _ _ x => x)
  obtain ⟨S₁, h₁, k₁, rfl, R₁, q⟩ := p
  cases b with
  | true => exact ⟨S₁, h₁, k₁, rfl, R₁, q⟩
  | false => exact wpAny_mono (q.run A _ hA R₁) (fun v s₄ ⟨S₄, h₄, k₄, e, R₄, q₄⟩ => ⟨S₄, h₄, k₄, by rw [e], R₄, q₄⟩) fun _ _ x => x
theorem t_Or {vs : List Expr} {pos : Pos} {Q : Bool → Led → Prop} (h : W prog w base n (allTrue .Or vs env) S Q) : WT prog w base n (.BoolOp .Or vs pos) env S Q := .mk fun A s hA R => wpAny_isTrue_BoolOp (h.run A s hA R)
theorem t_val {e : Expr} {Q : Bool → Led → Prop} (h : WV prog w base n (eval e env) S (fun a S₁ => T1 prog w base n a S₁ Q))
    (he : isTrue e env (eval e env) = (do let v ← eval e env; PySem.standAt e.pos; PySem.holding [v] (truthy v)) := by rfl) : WT prog w base n e env S Q := .mk fun A s hA R => wpAny_isTrue_value (WV.then h hA R) he
theorem T1.bool {b : Bool} {Q : Bool → Led → Prop} (h : Q b S) : T1 prog w base n (.val (.bool b)) S Q := fun va r => by
  rw [show va = .bool b from r]; exact .mk fun _ _ _ R => wpAny_truthy_bool (Post.self R h)

theorem ev_IfExp {t b o : Expr} {pos : Pos} {Q : AV → Led → Prop} (h : WT prog w base n t env S (fun c S₁ => if c then WV prog w base n (eval b env) S₁ Q else WV prog w base n (eval o env) S₁ Q)) : WV prog w base n (eval (.IfExp t b o pos) env) S Q := .mk fun A s hA R => by
  refine wpAny_IfExp (wpAny_mono (h.run A s hA R) (fun c s₁ p => ?_) fun _ _ x => x)
  obtain ⟨S₁, h₁, k₁, rfl, R₁, q⟩ := p
  cases c with
  | true => exact wpAny_mono (q.run A _ hA R₁) (fun v s₄ ⟨S₄, h₄, k₄, e, R₄, q₄⟩ => ⟨S₄, h₄, k₄, by rw [e], R₄, q₄⟩) fun _ _ x => x
  | false => exact wpAny_mono (q.run A _ hA R₁) (fun v s₄ ⟨S₄, h₄, k₄, e, R₄, q₄⟩ => ⟨S₄, h₄, k₄, by rw [e], R₄, q₄⟩) fun _ _ x => x

/-! statements -/
noncomputable abbrev FQ := Flow → Led → Prop
theorem x_nil {Q : FQ} (h : Q .next S) : W prog w base n (execs [] env) S Q := .mk fun _ _ _ R => wpAny_execs_nil (Post.self R h)
/-- what a statement owes the rest of its block -/
@[reducible] noncomputable def Sq (prog : Program) (w : World) (base : Heap) (n : Nat) (r : List Stmt) (env : Env) (Q : FQ) : FQ := fun f S₁ => match f with | .next => W prog w base n (execs r env) S₁ Q | f => Q f S₁
theorem x_cons {st : Stmt} {r : List Stmt} {Q : FQ} (h : W prog w base n (exec st env) S (Sq prog w base n r env Q)) : W prog w base n (execs (st :: r) env) S Q := .mk fun A s hA R => by
  refine wpAny_execs_cons (wpAny_mono (h.run A s hA R) (fun f s₁ p => ?_) fun _ _ x => x)
  obtain ⟨S₁, h₁, k₁, rfl, R₁, q⟩ := p
  cases f with
  | next => exact wpAny_mono (q.run A _ hA R₁) (fun v s₄ ⟨S₄, h₄, k₄, e, R₄, q₄⟩ => ⟨S₄, h₄, k₄, by rw [e], R₄, q₄⟩) fun _ _ x => x
  | brk => exact ⟨S₁, h₁, k₁, rfl, R₁, q⟩
  | cont => exact ⟨S₁, h₁, k₁, rfl, R₁, q⟩
  | ret v => exact ⟨S₁, h₁, k₁, rfl, R₁, q⟩
theorem x_If {t : Expr} {b o : List Stmt} {pos : Pos} {Q : FQ} (h : WT prog w base n t env S (fun c S₁ => if c then W prog w base n (execs b env) S₁ Q else W prog w base n (execs o env) S₁ Q)) : W prog w base n (exec (.If t b o pos) env) S Q := .mk fun A s hA R => by
  refine wpAny_If (wpAny_mono (h.run A s hA R) (fun c s₁ p => ?_) fun _ _ x => x)
  obtain ⟨S₁, h₁, k₁, rfl, R₁, q⟩ := p
  cases c with
  | true => exact wpAny_mono (q.run A _ hA R₁) (fun v s₄ ⟨S₄, h₄, k₄, e, R₄, q₄⟩ => ⟨S₄, h₄, k₄, by rw [e], R₄, q₄⟩) fun _ _ x => x
  | false => exact wpAny_mono (q.run A _ hA R₁) (fun v s₄ ⟨S₄, h₄, k₄, e, R₄, q₄⟩ => ⟨S₄, h₄, k₄, by rw [e], R₄, q₄⟩) fun _ _ x => x
/-- what a block gives back: the value hidden -/
noncomputable def RetQ (Q : AV → Led → Prop) : FQ := fun f S => match f with | .ret v => ∃ a, VR a v ∧ Q a S | _ => False
theorem x_Ret {e : Expr} {pos : Pos} {Q : FQ} (h : WV prog w base n (eval e env) S (fun a S₁ => ∀ v, VR a v → Q (.ret v) S₁)) : W prog w base n (exec (.Return (some e) pos) env) S Q := .mk fun A s hA R =>
  wpAny_Return_some (wpAny_mono (h.run A s hA R) (fun v s₁ p => p.mono fun _ ⟨_, r, q⟩ => q v r) fun _ _ x => x)
theorem x_Break {pos : Pos} {Q : FQ} (h : Q .brk S) : W prog w base n (exec (.Break pos) env) S Q := .mk fun _ _ _ R => wpAny_Break (Post.self R h)
theorem x_Continue {pos : Pos} {Q : FQ} (h : Q .cont S) : W prog w base n (exec (.Continue pos) env) S Q := .mk fun _ _ _ R => wpAny_Continue (Post.self R h)
theorem x_Pass {pos : Pos} {Q : FQ} (h : Q .next S) : W prog w base n (exec (.Pass pos) env) S Q := .mk fun _ _ _ R => wpAny_Pass (Post.self R h)
theorem x_Assert {t : Expr} {msg : Option Expr} {pos : Pos} {Q : FQ} (h : WT prog w base n t env S (fun c S₁ => c = true ∧ Q .next S₁)) : W prog w base n (exec (.Assert t msg pos) env) S Q := .mk fun A s hA R =>
  wpAny_Assert_holds (wpAny_mono (h.run A s hA R) (fun c s₁ ⟨S₁, h₁, k₁, e, R₁, q⟩ => ⟨q.1, S₁, h₁, k₁, e, R₁, q.2⟩) fun _ _ x => x)
theorem x_Expr {e : Expr} {pos : Pos} {Q : FQ} (hE : EnvOk env L ls cs fs gs) (h : WV prog w base n (eval e env) S (fun _ S₁ => Q .next S₁)) (hs : swapsWith e none pos.line env = pure false := by rfl) : W prog w base n (exec (.Expr e pos) env) S Q := .mk fun A s hA R =>
  wpAny_Expr_any (wpAny_mono (h.run A s hA R) (fun v s₁ p => by obtain ⟨S₁, h₁, k₁, e, R₁, _, _, q⟩ := p; exact ⟨S₁, h₁, k₁, e, R₁, q⟩) fun _ _ x => x) (by unfold interactive; rw [hE.kind]; rfl) hs
theorem x_AssignName {x : Str} {p' pos : Pos} {e : Expr} {Q : FQ} (h : WV prog w base n (eval e env) S (fun a S₁ => ∀ v, VR a v → W prog w base n (storeName env x v) S₁ (fun _ => Q .next))) (hs : swapsWith e (some (.Name x p')) pos.line env = pure false := by rfl) :
    W prog w base n (exec (.Assign [.Name x p'] e pos) env) S Q := .mk fun A s hA R => by
  refine wpAny_Assign_Name (wpAny_mono (h.run A s hA R) (fun v s₁ p => ?_) fun _ _ x => x) hs
  obtain ⟨S₁, h₁, k₁, rfl, R₁, a, r, q⟩ := p
  exact wpAny_mono ((q v r).run A _ hA R₁) (fun v s₄ ⟨S₄, h₄, k₄, e, R₄, q₄⟩ => ⟨S₄, h₄, k₄, by rw [e], R₄, q₄⟩) fun _ _ x => x
theorem x_AugName {x : Str} {p' pos : Pos} {op : Operator} {e : Expr} {Q : FQ} (h : WV prog w base n (loadName env x) S (fun a S₁ => WV prog w base n (eval e env) S₁ (fun b S₂ => L2 prog w base n (inplaceOp op) a b S₂ (fun c S₃ => ∀ v, VR c v → W prog w base n (storeName env x v) S₃ (fun _ => Q .next))))) :
    W prog w base n (exec (.AugAssign (.Name x p') op e pos) env) S Q := .mk fun A s hA R =>
  wpAny_AugAssign_Name (wpAny_mono (h.run A s hA R) (fun va s₁ p => by
    obtain ⟨S₁, h₁, k₁, rfl, R₁, a, ra, q⟩ := p
    refine wpAny_mono (q.run A _ hA R₁) (fun vb s₂ p => ?_) fun _ _ x => x
    obtain ⟨S₂, h₂, k₂, rfl, R₂, b, rb, q⟩ := p
    refine wpAny_mono ((q va vb ra rb).run A _ hA R₂) (fun vc s₃ p => ?_) fun _ _ x => x
    obtain ⟨S₃, h₃, k₃, rfl, R₃, c, rc, q⟩ := p
    exact wpAny_mono ((q vc rc).run A _ hA R₃) (fun v s₄ ⟨S₄, h₄, k₄, e, R₄, q₄⟩ => ⟨S₄, h₄, k₄, by rw [e], R₄, q₄⟩) fun _ _ x => x) fun _ _ x => x)
theorem x_AssignSub {o i e : Expr} {p' pos : Pos} {Q : FQ} (h : WV prog w base n (eval e env) S (fun c S₁ => WV prog w base n (eval o env) S₁ (fun a S₂ => WV prog w base n (eval i env) S₂ (fun b S₃ => ∀ vc va vb, VR c vc → VR a va → VR b vb → W prog w base n (setItem va vb vc) S₃ (fun _ => Q .next)))))
    (hs : swapsWith e (some (.Subscript o i p')) pos.line env = pure false := by rfl) : W prog w base n (exec (.Assign [.Subscript o i p'] e pos) env) S Q := .mk fun A s hA R =>
  wpAny_Assign_Subscript (wpAny_mono (h.run A s hA R) (fun vc s₁ p => by
    obtain ⟨S₁, h₁, k₁, rfl, R₁, c, rc, q⟩ := p
    refine wpAny_mono (q.run A _ hA R₁) (fun va s₂ p => ?_) fun _ _ x => x
    obtain ⟨S₂, h₂, k₂, rfl, R₂, a, ra, q⟩ := p
    refine wpAny_mono (q.run A _ hA R₂) (fun vb s₃ p => ?_) fun _ _ x => x
    obtain ⟨S₃, h₃, k₃, rfl, R₃, b, rb, q⟩ := p
    exact wpAny_mono ((q vc va vb rc ra rb).run A _ hA R₃) (fun v s₄ ⟨S₄, h₄, k₄, e, R₄, q₄⟩ => ⟨S₄, h₄, k₄, by rw [e], R₄, q₄⟩) fun _ _ x => x) fun _ _ x => x) hs

/-! several arguments -/
noncomputable def WVs (prog : Program) (w : World) (base : Heap) (n : Nat) (pos : Pos) (es : List Expr) (env : Env) (S : Led) (Q : List AV → Led → Prop) : Prop :=
  W prog w base n (spliced (backTo pos (starEach es env))) S fun vs S' => ∃ as, VRs as vs ∧ Q as S'
theorem vs_nil {pos : Pos} {Q : List AV → Led → Prop} (h : Q [] S) : WVs prog w base n pos [] env S Q := .mk fun _ _ _ R => wpAny_pure (Post.self R ⟨[], rfl, h⟩)
theorem vs_cons {pos : Pos} {e : Expr} {r : List Expr} {Q : List AV → Led → Prop} (h : WV prog w base n (eval e env) S (fun a S₁ => WVs prog w base n pos r env S₁ (fun as S₂ => Q (a :: as) S₂)))
    (he : starEach (e :: r) env = (false, eval e env) :: starEach r env := by rfl) : WVs prog w base n pos (e :: r) env S Q := .mk fun A s hA R => by
  rw [he]
  show wpAny _ _ (spliced ((false, eval e env) :: backTo pos (starEach r env))) _ _ s
  unfold spliced
  refine wpAny_bind (wpAny_mono (h.run A s hA R) (fun v s₁ p => ?_) fun _ _ x => x)
  obtain ⟨S₁, h₁, k₁, rfl, R₁, a, ra, q⟩ := p
  refine wpAny_bind (wpAny_pure ?_)
  refine wpAny_bind (wpAny_holding (wpAny_mono (q.run A _ hA R₁) (fun vs s₂ p => ?_) fun _ _ x => x))
  obtain ⟨S₂, h₂, k₂, rfl, R₂, as, ras, q⟩ := p
  exact wpAny_pure ⟨S₂, h₂, k₂, rfl, R₂, a :: as, ⟨v, vs, rfl, ra, ras⟩, q⟩
theorem ev_List {es : List Expr} {pos : Pos} {Q : AV → Led → Prop} (h : WVs prog w base n pos es env S (fun as S₁ => as.length ≤ 1000 ∧ ∀ l, Q (.val (.ref l)) ((l, PList as) :: S₁))) : WV prog w base n (eval (.List es pos) env) S Q := .mk fun A s hA R => by
  refine wpAny_List (wpAny_mono (h.run A s hA R) (fun vs s₁ p => ?_) fun _ _ x => x)
  obtain ⟨S₁, h₁, k₁, rfl, R₁, as, ras, hlen, q⟩ := p
  refine ⟨?_, _, _, _, rfl, R₁.push (P := PList as) ⟨vs, _, rfl, ras⟩, .val (.ref _), rfl, q _⟩
  have := ras.length
  rw [sizeLine_eq]; lia
theorem ev_Tuple {es : List Expr} {k : Nat} {pos : Pos} {Q : AV → Led → Prop} (h : WVs prog w base n pos es env S (fun as S₁ => as.length ≤ 1000 ∧ ∀ l, Q (.val (.ref l)) ((l, PTup as) :: S₁))) : WV prog w base n (eval (.Tuple es k pos) env) S Q := .mk fun A s hA R => by
  refine wpAny_Tuple (wpAny_mono (h.run A s hA R) (fun vs s₁ p => ?_) fun _ _ x => x)
  obtain ⟨S₁, h₁, k₁, rfl, R₁, as, ras, hlen, q⟩ := p
  refine ⟨?_, _, _, _, rfl, R₁.push (P := PTup as) ⟨vs, _, rfl, ras⟩, .val (.ref _), rfl, q _⟩
  have := ras.length
  rw [sizeLine_eq]; lia
end
end
section
open PySem PySem.W PyProof.Rows PySem.Calls PySem.Spec
set_option linter.all false
set_option maxRecDepth 100000
section
variable {prog : Program} {w : World} {base : Heap} {n : Nat} {S : Led} {env : Env} {L : Addr} {ls gs : List Str} {cs fs : List (Str × Addr)} {gl : List (Str × AV)} {bl : List (Str × Value)} {m : NM}

theorem Post.wrap {α : Type} {Q : α → Led → Prop} {s s₁ : Shared} {h₁ : Heap} {k₁ : Nat} {a : α} {s' : Shared} (e : s₁ = { s with heap := h₁, toks := k₁ }) (p : Post base Q s₁ a s') : Post base Q s a s' := by
  subst e
  obtain ⟨S', h', k', e, R, q⟩ := p
  exact ⟨S', h', k', e, R, q⟩
theorem W.at {α : Type} {t : Sem α} {Q : α → Led → Prop} {A : Around} {s s₁ : Shared} {h₁ : Heap} {k₁ : Nat} {E : Value → Shared → Prop} (h : W prog w base n t S Q) (hA : AOk A n) (e : s₁ = { s with heap := h₁, toks := k₁ }) (R : Rep base S h₁) :
    wpAny (model prog w) A t (Post base Q s) E s₁ := by
  subst e
  exact wpAny_mono (h.run A _ hA R) (fun _ _ p => p.wrap rfl) fun _ _ x => x.elim

/-- a code's run -/
structure WC (prog : Program) (w : World) (base : Heap) (n : Nat) (c : Code) (S : Led) (Q : FQ) : Prop where
  run : ∀ A s, AOk A n → Rep base S s.heap → codeAny (model prog w) A c (fun r s' => match r with | .ok f => Post base Q s f s' | .error _ => False) s

/-- what a loop's body owes the loop -/
@[reducible] noncomputable def Lp (I : Led → Prop) (Q : FQ) : FQ := fun f S₄ => match f with
  | .next | .cont => I S₄
  | .brk => Q .next S₄
  | .ret v => Q (.ret v) S₄
inductive Les (Inv : Nat → Led → Prop) (k : Nat) (S₄ : Led) : Prop
  | mk (m : Nat) (hm : m < k) (S₅ : Led) (hw : Wk S₅ S₄) (hI : Inv m S₅) : Les Inv k S₄
theorem wc_for {target : Expr} {it : Value} {body orelse : List Stmt} {Q : FQ} (Inv : Nat → Led → Prop)
    (turn : ∀ k S, Inv k S → W prog w base n (pyNext it) S (fun r S₁ => match r with
      | none => W prog w base n (execs orelse env) S₁ Q
      | some v => W prog w base n (letOwnedTupleGo target it v) S₁ (fun _ S₂ => W prog w base n (assign target env v) S₂ (fun _ S₃ => W prog w base n (execs body env) S₃ (Lp (Les Inv k) Q)))))
    (k : Nat) (h : Inv k S) : WC prog w base n (.forLoop target it body orelse env) S Q := .mk fun A s hA R => by
  refine codeAny_forLoop_any (fun k s' => Post base (fun (_ : Unit) S' => Inv k S') s () s') (fun k s₀ hI => ?_) k (Post.self R h)
  obtain ⟨S₀, h₀, k₀, e₀, R₀, hI⟩ := hI
  refine wpAny_mono ((turn k S₀ hI).at hA e₀ R₀ (E := NoE)) (fun r s₁ p => ?_) fun _ _ x => x.elim
  obtain ⟨S₁, h₁, k₁, e₁, R₁, q⟩ := p
  cases r with
  | none => exact (q.at hA e₁ R₁)
  | some v =>
    refine wpAny_mono (q.at hA e₁ R₁ (E := NoE)) (fun _ s₂ p => ?_) fun _ _ x => x.elim
    obtain ⟨S₂, h₂, k₂, e₂, R₂, q⟩ := p
    refine wpAny_mono (q.at hA e₂ R₂ (E := NoE)) (fun _ s₃ p => ?_) fun _ _ x => x.elim
    obtain ⟨S₃, h₃, k₃, e₃, R₃, q⟩ := p
    refine wpAny_mono (q.at hA e₃ R₃ (E := NoE)) (fun f s₄ p => ?_) fun _ _ x => x.elim
    obtain ⟨S₄, h₄, k₄, e₄, R₄, q⟩ := p
    cases f with
    | next => obtain ⟨m, hm, S₅, hs, hI⟩ := q; exact ⟨m, hm, S₅, h₄, k₄, e₄, R₄.wk hs, hI⟩
    | cont => obtain ⟨m, hm, S₅, hs, hI⟩ := q; exact ⟨m, hm, S₅, h₄, k₄, e₄, R₄.wk hs, hI⟩
    | brk => exact ⟨S₄, h₄, k₄, e₄, R₄, q⟩
    | ret v => exact ⟨S₄, h₄, k₄, e₄, R₄, q⟩

theorem wc_while {test : Expr} {body orelse : List Stmt} {Q : FQ} (Inv : Nat → Led → Prop)
    (turn : ∀ k S, Inv k S → WT prog w base n test env S (fun b S₁ => if b then W prog w base n (execs body env) S₁ (Lp (Les Inv k) Q) else W prog w base n (execs orelse env) S₁ Q))
    (k : Nat) (h : Inv k S) : WC prog w base n (.whileLoop test body orelse env) S Q := .mk fun A s hA R => by
  refine codeAny_whileLoop (fun k s' => Post base (fun (_ : Unit) S' => Inv k S') s () s') (fun k s₀ hI => ?_) k (Post.self R h)
  obtain ⟨S₀, h₀, k₀, e₀, R₀, hI⟩ := hI
  refine wpAny_mono ((turn k S₀ hI).at hA e₀ R₀ (E := NoE)) (fun b s₁ p => ?_) fun _ _ x => x.elim
  obtain ⟨S₁, h₁, k₁, e₁, R₁, q⟩ := p
  cases b with
  | false => exact (q.at hA e₁ R₁)
  | true =>
    refine wpAny_mono (q.at hA e₁ R₁ (E := NoE)) (fun f s₄ p => ?_) fun _ _ x => x.elim
    obtain ⟨S₄, h₄, k₄, e₄, R₄, q⟩ := p
    cases f with
    | next => obtain ⟨m, hm, S₅, hs, hI⟩ := q; exact ⟨m, hm, S₅, h₄, k₄, e₄, R₄.wk hs, hI⟩
    | cont => obtain ⟨m, hm, S₅, hs, hI⟩ := q; exact ⟨m, hm, S₅, h₄, k₄, e₄, R₄.wk hs, hI⟩
    | brk => exact ⟨S₄, h₄, k₄, e₄, R₄, q⟩
    | ret v => exact ⟨S₄, h₄, k₄, e₄, R₄, q⟩

theorem x_For {target iter : Expr} {body orelse : List Stmt} {pos : Pos} {Q : FQ}
    (h : WV prog w base n (eval iter env) S (fun x S₁ => L1 prog w base n pyIter x S₁ (fun it S₂ => ∀ v, VR it v → WC prog w base n (.forLoop target v body orelse env) S₂ Q)))
    (hs : ∀ x, foldedSetIterable iter env x = pure x := by intro _; rfl) : W prog w base n (exec (.For target iter body orelse pos) env) S Q := .mk fun A s hA R => by
  refine wpAny_For (wpAny_mono (h.run A s hA R) (fun x s₁ p => ?_) fun _ _ x => x) hs
  obtain ⟨S₁, h₁, k₁, rfl, R₁, a, ra, q⟩ := p
  refine wpAny_mono ((q x ra).run A _ hA R₁) (fun v s₂ p => ?_) fun _ _ x => x
  obtain ⟨S₂, h₂, k₂, rfl, R₂, a, ra, q⟩ := p
  refine codeAny_mono ((q v ra).run A _ hA R₂) fun r s' p => ?_
  cases r with
  | ok f => exact p.wrap rfl
  | error e => exact p.elim
theorem x_While {test : Expr} {body orelse : List Stmt} {pos : Pos} {Q : FQ} (h : WC prog w base n (.whileLoop test body orelse env) S Q) : W prog w base n (exec (.While test body orelse pos) env) S Q := .mk fun A s hA R => by
  refine wpAny_While (codeAny_mono (h.run A s hA R) fun r s' p => ?_)
  cases r with
  | ok f => exact p
  | error e => exact p.elim

/-! iterators -/
noncomputable def PRange (a b c : Int) : OP := fun o => ∃ t u v, o = { cls := .type "range", dict := none, data := .fields #[.int a t, .int b u, .int c v], slots := #[] }
noncomputable def PRIter (x left step : Int) : OP := fun o => o = { cls := .type "range_iterator", dict := none, data := .fields #[rawInt x, rawInt left, rawInt step], slots := #[] }
noncomputable def PTIter (t : Addr) (i : Nat) : OP := fun o => o.cls = .type "tuple_iterator" ∧ o.data = .fields #[.ref t, .int i 0]

theorem l1_ref {f : Value → Sem Value} {v : Value} {Q : AV → Led → Prop} (h : WV prog w base n (f v) S Q) : L1 prog w base n f (.val v) S Q := fun va r => by rw [show va = v from r]; exact h
theorem it_list {l : Addr} {xs : List AV} {Q : AV → Led → Prop} (hm : (l, PList xs) ∈ S) (h : ∀ it, Q (.val (.ref it)) ((it, PLIter l 0) :: S)) : L1 prog w base n pyIter (.val (.ref l)) S Q := l1_ref <| .mk fun A s hA R => by
  obtain ⟨vs, hl, _⟩ := R.list hm
  exact wpAny_pyIter_list hl ⟨_, _, s.toks, rfl, R.push (P := PLIter l 0) ⟨rfl, rfl⟩, .val (.ref _), rfl, h _⟩
theorem it_tuple {l : Addr} {xs : List AV} {Q : AV → Led → Prop} (hm : (l, PTup xs) ∈ S) (h : ∀ it, Q (.val (.ref it)) ((it, PTIter l 0) :: S)) : L1 prog w base n pyIter (.val (.ref l)) S Q := l1_ref <| .mk fun A s hA R => by
  obtain ⟨vs, hl, _⟩ := R.tuple hm
  exact wpAny_pyIter_tuple hl ⟨_, _, s.toks, rfl, R.push (P := PTIter l 0) ⟨rfl, rfl⟩, .val (.ref _), rfl, h _⟩
theorem it_range {l : Addr} {a b c : Int} {Q : AV → Led → Prop} (hm : (l, PRange a b c) ∈ S) (hs : Builtin.Range.small a b c = true) (h : ∀ it, Q (.val (.ref it)) ((it, PRIter a (Builtin.Range.rangeSize a b c) c) :: S)) : L1 prog w base n pyIter (.val (.ref l)) S Q := l1_ref <| .mk fun A s hA R => by
  obtain ⟨o, e, t, u, v, rfl⟩ := R.get hm
  exact wpAny_pyIter_range e hs ⟨_, _, s.toks, rfl, R.push (P := PRIter a (Builtin.Range.rangeSize a b c) c) rfl, .val (.ref _), rfl, h _⟩
theorem it_liter {it l : Addr} {i : Nat} {Q : AV → Led → Prop} (hm : (it, PLIter l i) ∈ S) (h : Q (.val (.ref it)) S) : L1 prog w base n pyIter (.val (.ref it)) S Q := l1_ref <| .mk fun A s hA R => by
  obtain ⟨o, e, h1, h2⟩ := R.get hm
  exact wpAny_pyIter_listiter ⟨o, e, h1, h2⟩ (Post.self R ⟨.val (.ref it), rfl, h⟩)
theorem it_riter {it : Addr} {x left step : Int} {Q : AV → Led → Prop} (hm : (it, PRIter x left step) ∈ S) (h : Q (.val (.ref it)) S) : L1 prog w base n pyIter (.val (.ref it)) S Q := l1_ref <| .mk fun A s hA R => by
  obtain ⟨o, e, rfl⟩ := R.get hm
  exact wpAny_pyIter_rangeiter e (Post.self R ⟨.val (.ref it), rfl, h⟩)

theorem extBut_keep {h h' : Heap} {a : Addr} (x : Heap.ExtBut a h h') {b : Addr} {o : Obj} (hb : b ≠ a) (e : h.get? b = some o) : h'.get? b = some o := x b o hb e
theorem Rep.extBut {h h' : Heap} {a : Addr} {P : OP} {S₁ S₂ : Led} (R : Rep base (S₁ ++ (a, P) :: S₂) h) (x : Heap.ExtBut a h h') : Rep base (S₁ ++ S₂) h' := by
  have hn := R.nodup
  simp only [List.map_append, List.map_cons] at hn
  have hne : ∀ p ∈ S₁ ++ S₂, p.1 ≠ a := fun p hp q => by
    have hn' := List.perm_middle.nodup_iff.mp hn
    rw [List.nodup_cons] at hn'
    refine hn'.1 ?_
    rw [← List.map_append, ← q]
    exact List.mem_map_of_mem (f := (·.1)) hp
  have hsub : (S₁ ++ S₂).Sublist (S₁ ++ (a, P) :: S₂) := List.Sublist.append (List.Sublist.refl _) (List.sublist_cons_self _ _)
  have R' := R.drop hsub
  refine ⟨fun b o e => x b o (fun q => ?_) (R.keep b o e), fun p hm => ?_, R'.fresh, R'.nodup, R'.last⟩
  · have := R.gone (a := a) (P := P) (List.mem_append_right _ (.head _))
    rw [q, this] at e; cases e
  · obtain ⟨o, e, q⟩ := R'.mem p hm
    exact ⟨o, x _ _ (hne p hm) e, q⟩
/-- an entry gone -/
inductive Del : Led → Addr → OP → Led → Prop where
  | head {S : Led} {a : Addr} {P : OP} : Del ((a, P) :: S) a P S
  | tail {S S' : Led} {a : Addr} {P : OP} {e : Addr × OP} : Del S a P S' → Del (e :: S) a P (e :: S')
theorem Del.split {S S' : Led} {a : Addr} {P : OP} (D : Del S a P S') : ∃ S₁ S₂, S = S₁ ++ (a, P) :: S₂ ∧ S' = S₁ ++ S₂ := by
  induction D with
  | @head S a P => exact ⟨[], S, rfl, rfl⟩
  | @tail S S' a P e _ ih => obtain ⟨S₁, S₂, e1, e2⟩ := ih; exact ⟨e :: S₁, S₂, by rw [e1]; rfl, by rw [e2]; rfl⟩
theorem Rep.del {h h' : Heap} {a : Addr} {P : OP} {S' : Led} (R : Rep base S h) (D : Del S a P S') (x : Heap.ExtBut a h h') : Rep base S' h' := by
  obtain ⟨S₁, S₂, rfl, rfl⟩ := D.split
  exact R.extBut x
theorem Del.mem {S S' : Led} {a : Addr} {P : OP} (D : Del S a P S') : (a, P) ∈ S := by
  obtain ⟨S₁, S₂, rfl, rfl⟩ := D.split
  exact List.mem_append_right _ (.head _)
theorem Upd.memNew {S S' : Led} {a : Addr} {P P' : OP} (U : Upd S a P P' S') : (a, P') ∈ S' := by
  induction U with
  | head => exact .head _
  | tail _ ih => exact .tail _ ih
theorem Upd.memKeep {S S' : Led} {a b : Addr} {P P' P₂ : OP} (U : Upd S a P P' S') (hm : (b, P₂) ∈ S) (hne : b ≠ a) : (b, P₂) ∈ S' := by
  induction U with
  | head =>
    rcases List.mem_cons.mp hm with e | hm
    · cases e; exact absurd rfl hne
    · exact .tail _ hm
  | tail _ ih =>
    rcases List.mem_cons.mp hm with e | hm
    · exact e ▸ .head _
    · exact .tail _ (ih hm hne)

theorem nx_list {it l : Addr} {i : Nat} {xs : List AV} {a : AV} {S' : Led} {Q : Option Value → Led → Prop} (U : Upd S it (PLIter l i) (PLIter l (i + 1)) S') (hm : (l, PList xs) ∈ S) (hx : xs[i]? = some a) (h : ∀ v, VR a v → Q (some v) S') :
    W prog w base n (pyNext (.ref it)) S Q := .mk fun A s hA R => by
  obtain ⟨o, e, h1, h2⟩ := R.get U.memOld
  obtain ⟨vs, hl, hv⟩ := R.list hm
  obtain ⟨v, ev, rv⟩ := hv.get hx
  refine wpAny_pyNext_list_item ⟨o, e, h1, h2⟩ hl (by simpa using ev) fun h' hi hs => ?_
  obtain ⟨o', e', h1', h2'⟩ := hi
  exact ⟨S', h', s.toks, rfl, R.update U hs ⟨o', e', h1', h2'⟩, h v rv⟩
theorem nx_list_end {it l : Addr} {i : Nat} {xs : List AV} {S' : Led} {Q : Option Value → Led → Prop} (D : Del S it (PLIter l i) S') (hm : (l, PList xs) ∈ S) (hx : xs.length ≤ i) (h : Q none S') :
    W prog w base n (pyNext (.ref it)) S Q := .mk fun A s hA R => by
  obtain ⟨o, e, h1, h2⟩ := R.get D.mem
  obtain ⟨vs, hl, hv⟩ := R.list hm
  have := hv.length
  exact wpAny_pyNext_list_end hA.handled ⟨o, e, h1, h2⟩ hl (by simp; lia) fun h' x => ⟨S', h', s.toks, rfl, R.del D x, h⟩
theorem nx_tuple {it l : Addr} {i : Nat} {xs : List AV} {a : AV} {S' : Led} {Q : Option Value → Led → Prop} (U : Upd S it (PTIter l i) (PTIter l (i + 1)) S') (hm : (l, PTup xs) ∈ S) (hx : xs[i]? = some a) (h : ∀ v, VR a v → Q (some v) S') :
    W prog w base n (pyNext (.ref it)) S Q := .mk fun A s hA R => by
  obtain ⟨o, e, h1, h2⟩ := R.get U.memOld
  obtain ⟨vs, hl, hv⟩ := R.tuple hm
  obtain ⟨v, ev, rv⟩ := hv.get hx
  refine wpAny_pyNext_tuple_item ⟨o, e, h1, h2⟩ hl (by simpa using ev) fun h' hi hs => ?_
  obtain ⟨o', e', h1', h2'⟩ := hi
  exact ⟨S', h', s.toks, rfl, R.update U hs ⟨o', e', h1', h2'⟩, h v rv⟩
theorem nx_tuple_end {it l : Addr} {i : Nat} {xs : List AV} {S' : Led} {Q : Option Value → Led → Prop} (D : Del S it (PTIter l i) S') (hm : (l, PTup xs) ∈ S) (hx : xs.length ≤ i) (h : Q none S') :
    W prog w base n (pyNext (.ref it)) S Q := .mk fun A s hA R => by
  obtain ⟨o, e, h1, h2⟩ := R.get D.mem
  obtain ⟨vs, hl, hv⟩ := R.tuple hm
  have := hv.length
  exact wpAny_pyNext_tuple_end hA.handled ⟨o, e, h1, h2⟩ hl (by simp; lia) fun h' x => ⟨S', h', s.toks, rfl, R.del D x, h⟩
theorem nx_range {it : Addr} {x left step : Int} {S' : Led} {Q : Option Value → Led → Prop} (U : Upd S it (PRIter x left step) (PRIter (x + step) (left - 1) step) S') (hl : 0 < left) (h : ∀ t, Q (some (.int x t)) S') :
    W prog w base n (pyNext (.ref it)) S Q := .mk fun A s hA R => by
  obtain ⟨o, e, rfl⟩ := R.get U.memOld
  exact wpAny_pyNext_range_item e hl fun h' hi hs => ⟨S', h', _, rfl, R.update U hs ⟨_, hi, rfl⟩, h _⟩
theorem nx_range_end {it : Addr} {x left step : Int} {S' : Led} {Q : Option Value → Led → Prop} (D : Del S it (PRIter x left step) S') (hl : left ≤ 0) (h : Q none S') :
    W prog w base n (pyNext (.ref it)) S Q := .mk fun A s hA R => by
  obtain ⟨o, e, rfl⟩ := R.get D.mem
  exact wpAny_pyNext_range_end hA.handled e hl fun h' x => ⟨S', h', s.toks, rfl, R.del D x, h⟩

/-! assignment to targets -/
theorem as_Name {x : Str} {pos : Pos} {v : Value} {Q : Unit → Led → Prop} (h : W prog w base n (storeName env x v) S Q) : W prog w base n (assign (.Name x pos) env v) S Q := .mk fun A s hA R => wpAny_assign_Name (h.run A s hA R)
theorem lo_Name {x : Str} {pos : Pos} {it v : Value} {Q : Unit → Led → Prop} (h : Q () S) : W prog w base n (letOwnedTupleGo (.Name x pos) it v) S Q := W.pure h
theorem in_nil {ts : List (Value → Sem Unit)} {Q : Unit → Led → Prop} (h : Q () S) : W prog w base n (assignInOrder [] []) S Q := W.pure h
theorem in_cons {t : Value → Sem Unit} {ts : List (Value → Sem Unit)} {x : Value} {xs : List Value} {Q : Unit → Led → Prop} (h : W prog w base n (t x) S (fun _ S₁ => W prog w base n (assignInOrder ts xs) S₁ Q)) : W prog w base n (assignInOrder (t :: ts) (x :: xs)) S Q := by
  show W prog w base n (do PySem.holding xs (t x); assignInOrder ts xs) S Q
  exact W.bind (W.holding h)
/-- a pair unpacked into two names -/
theorem as_Pair {x y : Str} {px py : Pos} {k : Nat} {pos : Pos} {t : Addr} {a b : AV} {Q : Unit → Led → Prop} (hm : (t, PTup [a, b]) ∈ S)
    (h : ∀ va vb, VR a va → VR b vb → W prog w base n (storeName env x va) S (fun _ S₁ => W prog w base n (storeName env y vb) S₁ Q)) : W prog w base n (assign (.Tuple [.Name x px, .Name y py] k pos) env (.ref t)) S Q := .mk fun A s hA R => by
  obtain ⟨vs, ht, va, r1, rfl, ra, vb, r2, rfl, rb, rfl⟩ := R.tuple hm
  refine wpAny_assign_Tuple hA.handled ht rfl rfl fun h' x => ?_
  refine ((in_cons (as_Name ((h va vb ra rb).mono fun _ _ q => in_cons (as_Name (q.mono fun _ _ q => in_nil (ts := []) q))))).at hA rfl (R.grow fun b o e => x b o (Nat.ne_of_lt (Heap.lt_size e)) e))
end
end
section
open PySem PySem.W PyProof.Rows PySem.Calls PySem.Spec
set_option linter.all false
set_option maxRecDepth 100000
section
variable {prog : Program} {w : World} {base : Heap} {n : Nat} {S : Led} {env : Env} {L : Addr} {ls gs : List Str} {cs fs : List (Str × Addr)} {gl : List (Str × AV)} {bl : List (Str × Value)} {m : NM}

/-! calls of the text's defs -/
structure FnIs (base : Heap) (f : Addr) (scope : Scope) (params : List Str) (body : List Stmt) (dv : List Value) : Prop where
  lim : base.NoLimit
  fn : ∃ o fd, base.get? f = some o ∧ o.data = .func fd ∧ fd.body = .stmts body ∧ fd.scope = scope ∧ fd.globals = mainGlobals ∧ fd.builtins = builtinsNs ∧ fd.closure = [] ∧ base.CodeRec fd.code fd.qualname ∧
    ∀ (vals : List Value) (s : Shared), vals.length + dv.length = params.length → (∀ b o, base.get? b = some o → s.heap.get? b = some o) → BindsTo s fd ⟨vals, []⟩ (params.zip (vals ++ dv))

/-- which name is what in a def's scope -/
noncomputable def sigOk (scope : Scope) (params ls cls gs : List Str) : Bool :=
  scope.kind == .function && !scope.isCoroutine && !scope.isGenerator &&
  (ls.all fun x => scope.names.lookup x == some .local && !(x == ("__debug__" : Str))) &&
  (cls.all fun x => scope.names.lookup x == some .cell && !(x == ("__debug__" : Str))) &&
  (gs.all fun x => scope.names.lookup x == some .globalImplicit && !(x == ("__debug__" : Str))) &&
  decide (ls.Nodup) && decide (params.Nodup) && decide (cls.Nodup) && decide ((cellsFrom 0 scope.names []).map (·.1) = cls) &&
  (params.all fun x => ls.contains x || cls.contains x)

theorem cellsFrom_names (a b : Nat) : ∀ (names : List (Str × NameKind)) (acc acc' : List (Str × Addr)), acc.map (·.1) = acc'.map (·.1) → (cellsFrom a names acc).map (·.1) = (cellsFrom b names acc').map (·.1) := by
  intro names
  induction names generalizing a b with
  | nil => intro acc acc' h; exact h
  | cons x r ih =>
    intro acc acc' h
    obtain ⟨y, k⟩ := x
    unfold cellsFrom
    split
    · exact ih _ _ _ _ (by simp [h])
    · exact ih _ _ _ _ h

theorem lookup_of_nodup {β : Type} : ∀ {l : List (Str × β)} {x : Str} {c : β}, (l.map (·.1)).Nodup → (x, c) ∈ l → l.lookup x = some c := by
  intro l
  induction l with
  | nil => intro x c _ h; cases h
  | cons e r ih =>
    intro x c hn h
    rw [List.map_cons, List.nodup_cons] at hn
    rw [List.lookup_cons]
    rcases List.mem_cons.mp h with rfl | h
    · simp
    · have : (x == e.1) = false := by
        refine Bool.eq_false_iff.mpr fun q => hn.1 ?_
        rw [← eq_of_beq q]
        exact List.mem_map_of_mem (f := (·.1)) h
      rw [this]; exact ih hn.2 h

noncomputable def initOf (params : List Str) (args : List AV) (x : Str) : Option AV := (params.zip args).lookup x
theorem bindL_off {k : Str → Option NameKind} {x : Str} : ∀ {binds : List (Str × Value)} {f : Str → Option Value}, x ∉ binds.map (·.1) → bindL k binds f x = f x := by
  intro binds
  induction binds with
  | nil => intro f _; rfl
  | cons e r ih =>
    intro f h
    obtain ⟨y, v⟩ := e
    rw [List.map_cons, List.mem_cons, not_or] at h
    unfold bindL
    rw [ih h.2]
    split
    · simp [h.1]
    · rfl
theorem bindC_off {k : Str → Option NameKind} {x : Str} : ∀ {binds : List (Str × Value)} {f : Str → Option Value}, x ∉ binds.map (·.1) → bindC k binds f x = f x := by
  intro binds
  induction binds with
  | nil => intro f _; rfl
  | cons e r ih =>
    intro f h
    obtain ⟨y, v⟩ := e
    rw [List.map_cons, List.mem_cons, not_or] at h
    unfold bindC
    rw [ih h.2]
    split
    · rfl
    · simp [h.1]
theorem zip_names_sub : ∀ {ps : List Str} {vs : List Value} {x : Str}, x ∈ (ps.zip vs).map (·.1) → x ∈ ps := by
  intro ps vs x h
  obtain ⟨p, hp, rfl⟩ := List.mem_map.mp h
  exact (List.of_mem_zip hp).1
theorem bindL_init {k : Str → Option NameKind} {x : Str} {a : AV} (hk : k x = some .local) : ∀ {params : List Str} {args : List AV} {vals : List Value} {f : Str → Option Value}, params.Nodup → VRs args vals → initOf params args x = some a →
    ∃ v, bindL k (params.zip vals) f x = some v ∧ VR a v := by
  intro params
  induction params with
  | nil => intro args vals f _ _ h; cases h
  | cons y r ih =>
    intro args vals f hn hv h
    cases args with
    | nil => cases h
    | cons b bs =>
      obtain ⟨v, q, rfl, rv, hv⟩ := hv
      rw [List.nodup_cons] at hn
      unfold initOf at h
      rw [List.zip_cons_cons, List.lookup_cons] at h
      rw [List.zip_cons_cons]
      unfold bindL
      by_cases e : x = y
      · subst e
        simp at h
        subst h
        rw [bindL_off fun hm => hn.1 (zip_names_sub hm), if_pos hk]
        exact ⟨v, by simp, rv⟩
      · have : (x == y) = false := by simpa using e
        rw [this] at h
        exact ih hn.2 hv h
theorem bindC_init {k : Str → Option NameKind} {x : Str} {a : AV} (hk : k x = some .cell) : ∀ {params : List Str} {args : List AV} {vals : List Value} {f : Str → Option Value}, params.Nodup → VRs args vals → initOf params args x = some a →
    ∃ v, bindC k (params.zip vals) f x = some v ∧ VR a v := by
  intro params
  induction params with
  | nil => intro args vals f _ _ h; cases h
  | cons y r ih =>
    intro args vals f hn hv h
    cases args with
    | nil => cases h
    | cons b bs =>
      obtain ⟨v, q, rfl, rv, hv⟩ := hv
      rw [List.nodup_cons] at hn
      unfold initOf at h
      rw [List.zip_cons_cons, List.lookup_cons] at h
      rw [List.zip_cons_cons]
      unfold bindC
      by_cases e : x = y
      · subst e
        simp at h
        subst h
        rw [bindC_off fun hm => hn.1 (zip_names_sub hm), if_neg (by rw [hk]; decide)]
        exact ⟨v, by simp, rv⟩
      · have : (x == y) = false := by simpa using e
        rw [this] at h
        exact ih hn.2 hv h

noncomputable def cellLed : List Addr → List (Option AV) → Led
  | a :: as, v :: vs => (a, PCell v) :: cellLed as vs
  | _, _ => []
/-- what a call gives back, and what of the ledger is kept -/
noncomputable def RetS (Q : AV → Led → Prop) : FQ := fun f S => match f with
  | .ret v => ∃ a S', VR a v ∧ Wk S' S ∧ Q a S'
  | _ => ∃ S', Wk S' S ∧ Q (.val .none) S'

theorem Rep.cells {h : Heap} (R : Rep base S h) : ∀ (as : List Addr) (vs : List (Option AV)), as.Nodup → (∀ a ∈ as, a ∉ S.map (·.1)) → (∀ a ∈ as, base.objs.size ≤ a) →
    (∀ (i : Nat) (a : Addr) (v : Option AV), as[i]? = some a → vs[i]? = some v → ∃ o, h.get? a = some o ∧ PCell v o) → Rep base (cellLed as vs ++ S) h ∧ ∀ p ∈ cellLed as vs, p.1 ∈ as := by
  intro as
  induction as with
  | nil => intro vs _ _ _ _; exact ⟨R, fun p hp => nomatch hp⟩
  | cons a r ih =>
    intro vs hn h1 h2 h3
    cases vs with
    | nil => exact ⟨R, fun p hp => nomatch hp⟩
    | cons v vs =>
      rw [List.nodup_cons] at hn
      obtain ⟨R', hsub⟩ := ih vs hn.2 (fun b hb => h1 b (.tail _ hb)) (fun b hb => h2 b (.tail _ hb)) (fun i b u e1 e2 => h3 (i + 1) b u (by simpa using e1) (by simpa using e2))
      refine ⟨⟨R'.keep, fun p hp => ?_, fun p hp => ?_, ?_, R'.last⟩, fun p hp => ?_⟩
      · rcases List.mem_cons.mp hp with rfl | hp
        · exact h3 0 a v rfl rfl
        · exact R'.mem p hp
      · rcases List.mem_cons.mp hp with rfl | hp
        · exact Heap.get?_none_of_le (h2 a (.head _))
        · exact R'.fresh p hp
      · show (a :: (cellLed r vs ++ S).map (·.1)).Nodup
        rw [List.nodup_cons]
        refine ⟨fun hm => ?_, R'.nodup⟩
        rw [List.map_append, List.mem_append] at hm
        rcases hm with hm | hm
        · obtain ⟨p, hp, e⟩ := List.mem_map.mp hm
          exact hn.1 (e ▸ hsub p hp)
        · exact h1 a (.head _) hm
      · rcases List.mem_cons.mp hp with rfl | hp
        · exact .head _
        · exact .tail _ (hsub p hp)

theorem c_callG {f : Addr} {scope : Scope} {params cls : List Str} {body : List Stmt} {dv : List Value} {das : List AV} {args : List AV} {vals : List Value} {Q : AV → Led → Prop} (F : FnIs base f scope params body dv) (hd : VRs das dv)
    (hs : sigOk scope params ls cls gs = true) (ha : VRs args vals) (hl : args.length + das.length = params.length)
    (h : ∀ (env : Env) (L : Addr) (ads : List Addr), ads.length = cls.length → EnvOk env L ls (cls.zip ads) [] gs → (∀ o fd, base.get? f = some o → o.data = .func fd → env.code = fd.code) →
      W prog w base n (execs body env) ((L, PNs (ls.map fun x => (x, initOf params (args ++ das) x))) :: (cellLed ads (cls.map (initOf params (args ++ das))) ++ S)) (RetS Q)) :
    WV prog w base (n + 1) (call (.ref f) vals) S Q := .mk fun A s hA R => by
  obtain ⟨o, fd, ho, hdat, hbody, hsc, hgl, hbl, hclo, hcode, hbind⟩ := F.fn
  subst hsc
  simp only [sigOk, Bool.and_eq_true, List.all_eq_true, decide_eq_true_eq, Bool.not_eq_true', beq_iff_eq] at hs
  obtain ⟨⟨⟨⟨⟨⟨⟨⟨⟨⟨hk, hco⟩, hgen⟩, hls⟩, hcls⟩, hgs⟩, hnls⟩, hnps⟩, hncls⟩, hcf⟩, hps⟩ := hs
  have hV : VRs (args ++ das) (vals ++ dv) := ha.append hd
  have hlen : vals.length + dv.length = params.length := by rw [← ha.length, ← hd.length]; exact hl
  refine wpAny_call ?_
  refine codeAny_call_function hA.room (R.keep _ _ ho) hdat (by simpa using hco) (by simpa using hgen) hbody ?_ ?_
  · obtain ⟨c, o', vs, t, e1, e2, e3⟩ := hcode
    exact ⟨c, o', vs, t, e1, R.keep _ _ e2, e3⟩
  refine hbind vals s hlen R.keep _ _ _ _ ?_
  rw [hclo]
  have hcn : (cellsFrom (s.heap.objs.size + 1) fd.scope.names []).map (·.1) = cls := (cellsFrom_names _ 0 _ [] [] rfl).trans hcf
  refine wpAny_newFunctionEnv_cells hk (fun x hx => ?_) fun env he s' X => ?_
  · have hx1 := zip_names_sub (List.mem_map_of_mem (f := (·.1)) hx)
    have := hps _ hx1
    rw [Bool.or_eq_true, List.contains_iff_mem, List.contains_iff_mem] at this
    rcases this with q | q
    · exact .inl (hls _ q).1
    · refine .inr ⟨(hcls _ q).1, ?_⟩
      rw [← hcn] at q
      obtain ⟨p, hp, e⟩ := List.mem_map.mp q
      rw [lookup_of_nodup (c := p.2) (by rw [hcn]; exact hncls) (by rw [← e]; exact hp)]; rfl
  · have hel : env.locals = s.heap.objs.size := by rw [he]; rfl
    have hec : env.cells = cellsFrom (s.heap.objs.size + 1) fd.scope.names [] := by rw [he]; rfl
    have hes : env.scope = fd.scope := by rw [he]; rfl
    have hkind : ∀ x, env.kindOf x = fd.scope.names.lookup x := fun x => by unfold Env.kindOf; rw [hes]
    obtain ⟨h', tk', es, _⟩ := X.toInCall.same.elim fun h' q => q.elim fun tk' e => (⟨h', tk', e, trivial⟩ : ∃ h' tk', s' = { s with heap := h', toks := tk' } ∧ True)
    have hcellsnd : (env.cells.map (·.1)).Nodup := by rw [hec, hcn]; exact hncls
    have hcz : cls.zip (env.cells.map (·.2)) = env.cells := by
      have : cls = env.cells.map (·.1) := by rw [hec, hcn]
      rw [this]
      exact (List.zip_of_prod rfl rfl).symm
    have hE : EnvOk env env.locals ls (cls.zip (env.cells.map (·.2))) [] gs := by
      refine ⟨by rw [hes]; exact hk, rfl, by rw [he]; exact hgl, by rw [he]; exact hbl, fun x hx => ⟨by rw [hkind]; exact (hls x hx).1, (hls x hx).2⟩, fun p hp => ?_, (fun p hp => nomatch hp), fun x hx => ⟨by rw [hkind]; exact (hgs x hx).1, (hgs x hx).2⟩⟩
      have hp1 := (List.of_mem_zip hp).1
      rw [hcz] at hp
      exact ⟨by rw [hkind]; exact (hcls _ hp1).1, lookup_of_nodup hcellsnd hp, (hcls _ hp1).2⟩
    subst es
    have keep : ∀ b o, s.heap.get? b = some o → h'.get? b = some o := fun b o e => X.toInCall.keep b o e
    have R1 : Rep base S h' := R.grow keep
    have notOld : ∀ a, s.heap.objs.size ≤ a → a ∉ S.map (·.1) ∧ base.objs.size ≤ a := fun a hle => by
      constructor
      · intro hm
        obtain ⟨p, hp, e⟩ := List.mem_map.mp hm
        obtain ⟨o, e', _⟩ := R.mem p hp
        have := Heap.lt_size e'
        have e2 : p.1 = a := e
        rw [e2] at this
        exact Nat.lt_irrefl _ (Nat.lt_of_lt_of_le this hle)
      · exact Nat.le_trans R.size hle
    have hab : ∀ a ∈ env.cells.map (·.2), env.locals < a := fun a hm => by
      obtain ⟨p, hp, rfl⟩ := List.mem_map.mp hm
      exact X.above p.1 p.2 hp
    have R2 := R1.cells (env.cells.map (·.2)) (cls.map (initOf params (args ++ das))) (by
        rw [List.Nodup, List.pairwise_map]
        exact X.apart) (fun a hm => (notOld a (by have := hab a hm; rw [hel] at this; exact Nat.le_of_lt this)).1) (fun a hm => (notOld a (by have := hab a hm; rw [hel] at this; exact Nat.le_of_lt this)).2) (fun i a v e1 e2 => by
        rw [List.getElem?_map] at e1 e2
        obtain ⟨p, ep, rfl⟩ := Option.map_eq_some_iff.mp e1
        obtain ⟨x, ex, rfl⟩ := Option.map_eq_some_iff.mp e2
        have hxp : x = p.1 := by
          have : (env.cells.map (·.1))[i]? = some p.1 := by rw [List.getElem?_map, ep]; rfl
          rw [hec, hcn, ex] at this
          exact Option.some.inj this
        subst hxp
        obtain ⟨o, e, hd'⟩ := X.cell p.1 p.2 (lookup_of_nodup hcellsnd (List.mem_of_getElem? ep))
        refine ⟨o, e, _, hd', ?_⟩
        cases q : initOf params (args ++ das) p.1 with
        | none => trivial
        | some a =>
          obtain ⟨v, e1, rv⟩ := bindC_init (k := env.kindOf) (f := fun _ => none) (by rw [hkind]; exact (hcls _ (List.mem_of_getElem? ex)).1) hnps hV q
          exact ⟨v, e1, rv⟩)
    have hN := X.toInCall.ns
    have hmok : NMok (ls.map fun x => (x, initOf params (args ++ das) x)) (bindL env.kindOf (params.zip (vals ++ dv)) fun _ => none) := by
      intro p hp
      obtain ⟨x, hx, rfl⟩ := List.mem_map.mp hp
      dsimp only
      cases q : initOf params (args ++ das) x with
      | none => trivial
      | some a => exact bindL_init (by rw [hkind]; exact (hls _ hx).1) hnps hV q
    obtain ⟨oL, eL, hL⟩ := PNs.of (m := ls.map fun x => (x, initOf params (args ++ das) x)) (by rw [List.map_map]; show (ls.map fun x => x).Nodup; rw [List.map_id']; exact hnls) hN hmok
    have R3 : Rep base ((env.locals, PNs (ls.map fun x => (x, initOf params (args ++ das) x))) :: (cellLed (env.cells.map (·.2)) (cls.map (initOf params (args ++ das))) ++ S)) h' := by
      refine ⟨R2.1.keep, fun p hp => ?_, fun p hp => ?_, ?_, R2.1.last⟩
      · rcases List.mem_cons.mp hp with rfl | hp
        · exact ⟨oL, eL, hL⟩
        · exact R2.1.mem p hp
      · rcases List.mem_cons.mp hp with rfl | hp
        · exact Heap.get?_none_of_le (notOld _ (by rw [hel]; exact Nat.le_refl _)).2
        · exact R2.1.fresh p hp
      · rw [List.map_cons, List.nodup_cons]
        refine ⟨fun hm => ?_, R2.1.nodup⟩
        rw [List.map_append, List.mem_append] at hm
        rcases hm with hm | hm
        · obtain ⟨p, hp, e⟩ := List.mem_map.mp hm
          have := hab _ (R2.2 p hp)
          rw [e] at this
          exact Nat.lt_irrefl _ this
        · exact (notOld _ (by rw [hel]; exact Nat.le_refl _)).1 hm
    refine ⟨F.lim.keeps fun b o e => keep _ _ (R.keep _ _ e), codeAny_func ?_⟩
    refine wpAny_mono ((h env env.locals (env.cells.map (·.2)) (by rw [← hcn, hec]; simp) hE (fun o' fd' e1 e2 => by
      rw [ho] at e1; cases e1; rw [hdat] at e2; cases e2; rw [he]; rfl)).at (hA.deeper env) rfl R3 (E := NoE)) (fun f s₂ p => ?_) fun _ _ x => x.elim
    obtain ⟨S₂, h₂, k₂, rfl, R₂, q⟩ := p
    cases f with
    | ret v => obtain ⟨a, S', ra, hsub, q⟩ := q; exact ⟨S', h₂, k₂, rfl, R₂.wk hsub, a, ra, q⟩
    | next => obtain ⟨S', hsub, q⟩ := q; exact ⟨S', h₂, k₂, rfl, R₂.wk hsub, .val .none, rfl, q⟩
    | brk => obtain ⟨S', hsub, q⟩ := q; exact ⟨S', h₂, k₂, rfl, R₂.wk hsub, .val .none, rfl, q⟩
    | cont => obtain ⟨S', hsub, q⟩ := q; exact ⟨S', h₂, k₂, rfl, R₂.wk hsub, .val .none, rfl, q⟩
theorem c_call {f : Addr} {scope : Scope} {params cls : List Str} {body : List Stmt} {dv : List Value} {das : List AV} {args : List AV} {vals : List Value} {Q : AV → Led → Prop} (F : FnIs base f scope params body dv) (hd : VRs das dv)
    (hs : sigOk scope params ls cls gs = true) (ha : VRs args vals) (hl : args.length + das.length = params.length)
    (h : ∀ (env : Env) (L : Addr) (ads : List Addr), ads.length = cls.length → EnvOk env L ls (cls.zip ads) [] gs →
      W prog w base n (execs body env) ((L, PNs (ls.map fun x => (x, initOf params (args ++ das) x))) :: (cellLed ads (cls.map (initOf params (args ++ das))) ++ S)) (RetS Q)) :
    WV prog w base (n + 1) (call (.ref f) vals) S Q :=
  c_callG F hd hs ha hl fun env L ads h1 h2 _ => h env L ads h1 h2

theorem x_RetS {e : Expr} {pos : Pos} {Q : AV → Led → Prop} (h : WV prog w base n (eval e env) S (fun a S₁ => ∃ S', Wk S' S₁ ∧ Q a S')) : W prog w base n (exec (.Return (some e) pos) env) S (RetS Q) :=
  x_Ret (h.mono fun a S₁ ⟨S', hs, q⟩ v r => ⟨a, S', r, hs, q⟩)

/-- a name's value called upon arguments -/
theorem ev_CallDef {x : Str} {np pos : Pos} {e : Expr} {r : List Expr} {Q : AV → Led → Prop} {f : Addr} (hf : ∃ o fd, base.get? f = some o ∧ o.data = .func fd)
    (h : WV prog w base n (eval (.Name x np) env) S (fun a S₁ => a = .val (.ref f) ∧ WVs prog w base n pos (e :: r) env S₁ (fun as S₂ => ∀ vs, VRs as vs → WV prog w base n (call (.ref f) vs) S₂ Q)))
    (he : starEach (e :: r) env = (false, eval e env) :: starEach r env := by rfl) :
    WV prog w base n (eval (.Call (.Name x np) (e :: r) [] pos) env) S Q := .mk fun A s hA R => by
  obtain ⟨o, fd, ho, hd⟩ := hf
  refine wpAny_Call_NameR (wpAny_mono (h.run A s hA R) (fun v s₁ p => ?_) fun _ _ x => x)
  obtain ⟨S₁, h₁, k₁, rfl, R₁, a, ra, rfl, q⟩ := p
  obtain rfl : v = .ref f := ra
  refine callWith_def (o := o) hd ?_ he
  refine wpAny_mono (q.run A _ hA R₁) (fun vs s₂ p => ?_) fun _ _ x => x
  obtain ⟨S₂, h₂, k₂, rfl, R₂, as, ras, q⟩ := p
  exact ⟨R₂.keep _ _ ho, (q vs ras).at hA rfl R₂⟩
theorem FnIs.isDef {f : Addr} {scope : Scope} {params : List Str} {body : List Stmt} {dv : List Value} (F : FnIs base f scope params body dv) : ∃ o fd, base.get? f = some o ∧ o.data = .func fd := by
  obtain ⟨o, fd, h1, h2, _⟩ := F.fn
  exact ⟨o, fd, h1, h2⟩
theorem ev_CallB {x : Str} {np pos : Pos} {e : Expr} {r : List Expr} {Q : AV → Led → Prop} {id : String}
    (h : WV prog w base n (eval (.Name x np) env) S (fun a S₁ => a = .val (.builtin id) ∧ WVs prog w base n pos (e :: r) env S₁ (fun as S₂ => ∀ vs, VRs as vs → WV prog w base n (call (.builtin id) vs) S₂ Q)))
    (he : starEach (e :: r) env = (false, eval e env) :: starEach r env := by rfl) (hp : (backTo pos (starEach r env)).any (·.1) = false := by rfl) :
    WV prog w base n (eval (.Call (.Name x np) (e :: r) [] pos) env) S Q := .mk fun A s hA R => by
  refine wpAny_Call_NameR (wpAny_mono (h.run A s hA R) (fun v s₁ p => ?_) fun _ _ x => x)
  obtain ⟨S₁, h₁, k₁, rfl, R₁, a, ra, rfl, q⟩ := p
  obtain rfl : v = .builtin id := ra
  refine callWith_builtin1 ?_ he hp
  refine wpAny_mono (q.run A _ hA R₁) (fun vs s₂ p => ?_) fun _ _ x => x
  obtain ⟨S₂, h₂, k₂, rfl, R₂, as, ras, q⟩ := p
  exact (q vs ras).at hA rfl R₂
theorem ev_CallT {x : Str} {np pos : Pos} {e : Expr} {r : List Expr} {Q : AV → Led → Prop} {id : String}
    (h : WV prog w base n (eval (.Name x np) env) S (fun a S₁ => a = .val (.type id) ∧ WVs prog w base n pos (e :: r) env S₁ (fun as S₂ => ∀ vs, VRs as vs → WV prog w base n (call (.type id) vs) S₂ Q)))
    (he : starEach (e :: r) env = (false, eval e env) :: starEach r env := by rfl) (hp : (backTo pos (starEach r env)).any (·.1) = false := by rfl) :
    WV prog w base n (eval (.Call (.Name x np) (e :: r) [] pos) env) S Q := .mk fun A s hA R => by
  refine wpAny_Call_NameR (wpAny_mono (h.run A s hA R) (fun v s₁ p => ?_) fun _ _ x => x)
  obtain ⟨S₁, h₁, k₁, rfl, R₁, a, ra, rfl, q⟩ := p
  obtain rfl : v = .type id := ra
  refine PyProof.Rows.callWith_type1 ?_ he hp
  refine wpAny_mono (q.run A _ hA R₁) (fun vs s₂ p => ?_) fun _ _ x => x
  obtain ⟨S₂, h₂, k₂, rfl, R₂, as, ras, q⟩ := p
  exact (q vs ras).at hA rfl R₂
end
end
section
open PySem PySem.W PyProof.Rows PySem.Calls PySem.Spec
set_option linter.all false
set_option maxRecDepth 100000
section
variable {prog : Program} {w : World} {base : Heap} {n : Nat} {S : Led} {env : Env} {L : Addr} {ls gs : List Str} {cs fs : List (Str × Addr)} {gl : List (Str × AV)} {bl : List (Str × Value)} {m : NM}

theorem vInt {i : Int} {t : Tok} : VR (.int i) (.int i t) := ⟨t, rfl⟩
theorem vStr {x : Str} {t : Tok} : VR (.str x) (.str x t) := ⟨t, rfl⟩
theorem vVal {v : Value} : VR (.val v) v := rfl
/-! ints -/
section
variable {a b : Int} {Q : AV → Led → Prop}
theorem o_add (h : Q (.int (a + b)) S) : L2 prog w base n (binaryOp .Add) (.int a) (.int b) S Q := by
  rintro va vb ⟨t, rfl⟩ ⟨u, rfl⟩; refine .mk fun A s hA R => ?_; with_reducible refine PyProof.Rows.add_int ?_; exact Post.tok R ⟨_, vInt, h⟩
theorem o_sub (h : Q (.int (a - b)) S) : L2 prog w base n (binaryOp .Sub) (.int a) (.int b) S Q := by
  rintro va vb ⟨t, rfl⟩ ⟨u, rfl⟩; refine .mk fun A s hA R => ?_; with_reducible refine PyProof.Rows.sub_int ?_; exact Post.tok R ⟨_, vInt, h⟩
theorem o_mul (h : Q (.int (a * b)) S) (hm : IntMulOk a b) : L2 prog w base n (binaryOp .Mult) (.int a) (.int b) S Q := by
  rintro va vb ⟨t, rfl⟩ ⟨u, rfl⟩; refine .mk fun A s hA R => ?_; with_reducible refine PyProof.Rows.mul_int ?_ hm; exact Post.tok R ⟨_, vInt, h⟩
theorem o_div (h : Q (.int (a.fdiv b)) S) (hb : b ≠ 0) (hs : b.natAbs < 1073741824) : L2 prog w base n (binaryOp .FloorDiv) (.int a) (.int b) S Q := by
  rintro va vb ⟨t, rfl⟩ ⟨u, rfl⟩; refine .mk fun A s hA R => ?_; with_reducible refine PyProof.Rows.floordiv_int hb ?_ (.inl (PyProof.noPylong_small hs)); exact Post.tok R ⟨_, vInt, h⟩
theorem o_mod (h : Q (.int (a.fmod b)) S) (hb : b ≠ 0) : L2 prog w base n (binaryOp .Mod) (.int a) (.int b) S Q := by
  rintro va vb ⟨t, rfl⟩ ⟨u, rfl⟩; refine .mk fun A s hA R => ?_; with_reducible refine PyProof.Rows.mod_int' hb ?_; exact Post.tok R ⟨_, vInt, h⟩
theorem o_and (h : Q (.int (Builtin.bitAnd a b)) S) : L2 prog w base n (binaryOp .BitAnd) (.int a) (.int b) S Q := by
  rintro va vb ⟨t, rfl⟩ ⟨u, rfl⟩; refine .mk fun A s hA R => ?_; with_reducible refine PyProof.Rows.and_int ?_; exact Post.tok R ⟨_, vInt, h⟩
theorem o_or (h : Q (.int (Builtin.bitOr a b)) S) : L2 prog w base n (binaryOp .BitOr) (.int a) (.int b) S Q := by
  rintro va vb ⟨t, rfl⟩ ⟨u, rfl⟩; refine .mk fun A s hA R => ?_; with_reducible refine PyProof.Rows.or_int ?_; exact Post.tok R ⟨_, vInt, h⟩
theorem o_pow (h : Q (.int (a ^ b.toNat)) S) (h0 : 0 ≤ b) (hs : (Builtin.Int.intBits a : Int) * b ≤ 2 ^ 27) : L2 prog w base n (binaryOp .Pow) (.int a) (.int b) S Q := by
  rintro va vb ⟨t, rfl⟩ ⟨u, rfl⟩; refine .mk fun A s hA R => ?_; with_reducible refine PyProof.Rows.pow_int h0 hs ?_; exact Post.tok R ⟨_, vInt, h⟩
theorem o_shr (h : Q (.int (a.fdiv (2 ^ b.toNat))) S) (h0 : 0 ≤ b) : L2 prog w base n (binaryOp .RShift) (.int a) (.int b) S Q := by
  rintro va vb ⟨t, rfl⟩ ⟨u, rfl⟩; refine .mk fun A s hA R => ?_; with_reducible refine PyProof.Rows.rshift_int h0 ?_; exact Post.tok R ⟨_, vInt, h⟩
theorem o_iadd (h : Q (.int (a + b)) S) : L2 prog w base n (inplaceOp .Add) (.int a) (.int b) S Q := by
  rintro va vb ⟨t, rfl⟩ ⟨u, rfl⟩; refine .mk fun A s hA R => ?_; with_reducible refine PyProof.Rows.iadd_int ?_; exact Post.tok R ⟨_, vInt, h⟩
theorem o_neg (h : Q (.int (-a)) S) : L1 prog w base n (unaryOp .USub) (.int a) S Q := by
  rintro va ⟨t, rfl⟩; refine .mk fun A s hA R => ?_; with_reducible refine PyProof.Rows.neg_int ?_; exact Post.tok R ⟨_, vInt, h⟩
theorem o_eq (h : Q (.val (.bool (a == b))) S) : L2 prog w base n (compareOp .Eq) (.int a) (.int b) S Q := by
  rintro va vb ⟨t, rfl⟩ ⟨u, rfl⟩; refine .mk fun A s hA R => ?_; with_reducible refine PyProof.Rows.eq_int ?_; exact Post.self R ⟨_, vVal, h⟩
theorem o_ne (h : Q (.val (.bool (a != b))) S) : L2 prog w base n (compareOp .NotEq) (.int a) (.int b) S Q := by
  rintro va vb ⟨t, rfl⟩ ⟨u, rfl⟩; refine .mk fun A s hA R => ?_; with_reducible refine PyProof.Rows.ne_int ?_; exact Post.self R ⟨_, vVal, h⟩
theorem o_lt (h : Q (.val (.bool (decide (a < b)))) S) : L2 prog w base n (compareOp .Lt) (.int a) (.int b) S Q := by
  rintro va vb ⟨t, rfl⟩ ⟨u, rfl⟩; refine .mk fun A s hA R => ?_; with_reducible refine PyProof.Rows.lt_int ?_; exact Post.self R ⟨_, vVal, h⟩
theorem o_gt (h : Q (.val (.bool (decide (b < a)))) S) : L2 prog w base n (compareOp .Gt) (.int a) (.int b) S Q := by
  rintro va vb ⟨t, rfl⟩ ⟨u, rfl⟩; refine .mk fun A s hA R => ?_; with_reducible refine PyProof.Rows.gt_int ?_; exact Post.self R ⟨_, vVal, h⟩
theorem o_le (h : Q (.val (.bool (decide (a ≤ b)))) S) : L2 prog w base n (compareOp .LtE) (.int a) (.int b) S Q := by
  rintro va vb ⟨t, rfl⟩ ⟨u, rfl⟩; refine .mk fun A s hA R => ?_; with_reducible refine PyProof.Rows.le_int ?_; exact Post.self R ⟨_, vVal, h⟩
theorem o_ge (h : Q (.val (.bool (decide (b ≤ a)))) S) : L2 prog w base n (compareOp .GtE) (.int a) (.int b) S Q := by
  rintro va vb ⟨t, rfl⟩ ⟨u, rfl⟩; refine .mk fun A s hA R => ?_; with_reducible refine PyProof.Rows.ge_int ?_; exact Post.self R ⟨_, vVal, h⟩
end
/-! texts -/
section
variable {x y : Str} {Q : AV → Led → Prop}
theorem o_seq (h : Q (.val (.bool (x == y))) S) : L2 prog w base n (compareOp .Eq) (.str x) (.str y) S Q := by
  rintro va vb ⟨t, rfl⟩ ⟨u, rfl⟩; refine .mk fun A s hA R => ?_; with_reducible refine PyProof.Rows.eq_str ?_; exact Post.self R ⟨_, vVal, h⟩
theorem o_sne (h : Q (.val (.bool (x != y))) S) : L2 prog w base n (compareOp .NotEq) (.str x) (.str y) S Q := by
  rintro va vb ⟨t, rfl⟩ ⟨u, rfl⟩; refine .mk fun A s hA R => ?_; with_reducible refine PyProof.Rows.ne_str ?_; exact Post.self R ⟨_, vVal, h⟩
theorem o_sadd (h : Q (.str (x ++ y)) S) (hs : x.length + y.length ≤ 1000) : L2 prog w base n (binaryOp .Add) (.str x) (.str y) S Q := by
  rintro va vb ⟨t, rfl⟩ ⟨u, rfl⟩
  exact .mk fun A s hA R => PyProof.Rows.add_str (fun t' tk => Post.tok R ⟨_, vStr, h⟩) (by rw [sizeLine_eq]; lia)
/-- y stands within x -/
noncomputable def inS (y x : Str) : Bool := !(Builtin.Str.occurrences x y 0 x.length 1).isEmpty
theorem o_in (h : Q (.val (.bool (inS y x))) S) : L2 prog w base n (compareOp .In) (.str y) (.str x) S Q := by
  rintro va vb ⟨t, rfl⟩ ⟨u, rfl⟩; refine .mk fun A s hA R => ?_; with_reducible refine PyProof.Rows.in_str ?_; exact Post.self R ⟨_, vVal, by unfold inS at h; exact h⟩
theorem o_nin (h : Q (.val (.bool (!inS y x))) S) : L2 prog w base n (compareOp .NotIn) (.str y) (.str x) S Q := by
  rintro va vb ⟨t, rfl⟩ ⟨u, rfl⟩; refine .mk fun A s hA R => ?_; with_reducible refine PyProof.Rows.notIn_str ?_; exact Post.self R ⟨_, vVal, by unfold inS at h; exact h⟩
end
theorem o_isNone {v : Value} {Q : AV → Led → Prop} (h : Q (.val (.bool (v == .none))) S) : L2 prog w base n (compareOp .Is) (.val v) (.val .none) S Q := by
  intro va vb r1 r2
  rw [show va = v from r1, show vb = .none from r2]
  refine .mk fun A s hA R => ?_; with_reducible refine PySem.is_none ?_; exact Post.self R ⟨_, vVal, h⟩

/-! items -/
theorem ev_Sub {value slice : Expr} {pos : Pos} {Q : AV → Led → Prop} (h : WV prog w base n (eval value env) S (fun a S₁ => WV prog w base n (eval slice env) S₁ (fun b S₂ => L2 prog w base n (subscriptTail value slice) a b S₂ Q))) :
    WV prog w base n (eval (.Subscript value slice pos) env) S Q := .mk fun A s hA R =>
  Subscript_ (wpAny_mono (h.run A s hA R) (fun va s₁ p => by
    obtain ⟨S₁, h₁, k₁, rfl, R₁, a, ra, q⟩ := p
    refine wpAny_mono (q.run A _ hA R₁) (fun vb s₂ p => ?_) fun _ _ x => x
    obtain ⟨S₂, h₂, k₂, rfl, R₂, b, rb, q⟩ := p
    exact (q va vb ra rb).at hA rfl R₂) fun _ _ x => x)
theorem g_list {value slice : Expr} {l : Addr} {xs : List AV} {k : Int} {a : AV} {Q : AV → Led → Prop} (hm : (l, PList xs) ∈ S) (h0 : 0 ≤ k) (hk : k < 2 ^ 63) (hx : xs[k.toNat]? = some a) (h : Q a S)
    (hs : ∀ (v w : Value) u, subscripted slice false v (.int k u) = operate [v, .int k u] (getItem v (.int k u)) := by intro _ _ _; with_unfolding_all rfl) :
    L2 prog w base n (subscriptTail value slice) (.val (.ref l)) (.int k) S Q := by
  rintro va vb r ⟨u, rfl⟩
  rw [show va = .ref l from r]
  refine .mk fun A s hA R => ?_
  obtain ⟨vs, hl, hv⟩ := R.list hm
  obtain ⟨v, ev, rv⟩ := hv.get hx
  exact tail_any hl.typeIs slot_list_getitem.lookup (wpAny_getItem_list hl h0 hk (by simpa using ev) (Post.self R ⟨a, rv, h⟩)) (hs (.ref l) .none u)
theorem g_tup {value slice : Expr} {l : Addr} {xs : List AV} {k : Int} {j : Nat} {a : AV} {Q : AV → Led → Prop} (hm : (l, PTup xs) ∈ S) (h0 : -(2 ^ 63) ≤ k) (hk : k < 2 ^ 63) (hj : seqIndex? k xs.length = some j) (hx : xs[j]? = some a) (h : Q a S)
    (hs : ∀ (v w : Value) u, subscripted slice false v (.int k u) = operate [v, .int k u] (getItem v (.int k u)) := by intro _ _ _; with_unfolding_all rfl) :
    L2 prog w base n (subscriptTail value slice) (.val (.ref l)) (.int k) S Q := by
  rintro va vb r ⟨u, rfl⟩
  rw [show va = .ref l from r]
  refine .mk fun A s hA R => ?_
  obtain ⟨vs, hl, hv⟩ := R.tuple hm
  obtain ⟨v, ev, rv⟩ := hv.get hx
  exact item_tupleT (j := j) (x := v) hl h0 hk (by rw [← hv.length]; exact hj) ev (Post.self R ⟨a, rv, h⟩) (hs (.ref l) .none u)
theorem typeLookup_str_item : typeLookup (.type "str") "__getitem__" = pure (some (.builtin "str.__getitem__")) := (by first | exact slot_str_getitem.lookup)
theorem g_str {value slice : Expr} {x : Str} {k : Int} {c : Nat} {Q : AV → Led → Prop} (h0 : 0 ≤ k) (hk : k < 2 ^ 63) (hx : (seqIndex? k x.length).bind (x.cps[·]?) = some c) (h : Q (.str ⟨#[c]⟩) S)
    (hs : ∀ (v w : Value) u, subscripted slice false v (.int k u) = operate [v, .int k u] (getItem v (.int k u)) := by intro _ _ _; with_unfolding_all rfl) :
    L2 prog w base n (subscriptTail value slice) (.str x) (.int k) S Q := by
  rintro va vb ⟨t, rfl⟩ ⟨u, rfl⟩
  refine .mk fun A s hA R => ?_
  refine tail_any (typeIs_str s x t) typeLookup_str_item (PyProof.Rows.getItem_str ?_ hx (Post.tok R ⟨_, vStr, h⟩)) (hs (.str x t) .none u)
  rw [Bool.or_eq_false_iff]
  exact ⟨decide_eq_false (by lia), decide_eq_false (by lia)⟩
/-- an item put -/
theorem p_list {l : Addr} {xs : List AV} {k : Int} {c : AV} {va vb vc : Value} {S' : Led} {Q : Unit → Led → Prop} (ra : VR (.val (.ref l)) va) (rb : VR (.int k) vb) (rc : VR c vc) (h0 : 0 ≤ k) (hk : k < 2 ^ 63) (hl : k < xs.length)
    (U : Upd S l (PList xs) (PList (xs.set k.toNat c)) S') (h : Q () S') : W prog w base n (setItem va vb vc) S Q := .mk fun A s hA R => by
  obtain ⟨t, rfl⟩ := rb
  rw [show va = .ref l from ra]
  obtain ⟨vs, j, hL, hv⟩ := R.isL U.memOld
  have hlen := hv.length
  refine ki_setAt hL h0 hk (by simp; lia) ⟨S', _, s.toks, rfl, R.isLNew hL U _ (vs' := vs.set k.toNat vc) ?_ (hv.set rc), h⟩
  apply Array.toList_inj.mp; simp
/-- append, pop -/
theorem m_append {l : Addr} {xs : List AV} {a : AV} {v : Value} {S' : Led} {Q : AV → Led → Prop} (ra : VR a v) (U : Upd S l (PList xs) (PList (xs ++ [a])) S') (hl : xs.length ≤ 1000) (h : Q (.val .none) S') :
    WV prog w base n (call (.builtin "list.append") [.ref l, v]) S Q := .mk fun A s hA R => by
  obtain ⟨vs, j, hL, hv⟩ := R.isL U.memOld
  have hlen := hv.length
  refine wpAny_list_append_plain ⟨j, hL⟩ (fun h' hp hs => ?_) (by rw [List.size_toArray, sizeLine_eq]; lia)
  obtain ⟨k', e⟩ := hp
  exact ⟨S', h', s.toks, rfl, R.update U hs ⟨_, e, vs ++ [v], k', by simp, hv.snoc ra⟩, .val .none, rfl, h⟩
theorem VRs.split_last {as : List AV} {a : AV} : ∀ {vs : List Value}, VRs (as ++ [a]) vs → ∃ us v, vs = us ++ [v] ∧ VRs as us ∧ VR a v := by
  induction as with
  | nil => rintro vs ⟨v, q, rfl, hv, hq⟩; rw [show q = [] from hq]; exact ⟨[], v, rfl, rfl, hv⟩
  | cons b r ih =>
    rintro vs ⟨v, q, rfl, hv, hq⟩
    obtain ⟨us, u, rfl, h1, h2⟩ := ih hq
    exact ⟨v :: us, u, rfl, ⟨v, us, rfl, hv, h1⟩, h2⟩
theorem m_pop {l : Addr} {xs : List AV} {a : AV} {S' : Led} {Q : AV → Led → Prop} (U : Upd S l (PList (xs ++ [a])) (PList xs) S') (hl : xs.length ≤ 1000) (h : Q a S') :
    WV prog w base n (call (.builtin "list.pop") [.ref l]) S Q := .mk fun A s hA R => by
  obtain ⟨vs, j, hL, hv⟩ := R.isL U.memOld
  obtain ⟨us, v, rfl, hu, rv⟩ := hv.split_last
  have hlen := hu.length
  have hk : (List.toArray (us ++ [v])).size - 1 = us.length := by simp
  have hy : (List.toArray (us ++ [v]))[(List.toArray (us ++ [v])).size - 1]? = some v := by rw [hk]; simp
  refine call_meets PySem.F.slot_list_pop ⟨_, hL, rfl⟩ PySem.F.entry_list_pop (PySem.F.args_list_pop_1 _) (PySem.MeetsSeq.list_pop_last l _ j v hy (by rw [List.size_toArray, List.length_append, sizeLine_eq]; simp; lia)) ⟨hL, ?_⟩
  refine ⟨S', _, s.toks, rfl, R.isLNew hL U _ (vs' := us) ?_ hu, a, rv, h⟩
  rw [hk]
  exact (kl_erase us [] v).trans (by simp)
end
end
section
open PySem PySem.W PyProof.Rows PySem.Calls PySem.Spec
set_option linter.all false
set_option maxRecDepth 100000
section
variable {prog : Program} {w : World} {base : Heap} {n : Nat} {S : Led} {env : Env} {L : Addr} {ls gs : List Str} {cs fs : List (Str × Addr)} {gl : List (Str × AV)} {bl : List (Str × Value)} {m : NM}

/-! comprehensions -/
noncomputable def freesOf (names : List (Str × NameKind)) : List Str := (names.filter fun p => p.2 == .free).map (·.1)
noncomputable def compOk (scope : Scope) (lsC frs gsC : List Str) : Bool :=
  scope.kind == .function && decide (freesOf scope.names = frs) && decide (frs.Nodup) && (scope.names.all fun p => p.2 != .cell) &&
  (scope.names.all fun p => p.2 != .local || scope.names.lookup p.1 == some .local) && (frs.all fun x => scope.names.lookup x == some .free) &&
  (lsC.all fun x => scope.names.lookup x == some .local && !(x == ("__debug__" : Str))) && decide (lsC.Nodup) &&
  (gsC.all fun x => scope.names.lookup x == some .globalImplicit && !(x == ("__debug__" : Str)))

theorem closure_go {env : Env} {g : Str → Addr} : ∀ (names : List (Str × NameKind)) (acc : List (Str × Addr)), (∀ x ∈ freesOf names, env.cells.lookup x = some (g x)) →
    (forIn (m := Sem) names acc fun p cs => if p.2 == NameKind.free then (do let a ← cellOf env p.1; pure (ForInStep.yield ((p.1, a) :: cs))) else pure (ForInStep.yield cs)) = pure (((freesOf names).map fun x => (x, g x)).reverse ++ acc) := by
  intro names
  induction names with
  | nil => intro acc _; rfl
  | cons p r ih =>
    intro acc h
    obtain ⟨x, k⟩ := p
    rw [List.forIn_cons]
    by_cases hk : k = .free
    · subst hk
      have hx : env.cells.lookup x = some (g x) := h x (by simp [freesOf])
      have e1 : cellOf env x = pure (g x) := by unfold cellOf; rw [hx]
      simp only [beq_self_eq_true, if_true, e1, pure_bind]
      rw [ih ((x, g x) :: acc) (fun y hy => h y (by simp only [freesOf, List.filter_cons, beq_self_eq_true, if_true, List.map_cons] at hy ⊢; exact .tail _ hy))]
      simp [freesOf]
    · have hb : (k == NameKind.free) = false := by simpa using hk
      simp only [hb, Bool.false_eq_true, if_false, pure_bind]
      rw [ih acc (fun y hy => h y (by simp only [freesOf, List.filter_cons, hb] at hy ⊢; exact hy))]
      simp [freesOf, hb]
theorem closureFor_is {scope : Scope} {env : Env} {frs : List (Str × Addr)} (hn : freesOf scope.names = frs.map (·.1)) (hnd : (frs.map (·.1)).Nodup) (h : ∀ p ∈ frs, env.cells.lookup p.1 = some p.2) : closureFor scope env = pure frs.reverse := by
  have hg : ∀ x ∈ freesOf scope.names, env.cells.lookup x = some (((frs.lookup x).getD 0)) := fun x hx => by
    rw [hn] at hx
    obtain ⟨p, hp, rfl⟩ := List.mem_map.mp hx
    rw [lookup_of_nodup hnd hp, h p hp]; rfl
  have := closure_go (env := env) scope.names [] hg
  rw [List.append_nil, hn, List.map_map] at this
  have e : (frs.map ((fun x => (x, (frs.lookup x).getD 0)) ∘ fun x => x.1)) = frs := by
    conv => rhs; rw [← List.map_id frs]
    refine List.map_congr_left fun p hp => ?_
    show (p.1, (frs.lookup p.1).getD 0) = p
    rw [lookup_of_nodup hnd hp]; rfl
  rw [e] at this
  unfold closureFor
  exact (congrArg (fun t => t >>= fun s => (pure s : Sem (List (Str × Addr)))) this).trans rfl

theorem lookup_relabel {env : Env} {k₀ : NameKind} : ∀ {names : List (Str × NameKind)} {x : Str}, names.lookup x = some k₀ →
    (names.map fun (n, k) => if (k == NameKind.free && env.scope.kind == .function && env.kindOf n == some .cell) then (n, NameKind.cell) else (n, k)).lookup x = some (if (k₀ == NameKind.free && env.scope.kind == .function && env.kindOf x == some .cell) then .cell else k₀) := by
  intro names
  induction names with
  | nil => intro x h; cases h
  | cons p r ih =>
    intro x h
    obtain ⟨y, k⟩ := p
    rw [List.lookup_cons] at h
    rw [List.map_cons]
    by_cases e : x = y
    · subst e
      simp only [beq_self_eq_true] at h
      cases h
      dsimp only
      split <;> simp_all [List.lookup_cons]
    · have hb : (x == y) = false := by simpa using e
      rw [hb] at h
      dsimp only at h ⊢
      have := ih h
      split
      · rw [List.lookup_cons, hb]; exact this
      · rw [List.lookup_cons, hb]; exact this

theorem compEnv_ok {scope : Scope} {lsC gsC : List Str} {frs : List (Str × Addr)} {C : Addr} {cenv : Env} (hE : EnvOk env L ls cs fs gs) (hc : compOk scope lsC (frs.map (·.1)) gsC = true) (hf : ∀ p ∈ frs, p ∈ cs)
    (hs : cenv.scope = relabel scope env) (hl : cenv.locals = C) (hg : cenv.globals = env.globals) (hb : cenv.builtins = env.builtins) (hcl : cenv.cells = frs.reverse) : EnvOk cenv C lsC frs [] gsC := by
  simp only [compOk, Bool.and_eq_true, List.all_eq_true, decide_eq_true_eq, Bool.not_eq_true', beq_iff_eq] at hc
  obtain ⟨⟨⟨⟨⟨⟨⟨⟨hk, hfr⟩, hnd⟩, hnc⟩, hloc⟩, hfl⟩, hls⟩, hln⟩, hgs⟩ := hc
  have kind : ∀ {x k₀}, scope.names.lookup x = some k₀ → cenv.kindOf x = some (if (k₀ == NameKind.free && env.scope.kind == .function && env.kindOf x == some .cell) then .cell else k₀) := fun h => by
    unfold Env.kindOf; rw [hs]; exact lookup_relabel h
  refine ⟨by rw [hs]; exact hk, hl, by rw [hg]; exact hE.glob, by rw [hb]; exact hE.blt, fun x hx => ⟨?_, (hls x hx).2⟩, fun p hp => ?_, (fun p hp => nomatch hp), fun x hx => ⟨?_, (hgs x hx).2⟩⟩
  · rw [kind (hls x hx).1]; rfl
  · have h1 := hE.cs p (hf p hp)
    refine ⟨?_, ?_, h1.2.2⟩
    · rw [kind (hfl _ (List.mem_map_of_mem (f := (·.1)) hp)), hE.kind, h1.1]; rfl
    · rw [hcl]
      refine lookup_of_nodup ?_ (List.mem_reverse.mpr hp)
      rw [List.map_reverse, (List.reverse_perm _).nodup_iff]; exact hnd
  · rw [kind (hgs x hx).1]; rfl

/-- the tests of a clause -/
noncomputable def WIfs (prog : Program) (w : World) (base : Heap) (n : Nat) (ifs : List Expr) (env : Env) (S : Led) (Q : Bool → Led → Prop) : Prop :=
  W prog w base n (forIn ifs true fun c r => if r = true then do let ok ← isTrue c env (eval c env); pure (ForInStep.yield ok) else pure (ForInStep.yield r)) S Q
theorem ifs_nil {Q : Bool → Led → Prop} (h : Q true S) : WIfs prog w base n [] env S Q := .mk fun A s hA R => wpAny_tests_nil (Post.self R h)
theorem ifs_one {c : Expr} {Q : Bool → Led → Prop} (h : WT prog w base n c env S Q) : WIfs prog w base n [c] env S Q := .mk fun A s hA R => wpAny_tests_one (h.run A s hA R)

theorem wc_comp {elt iter : Expr} {x : Str} {px : Pos} {ifs : List Expr} {scope : Scope} {pos : Pos} {I acc : Addr} {Q : FQ} (Inv : Nat → Led → Prop)
    (turn : ∀ k S, Inv k S → W prog w base n (pyNext (.ref I)) S (fun r S₁ => match r with
      | none => Q .next S₁
      | some v => W prog w base n (storeName env x v) S₁ (fun _ S₂ => WIfs prog w base n ifs env S₂ (fun ok S₃ =>
          if ok = true then WV prog w base n (eval elt env) S₃ (fun a S₄ => ∀ va, VR a va → WV prog w base n (call (.builtin "list.append") [.ref acc, va]) S₄ (fun _ S₅ => Les Inv k S₅))
          else Les Inv k S₃))))
    (k : Nat) (h : Inv k S) : WC prog w base n (.compLoop (.ListComp elt [⟨.Name x px, iter, ifs, 0⟩] scope pos) 0 (.ref I) (.ref acc) env) S Q := .mk fun A s hA R => by
  refine codeAny_compLoop_tests (fun k s' => Post base (fun (_ : Unit) S' => Inv k S') s () s') (fun k s₀ hI => ?_) k (Post.self R h)
  obtain ⟨S₀, h₀, k₀, e₀, R₀, hI⟩ := hI
  refine wpAny_mono ((turn k S₀ hI).at hA e₀ R₀ (E := NoE)) (fun r s₁ p => ?_) fun _ _ x => x.elim
  obtain ⟨S₁, h₁, k₁, e₁, R₁, q⟩ := p
  cases r with
  | none => exact ⟨S₁, h₁, k₁, e₁, R₁, q⟩
  | some v =>
    refine wpAny_mono (W.at (as_Name q) hA e₁ R₁ (E := NoE)) (fun _ s₂ p => ?_) fun _ _ x => x.elim
    obtain ⟨S₂, h₂, k₂, e₂, R₂, q⟩ := p
    refine wpAny_mono (W.at q hA e₂ R₂ (E := NoE)) (fun ok s₃ p => ?_) fun _ _ x => x.elim
    obtain ⟨S₃, h₃, k₃, e₃, R₃, q⟩ := p
    cases ok with
    | false =>
      rw [if_neg (by decide)] at q ⊢
      obtain ⟨m, hm, S₅, hs, hI⟩ := q
      exact ⟨m, hm, S₅, h₃, k₃, e₃, R₃.wk hs, hI⟩
    | true =>
      rw [if_pos rfl] at q ⊢
      refine wpAny_mono (W.at q hA e₃ R₃ (E := NoE)) (fun v s₄ p => ?_) fun _ _ x => x.elim
      obtain ⟨S₄, h₄, k₄, e₄, R₄, a, ra, q⟩ := p
      refine wpAny_mono (W.at (q v ra) hA e₄ R₄ (E := NoE)) (fun v s₅ p => ?_) fun _ _ x => x.elim
      obtain ⟨S₅, h₅, k₅, e₅, R₅, _, _, m, hm, S₆, hs, hI⟩ := p
      exact ⟨m, hm, S₆, h₅, k₅, e₅, R₅.wk hs, hI⟩

theorem wc_compPair {elt iter : Expr} {elts : List Expr} {x1 : Nat} {tp : Pos} {scope : Scope} {pos : Pos} {I acc : Addr} {Q : FQ} (Inv : Nat → Led → Prop)
    (turn : ∀ k S, Inv k S → W prog w base n (pyNext (.ref I)) S (fun r S₁ => match r with
      | none => Q .next S₁
      | some v => W prog w base n (letOwnedTupleGo (.Tuple elts x1 tp) (.ref I) v) S₁ (fun _ S₁' => W prog w base n (assign (.Tuple elts x1 tp) env v) S₁' (fun _ S₂ =>
          WV prog w base n (eval elt env) S₂ (fun a S₄ => ∀ va, VR a va → WV prog w base n (call (.builtin "list.append") [.ref acc, va]) S₄ (fun _ S₅ => Les Inv k S₅))))))
    (k : Nat) (h : Inv k S) : WC prog w base n (.compLoop (.ListComp elt [⟨.Tuple elts x1 tp, iter, [], 0⟩] scope pos) 0 (.ref I) (.ref acc) env) S Q := .mk fun A s hA R => by
  refine LCp.codeAny_compLoop_pair (fun k s' => Post base (fun (_ : Unit) S' => Inv k S') s () s') (fun k s₀ hI => ?_) k (Post.self R h)
  obtain ⟨S₀, h₀, k₀, e₀, R₀, hI⟩ := hI
  refine wpAny_mono ((turn k S₀ hI).at hA e₀ R₀ (E := NoE)) (fun r s₁ p => ?_) fun _ _ x => x.elim
  obtain ⟨S₁, h₁, k₁, e₁, R₁, q⟩ := p
  cases r with
  | none => exact ⟨S₁, h₁, k₁, e₁, R₁, q⟩
  | some v =>
    refine wpAny_mono (W.at q hA e₁ R₁ (E := NoE)) (fun _ s₂ p => ?_) fun _ _ x => x.elim
    obtain ⟨S₂, h₂, k₂, e₂, R₂, q⟩ := p
    refine wpAny_mono (W.at q hA e₂ R₂ (E := NoE)) (fun ok s₃ p => ?_) fun _ _ x => x.elim
    obtain ⟨S₃, h₃, k₃, e₃, R₃, q⟩ := p
    refine wpAny_mono (W.at q hA e₃ R₃ (E := NoE)) (fun v s₄ p => ?_) fun _ _ x => x.elim
    obtain ⟨S₄, h₄, k₄, e₄, R₄, a, ra, q⟩ := p
    refine wpAny_mono (W.at (q v ra) hA e₄ R₄ (E := NoE)) (fun v s₅ p => ?_) fun _ _ x => x.elim
    obtain ⟨S₅, h₅, k₅, e₅, R₅, _, _, m, hm, S₆, hs, hI⟩ := p
    exact ⟨m, hm, S₆, h₅, k₅, e₅, R₅.wk hs, hI⟩

theorem Rep.tail {h h' : Heap} {C : Addr} {P : OP} (R : Rep base ((C, P) :: S) h) (hs : Heap.SameBut C h h') : Rep base S h' := by
  have hn := R.nodup
  rw [List.map_cons, List.nodup_cons] at hn
  refine ⟨fun b o e => (hs.2 b (fun q => ?_)).trans (R.keep b o e), fun p hp => ?_, fun p hp => R.fresh p (.tail _ hp), hn.2, R.last⟩
  · have := R.gone (a := C) (P := P) (.head _)
    rw [q, this] at e; cases e
  · obtain ⟨o, e, q⟩ := R.mem p (.tail _ hp)
    refine ⟨o, (hs.2 _ fun q => hn.1 ?_).trans e, q⟩
    rw [← q]; exact List.mem_map_of_mem (f := (·.1)) hp

noncomputable def CompEnd (prog : Program) (w : World) (base : Heap) (n : Nat) (use : Option (Value → Sem Unit)) (Q : Value → Led → Prop) (C acc : Addr) (S' : Led) : Prop :=
  ∃ m' S'', S' = (C, PNs m') :: S'' ∧ match use with
            | none => Q (.ref acc) S''
            | some u => W prog w base n (u (.ref acc)) S' (fun _ S₅ => ∃ m'' S₆, S₅ = (C, PNs m'') :: S₆ ∧ Q .none S₆)
/-- a comprehension: its source, its own frame, its turns; u: what is done with the made list -/
theorem comp_core {elt target iter : Expr} {ifs : List Expr} {scope : Scope} {pos fpos : Pos} {lsC gsC : List Str} {frs : List (Str × Addr)} {use : Option (Value → Sem Unit)} {Q : Value → Led → Prop}
    (hE : EnvOk env L ls cs fs gs) (hc : compOk scope lsC (frs.map (·.1)) gsC = true) (hf : ∀ p ∈ frs, p ∈ cs)
    (h : WV prog w base n (eval iter env) S (fun x S₁ => L1 prog w base n pyIter x S₁ (fun it S₂ => ∃ I, it = .val (.ref I) ∧
      (∀ S' Q, (∀ p ∈ S₂, p ∈ S') → Q (.val (.ref I)) S' → L1 prog w base n pyIter (.val (.ref I)) S' Q) ∧
      ∀ acc C cenv, EnvOk cenv C lsC frs [] gsC →
        WC prog w base n (.compLoop (.ListComp elt [⟨target, iter, ifs, 0⟩] scope pos) 0 (.ref I) (.ref acc) cenv) ((C, PNs (lsC.map fun x => (x, none))) :: (acc, PList []) :: S₂)
          (fun _ S' => CompEnd prog w base n use Q C acc S'))))
    (hs : ∀ x, foldedSetIterable iter env x = pure x := by intro _; rfl) :
    W prog w base n (comprehension (.ListComp elt [⟨target, iter, ifs, 0⟩] scope pos) scope env fpos (newList []) false (eval iter env) use) S Q := .mk fun A s hA R => by
  have hc' := hc
  simp only [compOk, Bool.and_eq_true, List.all_eq_true, decide_eq_true_eq, Bool.not_eq_true', beq_iff_eq, Bool.or_eq_true, bne_iff_ne, ne_eq] at hc'
  obtain ⟨⟨⟨⟨⟨⟨⟨⟨hk, hfr⟩, hnd⟩, hnc⟩, hloc⟩, hfl⟩, hls⟩, hln⟩, hgs⟩ := hc'
  refine wpAny_comprehension_free (g := ⟨target, iter, ifs, 0⟩) rfl hs (closureFor_is hfr hnd fun p hp => (hE.cs p (hf p hp)).2.1) hk (fun x hx e => (hloc x hx).resolve_left fun q => q e) ?_
  refine wpAny_mono (h.run A s hA R) (fun x s₁ p => ?_) fun _ _ x => x
  obtain ⟨S₁, h₁, k₁, rfl, R₁, a, ra, q⟩ := p
  refine wpAny_mono ((q x ra).run A _ hA R₁) (fun v s₂ p => ?_) fun _ _ x => x
  obtain ⟨S₂, h₂, k₂, rfl, R₂, b, rb, I, rfl, self, q⟩ := p
  obtain rfl : v = .ref I := rb
  refine PySem.wpAny_newList ?_ (Nat.zero_le _)
  have R₃ := R₂.push (P := PList []) (o := { cls := .type "list", data := .seq #[] }) ⟨[], 0, rfl, rfl⟩
  have hcl : ∀ x ∈ scope.names, x.2 ≠ .cell := fun x hx => hnc x hx
  refine wpAny_newFunctionEnv hcl (fun x hx => nomatch hx) (fun h' hn' hs' => ?_) hk
  dsimp only at hn' hs' ⊢
  have keepC : ∀ b o, (h₂.push { cls := .type "list", data := .seq #[] }).get? b = some o → h'.get? b = some o := fun b o e => by
    have hne : b ≠ (h₂.push { cls := .type "list", data := .seq #[] }).objs.size := Nat.ne_of_lt (Heap.lt_size e)
    exact (hs'.2 b hne).trans (Heap.get?_push_of_some _ e)
  obtain ⟨oC, eC, hC⟩ := PNs.of (m := lsC.map fun x => (x, none)) (by rw [List.map_map]; show (lsC.map fun x => x).Nodup; rw [List.map_id']; exact hln) hn' (fun p hp => by obtain ⟨x, _, rfl⟩ := List.mem_map.mp hp; trivial)
  have R₄ := R₃.alloc eC hC keepC
  have hEc : EnvOk { (newEnv scope (h₂.push { cls := .type "list", data := .seq #[] }).objs.size env.globals frs.reverse env.qual none .none (some env) 0) with scope := relabel scope env } (h₂.push { cls := .type "list", data := .seq #[] }).objs.size lsC frs [] gsC :=
    compEnv_ok hE hc hf rfl rfl rfl rfl rfl
  have loop := q h₂.objs.size _ _ hEc
  have fin : ∀ (f : Flow) (s₅ : Shared), Post base (fun (_ : Flow) S' => CompEnd prog w base n use Q (h₂.push { cls := .type "list", data := .seq #[] }).objs.size h₂.objs.size S') s f s₅ →
      compPost (model prog w) A NoE use (Post base Q s) (.ref h₂.objs.size) (h₂.push { cls := .type "list", data := .seq #[] }).objs.size (.ok f) s₅ := fun f s₅ p => by
    obtain ⟨S₅, h₅, k₅, rfl, R₅, m', S₆, rfl, q⟩ := p
    cases use with
    | none =>
      obtain ⟨_, f', hn5, _⟩ := R₅.ns (.head _)
      exact ⟨f', hn5, fun h'' hs'' => ⟨S₆, h'', k₅, rfl, R₅.tail hs'', q⟩⟩
    | some u =>
      refine wpAny_mono (W.at q hA rfl R₅ (E := NoE)) (fun _ s₆ p => ?_) fun _ _ x => x
      obtain ⟨S₇, h₇, k₇, rfl, R₇, m'', S₈, rfl, q⟩ := p
      obtain ⟨_, f', hn5, _⟩ := R₇.ns (.head _)
      exact ⟨f', hn5, fun h'' hs'' => ⟨S₈, h'', k₇, rfl, R₇.tail hs'', q⟩⟩
  refine codeAny_compStart_list ?_ ?_
  · refine codeAny_mono (loop.run A _ hA R₄) fun r s₅ p => ?_
    cases r with
    | ok f => exact fin f s₅ (p.wrap rfl)
    | error e => exact p.elim
  · refine wpAny_mono (E := NoE) ((self _ (fun a S' => a = .val (.ref I) ∧ S' = _) (fun p hp => .tail _ (.tail _ hp)) ⟨rfl, rfl⟩ (.ref I) rfl).run A _ hA R₄) (fun v s₅ p => ?_) fun _ _ x => x.elim
    obtain ⟨S₅, h₅, k₅, rfl, R₅, _, rv, rfl, rfl⟩ := p
    obtain rfl : v = .ref I := rv
    refine codeAny_mono (loop.run A _ hA R₅) fun r s₅ p => ?_
    cases r with
    | ok f => exact fin f s₅ (p.wrap rfl)
    | error e => exact p.elim
end
end
section
open PySem PySem.W PyProof.Rows PySem.Calls PySem.Spec
set_option linter.all false
set_option maxRecDepth 100000
set_option maxHeartbeats 1000000
/-! picking entries of a ledger, in any order -/
inductive Sel (e : Addr × OP) : Led → Led → Prop where
  | head {R : Led} : Sel e (e :: R) R
  | tail {x : Addr × OP} {S R : Led} : Sel e S R → Sel e (x :: S) (x :: R)
inductive Pk : Led → Led → Prop where
  | refl (S : Led) : Pk S S
  | nil (S : Led) : Pk [] S
  | cons {e : Addr × OP} {S' S R : Led} : Sel e S R → Pk S' R → Pk (e :: S') S
  | skip {e : Addr × OP} {S' S : Led} : Pk S' S → Pk S' (e :: S)
theorem Sel.perm {e : Addr × OP} {S R : Led} (h : Sel e S R) : (e :: R).Perm S := by
  induction h with
  | head => exact .refl _
  | tail _ ih => exact (List.Perm.swap _ _ _).trans (ih.cons _)
theorem Pk.perm {S' S : Led} (h : Pk S' S) : ∃ R, (S' ++ R).Perm S := by
  induction h with
  | refl S => exact ⟨[], by simp⟩
  | nil S => exact ⟨S, by simp⟩
  | cons h1 _ ih =>
    obtain ⟨R, hR⟩ := ih
    exact ⟨R, (hR.cons _).trans h1.perm⟩
  | skip _ ih =>
    obtain ⟨R, hR⟩ := ih
    exact ⟨_ :: R, List.perm_middle.trans (hR.cons _)⟩
theorem Rep.pk {base h : Heap} {S' S : Led} (R : Rep base S h) (k : Pk S' S) : Rep base S' h := by
  obtain ⟨T, hT⟩ := k.perm
  exact (R.perm hT).drop (List.sublist_append_left _ _)
theorem Upd.pre {S S' : Led} {a : Addr} {P P' : OP} (U : Upd S a P P' S') : ∀ (pre : Led), Upd (pre ++ S) a P P' (pre ++ S')
  | [] => U
  | _ :: r => .tail (U.pre r)
theorem Upd.app {S S' pre : Led} {a : Addr} {P P' : OP} (U : Upd S a P P' S') : Upd (pre ++ S) a P P' (pre ++ S') := U.pre pre
theorem Sel.app {e : Addr × OP} {S R : Led} : ∀ {pre : Led}, Sel e S R → Sel e (pre ++ S) (pre ++ R)
  | [], h => h
  | _ :: _, h => .tail (Sel.app h)
theorem Del.app {S S' : Led} {a : Addr} {P : OP} : ∀ {pre : Led}, Del S a P S' → Del (pre ++ S) a P (pre ++ S')
  | [], h => h
  | _ :: _, h => .tail (Del.app h)
theorem Wk.app {S' S : Led} : ∀ {pre : Led}, Wk S' S → Wk (pre ++ S') (pre ++ S)
  | [], h => h
  | _ :: _, h => .keep (Wk.app h)
theorem Wk.dropPre {S' S : Led} : ∀ {pre : Led}, Wk S' S → Wk S' (pre ++ S)
  | [], h => h
  | _ :: _, h => .skip (Wk.dropPre h)
end
section
local macro_rules | `(tactic| tb_start) => `(tactic| with_reducible first
  | exact List.mem_cons_self | (apply List.mem_cons_of_mem; tb_start) | (apply List.mem_append_right; tb_start)
  | exact Upd.head | (apply Upd.tail; tb_start) | (apply Upd.app; tb_start)
  | exact SetN.head | (apply SetN.tail; tb_start)
  | exact Del.head | (apply Del.tail; tb_start) | (apply Del.app; tb_start)
  | exact Wk.refl _ | (apply Wk.app; tb_start) | exact Wk.nil _ | (apply Wk.keep; tb_start) | (refine Wk.ns ?_ ?_ <;> tb_start) | (apply Wk.cell; tb_start) | (apply Wk.skip; tb_start)
  | exact Forget.refl _ | (apply Forget.keep; tb_start) | (apply Forget.drop; tb_start)
  | exact Sel.head | (apply Sel.tail; tb_start) | (apply Sel.app; tb_start)
  | exact Pk.refl _ | exact Pk.nil _ | (apply Pk.cons; (focus tb_start); tb_start) | (apply Pk.skip; tb_start)
  | assumption)
section
open PySem PySem.W PyProof.Rows PySem.Calls PySem.Spec
set_option linter.all false
set_option maxRecDepth 100000
/-! the text, taken from the row -/
noncomputable def nth {α : Type} : List α → Nat → α → α
  | [], _, d => d
  | x :: _, 0, _ => x
  | _ :: r, n + 1, d => nth r n d
noncomputable def fnStmt (k : Nat) : Stmt := nth PySem.Challenge.pw_rx0117_01.main.body k (.Pass ⟨0, 0, 0, 0⟩)
noncomputable def fnBody (k : Nat) : List Stmt := match fnStmt k with | .FunctionDef _ _ b _ _ _ _ _ _ _ => b | _ => []
noncomputable def fnScope (k : Nat) : Scope := match fnStmt k with | .FunctionDef _ _ _ _ _ _ sc _ _ _ => sc | _ => default

theorem ret_end {a : AV} {v : Value} {Q : AV → Led → Prop} {S S' : Led} (hv : VR a v) (hs : Wk S' S) (h : Q a S') : RetS Q (.ret v) S := ⟨a, S', hv, hs, h⟩
theorem next_end {Q : AV → Led → Prop} {S S' : Led} (hs : Wk S' S) (h : Q (.val .none) S') : RetS Q .next S := ⟨S', hs, h⟩

-- one step of looking something up in a list: membership, a change, a sublist

section
variable {prog : Program} {w : World} {base : Heap} {n : Nat} {S : Led} {gl : List (Str × AV)} {bl : List (Str × Value)} {a : Addr}

theorem sig_ifmt : sigOk (fnScope 3) ["mode"] ["mode"] [] [] = true := by rfl
theorem c_ifmt (F : FnIs base a (fnScope 3) ["mode"] (fnBody 3) []) {x : Int} {v : Value} {Q : AV → Led → Prop} (hv : VR (.int x) v) (h : Q (.int (Builtin.bitAnd x 61440)) S) : WV prog w base (n + 1) (call (.ref a) [v]) S Q := by
  refine c_call F (das := []) rfl sig_ifmt (args := [.int x]) ⟨v, [], rfl, hv, rfl⟩ rfl fun env L ads hlen hE => ?_
  obtain rfl := List.eq_nil_of_length_eq_zero hlen
  show W prog w base n (execs (fnBody 3) env) ((L, PNs [("mode", some (.int x))]) :: S) (RetS Q)
  refine x_cons (x_Ret (ev_BinOp (ev_loc hE (by tb_start) (by tb_start) (by tb_start) (ev_int (o_and fun v hv => ret_end hv (by tb_start) h)))))

theorem sig_imode : sigOk (fnScope 2) ["mode"] ["mode"] [] [] = true := by rfl
theorem c_imode (F : FnIs base a (fnScope 2) ["mode"] (fnBody 2) []) {x : Int} {v : Value} {Q : AV → Led → Prop} (hv : VR (.int x) v) (h : Q (.int (Builtin.bitAnd x 4095)) S) : WV prog w base (n + 1) (call (.ref a) [v]) S Q := by
  refine c_call F (das := []) rfl sig_imode (args := [.int x]) ⟨v, [], rfl, hv, rfl⟩ rfl fun env L ads hlen hE => ?_
  obtain rfl := List.eq_nil_of_length_eq_zero hlen
  show W prog w base n (execs (fnBody 2) env) ((L, PNs [("mode", some (.int x))]) :: S) (RetS Q)
  refine x_cons (x_Ret (ev_BinOp (ev_loc hE (by tb_start) (by tb_start) (by tb_start) (ev_int (o_and fun v hv => ret_end hv (by tb_start) h)))))
end
end
section
open PySem PySem.W PyProof.Rows PySem.Calls PySem.Spec
set_option linter.all false
set_option maxRecDepth 100000
section
variable {prog : Program} {w : World} {base : Heap} {n : Nat} {S : Led} {env : Env} {L : Addr} {ls gs : List Str} {cs fs : List (Str × Addr)} {gl : List (Str × AV)} {bl : List (Str × Value)} {m : NM}

theorem ev_ListComp {elt target iter : Expr} {ifs : List Expr} {scope : Scope} {pos : Pos} {lsC gsC : List Str} {frs : List (Str × Addr)} {Q : AV → Led → Prop}
    (hE : EnvOk env L ls cs fs gs) (hc : compOk scope lsC (frs.map (·.1)) gsC = true) (hf : ∀ p ∈ frs, p ∈ cs)
    (h : WV prog w base n (eval iter env) S (fun x S₁ => L1 prog w base n pyIter x S₁ (fun it S₂ => ∃ I, it = .val (.ref I) ∧
      (∀ S' Q, (∀ p ∈ S₂, p ∈ S') → Q (.val (.ref I)) S' → L1 prog w base n pyIter (.val (.ref I)) S' Q) ∧
      ∀ acc C cenv, EnvOk cenv C lsC frs [] gsC →
        WC prog w base n (.compLoop (.ListComp elt [⟨target, iter, ifs, 0⟩] scope pos) 0 (.ref I) (.ref acc) cenv) ((C, PNs (lsC.map fun x => (x, none))) :: (acc, PList []) :: S₂)
          (fun _ S' => ∃ m' S'', S' = (C, PNs m') :: S'' ∧ Q (.val (.ref acc)) S''))))
    (hs : ∀ x, foldedSetIterable iter env x = pure x := by intro _; rfl) :
    WV prog w base n (eval (.ListComp elt [⟨target, iter, ifs, 0⟩] scope pos) env) S Q := by
  refine W.mono (comp_core (use := none) (Q := Hid Q) (fpos := iter.pos) hE hc hf ?_ hs) fun v S' q => q
  refine h.mono fun x S₁ q v hv => (q v hv).mono fun it S₂ ⟨I, e, h1, h2⟩ => ⟨I, e, h1, fun acc C cenv hE' => ?_⟩
  have := h2 acc C cenv hE'
  exact ⟨fun A s hA R => codeAny_mono (this.run A s hA R) fun r s' p => by
    cases r with
    | ok f => exact p.mono fun S' ⟨m', S'', e, q⟩ => ⟨m', S'', e, .val (.ref acc), rfl, q⟩
    | error e => exact p⟩
theorem swaps_cell {env : Env} {elt : Expr} {gens : List Comprehension} {scope : Scope} {pos p' : Pos} {y : Str} {c : Addr} {k : Nat} (hE : EnvOk env L ls cs fs gs) (hy : (y, c) ∈ cs) : swapsWith (.ListComp elt gens scope pos) (some (.Name y p')) k env = pure false := by
  have h := (hE.cs _ hy).1
  simp only [swapsWith, h]
  show (pure (env.blockKind == .function && (some NameKind.cell == some NameKind.local) && _ && _) : Sem Bool) = pure false
  have : (some NameKind.cell == some NameKind.local) = false := by decide
  rw [this]; simp
theorem swaps_loc {env : Env} {elt : Expr} {gens : List Comprehension} {scope : Scope} {pos p' : Pos} {y : Str} {k : Nat} (hE : EnvOk env L ls cs fs gs) (hy : y ∈ ls) (hl : (p'.line == pos.line && !(scope.names.any fun x => x.1 == y && (x.2 == .local || x.2 == .cell))) = true) :
    swapsWith (.ListComp elt gens scope pos) (some (.Name y p')) k env = pure true := by
  have h := (hE.ls _ hy).1
  have hb : env.blockKind = .function := by unfold Env.blockKind; rw [hE.kind]; rfl
  simp only [swapsWith, h, hb]
  show (pure ((ScopeKind.function == ScopeKind.function) && (some NameKind.local == some NameKind.local) && (p'.line == pos.line) && !(scope.names.any fun x => x.1 == y && (x.2 == .local || x.2 == .cell))) : Sem Bool) = pure true
  rw [Bool.and_eq_true] at hl
  rw [hl.1, hl.2]; rfl
theorem x_AssignCell {y : Str} {c : Addr} {p' pos : Pos} {elt : Expr} {gens : List Comprehension} {scope : Scope} {cpos : Pos} {Q : FQ} (hE : EnvOk env L ls cs fs gs) (hy : (y, c) ∈ cs)
    (h : WV prog w base n (eval (.ListComp elt gens scope cpos) env) S (fun a S₁ => ∀ v, VR a v → W prog w base n (storeName env y v) S₁ (fun _ => Q .next))) :
    W prog w base n (exec (.Assign [.Name y p'] (.ListComp elt gens scope cpos) pos) env) S Q := x_AssignName h (swaps_cell hE hy)
theorem x_AssignComp {y : Str} {py spos : Pos} {elt target iter : Expr} {ifs : List Expr} {scope : Scope} {pos : Pos} {lsC gsC : List Str} {frs : List (Str × Addr)} {Q : FQ}
    (hE : EnvOk env L ls cs fs gs) (hy : y ∈ ls) (hl : (py.line == pos.line && !(scope.names.any fun x => x.1 == y && (x.2 == .local || x.2 == .cell))) = true)
    (hc : compOk scope lsC (frs.map (·.1)) gsC = true) (hf : ∀ p ∈ frs, p ∈ cs)
    (h : WV prog w base n (eval iter env) S (fun x S₁ => L1 prog w base n pyIter x S₁ (fun it S₂ => ∃ I, it = .val (.ref I) ∧
      (∀ S' Q, (∀ p ∈ S₂, p ∈ S') → Q (.val (.ref I)) S' → L1 prog w base n pyIter (.val (.ref I)) S' Q) ∧
      ∀ acc C cenv, EnvOk cenv C lsC frs [] gsC →
        WC prog w base n (.compLoop (.ListComp elt [⟨target, iter, ifs, 0⟩] scope pos) 0 (.ref I) (.ref acc) cenv) ((C, PNs (lsC.map fun x => (x, none))) :: (acc, PList []) :: S₂)
          (fun _ S' => (∃ m' S'', S' = (C, PNs m') :: S'') ∧ W prog w base n (storeName env y (.ref acc)) S' (fun _ S₅ => ∃ m'' S₆, S₅ = (C, PNs m'') :: S₆ ∧ Q .next S₆)))))
    (hs : ∀ x, foldedSetIterable iter env x = pure x := by intro _; rfl) :
    W prog w base n (exec (.Assign [.Name y py] (.ListComp elt [⟨target, iter, ifs, 0⟩] scope pos) spos) env) S Q := .mk fun A s hA R => by
  rw [exec_Assign_Name_used _ _ _ _ (swaps_loc hE hy hl)]
  refine wpAny_bind (wpAny_standAt (wpAny_bind ?_))
  show wpAny _ A (do let _ ← comprehension (.ListComp elt [⟨target, iter, ifs, 0⟩] scope pos) scope env _ (newList []) false (eval iter env) (some (assign (.Name y py) env))) _ _ s
  have core := comp_core (use := some (assign (.Name y py) env)) (Q := fun _ S' => Q .next S') (fpos := iter.pos) (S := S) (n := n) (prog := prog) (w := w) (base := base) hE hc hf (elt := elt) (target := target) (iter := iter) (ifs := ifs) (pos := pos) (h.mono fun x S₁ q v hv => (q v hv).mono fun it S₂ ⟨I, e, h1, h2⟩ => ⟨I, e, h1, fun acc C cenv hE' => by
    have := h2 acc C cenv hE'
    exact ⟨fun A s hA R => codeAny_mono (this.run A s hA R) fun r s' p => by
      cases r with
      | ok f => exact p.mono fun S' ⟨⟨m', S'', e⟩, q⟩ => ⟨m', S'', e, as_Name q⟩
      | error e => exact p⟩⟩) hs
  refine wpAny_bind (wpAny_mono (core.run A s hA R) (fun _ s' p => ?_) fun _ _ x => x)
  exact wpAny_pure (wpAny_pure p)

/-! ranges -/
theorem c_range1 {N : Int} {v : Value} {Q : AV → Led → Prop} (hv : VR (.int N) v) (h : ∀ l, Q (.val (.ref l)) ((l, PRange 0 N 1) :: S)) : WV prog w base n (call (.type "range") [v]) S Q := by
  obtain ⟨t, rfl⟩ := hv
  refine .mk fun A s hA R => ?_
  with_reducible refine call_range_1 ?_
  exact ⟨_, _, _, rfl, R.push (P := PRange 0 N 1) ⟨_, _, _, rfl⟩, _, vVal, h _⟩
theorem c_range3 {a b c : Int} {va vb vc : Value} {Q : AV → Led → Prop} (ha : VR (.int a) va) (hb : VR (.int b) vb) (hc : VR (.int c) vc) (h0 : c ≠ 0) (hs : c.natAbs < 1073741824) (h : ∀ l, Q (.val (.ref l)) ((l, PRange a b c) :: S)) : WV prog w base n (call (.type "range") [va, vb, vc]) S Q := by
  obtain ⟨t, rfl⟩ := ha
  obtain ⟨u, rfl⟩ := hb
  obtain ⟨x, rfl⟩ := hc
  refine .mk fun A s hA R => ?_
  with_reducible refine call_range_3 h0 ?_ (.inl (PyProof.noPylong_small hs))
  exact ⟨_, _, _, rfl, R.push (P := PRange a b c) ⟨_, _, _, rfl⟩, _, vVal, h _⟩
theorem rsize (N : Nat) : Builtin.Range.rangeSize 0 (N : Int) 1 = (N : Int) := by
  unfold Builtin.Range.rangeSize
  by_cases h : N = 0
  · subst h; decide
  · first | (simp; lia) | (rw [if_pos (by lia), if_pos (by lia)]; lia)
theorem rsmall (N : Nat) (h : N < 1000) : Builtin.Range.small 0 (N : Int) 1 = true := by
  exact small_one (by lia) (by lia) (by lia) (by lia)
/-- the iterator of range(N) -/
theorem it_rangeN {l : Addr} {N : Nat} {Q : AV → Led → Prop} (hm : (l, PRange 0 (N : Int) 1) ∈ S) (hN : N < 1000) (h : ∀ it, Q (.val (.ref it)) ((it, PRIter 0 (N : Int) 1) :: S)) : L1 prog w base n pyIter (.val (.ref l)) S Q :=
  it_range hm (rsmall N hN) fun it => by rw [rsize N]; exact h it
/-- for x in range(N), turn by turn -/
theorem wc_forRange {x : Str} {px : Pos} {it : Addr} {N : Nat} {body orelse : List Stmt} {Q : FQ} (St : Nat → Led)
    (turn : ∀ (i : Nat), i < N → ∀ v, VR (.int (i : Int)) v → W prog w base n (storeName env x v) ((it, PRIter ((i : Int) + 1) ((N : Int) - i - 1) 1) :: St i) (fun _ S₃ => W prog w base n (execs body env) S₃ (Lp (Wk ((it, PRIter ((i : Int) + 1) ((N : Int) - i - 1) 1) :: St (i + 1))) Q)))
    (done : W prog w base n (execs orelse env) (St N) Q) : WC prog w base n (.forLoop (.Name x px) (.ref it) body orelse env) ((it, PRIter 0 (N : Int) 1) :: St 0) Q := by
  refine wc_for (fun k S' => ∃ i, i ≤ N ∧ k = N - i ∧ S' = (it, PRIter (i : Int) ((N : Int) - i) 1) :: St i) ?_ N ⟨0, Nat.zero_le _, rfl, by simp⟩
  rintro k S' ⟨i, hi, rfl, rfl⟩
  by_cases hlt : i < N
  · refine nx_range Upd.head (by lia) fun t => lo_Name (as_Name ?_)
    refine (turn i hlt _ vInt).mono fun _ S₃ q => q.mono fun f S₄ q => ?_
    have fin : Wk ((it, PRIter ((i : Int) + 1) ((N : Int) - i - 1) 1) :: St (i + 1)) S₄ → Les (fun m S₅ => ∃ j, j ≤ N ∧ m = N - j ∧ S₅ = (it, PRIter (j : Int) ((N : Int) - j) 1) :: St j) (N - i) S₄ := fun hw =>
      ⟨N - (i + 1), by lia, _, hw, i + 1, by lia, rfl, by
        have e1 : ((i : Int) + 1) = ((i + 1 : Nat) : Int) := by lia
        have e2 : ((N : Int) - i - 1) = (N : Int) - ((i + 1 : Nat) : Int) := by lia
        rw [e1, e2]⟩
    cases f with
    | next => exact fin q
    | cont => exact fin q
    | brk => exact q
    | ret v => exact q
  · obtain rfl : i = N := by lia
    exact nx_range_end Del.head (by lia) done
/-- for x in a list, turn by turn -/
theorem wc_forList {x : Str} {px : Pos} {it l : Addr} {xs : List AV} {body orelse : List Stmt} {Q : FQ} (St : Nat → Led) (hm : ∀ i, i ≤ xs.length → (l, PList xs) ∈ St i)
    (turn : ∀ (i : Nat) (a : AV), xs[i]? = some a → ∀ v, VR a v → W prog w base n (storeName env x v) ((it, PLIter l (i + 1)) :: St i) (fun _ S₃ => W prog w base n (execs body env) S₃ (Lp (Wk ((it, PLIter l (i + 1)) :: St (i + 1))) Q)))
    (done : W prog w base n (execs orelse env) (St xs.length) Q) : WC prog w base n (.forLoop (.Name x px) (.ref it) body orelse env) ((it, PLIter l 0) :: St 0) Q := by
  refine wc_for (fun k S' => ∃ i, i ≤ xs.length ∧ k = xs.length - i ∧ S' = (it, PLIter l i) :: St i) ?_ xs.length ⟨0, Nat.zero_le _, rfl, rfl⟩
  rintro k S' ⟨i, hi, rfl, rfl⟩
  by_cases hlt : i < xs.length
  · refine nx_list Upd.head (List.mem_cons_of_mem _ (hm i hi)) (List.getElem?_eq_getElem hlt) fun v hv => lo_Name (as_Name ?_)
    refine (turn i _ (List.getElem?_eq_getElem hlt) v hv).mono fun _ S₃ q => q.mono fun f S₄ q => ?_
    have fin : Wk ((it, PLIter l (i + 1)) :: St (i + 1)) S₄ → Les (fun m S₅ => ∃ j, j ≤ xs.length ∧ m = xs.length - j ∧ S₅ = (it, PLIter l j) :: St j) (xs.length - i) S₄ := fun hw =>
      ⟨xs.length - (i + 1), by lia, _, hw, i + 1, by lia, rfl, rfl⟩
    cases f with
    | next => exact fin q
    | cont => exact fin q
    | brk => exact q
    | ret v => exact q
  · obtain rfl : i = xs.length := by lia
    exact nx_list_end Del.head (List.mem_cons_of_mem _ (hm _ hi)) (Nat.le_refl _) done

/-- one turn of a comprehension over some source: the item; the tests; what is appended -/
theorem wc_compList {elt iter : Expr} {x : Str} {px : Pos} {ifs : List Expr} {scope : Scope} {pos : Pos} {I acc C l : Addr} {xs : List AV} {Q : FQ} {m0 : NM} (ys : Nat → List AV) (St : Nat → Led) (hm : ∀ i, i ≤ xs.length → (l, PList xs) ∈ St i) (hy0 : ys 0 = []) (hyl : ∀ i, i ≤ xs.length → (ys i).length ≤ 1000)
    (turn : ∀ (i : Nat) (a : AV), xs[i]? = some a → ∀ v, VR a v → W prog w base n (storeName env x v) ((C, PNs m0) :: (acc, PList (ys i)) :: (I, PLIter l (i + 1)) :: St i) (fun _ S₂ => WIfs prog w base n ifs env S₂ (fun ok S₃ =>
          if ok = true then WV prog w base n (eval elt env) S₃ (fun b S₄ => ys (i + 1) = ys i ++ [b] ∧ Wk ((C, PNs m0) :: (acc, PList (ys i)) :: (I, PLIter l (i + 1)) :: St (i + 1)) S₄)
          else ys (i + 1) = ys i ∧ Wk ((C, PNs m0) :: (acc, PList (ys i)) :: (I, PLIter l (i + 1)) :: St (i + 1)) S₃)))
    (done : Q .next ((C, PNs m0) :: (acc, PList (ys xs.length)) :: St xs.length)) :
    WC prog w base n (.compLoop (.ListComp elt [⟨.Name x px, iter, ifs, 0⟩] scope pos) 0 (.ref I) (.ref acc) env) ((C, PNs m0) :: (acc, PList []) :: (I, PLIter l 0) :: St 0) Q := by
  refine wc_comp (fun k S' => ∃ i, i ≤ xs.length ∧ k = xs.length - i ∧ S' = (C, PNs m0) :: (acc, PList (ys i)) :: (I, PLIter l i) :: St i) ?_ xs.length ⟨0, Nat.zero_le _, rfl, by rw [hy0]⟩
  rintro k S' ⟨i, hi, rfl, rfl⟩
  by_cases hlt : i < xs.length
  · refine nx_list (.tail (.tail .head)) (List.mem_cons_of_mem _ (List.mem_cons_of_mem _ (List.mem_cons_of_mem _ (hm i hi)))) (List.getElem?_eq_getElem hlt) fun v hv => ?_
    refine (turn i _ (List.getElem?_eq_getElem hlt) v hv).mono fun _ S₂ q => W.mono q fun ok S₃ q => ?_
    cases ok with
    | false =>
      rw [if_neg (by decide)] at q ⊢
      exact ⟨xs.length - (i + 1), by lia, _, q.2, i + 1, by lia, rfl, by rw [q.1]⟩
    | true =>
      rw [if_pos rfl] at q ⊢
      refine q.mono fun b S₄ q va hb => ?_
      refine WV.wk ?_ q.2
      refine m_append hb (.tail .head) (hyl i hi) ⟨xs.length - (i + 1), by lia, _, Wk.refl _, i + 1, by lia, rfl, by rw [q.1]⟩
  · obtain rfl : i = xs.length := by lia
    exact nx_list_end (.tail (.tail .head)) (List.mem_cons_of_mem _ (List.mem_cons_of_mem _ (List.mem_cons_of_mem _ (hm _ hi)))) (Nat.le_refl _) done
theorem wc_compRange {elt iter : Expr} {x : Str} {px : Pos} {ifs : List Expr} {scope : Scope} {pos : Pos} {I acc C : Addr} {N : Nat} {Q : FQ} {m0 : NM} (ys : Nat → List AV) (St : Nat → Led) (hy0 : ys 0 = []) (hyl : ∀ i, i ≤ N → (ys i).length ≤ 1000)
    (turn : ∀ (i : Nat), i < N → ∀ v, VR (.int (i : Int)) v → W prog w base n (storeName env x v) ((C, PNs m0) :: (acc, PList (ys i)) :: (I, PRIter ((i : Int) + 1) ((N : Int) - i - 1) 1) :: St i) (fun _ S₂ => WIfs prog w base n ifs env S₂ (fun ok S₃ =>
          if ok = true then WV prog w base n (eval elt env) S₃ (fun b S₄ => ys (i + 1) = ys i ++ [b] ∧ Wk ((C, PNs m0) :: (acc, PList (ys i)) :: (I, PRIter ((i : Int) + 1) ((N : Int) - i - 1) 1) :: St (i + 1)) S₄)
          else ys (i + 1) = ys i ∧ Wk ((C, PNs m0) :: (acc, PList (ys i)) :: (I, PRIter ((i : Int) + 1) ((N : Int) - i - 1) 1) :: St (i + 1)) S₃)))
    (done : Q .next ((C, PNs m0) :: (acc, PList (ys N)) :: St N)) :
    WC prog w base n (.compLoop (.ListComp elt [⟨.Name x px, iter, ifs, 0⟩] scope pos) 0 (.ref I) (.ref acc) env) ((C, PNs m0) :: (acc, PList []) :: (I, PRIter 0 (N : Int) 1) :: St 0) Q := by
  refine wc_comp (fun k S' => ∃ i, i ≤ N ∧ k = N - i ∧ S' = (C, PNs m0) :: (acc, PList (ys i)) :: (I, PRIter (i : Int) ((N : Int) - i) 1) :: St i) ?_ N ⟨0, Nat.zero_le _, rfl, by rw [hy0]; simp⟩
  rintro k S' ⟨i, hi, rfl, rfl⟩
  by_cases hlt : i < N
  · refine nx_range (.tail (.tail .head)) (by lia) fun t => ?_
    have e1 : ((i : Int) + 1) = ((i + 1 : Nat) : Int) := by lia
    have e2 : ((N : Int) - i - 1) = (N : Int) - ((i + 1 : Nat) : Int) := by lia
    refine (turn i hlt _ vInt).mono fun _ S₂ q => W.mono q fun ok S₃ q => ?_
    cases ok with
    | false =>
      rw [if_neg (by decide)] at q ⊢
      exact ⟨N - (i + 1), by lia, _, q.2, i + 1, by lia, rfl, by rw [q.1, e1, e2]⟩
    | true =>
      rw [if_pos rfl] at q ⊢
      refine q.mono fun b S₄ q va hb => ?_
      refine WV.wk ?_ q.2
      refine m_append hb (.tail .head) (hyl i hi) ⟨N - (i + 1), by lia, _, Wk.refl _, i + 1, by lia, rfl, by rw [q.1, e1, e2]⟩
  · obtain rfl : i = N := by lia
    exact nx_range_end (.tail (.tail .head)) (by lia) done

/-! len -/
theorem c_lenList {l : Addr} {xs : List AV} {v : Value} {Q : AV → Led → Prop} (hv : VR (.val (.ref l)) v) (hm : (l, PList xs) ∈ S) (hl : xs.length ≤ 1000) (h : Q (.int xs.length) S) : WV prog w base n (call (.builtin "len") [v]) S Q := by
  rw [show v = .ref l from hv]
  refine .mk fun A s hA R => ?_
  obtain ⟨vs, hL, hvs⟩ := R.list hm
  have e := hvs.length
  refine PyProof.Rows.len_list hL (by rw [List.size_toArray]; lia) ?_
  rw [List.size_toArray, ← e]
  exact Post.tok R ⟨_, vInt, h⟩
theorem c_lenStr {x : Str} {v : Value} {Q : AV → Led → Prop} (hv : VR (.str x) v) (hl : x.length ≤ 1000) (h : Q (.int x.length) S) : WV prog w base n (call (.builtin "len") [v]) S Q := by
  obtain ⟨t, rfl⟩ := hv
  exact .mk fun A s hA R => PyProof.Rows.len_str (by lia) (Post.tok R ⟨_, vInt, h⟩)
end
end
section
open PySem PySem.W PyProof.Rows PySem.Calls PySem.Spec
set_option linter.all false
set_option maxRecDepth 100000
section
variable {prog : Program} {w : World} {base : Heap} {n : Nat} {S : Led} {env : Env} {L : Addr} {ls gs : List Str} {cs fs : List (Str × Addr)} {gl : List (Str × AV)} {bl : List (Str × Value)} {m : NM}

/-! data: == and != -/
inductive DR (S : Led) : AV → PyData → Prop where
  | int (i : Int) : DR S (.int i) (.int i)
  | str (x : Str) : DR S (.str x) (.str x)
  | bool (b : Bool) : DR S (.val (.bool b)) (.bool b)
  | list {l : Addr} {xs : List AV} {ds : List PyData} : (l, PList xs) ∈ S → xs.length = ds.length → (∀ (i : Nat) a d, xs[i]? = some a → ds[i]? = some d → DR S a d) → DR S (.val (.ref l)) (.list ds)
theorem readsAll_of {h : Heap} : ∀ {vs : List Value} {ds : List PyData}, vs.length = ds.length → (∀ (i : Nat) v d, vs[i]? = some v → ds[i]? = some d → ∃ as, Reads h v d as) → ∃ as, ReadsAll h vs ds as
  | [], [], _, _ => ⟨[], .nil⟩
  | v :: vs, d :: ds, hl, h => by
    obtain ⟨as, h1⟩ := h 0 v d rfl rfl
    obtain ⟨bs, h2⟩ := readsAll_of (vs := vs) (ds := ds) (by simpa using hl) fun i v d e1 e2 => h (i + 1) v d (by simpa using e1) (by simpa using e2)
    exact ⟨_, .cons h1 h2⟩
theorem DR.reads {h : Heap} (R : Rep base S h) {a : AV} {d : PyData} (D : DR S a d) : ∀ v, VR a v → ∃ as, Reads h v d as := by
  induction D with
  | int i => rintro v ⟨t, rfl⟩; exact ⟨_, .int i t⟩
  | str x => rintro v ⟨t, rfl⟩; exact ⟨_, .str x t⟩
  | bool b => intro v e; rw [show v = .bool b from e]; exact ⟨_, .bool b⟩
  | @list l xs ds hm hl _ ih =>
    intro v e
    rw [show v = .ref l from e]
    obtain ⟨vs, k, hL, hv⟩ := R.isL hm
    have hlen := hv.length
    obtain ⟨as, ra⟩ := readsAll_of (h := h) (vs := vs) (ds := ds) (by lia) fun i v d e1 e2 => by
      obtain ⟨hi, _⟩ := List.getElem?_eq_some_iff.mp e1
      have ha : xs[i]? = some xs[i] := List.getElem?_eq_getElem (by lia)
      obtain ⟨v', e3, rv⟩ := hv.get ha
      rw [e1] at e3
      cases e3
      exact ih i _ d ha e2 v rv
    exact ⟨_, .list hL rfl rfl (by simpa using ra)⟩
theorem o_eqD {a b : AV} {da db : PyData} {Q : AV → Led → Prop} (ha : DR S a da) (hb : DR S b db) (sa : SeqAt.shaped da = true) (sb : SeqAt.shaped db = true) (h : Q (.val (.bool (PyData.eqv da db))) S) : L2 prog w base n (compareOp .Eq) a b S Q := fun va vb ra rb => .mk fun A s hA R => by
  obtain ⟨as, h1⟩ := ha.reads R va ra
  obtain ⟨bs, h2⟩ := hb.reads R vb rb
  have hu := hA.units
  exact eq_dataH h1 h2 sa sb (by show A.units + 64 < 9900; lia) (Post.self R ⟨_, vVal, h⟩)
theorem o_neD {a b : AV} {da db : PyData} {Q : AV → Led → Prop} (ha : DR S a da) (hb : DR S b db) (sa : SeqAt.shaped da = true) (sb : SeqAt.shaped db = true) (h : Q (.val (.bool (!PyData.eqv da db))) S) : L2 prog w base n (compareOp .NotEq) a b S Q := fun va vb ra rb => .mk fun A s hA R => by
  obtain ⟨as, h1⟩ := ha.reads R va ra
  obtain ⟨bs, h2⟩ := hb.reads R vb rb
  have hu := hA.units
  exact ne_dataH h1 h2 sa sb (by show A.units + 64 < 9900; lia) (Post.self R ⟨_, vVal, h⟩)
/-- the two lists are the same data -/
theorem o_neSame {a b : AV} {d : PyData} {Q : AV → Led → Prop} (ha : DR S a d) (hb : DR S b d) (sa : SeqAt.shaped d = true) (h : Q (.val (.bool false)) S) : L2 prog w base n (compareOp .NotEq) a b S Q :=
  o_neD ha hb sa sa (by rw [SeqAt.eqv_refl d (SeqAt.canLay_of_shaped sa)]; exact h)

/-! sums -/
/-- a list that lies there, the call's own or the top's -/
noncomputable def LAt (base : Heap) (S : Led) (l : Addr) (xs : List AV) : Prop := ∀ h, Rep base S h → ∃ vs, h.IsList l (List.toArray vs) ∧ VRs xs vs
theorem LAt.own {l : Addr} {xs : List AV} (hm : (l, PList xs) ∈ S) : LAt base S l xs := fun h R => R.list hm
theorem LAt.old {l : Addr} {xs : List AV} {vs : List Value} (hl : base.IsList l (List.toArray vs)) (hv : VRs xs vs) : LAt base S l xs := fun h R => ⟨vs, let ⟨o, e, r⟩ := hl; ⟨o, R.keep _ _ e, r⟩, hv⟩
theorem VRs.ints {ns : List Int} : ∀ {vs : List Value}, VRs (ns.map AV.int) vs → ∀ (i : Nat) v, vs[i]? = some v → ∃ t, v = .int (ns.getD i 0) t := by
  intro vs h i v e
  have hl := h.length
  rw [List.length_map] at hl
  obtain ⟨hi, _⟩ := List.getElem?_eq_some_iff.mp e
  have ha : (ns.map AV.int)[i]? = some (.int ns[i]) := by rw [List.getElem?_map, List.getElem?_eq_getElem (by lia)]; rfl
  obtain ⟨u, e2, t, rfl⟩ := h.get ha
  rw [e] at e2
  cases e2
  refine ⟨t, ?_⟩
  rw [List.getD_eq_getElem?_getD, List.getElem?_eq_getElem (by lia)]; rfl
theorem c_sum {l : Addr} {ns : List Int} {v : Value} {Q : AV → Led → Prop} (hv : VR (.val (.ref l)) v) (hl : LAt base S l (ns.map AV.int)) (h : Q (.int ns.sum) S) : WV prog w base n (call (.builtin "sum") [v]) S Q := by
  rw [show v = .ref l from hv]
  refine .mk fun A s hA R => ?_
  obtain ⟨vs, hL, hvs⟩ := hl _ R
  have hlen := hvs.length
  rw [List.length_map] at hlen
  have hlt : l < s.heap.objs.size := let ⟨o, e, _⟩ := hL; Heap.lt_size e
  refine call_sum_walkG (wpAny_pyIter_list hL ⟨s.heap.objs.size, [s.heap.objs.size, l], [s.heap.objs.size], (List.toArray vs).size, _, _, fun i => ns.getD i 0, rfl,
    Walks.list (A := A.in1) hA.handled s.heap.objs.size l (Nat.ne_of_lt hlt) (List.toArray vs), ⟨⟨_, Heap.get?_push_size _ rfl, rfl, rfl⟩, let ⟨o, e, r⟩ := hL; ⟨o, Heap.get?_push_of_some _ e, r⟩⟩, ?_, ?_, ?_⟩)
  · intro b hb
    dsimp only
    rw [Heap.size_push]
    simp at hb
    rcases hb with rfl | rfl
    · exact Nat.lt_succ_self _
    · exact Nat.lt_succ_of_lt hlt
  · intro i v hp
    exact hvs.ints i v (by simpa using hp)
  · intro h' tk t' hk
    have e : preSum (fun i => ns.getD i 0) (List.toArray vs).size = ns.sum := by
      rw [List.size_toArray, ← hlen, preSum_getD, List.take_length]
    refine ⟨S, h', tk, rfl, R.grow fun b o e => hk b o (fun hm => ?_) (Heap.get?_push_of_some _ e), .int _, ⟨t', by rw [e]⟩, h⟩
    simp at hm
    exact Nat.lt_irrefl _ (hm ▸ Heap.lt_size e)

/-! slices -/
theorem VRs.toArr {xs : List AV} {vs : List Value} (h : VRs xs vs) : VRs xs (List.toArray vs).toList := by simpa using h
theorem ev_upto {value e : Expr} {p pos : Pos} {Q : AV → Led → Prop} (h : WV prog w base n (eval value env) S (fun a S₁ => WV prog w base n (eval e env) S₁ (fun b S₂ => ∃ l xs k, a = .val (.ref l) ∧ b = .int ((k : Nat) : Int) ∧ LAt base S₂ l xs ∧ xs.length ≤ 1000 ∧
      ∀ l', Q (.val (.ref l')) ((l', PList (xs.take k)) :: S₂))))
    (ht : ∀ o r, letTemporaryGo value o r = pure () := by intro _ _; rfl) : WV prog w base n (eval (.Subscript value (.Slice none (some e) none p) pos) env) S Q := .mk fun A s hA R => by
  refine wpAny_Subscript_list_slice (wpAny_mono (h.run A s hA R) (fun o s₁ p => ?_) fun _ _ x => x) ht
  obtain ⟨S₁, h₁, k₁, rfl, R₁, a, ra, q⟩ := p
  refine wpAny_evalPart_none (wpAny_evalPart_some (wpAny_mono (q.run A _ hA R₁) (fun vu s₂ p => ?_) fun _ _ x => x))
  obtain ⟨S₂, h₂, k₂, rfl, R₂, b, rb, l, xs, k, rfl, rfl, hL, hlen, q⟩ := p
  obtain ⟨t, rfl⟩ := rb
  obtain ⟨vs, hl, hv⟩ := hL _ R₂
  have hlv := hv.length
  refine ⟨l, _, none, some k, ra, hl, by rw [List.size_toArray, sizeLine_eq]; lia, .none, .int _ _, ?_⟩
  have R₃ := R₂.grow (fun b o e => Heap.get?_push_of_some ({ cls := .type "slice", data := .fields #[.none, .int (k : Int) t, .none] } : Obj) e)
  have R₄ := R₃.push (P := PList (xs.take k)) (o := { cls := .type "list", data := .seq (slicePick (List.toArray vs) none (some (k : Int)) none) }) ⟨vs.take k, 0, by rw [slicePick_upto'], hv.take k⟩
  rw [Heap.size_push] at R₄
  exact ⟨_, _, _, rfl, R₄, .val (.ref _), rfl, q _⟩
theorem slot_list_get : typeLookup (.type "list") "__getitem__" = pure (some (.builtin "list.__getitem__")) := slot_list_getitem.lookup
theorem ev_rev {value e : Expr} {p pos : Pos} {Q : AV → Led → Prop} (h : WV prog w base n (eval value env) S (fun a S₁ => WV prog w base n (eval e env) S₁ (fun b S₂ => ∃ l xs, a = .val (.ref l) ∧ b = .int (-1) ∧ LAt base S₂ l xs ∧ xs.length ≤ 1000 ∧
      ∀ l', Q (.val (.ref l')) ((l', PList xs.reverse) :: S₂))))
    (ht : ∀ o r, letTemporaryGo value o r = pure () := by intro _ _; rfl) : WV prog w base n (eval (.Subscript value (.Slice none none (some e) p) pos) env) S Q := .mk fun A s hA R => by
  refine wpAny_Subscript_Slice_step slot_list_get (wpAny_mono (h.run A s hA R) (fun o s₁ p => ?_) fun _ _ x => x) ht
  obtain ⟨S₁, h₁, k₁, rfl, R₁, a, ra, q⟩ := p
  refine wpAny_Slice (wpAny_evalPart_none (wpAny_evalPart_none (wpAny_evalPart_some (wpAny_mono (q.run A _ hA R₁) (fun vu s₂ p => ?_) fun _ _ x => x))))
  obtain ⟨S₂, h₂, k₂, rfl, R₂, b, rb, l, xs, rfl, rfl, hL, hlen, q⟩ := p
  obtain ⟨t, rfl⟩ := rb
  obtain rfl : o = .ref l := ra
  have R₃ := R₂.grow (fun b o e => Heap.get?_push_of_some ({ cls := .type "slice", data := .fields #[.none, .none, .int (-1) t] } : Obj) e)
  obtain ⟨vs, hl, hv⟩ := hL _ R₃
  have hlv := hv.length
  refine ⟨hl.typeIs, wpAny_getItem_list_slice hl ⟨_, Heap.get?_push_size _ rfl, rfl, rfl⟩ .none .none (.int _ _) (by decide) ?_ (by rw [List.size_toArray, sizeLine_eq]; lia)⟩
  have R₄ := R₃.push (P := PList xs.reverse) (o := { cls := .type "list", data := .seq (slicePick (List.toArray vs) none none (some (-1))) }) ⟨vs.reverse, 0, by rw [krv_pick], hv.reverse⟩
  exact ⟨_, _, _, rfl, R₄, .val (.ref _), rfl, q _⟩

/-! list + list -/
theorem o_ladd {l l' : Addr} {xs ys : List AV} {Q : AV → Led → Prop} (h1 : (l, PList xs) ∈ S) (h2 : (l', PList ys) ∈ S) (hl : xs.length + ys.length ≤ 1000) (h : ∀ k, Q (.val (.ref k)) ((k, PList (xs ++ ys)) :: S)) :
    L2 prog w base n (binaryOp .Add) (.val (.ref l)) (.val (.ref l')) S Q := fun va vb ra rb => .mk fun A s hA R => by
  rw [show va = .ref l from ra, show vb = .ref l' from rb]
  obtain ⟨vs, j, hL, hv⟩ := R.isL h1
  obtain ⟨us, j', hU, hu⟩ := R.isL h2
  have e1 := hv.length
  have e2 := hu.length
  refine PySem.P.add_list hL hU ?_ (by simp only [List.size_toArray]; rw [sizeLine_eq]; lia)
  have R' := R.push (P := PList (xs ++ ys)) (o := { cls := .type "list", data := .seq (List.toArray vs ++ List.toArray us) }) ⟨vs ++ us, 0, by simp, hv.append hu⟩
  exact ⟨_, _, _, rfl, R', .val (.ref _), rfl, h _⟩
end
end
section
open PySem PySem.W PyProof.Rows PySem.Calls PySem.Spec
set_option linter.all false
set_option maxRecDepth 100000
section
variable {prog : Program} {w : World} {base : Heap} {n : Nat} {S : Led} {env : Env} {L : Addr} {ls gs : List Str} {cs fs : List (Str × Addr)} {gl : List (Str × AV)} {bl : List (Str × Value)} {m : NM}

theorem W.in_nil {Q : Unit → Led → Prop} (h : Q () S) : W prog w base n (assignInOrder [] []) S Q := W.pure h

theorem bindN {x : Str} {v : Value} {Q : Unit → Led → Prop} (h : W prog w base n (storeName env x v) S Q) : W prog w base n (bindName env x v) S Q := .mk fun A s hA R => wpAny_bindName (h.run A s hA R)
theorem swapped_loc {env : Env} {x y : Str} {px py tp vp : Pos} {k k2 : Nat} {e1 e2 : Expr} (hE : EnvOk env L ls cs fs gs) (hx : x ∈ ls) (hy : y ∈ ls) (hp : (px.line == px.line && py.line == px.line && !(x == y)) = true)
    (hns : ∀ v p, e1 ≠ .Starred v p ∧ e2 ≠ .Starred v p) (hf : [e1, e2].all (foldedForSure 8) = false) (hc : [e1, e2].all (constantsAlone 8) = false) :
    swappedStores [.Tuple [.Name x px, .Name y py] k tp] (.Tuple [e1, e2] k2 vp) env = pure (some [x, y]) := by
  have h1 := (hE.ls _ hx).1
  have h2 := (hE.ls _ hy).1
  have hb : env.blockKind = .function := by unfold Env.blockKind; rw [hE.kind]; rfl
  simp only [Bool.and_eq_true, Bool.not_eq_true', beq_iff_eq] at hp
  obtain ⟨⟨_, hl⟩, hne⟩ := hp
  have hxy : x ≠ y := fun q => by simp [q] at hne
  have hyx : (y == x) = false := by simpa using fun q => hxy q.symm
  unfold swappedStores
  simp only [hb, Expr.pos, Option.map_some, List.head?_cons, Option.getD_some, List.filterMap_cons, List.filterMap_nil, h1, h2, hl, beq_self_eq_true, Bool.and_self, if_true, List.length_cons, List.length_nil]
  rw [hf, hc]
  split
  · rename_i q; exact absurd q (by decide)
  · split
    · rename_i h
      exfalso
      simp only [List.any_cons, List.any_nil, Bool.or_false, Bool.or_eq_true] at h
      rcases h with h | h
      · split at h
        · exact (hns _ _).1 rfl
        · cases h
      · split at h
        · exact (hns _ _).2 rfl
        · cases h
    · simp [List.eraseDups_cons, hyx]
theorem swapped_cell {env : Env} {x y : Str} {c : Addr} {px py tp vp : Pos} {k k2 : Nat} {e1 e2 : Expr} (hE : EnvOk env L ls cs fs gs) (hx : (x, c) ∈ cs) :
    swappedStores [.Tuple [.Name x px, .Name y py] k tp] (.Tuple [e1, e2] k2 vp) env = pure none := by
  have h1 := (hE.cs _ hx).1
  have hb : env.blockKind = .function := by unfold Env.blockKind; rw [hE.kind]; rfl
  have hk : (some NameKind.cell == some NameKind.local) = false := by decide
  unfold swappedStores
  simp only [hb, Expr.pos, Option.map_some, List.head?_cons, Option.getD_some, List.filterMap_cons, List.filterMap_nil, h1, hk, Bool.false_and, Bool.false_eq_true, if_false, List.length_cons, List.length_nil]
  split
  · rfl
  · split
    · rfl
    · split <;> simp

/-- x, y = e1, e2, both names the frame's own -/
theorem x_Pair {x y : Str} {px py tp vp pos : Pos} {k k2 : Nat} {e1 e2 : Expr} {Q : FQ} (hE : EnvOk env L ls cs fs gs) (hx : x ∈ ls) (hy : y ∈ ls) (hp : (px.line == px.line && py.line == px.line && !(x == y)) = true)
    (hns : ∀ v p, e1 ≠ .Starred v p ∧ e2 ≠ .Starred v p) (hf : [e1, e2].all (foldedForSure 8) = false) (hc : [e1, e2].all (constantsAlone 8) = false)
    (h : WVs prog w base n vp [e1, e2] env S (fun as S₁ => ∃ a b, as = [a, b] ∧ ∀ t va vb, VR a va → VR b vb → W prog w base n (storeName env y vb) ((t, PTup [a, b]) :: S₁) (fun _ S₂ => W prog w base n (storeName env x va) S₂ (fun _ => Q .next)))) :
    W prog w base n (exec (.Assign [.Tuple [.Name x px, .Name y py] k tp] (.Tuple [e1, e2] k2 vp) pos) env) S Q := .mk fun A s hA R => by
  rw [exec_Assign_arm]
  refine wpAny_bind (wpAny_standAt ?_)
  rw [show swapsWithSole [.Tuple [.Name x px, .Name y py] k tp] (.Tuple [e1, e2] k2 vp) pos.line env = pure false from rfl]
  refine wpAny_bind (wpAny_pure ?_)
  rw [if_neg (by decide), swapped_loc hE hx hy hp hns hf hc]
  have val : WV prog w base n (eval (.Tuple [e1, e2] k2 vp) env) S (fun a S₁ => ∃ t x' y' S₂, a = .val (.ref t) ∧ S₁ = (t, PTup [x', y']) :: S₂ ∧ ∀ va vb, VR x' va → VR y' vb → W prog w base n (storeName env y vb) S₁ (fun _ S₂ => W prog w base n (storeName env x va) S₂ (fun _ => Q .next))) :=
    ev_Tuple (W.mono h fun vs S₁ ⟨as, ra, a, b, e, q⟩ => ⟨as, ra, by rw [e]; show (2 : Nat) ≤ 1000; decide, fun t => ⟨t, a, b, S₁, rfl, by rw [e], fun va vb ha hb => by rw [e]; exact q t va vb ha hb⟩⟩)
  refine wpAny_bind (wpAny_mono (val.run A s hA R) (fun v s₁ p => ?_) fun _ _ x => x)
  obtain ⟨S₁, h₁, k₁, rfl, R₁, _, rv, t, a, b, S₂, rfl, rfl, q⟩ := p
  obtain rfl : v = .ref t := rv
  refine wpAny_bind (wpAny_pure ?_)
  obtain ⟨vs, ht, va, _, rfl, ra, vb, _, rfl, rb, rfl⟩ := R₁.tuple (.head _)
  show wpAny _ _ (do rule "assign.swapped-stores"; let items ← unpackItems (.ref t) 2 none; assignInOrder [bindName env y, bindName env x] items.reverse; pure Flow.next) _ _ _
  refine wpAny_bind (wpAny_rule ?_)
  refine wpAny_bind (wpAny_unpackItems_tuple (items := #[va, vb]) hA.handled ht fun h' xb => ?_)
  have R₂ := R₁.grow fun b o e => xb b o (Nat.ne_of_lt (Heap.lt_size e)) e
  have st : W prog w base n (assignInOrder [bindName env y, bindName env x] [vb, va]) ((t, PTup [a, b]) :: S₂) (fun _ S' => Q Flow.next S') := by
    exact in_cons ((bindN (q va vb ra rb)).mono fun _ S' q => in_cons ((bindN q).mono fun _ _ q => W.in_nil q))
  refine wpAny_bind (wpAny_mono (st.at hA rfl R₂ (E := NoE)) (fun _ s₂ p => ?_) fun _ _ x => x)
  exact wpAny_pure p.re
/-- x, y = e1, e2, x a cell -/
theorem x_PairC {x y : Str} {c : Addr} {px py tp vp pos : Pos} {k k2 : Nat} {e1 e2 : Expr} {Q : FQ} (hE : EnvOk env L ls cs fs gs) (hx : (x, c) ∈ cs)
    (h : WVs prog w base n vp [e1, e2] env S (fun as S₁ => ∃ a b, as = [a, b] ∧ ∀ t va vb, VR a va → VR b vb → W prog w base n (storeName env x va) ((t, PTup [a, b]) :: S₁) (fun _ S₂ => W prog w base n (storeName env y vb) S₂ (fun _ => Q .next)))) :
    W prog w base n (exec (.Assign [.Tuple [.Name x px, .Name y py] k tp] (.Tuple [e1, e2] k2 vp) pos) env) S Q := .mk fun A s hA R => by
  have val : WV prog w base n (eval (.Tuple [e1, e2] k2 vp) env) S (fun a S₁ => ∃ t x' y' S₂, a = .val (.ref t) ∧ S₁ = (t, PTup [x', y']) :: S₂ ∧ ∀ va vb, VR x' va → VR y' vb → W prog w base n (storeName env x va) S₁ (fun _ S₂ => W prog w base n (storeName env y vb) S₂ (fun _ => Q .next))) :=
    ev_Tuple (W.mono h fun vs S₁ ⟨as, ra, a, b, e, q⟩ => ⟨as, ra, by rw [e]; show (2 : Nat) ≤ 1000; decide, fun t => ⟨t, a, b, S₁, rfl, by rw [e], fun va vb ha hb => by rw [e]; exact q t va vb ha hb⟩⟩)
  refine wpAny_Assign_stores (wpAny_mono (val.run A s hA R) (fun v s₁ p => ?_) fun _ _ x => x) rfl (swapped_cell hE hx)
  obtain ⟨S₁, h₁, k₁, rfl, R₁, _, rv, t, a, b, S₂, rfl, rfl, q⟩ := p
  obtain rfl : v = .ref t := rv
  show wpAny _ _ (assign (.Tuple [.Name x px, .Name y py] k tp) env (.ref t)) _ _ _
  exact W.at (as_Pair (List.mem_cons_self) q) hA rfl R₁
/-- x, y = e, the value a pair -/
theorem x_Unpack {x y : Str} {px py tp pos : Pos} {k : Nat} {e : Expr} {Q : FQ} (hs : swapsWithSole [.Tuple [.Name x px, .Name y py] k tp] e pos.line env = pure false := by rfl) (hw : swappedStores [.Tuple [.Name x px, .Name y py] k tp] e env = pure none := by rfl)
    (h : WV prog w base n (eval e env) S (fun a S₁ => ∃ t a' b', a = .val (.ref t) ∧ (t, PTup [a', b']) ∈ S₁ ∧ ∀ va vb, VR a' va → VR b' vb → W prog w base n (storeName env x va) S₁ (fun _ S₂ => W prog w base n (storeName env y vb) S₂ (fun _ => Q .next)))) :
    W prog w base n (exec (.Assign [.Tuple [.Name x px, .Name y py] k tp] e pos) env) S Q := .mk fun A s hA R => by
  refine wpAny_Assign_stores (wpAny_mono (h.run A s hA R) (fun v s₁ p => ?_) fun _ _ x => x) hs hw
  obtain ⟨S₁, h₁, k₁, rfl, R₁, _, rv, t, a, b, rfl, hm, q⟩ := p
  obtain rfl : v = .ref t := rv
  show wpAny _ _ (assign (.Tuple [.Name x px, .Name y py] k tp) env (.ref t)) _ _ _
  exact W.at (as_Pair hm q) hA rfl R₁
end
end
section
open PySem PySem.W PyProof.Rows PySem.Calls PySem.Spec
set_option linter.all false
set_option maxRecDepth 100000
section
variable {prog : Program} {w : World} {base : Heap} {n : Nat} {S : Led} {gl : List (Str × AV)} {bl : List (Str × Value)} {a : Addr}

theorem o_pow2 {k : Nat} {Q : AV → Led → Prop} (hk : k ≤ 20) (h : Q (.int (2 ^ k)) S) : L2 prog w base n (binaryOp .Pow) (.int 2) (.int (k : Int)) S Q := by
  refine o_pow (by rw [Int.toNat_natCast]; exact h) (by lia) ?_
  have : Builtin.Int.intBits 2 = 2 := by decide +kernel
  rw [this]; lia
theorem two_pow_ne (k : Nat) : (2 ^ k : Int) ≠ 0 := Int.ne_of_gt (Int.pow_pos (by decide))
theorem two_pow_small {k : Nat} (hk : k ≤ 20) : (2 ^ k : Int).natAbs < 1073741824 := by
  have : (2 ^ k : Int) = ((2 ^ k : Nat) : Int) := by push_cast; rfl
  rw [this, Int.natAbs_natCast]
  exact Nat.lt_of_le_of_lt (Nat.pow_le_pow_right (by decide) hk) (by decide)
theorem o_div2 {x : Int} {k : Nat} {Q : AV → Led → Prop} (hk : k ≤ 20) (h : Q (.int (x.fdiv (2 ^ k))) S) : L2 prog w base n (binaryOp .FloorDiv) (.int x) (.int (2 ^ k)) S Q := o_div h (two_pow_ne k) (two_pow_small hk)
/-- the law's count of nine bits -/
noncomputable abbrev bitAt (x : Int) (k : Nat) : Int := (x.fdiv (2 ^ k)).fmod 2
noncomputable def cnt (x : Int) : Int := ((List.range 9).map fun k => bitAt x k).sum

theorem sig_count : sigOk (fnScope 51) ["number"] [] ["number"] ["sum", "range"] = true := by rfl
theorem c_count (F : FnIs base a (fnScope 51) ["number"] (fnBody 51) []) (T : TopIs base gl bl) (hsum : (("sum" : Str), Value.builtin "sum") ∈ bl) (hr : (("range" : Str), Value.type "range") ∈ bl) {x : Int} {v : Value} {Q : AV → Led → Prop}
    (hv : VR (.int x) v) (h : Q (.int (cnt x)) S) : WV prog w base (n + 1) (call (.ref a) [v]) S Q := by
  refine c_call F (das := []) rfl sig_count (args := [.int x]) ⟨v, [], rfl, hv, rfl⟩ rfl fun env L ads hlen hE => ?_
  obtain ⟨c, rfl⟩ := List.length_eq_one_iff.mp hlen
  show W prog w base n (execs (fnBody 51) env) ((L, PNs []) :: (c, PCell (some (.int x))) :: S) (RetS Q)
  refine x_cons (x_Ret (ev_CallB (ev_blt hE T (by tb_start) hsum ⟨rfl, vs_cons (ev_ListComp (lsC := ["k"]) (gsC := []) (frs := [("number", c)]) hE (by rfl) (by simp) ?_) ⟩)))
  refine ev_CallT (ev_blt hE T (by tb_start) hr ⟨rfl, vs_cons (ev_int (vs_nil fun vs hvs => ?_))⟩)
  refine vrs1 hvs fun v9 h9 => ?_
  refine c_range1 h9 fun l => ?_
  refine it_rangeN (N := 9) List.mem_cons_self (by decide) fun it => ⟨it, rfl, fun S' Q' hs hq => it_riter (hs _ List.mem_cons_self) hq, fun acc C cenv hE' => ?_⟩
  refine wc_compRange (N := 9) (m0 := [("k", none)]) (fun i => (List.range i).map fun k => .int (bitAt x k)) (fun _ => (l, PRange 0 9 1) :: (L, PNs []) :: (c, PCell (some (.int x))) :: S) rfl (fun i hi => by simp; lia) (fun i hi v hv => ?_) ?_
  · refine st_loc hE' (by tb_start) (by tb_start) (by tb_start) hv (ifs_nil ?_)
    rw [if_pos rfl]
    refine ev_BinOp (ev_BinOp (ev_cell hE' (by tb_start) (by tb_start) (ev_BinOp (ev_int (ev_loc hE' (by tb_start) (by tb_start) (by tb_start) (o_pow2 (by lia) (o_div2 (by lia) (ev_int (o_mod ⟨?_, by tb_start⟩ (by decide))))))))))
    rw [List.range_succ, List.map_append]; rfl
  · refine ⟨_, _, rfl, ?_⟩
    refine vs_nil fun vs hvs => ?_
    refine vrs1 hvs fun v1 h1 => ?_
    refine c_sum (ns := (List.range 9).map fun k => bitAt x k) h1 (.own ?_) fun v hv => ret_end hv (by tb_start) h
    rw [List.map_map]
    exact List.mem_cons_self
end
end
section
open PySem PySem.W PyProof.Rows PySem.Calls PySem.Spec
set_option linter.all false
set_option maxRecDepth 100000
section
variable {prog : Program} {w : World} {base : Heap} {n : Nat} {S : Led} {gl : List (Str × AV)} {bl : List (Str × Value)} {a : Addr}

noncomputable def aStrs (ps : List Str) : List AV := ps.map AV.str
noncomputable def aInts (ns : List Int) : List AV := ns.map AV.int
noncomputable def nats (ns : List Nat) : List AV := ns.map fun (k : Nat) => AV.int (k : Int)
theorem strs_at {ps : List Str} {i : Nat} (h : i < ps.length) : (aStrs ps)[((i : Int)).toNat]? = some (.str (ps.getD i Str.empty)) := by
  rw [Int.toNat_natCast, aStrs, List.getElem?_map, List.getElem?_eq_getElem h, List.getD_eq_getElem?_getD, List.getElem?_eq_getElem h]; rfl
noncomputable def chrAt (x : Str) (i : Nat) : Str := ⟨#[x.cps.getD i 0]⟩
theorem chr_at {x : Str} {i : Nat} (h : i < x.length) : (seqIndex? ((i : Nat) : Int) x.length).bind (x.cps[·]?) = some (x.cps.getD i 0) := by
  have : seqIndex? ((i : Nat) : Int) x.length = some i := by
    unfold seqIndex?
    have h0 : ¬ ((i : Int) < 0) := by lia
    simp only [h0, if_false]
    have h1 : ((decide (0 ≤ (i : Int)) && decide ((i : Int) < (x.length : Int))) = true) := by simp; lia
    rw [if_pos h1, Int.toNat_natCast]
  rw [this]
  have hs : i < x.cps.size := h
  show x.cps[i]? = _
  rw [Array.getD_eq_getD_getElem?, Array.getElem?_eq_getElem hs]; rfl

theorem len_two {α : Type} : ∀ {l : List α}, l.length = 2 → ∃ a b, l = [a, b]
  | [a, b], _ => ⟨a, b, rfl⟩
theorem len_one {α : Type} : ∀ {l : List α}, l.length = 1 → ∃ a, l = [a]
  | [a], _ => ⟨a, rfl⟩
/-- a piece that a sign misses -/
noncomputable def badAt (ps : List Str) (sg : Str) (k : Nat) : Bool := (ps.getD k Str.empty != ".") && !inS (chrAt sg k) (ps.getD k Str.empty)
noncomputable def fitB (ps : List Str) (sg : Str) : Bool := ((List.range 10).filter (badAt ps sg)).isEmpty

theorem DR.aInts {l : Addr} {ns : List Int} (hm : (l, PList (ns.map AV.int)) ∈ S) : DR S (.val (.ref l)) (.list (ns.map PyData.int)) :=
  .list hm (by simp) fun i a d e1 e2 => by
    rw [List.getElem?_map] at e1 e2
    obtain ⟨x, ex, rfl⟩ := Option.map_eq_some_iff.mp e1
    rw [ex] at e2
    cases e2
    exact .int x
theorem DR.nats {l : Addr} {ns : List Nat} (hm : (l, PList (nats ns)) ∈ S) : DR S (.val (.ref l)) (.list (ns.map fun (k : Nat) => PyData.int (k : Int))) :=
  .list hm (by simp [Mine.nats]) fun i a d e1 e2 => by
    rw [Mine.nats, List.getElem?_map] at e1
    rw [List.getElem?_map] at e2
    obtain ⟨x, ex, rfl⟩ := Option.map_eq_some_iff.mp e1
    rw [ex] at e2
    cases e2
    exact .int _
theorem DR.aStrs {l : Addr} {ps : List Str} (hm : (l, PList (aStrs ps)) ∈ S) : DR S (.val (.ref l)) (.list (ps.map PyData.str)) :=
  .list hm (by simp [Mine.aStrs]) fun i a d e1 e2 => by
    rw [Mine.aStrs, List.getElem?_map] at e1
    rw [List.getElem?_map] at e2
    obtain ⟨x, ex, rfl⟩ := Option.map_eq_some_iff.mp e1
    rw [ex] at e2
    cases e2
    exact .str _
theorem DR.aBools {l : Addr} {bs : List Bool} (hm : (l, PList (bs.map fun b => AV.val (.bool b))) ∈ S) : DR S (.val (.ref l)) (.list (bs.map PyData.bool)) :=
  .list hm (by simp) fun i a d e1 e2 => by
    rw [List.getElem?_map] at e1 e2
    obtain ⟨x, ex, rfl⟩ := Option.map_eq_some_iff.mp e1
    rw [ex] at e2
    cases e2
    exact .bool _
theorem flat_lay {ds : List PyData} (h : ∀ d ∈ ds, d.canLay0 = true ∧ d.depth = 0) : PyData.canLayAll0 ds = true ∧ PyData.depthAll ds = 0 := by
  induction ds with
  | nil => exact ⟨by first | rfl | simp [PyData.canLayAll0], by first | rfl | simp [PyData.depthAll]⟩
  | cons d r ih =>
    have h1 := h d (.head _)
    have h2 := ih fun x hx => h x (.tail _ hx)
    exact ⟨by simp [PyData.canLayAll0, h1.1, h2.1], by simp [PyData.depthAll, h1.2, h2.2]⟩
theorem flat_shaped {ds : List PyData} (h : ∀ d ∈ ds, d.canLay0 = true ∧ d.depth = 0) : SeqAt.shaped (.list ds) = true := by
  have := flat_lay h
  unfold SeqAt.shaped
  simp [PyData.canLay0, PyData.depth, this.1, this.2]
theorem shaped_aInts (ns : List Int) : SeqAt.shaped (.list (ns.map PyData.int)) = true := flat_shaped fun d hd => by obtain ⟨x, _, rfl⟩ := List.mem_map.mp hd; exact ⟨by simp [PyData.canLay0], by simp [PyData.depth]⟩
theorem shaped_nats (ns : List Nat) : SeqAt.shaped (.list (ns.map fun (k : Nat) => PyData.int (k : Int))) = true := flat_shaped fun d hd => by obtain ⟨x, _, rfl⟩ := List.mem_map.mp hd; exact ⟨by simp [PyData.canLay0], by simp [PyData.depth]⟩
theorem shaped_strs {ns : List Str} (h : ∀ x ∈ ns, PyData.strOk x = true) : SeqAt.shaped (.list (ns.map PyData.str)) = true := flat_shaped fun d hd => by obtain ⟨x, hx, rfl⟩ := List.mem_map.mp hd; exact ⟨by simp [PyData.canLay0, h x hx], by simp [PyData.depth]⟩
theorem shaped_bools (ns : List Bool) : SeqAt.shaped (.list (ns.map PyData.bool)) = true := flat_shaped fun d hd => by obtain ⟨x, _, rfl⟩ := List.mem_map.mp hd; exact ⟨by simp [PyData.canLay0], by simp [PyData.depth]⟩

theorem sig_fits : sigOk (fnScope 50) ["pieces", "signs"] [] ["signs", "pieces"] ["range"] = true := by rfl
theorem c_fits (F : FnIs base a (fnScope 50) ["pieces", "signs"] (fnBody 50) []) (T : TopIs base gl bl) (hr : (("range" : Str), Value.type "range") ∈ bl) {lp : Addr} {ps : List Str} {sg : Str} {v1 v2 : Value} {Q : AV → Led → Prop}
    (h1 : VR (.val (.ref lp)) v1) (h2 : VR (.str sg) v2) (hm : (lp, PList (aStrs ps)) ∈ S) (hl : ps.length = 10) (hsg : sg.length = 10) (h : Q (.val (.bool (fitB ps sg))) S) : WV prog w base (n + 1) (call (.ref a) [v1, v2]) S Q := by
  refine c_call F (das := []) rfl sig_fits (args := [.val (.ref lp), .str sg]) ⟨v1, _, rfl, h1, v2, [], rfl, h2, rfl⟩ rfl fun env L ads hlen hE => ?_
  obtain ⟨cs, cp, rfl⟩ := len_two hlen
  show W prog w base n (execs (fnBody 50) env) ((L, PNs []) :: (cs, PCell (some (.str sg))) :: (cp, PCell (some (.val (.ref lp)))) :: S) (RetS Q)
  refine x_cons (x_Ret (ev_Compare (ev_ListComp (lsC := ["k"]) (gsC := []) (frs := [("pieces", cp), ("signs", cs)]) hE (by rfl) (by simp) ?_)))
  refine ev_CallT (ev_blt hE T (by tb_start) hr ⟨rfl, vs_cons (ev_int (vs_nil fun vs hvs => ?_))⟩)
  refine vrs1 hvs fun v9 h9 => ?_
  refine c_range1 h9 fun l => ?_
  refine it_rangeN (N := 10) List.mem_cons_self (by decide) fun it => ⟨it, rfl, fun S' Q' hs hq => it_riter (hs _ List.mem_cons_self) hq, fun acc C cenv hE' => ?_⟩
  refine wc_compRange (N := 10) (m0 := [("k", none)]) (fun i => nats ((List.range i).filter (badAt ps sg))) (fun _ => (l, PRange 0 10 1) :: (L, PNs []) :: (cs, PCell (some (.str sg))) :: (cp, PCell (some (.val (.ref lp)))) :: S) rfl
    (fun i hi => by have := List.length_filter_le (badAt ps sg) (List.range i); simp [nats] at this ⊢; lia) (fun i hi v hv => ?_) ?_
  · refine st_loc hE' (by tb_start) (by tb_start) (by tb_start) hv (ifs_one (t_And (t_Compare ?_)))
    refine ev_Sub (ev_cell hE' (by tb_start) (by tb_start) (ev_loc hE' (by tb_start) (by tb_start) (by tb_start) (g_list (xs := aStrs ps) ?_ (by lia) (by lia) (strs_at (by lia)) (ev_str (o_sne (T1.bool ?_))))))
    · exact List.mem_cons_of_mem _ (List.mem_cons_of_mem _ (List.mem_cons_of_mem _ (List.mem_cons_of_mem _ (List.mem_cons_of_mem _ (List.mem_cons_of_mem _ (List.mem_cons_of_mem _ hm))))))
    · have step : ∀ b : Bool, badAt ps sg i = b → nats ((List.range (i + 1)).filter (badAt ps sg)) = nats ((List.range i).filter (badAt ps sg)) ++ (if b then [.int (i : Int)] else []) := fun b hb => by
        rw [List.range_succ, List.filter_append, nats, List.map_append, List.filter_cons, hb]
        cases b <;> rfl
      split
      · rename_i hne
        refine t_Compare (ev_Sub (ev_cell hE' (by tb_start) (by tb_start) (ev_loc hE' (by tb_start) (by tb_start) (by tb_start) (g_str (by lia) (by lia) (chr_at (by lia)) (ev_Sub (ev_cell hE' (by tb_start) (by tb_start) (ev_loc hE' (by tb_start) (by tb_start) (by tb_start) (g_list (xs := aStrs ps) ?_ (by lia) (by lia) (strs_at (by lia)) (o_nin (T1.bool ?_))))))))))
        · exact List.mem_cons_of_mem _ (List.mem_cons_of_mem _ (List.mem_cons_of_mem _ (List.mem_cons_of_mem _ (List.mem_cons_of_mem _ (List.mem_cons_of_mem _ (List.mem_cons_of_mem _ hm))))))
        · split
          · rename_i hin
            refine ev_loc hE' (by tb_start) (by tb_start) (by tb_start) ⟨step true ?_, by tb_start⟩
            unfold badAt
            rw [hne]; exact hin
          · rename_i hin
            refine ⟨(step false ?_).trans (by simp), by tb_start⟩
            unfold badAt
            rw [hne]; simpa [chrAt] using hin
      · rename_i hne
        rw [if_neg (by decide)]
        refine ⟨(step false ?_).trans (by simp), by tb_start⟩
        unfold badAt
        rw [Bool.eq_false_iff.mpr hne]; rfl
  · refine ⟨_, _, rfl, ?_⟩
    refine ev_List (vs_nil ⟨by decide, fun l2 => ?_⟩)
    refine o_eqD (DR.nats (ns := (List.range 10).filter (badAt ps sg)) (by tb_start)) (DR.aInts (ns := []) List.mem_cons_self) (shaped_nats _) (shaped_aInts []) fun v hv => ?_
    refine ret_end (a := .val (.bool (fitB ps sg))) ?_ (by tb_start) h
    have e : PyData.eqv (.list (((List.range 10).filter (badAt ps sg)).map fun (k : Nat) => PyData.int (k : Int))) (.list (([] : List Int).map PyData.int)) = fitB ps sg := by
      unfold fitB
      cases (List.range 10).filter (badAt ps sg) with
      | nil => rfl
      | cons x r => rfl
    rw [e] at hv
    exact hv
end
end
section
open PySem PySem.W PyProof.Rows PySem.Calls PySem.Spec
set_option linter.all false
set_option maxRecDepth 100000
section
variable {prog : Program} {w : World} {base : Heap} {n : Nat} {S : Led} {gl : List (Str × AV)} {bl : List (Str × Value)} {a : Addr}

/-! small numbers: the ints of the text that are counts -/
theorem fdivN (i c : Nat) : ((i : Int)).fdiv ((c : Nat) : Int) = ((i / c : Nat) : Int) := by rw [Int.fdiv_eq_ediv_of_nonneg _ (by omega)]; rfl
theorem fmodN (i c : Nat) : ((i : Int)).fmod ((c : Nat) : Int) = ((i % c : Nat) : Int) := by rw [Int.fmod_eq_emod_of_nonneg _ (by omega)]; rfl
theorem mulOk {a b : Int} (h1 : -(2 ^ 64) < a) (h2 : a < 2 ^ 64) : IntMulOk a b := by
  unfold IntMulOk
  have : Builtin.Int.intBits a ≤ 64 := intBits_le_64 h1 h2
  simp [shortFactorBits]
  omega
noncomputable def bitN (x : Int) (k : Nat) : Nat := (bitAt x k).toNat
theorem bitAt_range (x : Int) (k : Nat) : 0 ≤ bitAt x k ∧ bitAt x k < 2 := by
  unfold bitAt
  rw [Int.fmod_eq_emod_of_nonneg _ (by decide)]
  exact ⟨Int.emod_nonneg _ (by decide), Int.emod_lt_of_pos _ (by decide)⟩
theorem bitAt_nat (x : Int) (k : Nat) : bitAt x k = (bitN x k : Int) := by
  have := (bitAt_range x k).1
  unfold bitN; omega
theorem bitN_lt (x : Int) (k : Nat) : bitN x k < 2 := by
  have := bitAt_range x k
  unfold bitN; omega

theorem o_subN {i j : Nat} {Q : AV → Led → Prop} (hj : j ≤ i) (h : Q (.int ((i - j : Nat) : Int)) S) : L2 prog w base n (binaryOp .Sub) (.int (i : Int)) (.int (j : Int)) S Q :=
  o_sub (by rw [show (i : Int) - (j : Int) = ((i - j : Nat) : Int) by omega]; exact h)
theorem o_addN {i j : Nat} {Q : AV → Led → Prop} (h : Q (.int ((i + j : Nat) : Int)) S) : L2 prog w base n (binaryOp .Add) (.int (i : Int)) (.int (j : Int)) S Q :=
  o_add (by rw [show (i : Int) + (j : Int) = ((i + j : Nat) : Int) by omega]; exact h)
theorem o_mulN {i j : Nat} {Q : AV → Led → Prop} (hi : i < 1000) (h : Q (.int ((i * j : Nat) : Int)) S) : L2 prog w base n (binaryOp .Mult) (.int (i : Int)) (.int (j : Int)) S Q :=
  o_mul (by rw [show (i : Int) * (j : Int) = ((i * j : Nat) : Int) by push_cast; rfl]; exact h) (mulOk (by omega) (by omega))
theorem o_divN {i j : Nat} {Q : AV → Led → Prop} (h0 : 0 < j) (hj : j < 1000) (h : Q (.int ((i / j : Nat) : Int)) S) : L2 prog w base n (binaryOp .FloorDiv) (.int (i : Int)) (.int (j : Int)) S Q :=
  o_div (by rw [fdivN]; exact h) (by omega) (by omega)
theorem o_modN {i j : Nat} {Q : AV → Led → Prop} (h0 : 0 < j) (h : Q (.int ((i % j : Nat) : Int)) S) : L2 prog w base n (binaryOp .Mod) (.int (i : Int)) (.int (j : Int)) S Q :=
  o_mod (by rw [fmodN]; exact h) (by omega)
theorem o_eqN {i j : Nat} {Q : AV → Led → Prop} (h : Q (.val (.bool (i == j))) S) : L2 prog w base n (compareOp .Eq) (.int (i : Int)) (.int (j : Int)) S Q :=
  o_eq (by rw [show (((i : Int)) == ((j : Int))) = (i == j) by rw [Bool.eq_iff_iff]; simp; omega]; exact h)
theorem o_ltN {i j : Nat} {Q : AV → Led → Prop} (h : Q (.val (.bool (decide (i < j)))) S) : L2 prog w base n (compareOp .Lt) (.int (i : Int)) (.int (j : Int)) S Q :=
  o_lt (by rw [show decide (((i : Int)) < ((j : Int))) = decide (i < j) by rw [Bool.eq_iff_iff]; simp]; exact h)
theorem o_gtN {i j : Nat} {Q : AV → Led → Prop} (h : Q (.val (.bool (decide (j < i)))) S) : L2 prog w base n (compareOp .Gt) (.int (i : Int)) (.int (j : Int)) S Q :=
  o_gt (by rw [show decide (((j : Int)) < ((i : Int))) = decide (j < i) by rw [Bool.eq_iff_iff]; simp]; exact h)

/-- a test of two parts that leave the ledger alone -/
theorem t_AndP {env : Env} {x y : Expr} {pos : Pos} {b₁ b₂ : Bool} {Q : Bool → Led → Prop} (h1 : WT prog w base n x env S (fun b S₁ => S₁ = S ∧ b = b₁)) (h2 : b₁ = true → WT prog w base n y env S (fun b S₁ => S₁ = S ∧ b = b₂)) (h : Q (b₁ && b₂) S) :
    WT prog w base n (.BoolOp .And [x, y] pos) env S Q := by
  refine t_And (W.mono h1 ?_)
  rintro b S₁ ⟨rfl, rfl⟩
  cases b with
  | false => exact h
  | true =>
    rw [if_pos rfl]
    refine W.mono (h2 rfl) ?_
    rintro b S₁ ⟨rfl, rfl⟩
    exact h
/-- the sign at the place k -/
noncomputable def lsCh (r : Int) (k : Nat) : Str :=
  if (k % 3 == 2 && bitAt r (11 - k / 3) == 1) = true then chrAt ((["Ss", "Ss", "Tt"] : List Str).getD (k / 3) Str.empty) (bitN r (8 - k)) else chrAt "-rwx" ((k % 3 + 1) * bitN r (8 - k))
noncomputable def lsText (folder : Bool) (r : Int) (i : Nat) : Str := (List.range i).foldl (fun t k => t ++ lsCh r k) (if folder then "d" else "-")
theorem lsCh_len (r : Int) (k : Nat) : (lsCh r k).length = 1 := by unfold lsCh; split <;> rfl
theorem lsText_succ (folder : Bool) (r : Int) (i : Nat) : lsText folder r (i + 1) = lsText folder r i ++ lsCh r i := by
  unfold lsText; rw [List.range_succ, List.foldl_append]; rfl
theorem lsText_len (folder : Bool) (r : Int) (i : Nat) : (lsText folder r i).length = i + 1 := by
  induction i with
  | zero => cases folder <;> rfl
  | succ i ih => rw [lsText_succ, Str.length_append, ih, lsCh_len]

theorem sig_lsigns : sigOk (fnScope 48) ["folder", "rights"] ["folder", "rights", "text", "k", "bit", "set_bit"] [] ["range"] = true := by rfl
theorem c_lsigns (F : FnIs base a (fnScope 48) ["folder", "rights"] (fnBody 48) []) (T : TopIs base gl bl) (hr : (("range" : Str), Value.type "range") ∈ bl) {folder : Bool} {r : Int} {v1 v2 : Value} {Q : AV → Led → Prop}
    (h1 : VR (.val (.bool folder)) v1) (h2 : VR (.int r) v2) (h : Q (.str (lsText folder r 9)) S) : WV prog w base (n + 1) (call (.ref a) [v1, v2]) S Q := by
  refine c_call F (das := []) rfl sig_lsigns (args := [.val (.bool folder), .int r]) ⟨v1, _, rfl, h1, v2, [], rfl, h2, rfl⟩ rfl fun env L ads hlen hE => ?_
  obtain rfl := List.eq_nil_of_length_eq_zero hlen
  show W prog w base n (execs (fnBody 48) env) ((L, PNs [("folder", some (.val (.bool folder))), ("rights", some (.int r)), ("text", none), ("k", none), ("bit", none), ("set_bit", none)]) :: S) (RetS Q)
  refine x_cons (x_AssignName (ev_IfExp (t_val (ev_loc hE (by tb_start) (by tb_start) (by tb_start) (T1.bool ?_)))))
  have cont : ∀ v, VR (.str (lsText folder r 0)) v → W prog w base n (storeName env "text" v) ((L, PNs [("folder", some (.val (.bool folder))), ("rights", some (.int r)), ("text", none), ("k", none), ("bit", none), ("set_bit", none)]) :: S)
      (fun _ S₁ => match Flow.next with | .next => W prog w base n (execs ((fnBody 48).tail) env) S₁ (RetS Q) | f => RetS Q f S₁) := fun v hv => by
    refine st_loc hE (by tb_start) (by tb_start) (by tb_start) hv ?_
    refine x_cons (x_For (ev_CallT (ev_blt hE T (by tb_start) hr ⟨rfl, vs_cons (ev_int (vs_nil fun vs hvs => ?_))⟩)))
    refine vrs1 hvs fun v9 h9 => ?_
    refine c_range1 h9 fun l => it_rangeN (N := 9) List.mem_cons_self (by decide) fun it vi hvi => ?_
    obtain rfl : vi = .ref it := hvi
    refine wc_forRange (N := 9) (fun i => (l, PRange 0 9 1) :: (L, PNs [("folder", some (.val (.bool folder))), ("rights", some (.int r)), ("text", some (.str (lsText folder r i))), ("k", none), ("bit", none), ("set_bit", none)]) :: S) (fun i hi v hv => ?_) ?_
    · refine st_loc hE (by tb_start) (by tb_start) (by tb_start) hv ?_
      refine x_cons (x_Pair hE (by tb_start) (by tb_start) (by rfl) (by intro _ _; exact ⟨(by intro q; cases q), (by intro q; cases q)⟩) (by rfl) (by rfl) ?_)
      refine vs_cons (ev_BinOp (ev_BinOp (ev_loc hE (by tb_start) (by tb_start) (by tb_start) (ev_BinOp (ev_int (ev_BinOp (ev_int (ev_loc hE (by tb_start) (by tb_start) (by tb_start) (o_subN (i := 8) (by omega) (o_pow2 (by omega) (o_div2 (by omega) (ev_int (o_mod ?_ (by decide))))))))))))))
      refine vs_cons (ev_BinOp (ev_BinOp (ev_loc hE (by tb_start) (by tb_start) (by tb_start) (ev_BinOp (ev_int (ev_BinOp (ev_int (ev_BinOp (ev_loc hE (by tb_start) (by tb_start) (by tb_start) (ev_int (o_divN (j := 3) (by decide) (by decide) (o_subN (i := 11) (by omega) (o_pow2 (by omega) (o_div2 (by omega) (ev_int (o_mod ?_ (by decide)))))))))))))))))
      refine vs_nil ⟨_, _, rfl, fun t va vb ha hb => ?_⟩
      refine st_loc hE (by tb_start) (by tb_start) (by tb_start) hb ?_
      refine st_loc hE (by tb_start) (by tb_start) (by tb_start) ha ?_
      refine x_cons (x_If ?_)
      have fin : ∀ (y : Str) (S₄ : Led) (v : Value), y = lsCh r i → VR (.str (lsText folder r i ++ y)) v → Wk ((t, PTup [.int (bitAt r (8 - i)), .int (bitAt r (11 - i / 3))]) :: (it, PRIter ((i : Int) + 1) ((9 : Nat) - (i : Int) - 1) 1) :: (l, PRange 0 9 1) ::
          (L, PNs [("folder", some (.val (.bool folder))), ("rights", some (.int r)), ("text", some (.str (lsText folder r i))), ("k", some (.int i)), ("bit", some (.int (bitAt r (8 - i)))), ("set_bit", some (.int (bitAt r (11 - i / 3))))]) :: S) S₄ →
          W prog w base n (storeName env "text" v) S₄ (fun _ S' => Wk ((it, PRIter ((i : Int) + 1) ((9 : Nat) - (i : Int) - 1) 1) :: (l, PRange 0 9 1) :: (L, PNs [("folder", some (.val (.bool folder))), ("rights", some (.int r)), ("text", some (.str (lsText folder r (i + 1)))), ("k", none), ("bit", none), ("set_bit", none)]) :: S) S') := fun y S₄ v hy hv hw => by
        refine W.wk ?_ hw
        refine st_loc hE (by tb_start) (by tb_start) (by tb_start) (a := .str (lsText folder r (i + 1))) ?_ (by tb_start)
        rw [lsText_succ, ← hy]; exact hv
      have hlen : (lsText folder r i).length = i + 1 := lsText_len _ _ _
      refine t_AndP (b₁ := i % 3 == 2) (b₂ := bitAt r (11 - i / 3) == 1) (t_Compare (ev_BinOp (ev_loc hE (by tb_start) (by tb_start) (by tb_start) (ev_int (o_modN (j := 3) (by decide) (ev_int (o_eqN (j := 2) (T1.bool ⟨rfl, rfl⟩))))))))
        (fun _ => t_Compare (ev_loc hE (by tb_start) (by tb_start) (by tb_start) (ev_int (o_eq (T1.bool ⟨rfl, rfl⟩))))) ?_
      have hb3 := bitN_lt r (8 - i)
      split
      · rename_i hb
        refine x_cons <| x_AssignName <| ev_BinOp <| ev_loc hE (by tb_start) (by tb_start) (by tb_start) <| ev_Sub <| ev_Sub <| ev_List <| vs_cons <| ev_str <| vs_cons <| ev_str <| vs_cons <| ev_str <| vs_nil ⟨(by show (3 : Nat) ≤ 1000; decide), fun l3 => ?_⟩
        refine ev_BinOp <| ev_loc hE (by tb_start) (by tb_start) (by tb_start) <| ev_int <| o_divN (j := 3) (by decide) (by decide) <| g_list (xs := aStrs ["Ss", "Ss", "Tt"]) List.mem_cons_self (by omega) (by omega) (strs_at (by show i / 3 < 3; omega)) ?_
        refine ev_loc hE (by tb_start) (by tb_start) (by tb_start) ?_
        show L2 prog w base n _ _ (.int (bitAt r (8 - i))) _ _
        rw [bitAt_nat r (8 - i)]
        have hl2 : ((["Ss", "Ss", "Tt"] : List Str).getD (i / 3) Str.empty).length = 2 := by
          have : i / 3 = 0 ∨ i / 3 = 1 ∨ i / 3 = 2 := by omega
          rcases this with e | e | e <;> rw [e] <;> rfl
        refine g_str (by omega) (by omega) (chr_at (by rw [hl2]; omega)) (o_sadd (fun v hv => ?_) (by rw [hlen]; show i + 1 + 1 ≤ 1000; omega))
        refine W.mono (fin _ _ v ?_ hv (by tb_start)) fun _ S' q => x_nil (x_nil q)
        unfold lsCh
        rw [if_pos hb]; rfl
      · rename_i hb
        refine x_cons <| x_AssignName <| ev_BinOp <| ev_loc hE (by tb_start) (by tb_start) (by tb_start) <| ev_Sub <| ev_str <| ev_BinOp <| ev_BinOp <| ev_BinOp <| ev_loc hE (by tb_start) (by tb_start) (by tb_start) <| ev_int <| o_modN (j := 3) (by decide) <| ev_int <| o_addN (j := 1) ?_
        refine ev_loc hE (by tb_start) (by tb_start) (by tb_start) ?_
        show L2 prog w base n _ _ (.int (bitAt r (8 - i))) _ _
        rw [bitAt_nat r (8 - i)]
        have hb4 : (i % 3 + 1) * bitN r (8 - i) ≤ 3 * 1 := Nat.mul_le_mul (by omega) (by omega)
        refine o_mulN (by omega) <| g_str (by omega) (by omega) (chr_at (by show _ < 4; omega)) (o_sadd (fun v hv => ?_) (by rw [hlen]; show i + 1 + 1 ≤ 1000; omega))
        refine W.mono (fin _ _ v ?_ hv (by tb_start)) fun _ S' q => x_nil (x_nil q)
        unfold lsCh
        rw [if_neg hb]; rfl
    · exact x_nil (x_cons (x_Ret (ev_loc hE (by tb_start) (by tb_start) (by tb_start) fun v hv => ret_end hv (by tb_start) h)))
  cases folder with
  | true => exact ev_str cont
  | false => exact ev_str cont
end
end
section
open PySem PySem.W PyProof.Rows PySem.Calls PySem.Spec
set_option linter.all false
set_option maxRecDepth 100000
/-! the heap's two walks, as plain functions of a list -/
section
variable {α : Type} (lt : α → α → Bool) (new : α) (start : Nat)
noncomputable def sdF : Nat → Nat → List α → List α
  | 0, p, zs => zs.set p new
  | f + 1, p, zs => if start < p ∧ lt new (zs.getD ((p - 1) / 2) new) = true then sdF f ((p - 1) / 2) (zs.set p (zs.getD ((p - 1) / 2) new)) else zs.set p new
/-- the smaller child -/
noncomputable def kid (p : Nat) (zs : List α) : Nat := if 2 * p + 1 + 1 < zs.length ∧ lt (zs.getD (2 * p + 1) new) (zs.getD (2 * p + 1 + 1) new) = false then 2 * p + 1 + 1 else 2 * p + 1
noncomputable def suLoop : Nat → Nat → List α → Nat × List α
  | 0, p, zs => (p, zs)
  | f + 1, p, zs => if 2 * p + 1 < zs.length then suLoop f (kid lt new p zs) (zs.set p (zs.getD (kid lt new p zs) new)) else (p, zs)
noncomputable def suF (zs : List α) (pos : Nat) : List α :=
  let new := zs.getD pos new
  let r := suLoop lt new zs.length pos zs
  sdF lt new pos r.1 r.1 (r.2.set r.1 new)
theorem sdF_len : ∀ (f p : Nat) (zs : List α), (sdF lt new start f p zs).length = zs.length
  | 0, p, zs => by simp [sdF]
  | f + 1, p, zs => by unfold sdF; split <;> simp [sdF_len f]
theorem suLoop_len : ∀ (f p : Nat) (zs : List α), (suLoop lt new f p zs).2.length = zs.length
  | 0, p, zs => by simp [suLoop]
  | f + 1, p, zs => by unfold suLoop; split <;> simp [suLoop_len f]
theorem suF_len (zs : List α) (p : Nat) : (suF lt new zs p).length = zs.length := by simp [suF, sdF_len, suLoop_len]
end
section
variable {prog : Program} {w : World} {base : Heap} {n : Nat} {S : Led} {gl : List (Str × AV)} {bl : List (Str × Value)} {a : Addr}
theorem o_shr1 {i : Nat} {Q : AV → Led → Prop} (h : Q (.int ((i / 2 : Nat) : Int)) S) : L2 prog w base n (binaryOp .RShift) (.int (i : Int)) (.int 1) S Q :=
  o_shr (by rw [show ((2 : Int) ^ ((1 : Int).toNat)) = ((2 : Nat) : Int) by rfl, fdivN]; exact h) (by decide)
theorem at_map {α : Type} {e : α → AV} {zs : List α} {i : Nat} {d : α} (h : i < zs.length) : (zs.map e)[((i : Nat) : Int).toNat]? = some (e (zs.getD i d)) := by
  simp [h]
theorem getD_mem {α : Type} {zs : List α} {i : Nat} {d : α} (h : i < zs.length) : zs.getD i d ∈ zs := by
  simp [h]
/-- a list that a part of the ledger holds, which may change -/
structure Holds (Sf : List AV → Led) (l : Addr) : Prop where
  upd : ∀ xs ys, Upd (Sf xs) l (PList xs) (PList ys) (Sf ys)
theorem Holds.mem {Sf : List AV → Led} {l : Addr} (H : Holds Sf l) (xs : List AV) : (l, PList xs) ∈ Sf xs := (H.upd xs xs).memOld
/-- the comparing that the heap's things know -/
noncomputable def LtOk {α : Type} (prog : Program) (w : World) (base : Heap) (Sf : List AV → Led) (e : α → AV) (El : α → Prop) (lt : α → α → Bool) : Prop :=
  ∀ (n : Nat) (Q : AV → Led → Prop) (pre : Led) (xs : List AV) (x y : α), El x → El y → Q (.val (.bool (lt x y))) (pre ++ Sf xs) → L2 prog w base n (compareOp .Lt) (e x) (e y) (pre ++ Sf xs) Q

theorem sig_sd : sigOk (fnScope 41) ["heap", "startpos", "pos"] ["heap", "startpos", "pos", "newitem", "parentpos", "parent"] [] [] = true := by rfl
theorem c_sd {α : Type} {Sf : List AV → Led} {e : α → AV} {El : α → Prop} {lt : α → α → Bool} {l : Addr} (H : Holds Sf l) (C : LtOk prog w base Sf e El lt) (F : FnIs base a (fnScope 41) ["heap", "startpos", "pos"] (fnBody 41) [])
    {zs : List α} {st p : Nat} {d : α} {v1 v2 v3 : Value} {Q : AV → Led → Prop} (h1 : VR (.val (.ref l)) v1) (h2 : VR (.int st) v2) (h3 : VR (.int p) v3) (hp : p < zs.length) (hz : zs.length ≤ 1000) (hel : ∀ z ∈ zs, El z)
    (h : Q (.val .none) (Sf ((sdF lt (zs.getD p d) st p p zs).map e))) : WV prog w base (n + 1) (call (.ref a) [v1, v2, v3]) (Sf (zs.map e)) Q := by
  refine c_call F (das := []) rfl sig_sd (args := [.val (.ref l), .int st, .int p]) ⟨v1, _, rfl, h1, v2, _, rfl, h2, v3, [], rfl, h3, rfl⟩ rfl fun env L ads hlen hE => ?_
  obtain rfl := List.eq_nil_of_length_eq_zero hlen
  show W prog w base n (execs (fnBody 41) env) ((L, PNs [("heap", some (.val (.ref l))), ("startpos", some (.int st)), ("pos", some (.int p)), ("newitem", none), ("parentpos", none), ("parent", none)]) :: Sf (zs.map e)) (RetS Q)
  refine x_cons <| x_AssignName <| ev_Sub <| ev_loc hE (by tb_start) (by tb_start) (by tb_start) <| ev_loc hE (by tb_start) (by tb_start) (by tb_start) <| g_list (List.mem_cons_of_mem _ (H.mem _)) (by lia) (by lia) (at_map (d := d) hp) fun v hv => st_loc hE (by tb_start) (by tb_start) (by tb_start) hv ?_
  generalize hR : sdF lt (zs.getD p d) st p p zs = R at h
  have hnew : El (zs.getD p d) := hel _ (getD_mem hp)
  generalize zs.getD p d = new at hR hnew ⊢
  refine x_cons <| x_While <| wc_while (fun k S => ∃ (q : Nat) (ys : List α), q ≤ k ∧ q < ys.length ∧ ys.length ≤ 1000 ∧ (∀ z ∈ ys, El z) ∧ sdF lt new st k q ys = R ∧
    S = (L, PNs [("heap", some (.val (.ref l))), ("startpos", some (.int st)), ("pos", some (.int q)), ("newitem", some (e new)), ("parentpos", none), ("parent", none)]) :: Sf (ys.map e)) ?_ p ⟨p, zs, Nat.le_refl _, hp, hz, hel, hR, rfl⟩
  rintro k S ⟨q, ys, hqk, hq, hys, hely, hRk, rfl⟩
  have fin : ∀ pp par, ys.set q new = R → W prog w base n (execs ((fnBody 41).drop 2) env) ((L, PNs [("heap", some (.val (.ref l))), ("startpos", some (.int st)), ("pos", some (.int q)), ("newitem", some (e new)), ("parentpos", pp), ("parent", par)]) :: Sf (ys.map e)) (RetS Q) := fun pp par hR2 => by
    refine x_cons <| x_AssignSub <| ev_loc hE (by tb_start) (by tb_start) (by tb_start) <| ev_loc hE (by tb_start) (by tb_start) (by tb_start) <| ev_loc hE (by tb_start) (by tb_start) (by tb_start) fun vc va vb rc ra rb => ?_
    refine p_list ra rb rc (by lia) (by lia) (by simp; lia) (Upd.tail (H.upd _ _)) (x_nil (next_end (.skip (.refl _)) ?_))
    rw [show (ys.map e).set ((q : Int)).toNat (e new) = R.map e by rw [← hR2]; simp]
    exact h
  refine t_Compare <| ev_loc hE (by tb_start) (by tb_start) (by tb_start) <| ev_loc hE (by tb_start) (by tb_start) (by tb_start) <| o_gtN <| T1.bool ?_
  by_cases hs : st < q
  · rw [if_pos (by simpa using hs)]
    obtain ⟨k, rfl⟩ : ∃ k', k = k' + 1 := ⟨k - 1, by lia⟩
    refine x_cons <| x_AssignName <| ev_BinOp <| ev_BinOp <| ev_loc hE (by tb_start) (by tb_start) (by tb_start) <| ev_int <| o_subN (j := 1) (by lia) <| ev_int <| o_shr1 fun v hv => st_loc hE (by tb_start) (by tb_start) (by tb_start) hv ?_
    have hpp : (q - 1) / 2 < ys.length := by lia
    refine x_cons <| x_AssignName <| ev_Sub <| ev_loc hE (by tb_start) (by tb_start) (by tb_start) <| ev_loc hE (by tb_start) (by tb_start) (by tb_start) <| g_list (List.mem_cons_of_mem _ (H.mem _)) (by lia) (by lia) (at_map (d := new) hpp) fun v hv => st_loc hE (by tb_start) (by tb_start) (by tb_start) hv ?_
    have hpar : El (ys.getD ((q - 1) / 2) new) := hely _ (getD_mem hpp)
    rw [sdF] at hRk
    refine x_cons <| x_If <| t_Compare <| ev_loc hE (by tb_start) (by tb_start) (by tb_start) <| ev_loc hE (by tb_start) (by tb_start) (by tb_start) <| C _ _ [_] _ _ _ hnew hpar <| T1.bool ?_
    simp only [List.cons_append, List.nil_append]
    split
    · rename_i hb
      rw [if_pos ⟨hs, hb⟩] at hRk
      refine x_cons <| x_AssignSub <| ev_loc hE (by tb_start) (by tb_start) (by tb_start) <| ev_loc hE (by tb_start) (by tb_start) (by tb_start) <| ev_loc hE (by tb_start) (by tb_start) (by tb_start) fun vc va vb rc ra rb => ?_
      refine p_list ra rb rc (by lia) (by lia) (by simp; lia) (Upd.tail (H.upd _ _)) ?_
      refine x_cons <| x_AssignName <| ev_loc hE (by tb_start) (by tb_start) (by tb_start) fun v hv => st_loc hE (by tb_start) (by tb_start) (by tb_start) hv <| x_cons <| x_Continue ?_
      refine ⟨k, by lia, _, ?_, (q - 1) / 2, ys.set q (ys.getD ((q - 1) / 2) new), by lia, by simp; lia, by simpa using hys, ?_, hRk, rfl⟩
      · rw [show (ys.map e).set ((q : Int)).toNat (e (ys.getD ((q - 1) / 2) new)) = (ys.set q (ys.getD ((q - 1) / 2) new)).map e by simp [List.map_set]]
        exact .ns (by tb_start) (.refl _)
      · intro z hz
        rcases List.mem_or_eq_of_mem_set hz with hz | rfl
        · exact hely _ hz
        · exact hpar
    · rename_i hb
      rw [if_neg (by intro q; exact hb q.2)] at hRk
      exact x_nil (x_cons (x_Break (fin _ _ hRk)))
  · rw [if_neg (by simpa using hs)]
    refine x_nil (fin _ _ ?_)
    cases k with
    | zero => exact hRk
    | succ k => rw [sdF, if_neg (by intro q; exact hs q.1)] at hRk; exact hRk
end
end
section
open PySem PySem.W PyProof.Rows PySem.Calls PySem.Spec
set_option linter.all false
set_option maxRecDepth 100000
section
variable {prog : Program} {w : World} {base : Heap} {n : Nat} {S : Led} {gl : List (Str × AV)} {bl : List (Str × Value)} {a : Addr}
theorem LtOk.skip {α : Type} {Sf : List AV → Led} {e : α → AV} {El : α → Prop} {lt : α → α → Bool} {p : Addr × OP} (C : LtOk prog w base Sf e El lt) : LtOk prog w base (fun xs => p :: Sf xs) e El lt := fun n Q pre xs x y hx hy h => by
  have e : ∀ xs, pre ++ p :: Sf xs = (pre ++ [p]) ++ Sf xs := fun xs => by simp
  dsimp only at h ⊢
  rw [e] at h ⊢
  exact C n Q _ xs x y hx hy h
noncomputable def suBody (k : Nat) : List Stmt := match nth (fnBody k) 4 (.Pass ⟨0, 0, 0, 0⟩) with | .While _ b _ _ => b | _ => []
theorem sig_sdm : sigOk (fnScope 43) ["heap", "startpos", "pos"] ["heap", "startpos", "pos", "newitem", "parentpos", "parent"] [] [] = true := by rfl
theorem c_sdm {α : Type} {Sf : List AV → Led} {e : α → AV} {El : α → Prop} {lt : α → α → Bool} {l : Addr} (H : Holds Sf l) (C : LtOk prog w base Sf e El lt) (F : FnIs base a (fnScope 43) ["heap", "startpos", "pos"] (fnBody 43) [])
    {zs : List α} {st p : Nat} {d : α} {v1 v2 v3 : Value} {Q : AV → Led → Prop} (h1 : VR (.val (.ref l)) v1) (h2 : VR (.int st) v2) (h3 : VR (.int p) v3) (hp : p < zs.length) (hz : zs.length ≤ 1000) (hel : ∀ z ∈ zs, El z)
    (h : Q (.val .none) (Sf ((sdF (fun x y => lt y x) (zs.getD p d) st p p zs).map e))) : WV prog w base (n + 1) (call (.ref a) [v1, v2, v3]) (Sf (zs.map e)) Q := by
  refine c_call F (das := []) rfl sig_sdm (args := [.val (.ref l), .int st, .int p]) ⟨v1, _, rfl, h1, v2, _, rfl, h2, v3, [], rfl, h3, rfl⟩ rfl fun env L ads hlen hE => ?_
  obtain rfl := List.eq_nil_of_length_eq_zero hlen
  show W prog w base n (execs (fnBody 43) env) ((L, PNs [("heap", some (.val (.ref l))), ("startpos", some (.int st)), ("pos", some (.int p)), ("newitem", none), ("parentpos", none), ("parent", none)]) :: Sf (zs.map e)) (RetS Q)
  refine x_cons <| x_AssignName <| ev_Sub <| ev_loc hE (by tb_start) (by tb_start) (by tb_start) <| ev_loc hE (by tb_start) (by tb_start) (by tb_start) <| g_list (List.mem_cons_of_mem _ (H.mem _)) (by lia) (by lia) (at_map (d := d) hp) fun v hv => st_loc hE (by tb_start) (by tb_start) (by tb_start) hv ?_
  generalize hR : sdF (fun x y => lt y x) (zs.getD p d) st p p zs = R at h
  have hnew : El (zs.getD p d) := hel _ (getD_mem hp)
  generalize zs.getD p d = new at hR hnew ⊢
  refine x_cons <| x_While <| wc_while (fun k S => ∃ (q : Nat) (ys : List α), q ≤ k ∧ q < ys.length ∧ ys.length ≤ 1000 ∧ (∀ z ∈ ys, El z) ∧ sdF (fun x y => lt y x) new st k q ys = R ∧
    S = (L, PNs [("heap", some (.val (.ref l))), ("startpos", some (.int st)), ("pos", some (.int q)), ("newitem", some (e new)), ("parentpos", none), ("parent", none)]) :: Sf (ys.map e)) ?_ p ⟨p, zs, Nat.le_refl _, hp, hz, hel, hR, rfl⟩
  rintro k S ⟨q, ys, hqk, hq, hys, hely, hRk, rfl⟩
  have fin : ∀ pp par, ys.set q new = R → W prog w base n (execs ((fnBody 43).drop 2) env) ((L, PNs [("heap", some (.val (.ref l))), ("startpos", some (.int st)), ("pos", some (.int q)), ("newitem", some (e new)), ("parentpos", pp), ("parent", par)]) :: Sf (ys.map e)) (RetS Q) := fun pp par hR2 => by
    refine x_cons <| x_AssignSub <| ev_loc hE (by tb_start) (by tb_start) (by tb_start) <| ev_loc hE (by tb_start) (by tb_start) (by tb_start) <| ev_loc hE (by tb_start) (by tb_start) (by tb_start) fun vc va vb rc ra rb => ?_
    refine p_list ra rb rc (by lia) (by lia) (by simp; lia) (Upd.tail (H.upd _ _)) (x_nil (next_end (.skip (.refl _)) ?_))
    rw [show (ys.map e).set ((q : Int)).toNat (e new) = R.map e by rw [← hR2]; simp]
    exact h
  refine t_Compare <| ev_loc hE (by tb_start) (by tb_start) (by tb_start) <| ev_loc hE (by tb_start) (by tb_start) (by tb_start) <| o_gtN <| T1.bool ?_
  by_cases hs : st < q
  · rw [if_pos (by simpa using hs)]
    obtain ⟨k, rfl⟩ : ∃ k', k = k' + 1 := ⟨k - 1, by lia⟩
    refine x_cons <| x_AssignName <| ev_BinOp <| ev_BinOp <| ev_loc hE (by tb_start) (by tb_start) (by tb_start) <| ev_int <| o_subN (j := 1) (by lia) <| ev_int <| o_shr1 fun v hv => st_loc hE (by tb_start) (by tb_start) (by tb_start) hv ?_
    have hpp : (q - 1) / 2 < ys.length := by lia
    refine x_cons <| x_AssignName <| ev_Sub <| ev_loc hE (by tb_start) (by tb_start) (by tb_start) <| ev_loc hE (by tb_start) (by tb_start) (by tb_start) <| g_list (List.mem_cons_of_mem _ (H.mem _)) (by lia) (by lia) (at_map (d := new) hpp) fun v hv => st_loc hE (by tb_start) (by tb_start) (by tb_start) hv ?_
    have hpar : El (ys.getD ((q - 1) / 2) new) := hely _ (getD_mem hpp)
    rw [sdF] at hRk
    refine x_cons <| x_If <| t_Compare <| ev_loc hE (by tb_start) (by tb_start) (by tb_start) <| ev_loc hE (by tb_start) (by tb_start) (by tb_start) <| C _ _ [_] _ _ _ hpar hnew <| T1.bool ?_
    simp only [List.cons_append, List.nil_append]
    split
    · rename_i hb
      rw [if_pos ⟨hs, hb⟩] at hRk
      refine x_cons <| x_AssignSub <| ev_loc hE (by tb_start) (by tb_start) (by tb_start) <| ev_loc hE (by tb_start) (by tb_start) (by tb_start) <| ev_loc hE (by tb_start) (by tb_start) (by tb_start) fun vc va vb rc ra rb => ?_
      refine p_list ra rb rc (by lia) (by lia) (by simp; lia) (Upd.tail (H.upd _ _)) ?_
      refine x_cons <| x_AssignName <| ev_loc hE (by tb_start) (by tb_start) (by tb_start) fun v hv => st_loc hE (by tb_start) (by tb_start) (by tb_start) hv <| x_cons <| x_Continue ?_
      refine ⟨k, by lia, _, ?_, (q - 1) / 2, ys.set q (ys.getD ((q - 1) / 2) new), by lia, by simp; lia, by simpa using hys, ?_, hRk, rfl⟩
      · rw [show (ys.map e).set ((q : Int)).toNat (e (ys.getD ((q - 1) / 2) new)) = (ys.set q (ys.getD ((q - 1) / 2) new)).map e by simp [List.map_set]]
        exact .ns (by tb_start) (.refl _)
      · intro z hz
        rcases List.mem_or_eq_of_mem_set hz with hz | rfl
        · exact hely _ hz
        · exact hpar
    · rename_i hb
      rw [if_neg (by intro q; exact hb q.2)] at hRk
      exact x_nil (x_cons (x_Break (fin _ _ hRk)))
  · rw [if_neg (by simpa using hs)]
    refine x_nil (fin _ _ ?_)
    cases k with
    | zero => exact hRk
    | succ k => rw [sdF, if_neg (by intro q; exact hs q.1)] at hRk; exact hRk

theorem sig_su : sigOk (fnScope 42) ["heap", "pos"] ["heap", "pos", "endpos", "startpos", "newitem", "childpos", "rightpos"] [] ["len", "_siftdown"] = true := by rfl
theorem c_su {α : Type} {Sf : List AV → Led} {e : α → AV} {El : α → Prop} {lt : α → α → Bool} {l sda : Addr} (H : Holds Sf l) (C : LtOk prog w base Sf e El lt) (F : FnIs base a (fnScope 42) ["heap", "pos"] (fnBody 42) []) (T : TopIs base gl bl)
    (hlen : (("len" : Str), Value.builtin "len") ∈ bl) (hsd : (("_siftdown" : Str), AV.val (.ref sda)) ∈ gl) (FD : FnIs base sda (fnScope 41) ["heap", "startpos", "pos"] (fnBody 41) [])
    {zs : List α} {p : Nat} {v1 v2 : Value} {Q : AV → Led → Prop} (h1 : VR (.val (.ref l)) v1) (h2 : VR (.int p) v2) (hp : p < zs.length) (hz : zs.length ≤ 900) (hel : ∀ z ∈ zs, El z)
    (h : Q (.val .none) (Sf ((suF lt zs[p] zs p).map e))) : WV prog w base (n + 2) (call (.ref a) [v1, v2]) (Sf (zs.map e)) Q := by
  refine c_call F (das := []) rfl sig_su (args := [.val (.ref l), .int p]) ⟨v1, _, rfl, h1, v2, [], rfl, h2, rfl⟩ rfl fun env L ads hlen' hE => ?_
  obtain rfl := List.eq_nil_of_length_eq_zero hlen'
  show W prog w base (n + 1) (execs (fnBody 42) env) ((L, PNs [("heap", some (.val (.ref l))), ("pos", some (.int p)), ("endpos", none), ("startpos", none), ("newitem", none), ("childpos", none), ("rightpos", none)]) :: Sf (zs.map e)) (RetS Q)
  refine x_cons <| x_AssignName <| ev_CallB <| ev_blt hE T (by tb_start) hlen ⟨rfl, vs_cons <| ev_loc hE (by tb_start) (by tb_start) (by tb_start) <| vs_nil fun vs hvs => ?_⟩
  refine vrs1 hvs fun v9 h9 => ?_
  refine c_lenList h9 (List.mem_cons_of_mem _ (H.mem _)) (by simp; lia) fun v hv => st_loc hE (a := .int zs.length) (by tb_start) (by tb_start) (by tb_start) (by simpa using hv) ?_
  refine x_cons <| x_AssignName <| ev_loc hE (by tb_start) (by tb_start) (by tb_start) fun v hv => st_loc hE (by tb_start) (by tb_start) (by tb_start) hv ?_
  refine x_cons <| x_AssignName <| ev_Sub <| ev_loc hE (by tb_start) (by tb_start) (by tb_start) <| ev_loc hE (by tb_start) (by tb_start) (by tb_start) <| g_list (List.mem_cons_of_mem _ (H.mem _)) (by lia) (by lia) (at_map (d := zs[p]) hp) fun v hv => st_loc hE (by tb_start) (by tb_start) (by tb_start) hv ?_
  have hnew : El (zs.getD p zs[p]) := hel _ (getD_mem hp)
  unfold suF at h
  dsimp only at h
  generalize zs.getD p zs[p] = new at h hnew ⊢
  generalize hR : suLoop lt new zs.length p zs = R at h
  obtain ⟨N, hN⟩ : ∃ N, zs.length = N := ⟨_, rfl⟩
  refine x_cons <| x_AssignName <| ev_BinOp <| ev_BinOp <| ev_int <| ev_loc hE (by tb_start) (by tb_start) (by tb_start) <| o_mulN (i := 2) (by decide) <| ev_int <| o_addN (j := 1) fun v hv => st_loc hE (by tb_start) (by tb_start) (by tb_start) hv ?_
  refine x_cons <| x_While <| wc_while (fun k S => ∃ (q : Nat) (ys : List α), ys.length ≤ q + k ∧ q < ys.length ∧ ys.length = N ∧ (∀ z ∈ ys, El z) ∧ suLoop lt new k q ys = R ∧
    S = (L, PNs [("heap", some (.val (.ref l))), ("pos", some (.int q)), ("endpos", some (.int N)), ("startpos", some (.int p)), ("newitem", some (e new)), ("childpos", some (.int ((2 * q + 1 : Nat) : Int))), ("rightpos", none)]) :: Sf (ys.map e)) ?_ zs.length ⟨p, zs, by lia, hp, hN, hel, hR, by rw [hN]⟩
  rintro k S ⟨q, ys, hqk, hq, hys, hely, hRk, rfl⟩
  refine t_Compare <| ev_loc hE (by tb_start) (by tb_start) (by tb_start) <| ev_loc hE (by tb_start) (by tb_start) (by tb_start) <| o_ltN <| T1.bool ?_
  by_cases hs : 2 * q + 1 < N
  · rw [if_pos (by simpa using hs)]
    obtain ⟨k, rfl⟩ : ∃ k', k = k' + 1 := ⟨k - 1, by lia⟩
    rw [suLoop, if_pos (by lia)] at hRk
    refine x_cons <| x_AssignName <| ev_BinOp <| ev_loc hE (by tb_start) (by tb_start) (by tb_start) <| ev_int <| o_addN (i := 2 * q + 1) (j := 1) fun v hv => st_loc hE (by tb_start) (by tb_start) (by tb_start) hv ?_
    have hc1 : 2 * q + 1 < ys.length := by lia
    have e1 : El (ys.getD (2 * q + 1) new) := hely _ (getD_mem hc1)
    -- the two ways meet here
    have fin : ∀ (S : Led), Wk ((L, PNs [("heap", some (.val (.ref l))), ("pos", some (.int q)), ("endpos", some (.int N)), ("startpos", some (.int p)), ("newitem", some (e new)), ("childpos", some (.int ((kid lt new q ys : Nat) : Int))), ("rightpos", none)]) :: Sf (ys.map e)) S →
        W prog w base (n + 1) (execs ((suBody 42).drop 2) env) S (fun f S₄ => match f with
        | .next | .cont => Les (fun m S₅ => ∃ (q : Nat) (ys : List α), ys.length ≤ q + m ∧ q < ys.length ∧ ys.length = N ∧ (∀ z ∈ ys, El z) ∧ suLoop lt new m q ys = R ∧
    S₅ = (L, PNs [("heap", some (.val (.ref l))), ("pos", some (.int q)), ("endpos", some (.int N)), ("startpos", some (.int p)), ("newitem", some (e new)), ("childpos", some (.int ((2 * q + 1 : Nat) : Int))), ("rightpos", none)]) :: Sf (ys.map e)) (k + 1) S₄
        | .brk => W prog w base (n + 1) (execs ((fnBody 42).drop 5) env) S₄ (RetS Q)
        | .ret v => RetS Q (.ret v) S₄) := fun S hS => by
      have hk : kid lt new q ys < ys.length ∧ q < kid lt new q ys := by unfold kid; split <;> lia
      have hpar : El (ys.getD (kid lt new q ys) new) := hely _ (getD_mem hk.1)
      generalize kid lt new q ys = c at hk hpar hRk hS
      refine W.wk ?_ hS
      refine x_cons <| x_AssignSub <| ev_Sub <| ev_loc hE (by tb_start) (by tb_start) (by tb_start) <| ev_loc hE (by tb_start) (by tb_start) (by tb_start) <| g_list (List.mem_cons_of_mem _ (H.mem _)) (by lia) (by lia) (at_map (d := new) hk.1) ?_
      refine ev_loc hE (by tb_start) (by tb_start) (by tb_start) <| ev_loc hE (by tb_start) (by tb_start) (by tb_start) fun vc va vb rc ra rb => ?_
      refine p_list ra rb rc (by lia) (by lia) (by simp; lia) (Upd.tail (H.upd _ _)) ?_
      refine x_cons <| x_AssignName <| ev_loc hE (by tb_start) (by tb_start) (by tb_start) fun v hv => st_loc hE (by tb_start) (by tb_start) (by tb_start) hv ?_
      refine x_cons <| x_AssignName <| ev_BinOp <| ev_BinOp <| ev_int <| ev_loc hE (by tb_start) (by tb_start) (by tb_start) <| o_mulN (i := 2) (by decide) <| ev_int <| o_addN (j := 1) fun v hv => st_loc hE (by tb_start) (by tb_start) (by tb_start) hv <| x_nil ?_
      refine ⟨k, by lia, _, ?_, c, ys.set q (ys.getD c new), by simp; lia, by simp; lia, by simpa using hys, ?_, hRk, rfl⟩
      · rw [show (ys.map e).set ((q : Int)).toNat (e (ys.getD c new)) = (ys.set q (ys.getD c new)).map e by simp [List.map_set]]
        exact .ns (by tb_start) (.refl _)
      · intro z hz
        rcases List.mem_or_eq_of_mem_set hz with hz | rfl
        · exact hely _ hz
        · exact hpar
    refine x_cons <| x_If <| t_And <| t_Compare <| ev_loc hE (by tb_start) (by tb_start) (by tb_start) <| ev_loc hE (by tb_start) (by tb_start) (by tb_start) <| o_ltN (i := 2 * q + 1 + 1) <| T1.bool ?_
    by_cases h2 : 2 * q + 1 + 1 < N
    · rw [if_pos (by simpa using h2)]
      have e2 : El (ys.getD (2 * q + 1 + 1) new) := hely _ (getD_mem (by lia))
      refine t_Not <| t_Compare <| ev_Sub <| ev_loc hE (by tb_start) (by tb_start) (by tb_start) <| ev_loc hE (by tb_start) (by tb_start) (by tb_start) <| g_list (List.mem_cons_of_mem _ (H.mem _)) (by lia) (by lia) (at_map (i := 2 * q + 1) (d := new) (by lia)) ?_
      refine ev_Sub <| ev_loc hE (by tb_start) (by tb_start) (by tb_start) <| ev_loc hE (by tb_start) (by tb_start) (by tb_start) <| g_list (List.mem_cons_of_mem _ (H.mem _)) (by lia) (by lia) (at_map (i := 2 * q + 1 + 1) (d := new) (by lia)) ?_
      refine C _ _ [_] _ _ _ e1 e2 <| T1.bool ?_
      simp only [List.cons_append, List.nil_append]
      cases hb : lt (ys.getD (2 * q + 1) new) (ys.getD (2 * q + 1 + 1) new)
      rotate_left
      · rw [if_neg (by decide)]
        exact x_nil (fin _ (by rw [show kid lt new q ys = 2 * q + 1 by unfold kid; rw [if_neg (by intro q; exact absurd (hb.symm.trans q.2) (by decide))]]; exact .ns (by tb_start) (.refl _)))
      · rw [if_pos (by decide)]
        refine x_cons <| x_AssignName <| ev_loc hE (by tb_start) (by tb_start) (by tb_start) fun v hv => st_loc hE (by tb_start) (by tb_start) (by tb_start) hv <| x_nil ?_
        exact (fin _ (by rw [show kid lt new q ys = 2 * q + 1 + 1 by unfold kid; rw [if_pos ⟨by lia, hb⟩]]; exact .ns (by tb_start) (.refl _)))
    · rw [if_neg (by simpa using h2)]
      exact x_nil (fin _ (by rw [show kid lt new q ys = 2 * q + 1 by unfold kid; rw [if_neg (by lia)]]; exact .ns (by tb_start) (.refl _)))
  · rw [if_neg (by simpa using hs)]
    have hR2 : (q, ys) = R := by
      rw [← hRk]
      cases k with
      | zero => rfl
      | succ k => rw [suLoop, if_neg (by lia)]
    subst hR2
    refine x_nil <| x_cons <| x_AssignSub <| ev_loc hE (by tb_start) (by tb_start) (by tb_start) <| ev_loc hE (by tb_start) (by tb_start) (by tb_start) <| ev_loc hE (by tb_start) (by tb_start) (by tb_start) fun vc va vb rc ra rb => ?_
    refine p_list ra rb rc (by lia) (by lia) (by simp; lia) (Upd.tail (H.upd _ _)) ?_
    rw [show (ys.map e).set ((q : Int)).toNat (e new) = (ys.set q new).map e by simp [List.map_set]]
    refine x_cons <| x_Expr hE <| ev_CallDef FD.isDef <| ev_glob hE T (by tb_start) hsd ⟨rfl, vs_cons <| ev_loc hE (by tb_start) (by tb_start) (by tb_start) <| vs_cons <| ev_loc hE (by tb_start) (by tb_start) (by tb_start) <| vs_cons <| ev_loc hE (by tb_start) (by tb_start) (by tb_start) <| vs_nil fun vs hvs => ?_⟩
    refine vrs3 hvs fun w1 r1 w2 r2 w3 r3 => ?_
    refine c_sd (Sf := fun xs => (L, _) :: Sf xs) ⟨fun _ _ => Upd.tail (H.upd _ _)⟩ C.skip FD r1 r2 r3 (d := new) (by simp; lia) (by simp; lia) (fun z hz => ?_) ?_
    · rcases List.mem_or_eq_of_mem_set hz with hz | rfl
      · exact hely _ hz
      · exact hnew
    · rw [show (ys.set q new).getD q new = new by simp [hq]]
      exact x_nil (next_end (.skip (.refl _)) h)

theorem sig_sum : sigOk (fnScope 44) ["heap", "pos"] ["heap", "pos", "endpos", "startpos", "newitem", "childpos", "rightpos"] [] ["len", "_siftdown_max"] = true := by rfl
theorem c_sum2 {α : Type} {Sf : List AV → Led} {e : α → AV} {El : α → Prop} {lt : α → α → Bool} {l sda : Addr} (H : Holds Sf l) (C : LtOk prog w base Sf e El lt) (F : FnIs base a (fnScope 44) ["heap", "pos"] (fnBody 44) []) (T : TopIs base gl bl)
    (hlen : (("len" : Str), Value.builtin "len") ∈ bl) (hsd : (("_siftdown_max" : Str), AV.val (.ref sda)) ∈ gl) (FD : FnIs base sda (fnScope 43) ["heap", "startpos", "pos"] (fnBody 43) [])
    {zs : List α} {p : Nat} {v1 v2 : Value} {Q : AV → Led → Prop} (h1 : VR (.val (.ref l)) v1) (h2 : VR (.int p) v2) (hp : p < zs.length) (hz : zs.length ≤ 900) (hel : ∀ z ∈ zs, El z)
    (h : Q (.val .none) (Sf ((suF (fun x y => lt y x) zs[p] zs p).map e))) : WV prog w base (n + 2) (call (.ref a) [v1, v2]) (Sf (zs.map e)) Q := by
  refine c_call F (das := []) rfl sig_sum (args := [.val (.ref l), .int p]) ⟨v1, _, rfl, h1, v2, [], rfl, h2, rfl⟩ rfl fun env L ads hlen' hE => ?_
  obtain rfl := List.eq_nil_of_length_eq_zero hlen'
  show W prog w base (n + 1) (execs (fnBody 44) env) ((L, PNs [("heap", some (.val (.ref l))), ("pos", some (.int p)), ("endpos", none), ("startpos", none), ("newitem", none), ("childpos", none), ("rightpos", none)]) :: Sf (zs.map e)) (RetS Q)
  refine x_cons <| x_AssignName <| ev_CallB <| ev_blt hE T (by tb_start) hlen ⟨rfl, vs_cons <| ev_loc hE (by tb_start) (by tb_start) (by tb_start) <| vs_nil fun vs hvs => ?_⟩
  refine vrs1 hvs fun v9 h9 => ?_
  refine c_lenList h9 (List.mem_cons_of_mem _ (H.mem _)) (by simp; lia) fun v hv => st_loc hE (a := .int zs.length) (by tb_start) (by tb_start) (by tb_start) (by simpa using hv) ?_
  refine x_cons <| x_AssignName <| ev_loc hE (by tb_start) (by tb_start) (by tb_start) fun v hv => st_loc hE (by tb_start) (by tb_start) (by tb_start) hv ?_
  refine x_cons <| x_AssignName <| ev_Sub <| ev_loc hE (by tb_start) (by tb_start) (by tb_start) <| ev_loc hE (by tb_start) (by tb_start) (by tb_start) <| g_list (List.mem_cons_of_mem _ (H.mem _)) (by lia) (by lia) (at_map (d := zs[p]) hp) fun v hv => st_loc hE (by tb_start) (by tb_start) (by tb_start) hv ?_
  have hnew : El (zs.getD p zs[p]) := hel _ (getD_mem hp)
  unfold suF at h
  dsimp only at h
  generalize zs.getD p zs[p] = new at h hnew ⊢
  generalize hR : suLoop (fun x y => lt y x) new zs.length p zs = R at h
  obtain ⟨N, hN⟩ : ∃ N, zs.length = N := ⟨_, rfl⟩
  refine x_cons <| x_AssignName <| ev_BinOp <| ev_BinOp <| ev_int <| ev_loc hE (by tb_start) (by tb_start) (by tb_start) <| o_mulN (i := 2) (by decide) <| ev_int <| o_addN (j := 1) fun v hv => st_loc hE (by tb_start) (by tb_start) (by tb_start) hv ?_
  refine x_cons <| x_While <| wc_while (fun k S => ∃ (q : Nat) (ys : List α), ys.length ≤ q + k ∧ q < ys.length ∧ ys.length = N ∧ (∀ z ∈ ys, El z) ∧ suLoop (fun x y => lt y x) new k q ys = R ∧
    S = (L, PNs [("heap", some (.val (.ref l))), ("pos", some (.int q)), ("endpos", some (.int N)), ("startpos", some (.int p)), ("newitem", some (e new)), ("childpos", some (.int ((2 * q + 1 : Nat) : Int))), ("rightpos", none)]) :: Sf (ys.map e)) ?_ zs.length ⟨p, zs, by lia, hp, hN, hel, hR, by rw [hN]⟩
  rintro k S ⟨q, ys, hqk, hq, hys, hely, hRk, rfl⟩
  refine t_Compare <| ev_loc hE (by tb_start) (by tb_start) (by tb_start) <| ev_loc hE (by tb_start) (by tb_start) (by tb_start) <| o_ltN <| T1.bool ?_
  by_cases hs : 2 * q + 1 < N
  · rw [if_pos (by simpa using hs)]
    obtain ⟨k, rfl⟩ : ∃ k', k = k' + 1 := ⟨k - 1, by lia⟩
    rw [suLoop, if_pos (by lia)] at hRk
    refine x_cons <| x_AssignName <| ev_BinOp <| ev_loc hE (by tb_start) (by tb_start) (by tb_start) <| ev_int <| o_addN (i := 2 * q + 1) (j := 1) fun v hv => st_loc hE (by tb_start) (by tb_start) (by tb_start) hv ?_
    have hc1 : 2 * q + 1 < ys.length := by lia
    have e1 : El (ys.getD (2 * q + 1) new) := hely _ (getD_mem hc1)
    -- the two ways meet here
    have fin : ∀ (S : Led), Wk ((L, PNs [("heap", some (.val (.ref l))), ("pos", some (.int q)), ("endpos", some (.int N)), ("startpos", some (.int p)), ("newitem", some (e new)), ("childpos", some (.int ((kid (fun x y => lt y x) new q ys : Nat) : Int))), ("rightpos", none)]) :: Sf (ys.map e)) S →
        W prog w base (n + 1) (execs ((suBody 44).drop 2) env) S (fun f S₄ => match f with
        | .next | .cont => Les (fun m S₅ => ∃ (q : Nat) (ys : List α), ys.length ≤ q + m ∧ q < ys.length ∧ ys.length = N ∧ (∀ z ∈ ys, El z) ∧ suLoop (fun x y => lt y x) new m q ys = R ∧
    S₅ = (L, PNs [("heap", some (.val (.ref l))), ("pos", some (.int q)), ("endpos", some (.int N)), ("startpos", some (.int p)), ("newitem", some (e new)), ("childpos", some (.int ((2 * q + 1 : Nat) : Int))), ("rightpos", none)]) :: Sf (ys.map e)) (k + 1) S₄
        | .brk => W prog w base (n + 1) (execs ((fnBody 44).drop 5) env) S₄ (RetS Q)
        | .ret v => RetS Q (.ret v) S₄) := fun S hS => by
      have hk : kid (fun x y => lt y x) new q ys < ys.length ∧ q < kid (fun x y => lt y x) new q ys := by unfold kid; split <;> lia
      have hpar : El (ys.getD (kid (fun x y => lt y x) new q ys) new) := hely _ (getD_mem hk.1)
      generalize kid (fun x y => lt y x) new q ys = c at hk hpar hRk hS
      refine W.wk ?_ hS
      refine x_cons <| x_AssignSub <| ev_Sub <| ev_loc hE (by tb_start) (by tb_start) (by tb_start) <| ev_loc hE (by tb_start) (by tb_start) (by tb_start) <| g_list (List.mem_cons_of_mem _ (H.mem _)) (by lia) (by lia) (at_map (d := new) hk.1) ?_
      refine ev_loc hE (by tb_start) (by tb_start) (by tb_start) <| ev_loc hE (by tb_start) (by tb_start) (by tb_start) fun vc va vb rc ra rb => ?_
      refine p_list ra rb rc (by lia) (by lia) (by simp; lia) (Upd.tail (H.upd _ _)) ?_
      refine x_cons <| x_AssignName <| ev_loc hE (by tb_start) (by tb_start) (by tb_start) fun v hv => st_loc hE (by tb_start) (by tb_start) (by tb_start) hv ?_
      refine x_cons <| x_AssignName <| ev_BinOp <| ev_BinOp <| ev_int <| ev_loc hE (by tb_start) (by tb_start) (by tb_start) <| o_mulN (i := 2) (by decide) <| ev_int <| o_addN (j := 1) fun v hv => st_loc hE (by tb_start) (by tb_start) (by tb_start) hv <| x_nil ?_
      refine ⟨k, by lia, _, ?_, c, ys.set q (ys.getD c new), by simp; lia, by simp; lia, by simpa using hys, ?_, hRk, rfl⟩
      · rw [show (ys.map e).set ((q : Int)).toNat (e (ys.getD c new)) = (ys.set q (ys.getD c new)).map e by simp [List.map_set]]
        exact .ns (by tb_start) (.refl _)
      · intro z hz
        rcases List.mem_or_eq_of_mem_set hz with hz | rfl
        · exact hely _ hz
        · exact hpar
    refine x_cons <| x_If <| t_And <| t_Compare <| ev_loc hE (by tb_start) (by tb_start) (by tb_start) <| ev_loc hE (by tb_start) (by tb_start) (by tb_start) <| o_ltN (i := 2 * q + 1 + 1) <| T1.bool ?_
    by_cases h2 : 2 * q + 1 + 1 < N
    · rw [if_pos (by simpa using h2)]
      have e2 : El (ys.getD (2 * q + 1 + 1) new) := hely _ (getD_mem (by lia))
      refine t_Not <| t_Compare <| ev_Sub <| ev_loc hE (by tb_start) (by tb_start) (by tb_start) <| ev_loc hE (by tb_start) (by tb_start) (by tb_start) <| g_list (List.mem_cons_of_mem _ (H.mem _)) (by lia) (by lia) (at_map (i := 2 * q + 1 + 1) (d := new) (by lia)) ?_
      refine ev_Sub <| ev_loc hE (by tb_start) (by tb_start) (by tb_start) <| ev_loc hE (by tb_start) (by tb_start) (by tb_start) <| g_list (List.mem_cons_of_mem _ (H.mem _)) (by lia) (by lia) (at_map (i := 2 * q + 1) (d := new) (by lia)) ?_
      refine C _ _ [_] _ _ _ e2 e1 <| T1.bool ?_
      simp only [List.cons_append, List.nil_append]
      cases hb : lt (ys.getD (2 * q + 1 + 1) new) (ys.getD (2 * q + 1) new)
      rotate_left
      · rw [if_neg (by decide)]
        exact x_nil (fin _ (by rw [show kid (fun x y => lt y x) new q ys = 2 * q + 1 by unfold kid; rw [if_neg (by intro q; exact absurd (hb.symm.trans q.2) (by decide))]]; exact .ns (by tb_start) (.refl _)))
      · rw [if_pos (by decide)]
        refine x_cons <| x_AssignName <| ev_loc hE (by tb_start) (by tb_start) (by tb_start) fun v hv => st_loc hE (by tb_start) (by tb_start) (by tb_start) hv <| x_nil ?_
        exact (fin _ (by rw [show kid (fun x y => lt y x) new q ys = 2 * q + 1 + 1 by unfold kid; rw [if_pos ⟨by lia, hb⟩]]; exact .ns (by tb_start) (.refl _)))
    · rw [if_neg (by simpa using h2)]
      exact x_nil (fin _ (by rw [show kid (fun x y => lt y x) new q ys = 2 * q + 1 by unfold kid; rw [if_neg (by lia)]]; exact .ns (by tb_start) (.refl _)))
  · rw [if_neg (by simpa using hs)]
    have hR2 : (q, ys) = R := by
      rw [← hRk]
      cases k with
      | zero => rfl
      | succ k => rw [suLoop, if_neg (by lia)]
    subst hR2
    refine x_nil <| x_cons <| x_AssignSub <| ev_loc hE (by tb_start) (by tb_start) (by tb_start) <| ev_loc hE (by tb_start) (by tb_start) (by tb_start) <| ev_loc hE (by tb_start) (by tb_start) (by tb_start) fun vc va vb rc ra rb => ?_
    refine p_list ra rb rc (by lia) (by lia) (by simp; lia) (Upd.tail (H.upd _ _)) ?_
    rw [show (ys.map e).set ((q : Int)).toNat (e new) = (ys.set q new).map e by simp [List.map_set]]
    refine x_cons <| x_Expr hE <| ev_CallDef FD.isDef <| ev_glob hE T (by tb_start) hsd ⟨rfl, vs_cons <| ev_loc hE (by tb_start) (by tb_start) (by tb_start) <| vs_cons <| ev_loc hE (by tb_start) (by tb_start) (by tb_start) <| vs_cons <| ev_loc hE (by tb_start) (by tb_start) (by tb_start) <| vs_nil fun vs hvs => ?_⟩
    refine vrs3 hvs fun w1 r1 w2 r2 w3 r3 => ?_
    refine c_sdm (Sf := fun xs => (L, _) :: Sf xs) ⟨fun _ _ => Upd.tail (H.upd _ _)⟩ C.skip FD r1 r2 r3 (d := new) (by simp; lia) (by simp; lia) (fun z hz => ?_) ?_
    · rcases List.mem_or_eq_of_mem_set hz with hz | rfl
      · exact hely _ hz
      · exact hnew
    · rw [show (ys.set q new).getD q new = new by simp [hq]]
      exact x_nil (next_end (.skip (.refl _)) h)
end
end
section
open PySem PySem.W PyProof.Rows PySem.Calls PySem.Spec
set_option linter.all false
set_option maxRecDepth 100000
section
variable {prog : Program} {w : World} {A : Around} {E : Value → Shared → Prop} {s : Shared}
theorem sub_riter_reversed : isSubtype (.type "range_iterator") (.type "reversed") = pure false := by rw [isSubtype_type]; kernel_rfl
theorem rangeFields_is {l : Addr} {a b c : Int} {t u v : Tok} {Q : Int × Int × Int → Shared → Prop} (hl : s.heap.get? l = some { cls := .type "range", dict := none, data := .fields #[.int a t, .int b u, .int c v], slots := #[] })
    (h : Q (a, b, c) s) : wpAny (model prog w) A (Builtin.Range.rangeFields (.ref l)) Q E s := by
  unfold Builtin.Range.rangeFields
  refine wpAny_bind (wpAny_field hl rfl (x := .int a t) rfl ?_)
  refine wpAny_bind (wpAny_of_eq (a := some a) rfl ?_)
  refine wpAny_bind (wpAny_field hl rfl (x := .int b u) rfl ?_)
  refine wpAny_bind (wpAny_of_eq (a := some b) rfl ?_)
  refine wpAny_bind (wpAny_field hl rfl (x := .int c v) rfl ?_)
  refine wpAny_bind (wpAny_of_eq (a := some c) rfl ?_)
  exact wpAny_pure h
theorem call_range_reversed {l : Addr} {N : Nat} {t u v : Tok} {Q : Value → Shared → Prop} (hN : N < 1000) (hl : s.heap.get? l = some { cls := .type "range", dict := none, data := .fields #[.int 0 t, .int (N : Int) u, .int 1 v], slots := #[] })
    (h : Q (.ref s.heap.objs.size) { s with heap := s.heap.push { cls := .type "range_iterator", data := .fields #[rawInt (0 + ((N : Int) - 1) * 1), rawInt N, rawInt (-1)] } }) : wpAny (model prog w) A (call (.builtin "range.__reversed__") [.ref l]) Q E s := by
  have hT : s.TypeIs (.ref l) "range" := ⟨_, hl, rfl⟩
  refine wpAny_call_entry F.slot_range_reversed hT F.entry_range_reversed ?_ (F.args_range_reversed_1 _)
  unfold Builtin.«range.__reversed__»
  refine wpAny_bind (wpAny_of_eq (a := Value.ref l) rfl ?_)
  refine wpAny_bind (rangeFields_is hl ?_)
  dsimp only
  rw [rsize N]
  have hs : (Builtin.Range.rangeFitsLong 0 && Builtin.Range.rangeFitsLong (N : Int) && Builtin.Range.rangeFitsLong 1 && Builtin.Range.rangeFitsLong (-1) && Builtin.Range.rangeFitsLong (0 - 1) && Builtin.Range.rangeFitsLong (N : Int)) = true := by
    unfold Builtin.Range.rangeFitsLong
    simp; omega
  rw [hs]
  simp only [Bool.not_true, Bool.false_eq_true, if_false, if_true]
  unfold newFields
  refine wpAny_bind (wpAny_newObj_type ?_)
  exact wpAny_pure ⟨_, rfl, h⟩
theorem newClass_reversed' (a : Value) : Builtin.SmallTypes.newClass "reversed" ⟨[.type "reversed", a], []⟩ = pure (.type "reversed", [a]) := newClass_reversed a
theorem code_reversed_range {l : Addr} {N : Nat} {t u v : Tok} {Q₁ : Value → Shared → Prop} (hN : N < 1000) (hl : s.heap.get? l = some { cls := .type "range", dict := none, data := .fields #[.int 0 t, .int (N : Int) u, .int 1 v], slots := #[] })
    (h : Q₁ (.ref s.heap.objs.size) { s with heap := s.heap.push { cls := .type "range_iterator", data := .fields #[rawInt (0 + ((N : Int) - 1) * 1), rawInt N, rawInt (-1)] } }) :
    codeAny (model prog w) A (.call (.builtin "reversed.__new__") ⟨[.type "reversed", .ref l], []⟩) (wants Q₁ E) s := by
  have hT : s.TypeIs (.ref l) "range" := ⟨_, hl, rfl⟩
  refine codeAny_of_tree ?_
  show wpAny _ A.in1 (do checkBuiltinCall "reversed.__new__" ⟨[.type "reversed", .ref l], []⟩; again (.builtin "reversed.__new__" ⟨[.type "reversed", .ref l], []⟩)) _ _ s
  refine wpAny_bind (wpAny_of_eq (F.newCall_reversed_1 _) (wpAny_pure ⟨plainId_quiet F.plain_reversed_new _, codeAny_builtin F.entry_reversed_new ?_⟩))
  rw [Around.under_plainId F.plain_reversed_new _]
  unfold Builtin.«reversed.__new__»
  refine wpAny_bind (wpAny_of_eq (newClass_reversed _) ?_)
  try dsimp only
  refine wpAny_bind (wpAny_of_eq (a := ()) (by first | rfl | kernel_rfl) ?_)
  refine wpAny_bind (wpAny_of_eq (a := ()) (by first | rfl | kernel_rfl) ?_)
  try dsimp only
  refine wpAny_bind (wpAny_specialOf hT F.slot_range_reversed.lookup ?_)
  try dsimp only
  refine wpAny_bind (wpAny_of_eq (F.slot_range_reversed.bind _) ?_)
  try dsimp only
  first
  | rw [if_neg (show ¬ ((Value.builtin "range.__reversed__" == Value.none) = true) from Bool.false_ne_true)]
  | (show wpAny _ _ (if (Value.builtin "range.__reversed__" == Value.none) = true then _ else _) _ _ _; rw [if_neg (show ¬ ((Value.builtin "range.__reversed__" == Value.none) = true) from Bool.false_ne_true)])
  refine wpAny_bind (wpAny_rule ?_)
  refine wpAny_bind (m := runValue (.call (.builtin "range.__reversed__") ⟨[.ref l], []⟩)) (show wpAny _ _ (call (.builtin "range.__reversed__") [.ref l]) _ _ _ from call_range_reversed hN hl ?_)
  first
  | exact wpAny_pure h
  | exact wpAny_bind (wpAny_pure (wpAny_pure h))
theorem call_reversed_range {l : Addr} {N : Nat} {t u v : Tok} {Q : Value → Shared → Prop} (hN : N < 1000) (hl : s.heap.get? l = some { cls := .type "range", dict := none, data := .fields #[.int 0 t, .int (N : Int) u, .int 1 v], slots := #[] })
    (h : Q (.ref s.heap.objs.size) { s with heap := s.heap.push { cls := .type "range_iterator", data := .fields #[rawInt (0 + ((N : Int) - 1) * 1), rawInt N, rawInt (-1)] } }) : wpAny (model prog w) A (call (.type "reversed") [.ref l]) Q E s := by
  refine callType_other (U := "range_iterator") (Q₁ := fun obj s₁ => obj = .ref s.heap.objs.size ∧ s₁ = { s with heap := s.heap.push { cls := .type "range_iterator", data := .fields #[rawInt (0 + ((N : Int) - 1) * 1), rawInt N, rawInt (-1)] } }) (by decide +kernel) F.create_reversed ⟨_, _, F.mro_reversed⟩ F.made_reversed sub_riter_reversed (F.typeCall_reversed_1 _) (code_reversed_range hN hl ⟨rfl, rfl⟩) ?_
  rintro obj s₁ ⟨rfl, rfl⟩
  exact ⟨⟨_, Heap.get?_push_size _ rfl, rfl⟩, h⟩
end
section
variable {prog : Program} {w : World} {base : Heap} {n : Nat} {S : Led} {gl : List (Str × AV)} {bl : List (Str × Value)} {a : Addr}
theorem c_reversed {l : Addr} {N : Nat} {v : Value} {Q : AV → Led → Prop} (hv : VR (.val (.ref l)) v) (hN : N < 1000) (hm : (l, PRange 0 (N : Int) 1) ∈ S) (h : ∀ it, Q (.val (.ref it)) ((it, PRIter ((N : Int) - 1) N (-1)) :: S)) : WV prog w base n (call (.type "reversed") [v]) S Q := by
  obtain rfl : v = .ref l := hv
  refine .mk fun A s hA R => ?_
  obtain ⟨o, e, t, u, v, rfl⟩ := R.get hm
  refine call_reversed_range hN e ?_
  exact ⟨_, _, _, rfl, R.push (P := PRIter ((N : Int) - 1) N (-1)) (by show _ = _; simp), .val (.ref _), rfl, h _⟩
end
end
section
open PySem PySem.W PyProof.Rows PySem.Calls PySem.Spec
set_option linter.all false
set_option maxRecDepth 100000
section
variable {prog : Program} {w : World} {base : Heap} {n : Nat} {S : Led} {env : Env} {gl : List (Str × AV)} {bl : List (Str × Value)} {a : Addr}
/-- what a method may be called on -/
noncomputable def OnT (base : Heap) (S : Led) (a : AV) (T : String) : Prop := ∀ v (s : Shared), VR a v → Rep base S s.heap → s.TypeIs v T ∧ ∀ b, v = .ref b → ∃ ob, s.heap.get? b = some ob ∧ ob.dict = none
theorem OnT.list {l : Addr} {xs : List AV} (hm : (l, PList xs) ∈ S) : OnT base S (.val (.ref l)) "list" := by
  rintro v s rfl R
  obtain ⟨o, e, vs, k, rfl, _⟩ := R.get hm
  exact ⟨⟨_, e, rfl⟩, by rintro b ⟨⟩; exact ⟨_, e, rfl⟩⟩
theorem OnT.str {x : Str} : OnT base S (.str x) "str" := by
  rintro v s ⟨t, rfl⟩ R
  exact ⟨rfl, by rintro b ⟨⟩⟩
theorem ev_Meth {o : Expr} {name : Str} {apos pos : Pos} {args : List Expr} {T id : String} {Q : AV → Led → Prop} (pa : PlainAttrs T) (slot : Slot T name id) (hty : typeOf (.builtin id) = pure (.type "method_descriptor"))
    (h : WV prog w base n (eval o env) S (fun a S₁ => OnT base S₁ a T ∧ WVs prog w base n pos args env S₁ (fun as S₂ => ∀ v vs, VR a v → VRs as vs → WV prog w base n (call (.builtin id) (v :: vs)) S₂ Q)))
    (hbase : attributeBase o name env (eval o env) = eval o env := by rfl)
    (hfew : ((backTo pos (starEach args env)).all (fun x => !x.1) && (backToKw pos (keywordEach [] env)).all (fun x => x.1.isSome)
      && decide (args.length + ([] : List Keyword).length + (if ([] : List Keyword).isEmpty then 0 else 1) < 30)) = true := by rfl)
    (hline : (apos.endLine == pos.line) = true := by rfl) (hp : (backTo pos (starEach args env)).any (·.1) = false := by rfl)
    (x : Sem Value) (r : List (Bool × Sem Value)) (he : backTo pos (starEach args env) = (false, x) :: r) :
    WV prog w base n (eval (.Call (.Attribute o name apos) args [] pos) env) S Q := .mk fun A s hA R => by
  refine wpAny_Call_method hbase hfew hline pa slot hty (wpAny_mono (h.run A s hA R) (fun v s₁ p => ?_) fun _ _ x => x)
  obtain ⟨S₁, h₁, k₁, rfl, R₁, a, ra, hT, q⟩ := p
  obtain ⟨hT1, hT2⟩ := hT v { s with heap := h₁, toks := k₁ } ra R₁
  refine ⟨hT1, hT2, callWith_builtin hp ?_⟩
  have fin : wpAny (model prog w) A (spliced (backTo pos (starEach args env))) (fun vs s₂ => wpAny (model prog w) A (call (.builtin id) (v :: vs)) (Post base (Hid Q) s) NoE s₂) NoE { s with heap := h₁, toks := k₁ } := by
    refine wpAny_mono (q.run A _ hA R₁) (fun vs s₂ p => ?_) fun _ _ x => x
    obtain ⟨S₂, h₂, k₂, rfl, R₂, as, ras, q⟩ := p
    exact (q v vs ra ras).at hA rfl R₂
  rw [he] at fin ⊢
  exact evalArgs_plain fin
theorem ev_Meth1 {o e : Expr} {name : Str} {apos pos : Pos} {args : List Expr} {T id : String} {Q : AV → Led → Prop} (pa : PlainAttrs T) (slot : Slot T name id) (hty : typeOf (.builtin id) = pure (.type "method_descriptor"))
    (h : WV prog w base n (eval o env) S (fun a S₁ => OnT base S₁ a T ∧ WVs prog w base n pos (e :: args) env S₁ (fun as S₂ => ∀ v vs, VR a v → VRs as vs → WV prog w base n (call (.builtin id) (v :: vs)) S₂ Q)))
    (hbase : attributeBase o name env (eval o env) = eval o env := by rfl)
    (hfew : ((backTo pos (starEach (e :: args) env)).all (fun x => !x.1) && (backToKw pos (keywordEach [] env)).all (fun x => x.1.isSome)
      && decide ((e :: args).length + ([] : List Keyword).length + (if ([] : List Keyword).isEmpty then 0 else 1) < 30)) = true := by rfl)
    (hline : (apos.endLine == pos.line) = true := by rfl) (hp : (backTo pos (starEach (e :: args) env)).any (·.1) = false := by rfl)
    (he : backTo pos (starEach (e :: args) env) = (false, eval e env) :: backTo pos (starEach args env) := by rfl) :
    WV prog w base n (eval (.Call (.Attribute o name apos) (e :: args) [] pos) env) S Q := ev_Meth pa slot hty h hbase hfew hline hp _ _ he
theorem ev_Meth0 {o : Expr} {name : Str} {apos pos : Pos} {T id : String} {Q : AV → Led → Prop} (pa : PlainAttrs T) (slot : Slot T name id) (hty : typeOf (.builtin id) = pure (.type "method_descriptor"))
    (h : WV prog w base n (eval o env) S (fun a S₁ => OnT base S₁ a T ∧ ∀ v, VR a v → WV prog w base n (call (.builtin id) [v]) S₁ Q))
    (hbase : attributeBase o name env (eval o env) = eval o env := by rfl) (hline : (apos.endLine == pos.line) = true := by rfl) :
    WV prog w base n (eval (.Call (.Attribute o name apos) [] [] pos) env) S Q := .mk fun A s hA R => by
  refine wpAny_Call_method hbase rfl hline pa slot hty (wpAny_mono (h.run A s hA R) (fun v s₁ p => ?_) fun _ _ x => x)
  obtain ⟨S₁, h₁, k₁, rfl, R₁, a, ra, hT, q⟩ := p
  obtain ⟨hT1, hT2⟩ := hT v { s with heap := h₁, toks := k₁ } ra R₁
  exact ⟨hT1, hT2, callWith_builtin rfl (evalArgs_nil3 ((q v ra).at hA rfl R₁))⟩
theorem T1.list {l : Addr} {xs : List AV} {Q : Bool → Led → Prop} (hm : (l, PList xs) ∈ S) (hl : xs.length ≤ 1000) (h : Q (!xs.isEmpty) S) : T1 prog w base n (.val (.ref l)) S Q := by
  rintro v rfl
  refine .mk fun A s hA R => ?_
  obtain ⟨vs, hL, hv⟩ := R.list hm
  have hlen := hv.length
  refine wpAny_truthy_list hL (by simp; omega) (Post.tok R ?_)
  rw [show (!(List.toArray vs).isEmpty) = !xs.isEmpty by cases xs <;> cases vs <;> simp_all]
  exact h
theorem wc_forDown {x : Str} {px : Pos} {it : Addr} {N : Nat} {body orelse : List Stmt} {Q : FQ} (St : Nat → Led)
    (turn : ∀ (i : Nat), i < N → ∀ v, VR (.int (i : Int)) v → W prog w base n (storeName env x v) ((it, PRIter ((i : Int) - 1) (i : Int) (-1)) :: St (i + 1)) (fun _ S₃ => W prog w base n (execs body env) S₃ (Lp (Wk ((it, PRIter ((i : Int) - 1) (i : Int) (-1)) :: St i)) Q)))
    (done : W prog w base n (execs orelse env) (St 0) Q) : WC prog w base n (.forLoop (.Name x px) (.ref it) body orelse env) ((it, PRIter ((N : Int) - 1) (N : Int) (-1)) :: St N) Q := by
  refine wc_for (fun k S' => k ≤ N ∧ S' = (it, PRIter ((k : Int) - 1) (k : Int) (-1)) :: St k) ?_ N ⟨Nat.le_refl _, rfl⟩
  rintro k S' ⟨hk, rfl⟩
  cases k with
  | zero => exact nx_range_end Del.head (by omega) done
  | succ k =>
    refine nx_range Upd.head (by omega) fun t => lo_Name (as_Name ?_)
    have e1 : (((k + 1 : Nat) : Int) - 1) = (k : Int) := by omega
    rw [e1]
    refine (turn k (by omega) _ vInt).mono fun _ S₃ q => q.mono fun f S₄ q => ?_
    cases f with
    | next => exact ⟨k, by omega, _, q, by omega, rfl⟩
    | cont => exact ⟨k, by omega, _, q, by omega, rfl⟩
    | brk => exact q
    | ret v => exact q
end
end
section
open PySem PySem.W PyProof.Rows PySem.Calls PySem.Spec
set_option linter.all false
set_option maxRecDepth 100000
section
variable {α : Type} (lt : α → α → Bool) (d : α)
noncomputable def hfF : Nat → List α → List α
  | 0, zs => zs
  | k + 1, zs => hfF k (suF lt d zs k)
theorem getD_off {zs : List α} {i : Nat} {d : α} (h : zs.length ≤ i) : zs.getD i d = d := by simp [List.getElem?_eq_none h]
theorem suF_dflt {lt : α → α → Bool} {d d' : α} {zs : List α} {p : Nat} (hp : p < zs.length) : suF lt d zs p = suF lt d' zs p := by
  unfold suF
  rw [show zs.getD p d = zs.getD p d' by simp [hp]]
theorem sdF_mem {lt : α → α → Bool} {new : α} {st : Nat} (P : α → Prop) (hn : P new) : ∀ (f p : Nat) (zs : List α), (∀ z ∈ zs, P z) → ∀ z ∈ sdF lt new st f p zs, P z
  | 0, p, zs, h, z, hz => by
    rcases List.mem_or_eq_of_mem_set hz with hz | rfl
    · exact h _ hz
    · exact hn
  | f + 1, p, zs, h, z, hz => by
    have key : ∀ x, P x → ∀ z ∈ zs.set p x, P z := fun x hx z hz => by
      rcases List.mem_or_eq_of_mem_set hz with hz | rfl
      · exact h _ hz
      · exact hx
    unfold sdF at hz
    split at hz
    · refine sdF_mem P hn f _ _ (key _ ?_) z hz
      by_cases hl : (p - 1) / 2 < zs.length
      · exact h _ (getD_mem hl)
      · rw [getD_off (by lia)]; exact hn
    · exact key _ hn z hz
theorem suLoop_mem {lt : α → α → Bool} {new : α} (P : α → Prop) (hn : P new) : ∀ (f p : Nat) (zs : List α), (∀ z ∈ zs, P z) → ∀ z ∈ (suLoop lt new f p zs).2, P z
  | 0, p, zs, h, z, hz => h z hz
  | f + 1, p, zs, h, z, hz => by
    unfold suLoop at hz
    split at hz
    · refine suLoop_mem P hn f _ _ (fun z hz => ?_) z hz
      rcases List.mem_or_eq_of_mem_set hz with hz | rfl
      · exact h _ hz
      · by_cases hl : kid lt new p zs < zs.length
        · exact h _ (getD_mem hl)
        · rw [getD_off (by lia)]; exact hn
    · exact h z hz
theorem suF_mem {lt : α → α → Bool} {d : α} {zs : List α} {p : Nat} (P : α → Prop) (hp : p < zs.length) (h : ∀ z ∈ zs, P z) : ∀ z ∈ suF lt d zs p, P z := by
  have hn : P (zs.getD p d) := h _ (getD_mem hp)
  intro z hz
  unfold suF at hz
  dsimp only at hz
  refine sdF_mem P hn _ _ _ (fun z hz => ?_) z hz
  rcases List.mem_or_eq_of_mem_set hz with hz | rfl
  · exact suLoop_mem P hn _ _ _ h z hz
  · exact hn
theorem hfF_len : ∀ (k : Nat) (zs : List α), (hfF lt d k zs).length = zs.length
  | 0, _ => rfl
  | k + 1, zs => by unfold hfF; rw [hfF_len k, suF_len]
end
section
variable {prog : Program} {w : World} {base : Heap} {n : Nat} {S : Led} {gl : List (Str × AV)} {bl : List (Str × Value)} {a : Addr}

theorem sig_hf : sigOk (fnScope 38) ["x"] ["x", "n", "i"] [] ["len", "reversed", "range", "_siftup"] = true := by rfl
theorem c_heapify {α : Type} {Sf : List AV → Led} {e : α → AV} {El : α → Prop} {lt : α → α → Bool} {l sua sda : Addr} (H : Holds Sf l) (C : LtOk prog w base Sf e El lt) (F : FnIs base a (fnScope 38) ["x"] (fnBody 38) []) (T : TopIs base gl bl)
    (hlen : (("len" : Str), Value.builtin "len") ∈ bl) (hrev : (("reversed" : Str), Value.type "reversed") ∈ bl) (hran : (("range" : Str), Value.type "range") ∈ bl) (hsd : (("_siftdown" : Str), AV.val (.ref sda)) ∈ gl) (hsu : (("_siftup" : Str), AV.val (.ref sua)) ∈ gl)
    (FU : FnIs base sua (fnScope 42) ["heap", "pos"] (fnBody 42) []) (FD : FnIs base sda (fnScope 41) ["heap", "startpos", "pos"] (fnBody 41) [])
    (d : α) {zs : List α} {v1 : Value} {Q : AV → Led → Prop} (h1 : VR (.val (.ref l)) v1) (hz : zs.length ≤ 900) (hel : ∀ z ∈ zs, El z)
    (h : Q (.val .none) (Sf ((hfF lt d (zs.length / 2) zs).map e))) : WV prog w base (n + 3) (call (.ref a) [v1]) (Sf (zs.map e)) Q := by
  refine c_call F (das := []) rfl sig_hf (args := [.val (.ref l)]) ⟨v1, [], rfl, h1, rfl⟩ rfl fun env L ads hlen' hE => ?_
  obtain rfl := List.eq_nil_of_length_eq_zero hlen'
  show W prog w base (n + 2) (execs (fnBody 38) env) ((L, PNs [("x", some (.val (.ref l))), ("n", none), ("i", none)]) :: Sf (zs.map e)) (RetS Q)
  refine x_cons <| x_AssignName <| ev_CallB <| ev_blt hE T (by tb_start) hlen ⟨rfl, vs_cons <| ev_loc hE (by tb_start) (by tb_start) (by tb_start) <| vs_nil fun vs hvs => ?_⟩
  refine vrs1 hvs fun v9 h9 => ?_
  refine c_lenList h9 (List.mem_cons_of_mem _ (H.mem _)) (by simp; lia) fun v hv => st_loc hE (a := .int zs.length) (by tb_start) (by tb_start) (by tb_start) (by simpa using hv) ?_
  refine x_cons <| x_For <| ev_CallT <| ev_blt hE T (by tb_start) hrev ⟨rfl, vs_cons <| ev_CallT <| ev_blt hE T (by tb_start) hran ⟨rfl, vs_cons <| ev_BinOp <| ev_loc hE (by tb_start) (by tb_start) (by tb_start) <| ev_int <| o_divN (j := 2) (by decide) (by decide) <| vs_nil fun vs hvs => ?_⟩⟩
  refine vrs1 hvs fun v8 h8 => ?_
  refine c_range1 h8 fun r => vs_nil fun vs hvs => ?_
  refine vrs1 hvs fun v7 h7 => ?_
  refine c_reversed h7 (by lia) List.mem_cons_self fun it => it_riter List.mem_cons_self fun vi hvi => ?_
  obtain rfl : vi = .ref it := hvi
  generalize hR : hfF lt d (zs.length / 2) zs = R at h
  obtain ⟨N, hN⟩ : ∃ N, zs.length = N := ⟨_, rfl⟩
  rw [hN]
  refine wc_for (fun k S' => ∃ ys : List α, k ≤ N / 2 ∧ ys.length = N ∧ (∀ z ∈ ys, El z) ∧ hfF lt d k ys = R ∧
    S' = (it, PRIter ((k : Int) - 1) (k : Int) (-1)) :: (r, PRange 0 ((N / 2 : Nat) : Int) 1) :: (L, PNs [("x", some (.val (.ref l))), ("n", some (.int N)), ("i", none)]) :: Sf (ys.map e)) ?_ (N / 2) ⟨zs, Nat.le_refl _, hN, hel, by rw [← hN]; exact hR, rfl⟩
  rintro k S' ⟨ys, hk, hys, hely, hRk, rfl⟩
  cases k with
  | zero =>
    obtain rfl : ys = R := hRk
    exact nx_range_end Del.head (by lia) (x_nil (x_nil (next_end (.skip (.skip (.refl _))) h)))
  | succ k =>
    refine nx_range Upd.head (by lia) fun t => lo_Name (as_Name ?_)
    have e1 : (((k + 1 : Nat) : Int) - 1) = (k : Int) := by lia
    rw [e1]
    refine st_loc hE (by tb_start) (by tb_start) (by tb_start) vInt ?_
    have hkl : k < ys.length := by lia
    refine x_cons <| x_Expr hE <| ev_CallDef FU.isDef <| ev_glob hE T (by tb_start) hsu ⟨rfl, vs_cons <| ev_loc hE (by tb_start) (by tb_start) (by tb_start) <| vs_cons <| ev_loc hE (by tb_start) (by tb_start) (by tb_start) <| vs_nil fun vs hvs => ?_⟩
    refine vrs2 hvs fun w1 r1 w2 r2 => ?_
    refine c_su (Sf := fun xs => _ :: _ :: _ :: Sf xs) ⟨fun _ _ => Upd.tail (Upd.tail (Upd.tail (H.upd _ _)))⟩ C.skip.skip.skip FU T hlen hsd FD r1 r2 hkl (by lia) hely ?_
    refine x_nil ⟨k, by lia, _, ?_, suF lt ys[k] ys k, by lia, by rw [suF_len]; exact hys, suF_mem El hkl hely, by rw [suF_dflt (d' := d) hkl]; exact hRk, rfl⟩
    exact .keep (.keep (.ns (by tb_start) (.refl _)))

theorem sig_hfm : sigOk (fnScope 40) ["x"] ["x", "n", "i"] [] ["len", "reversed", "range", "_siftup_max"] = true := by rfl
theorem c_heapifym {α : Type} {Sf : List AV → Led} {e : α → AV} {El : α → Prop} {lt : α → α → Bool} {l sua sda : Addr} (H : Holds Sf l) (C : LtOk prog w base Sf e El lt) (F : FnIs base a (fnScope 40) ["x"] (fnBody 40) []) (T : TopIs base gl bl)
    (hlen : (("len" : Str), Value.builtin "len") ∈ bl) (hrev : (("reversed" : Str), Value.type "reversed") ∈ bl) (hran : (("range" : Str), Value.type "range") ∈ bl) (hsd : (("_siftdown_max" : Str), AV.val (.ref sda)) ∈ gl) (hsu : (("_siftup_max" : Str), AV.val (.ref sua)) ∈ gl)
    (FU : FnIs base sua (fnScope 44) ["heap", "pos"] (fnBody 44) []) (FD : FnIs base sda (fnScope 43) ["heap", "startpos", "pos"] (fnBody 43) [])
    (d : α) {zs : List α} {v1 : Value} {Q : AV → Led → Prop} (h1 : VR (.val (.ref l)) v1) (hz : zs.length ≤ 900) (hel : ∀ z ∈ zs, El z)
    (h : Q (.val .none) (Sf ((hfF (fun x y => lt y x) d (zs.length / 2) zs).map e))) : WV prog w base (n + 3) (call (.ref a) [v1]) (Sf (zs.map e)) Q := by
  refine c_call F (das := []) rfl sig_hfm (args := [.val (.ref l)]) ⟨v1, [], rfl, h1, rfl⟩ rfl fun env L ads hlen' hE => ?_
  obtain rfl := List.eq_nil_of_length_eq_zero hlen'
  show W prog w base (n + 2) (execs (fnBody 40) env) ((L, PNs [("x", some (.val (.ref l))), ("n", none), ("i", none)]) :: Sf (zs.map e)) (RetS Q)
  refine x_cons <| x_AssignName <| ev_CallB <| ev_blt hE T (by tb_start) hlen ⟨rfl, vs_cons <| ev_loc hE (by tb_start) (by tb_start) (by tb_start) <| vs_nil fun vs hvs => ?_⟩
  refine vrs1 hvs fun v9 h9 => ?_
  refine c_lenList h9 (List.mem_cons_of_mem _ (H.mem _)) (by simp; lia) fun v hv => st_loc hE (a := .int zs.length) (by tb_start) (by tb_start) (by tb_start) (by simpa using hv) ?_
  refine x_cons <| x_For <| ev_CallT <| ev_blt hE T (by tb_start) hrev ⟨rfl, vs_cons <| ev_CallT <| ev_blt hE T (by tb_start) hran ⟨rfl, vs_cons <| ev_BinOp <| ev_loc hE (by tb_start) (by tb_start) (by tb_start) <| ev_int <| o_divN (j := 2) (by decide) (by decide) <| vs_nil fun vs hvs => ?_⟩⟩
  refine vrs1 hvs fun v8 h8 => ?_
  refine c_range1 h8 fun r => vs_nil fun vs hvs => ?_
  refine vrs1 hvs fun v7 h7 => ?_
  refine c_reversed h7 (by lia) List.mem_cons_self fun it => it_riter List.mem_cons_self fun vi hvi => ?_
  obtain rfl : vi = .ref it := hvi
  generalize hR : hfF (fun x y => lt y x) d (zs.length / 2) zs = R at h
  obtain ⟨N, hN⟩ : ∃ N, zs.length = N := ⟨_, rfl⟩
  rw [hN]
  refine wc_for (fun k S' => ∃ ys : List α, k ≤ N / 2 ∧ ys.length = N ∧ (∀ z ∈ ys, El z) ∧ hfF (fun x y => lt y x) d k ys = R ∧
    S' = (it, PRIter ((k : Int) - 1) (k : Int) (-1)) :: (r, PRange 0 ((N / 2 : Nat) : Int) 1) :: (L, PNs [("x", some (.val (.ref l))), ("n", some (.int N)), ("i", none)]) :: Sf (ys.map e)) ?_ (N / 2) ⟨zs, Nat.le_refl _, hN, hel, by rw [← hN]; exact hR, rfl⟩
  rintro k S' ⟨ys, hk, hys, hely, hRk, rfl⟩
  cases k with
  | zero =>
    obtain rfl : ys = R := hRk
    exact nx_range_end Del.head (by lia) (x_nil (x_nil (next_end (.skip (.skip (.refl _))) h)))
  | succ k =>
    refine nx_range Upd.head (by lia) fun t => lo_Name (as_Name ?_)
    have e1 : (((k + 1 : Nat) : Int) - 1) = (k : Int) := by lia
    rw [e1]
    refine st_loc hE (by tb_start) (by tb_start) (by tb_start) vInt ?_
    have hkl : k < ys.length := by lia
    refine x_cons <| x_Expr hE <| ev_CallDef FU.isDef <| ev_glob hE T (by tb_start) hsu ⟨rfl, vs_cons <| ev_loc hE (by tb_start) (by tb_start) (by tb_start) <| vs_cons <| ev_loc hE (by tb_start) (by tb_start) (by tb_start) <| vs_nil fun vs hvs => ?_⟩
    refine vrs2 hvs fun w1 r1 w2 r2 => ?_
    refine c_sum2 (Sf := fun xs => _ :: _ :: _ :: Sf xs) ⟨fun _ _ => Upd.tail (Upd.tail (Upd.tail (H.upd _ _)))⟩ C.skip.skip.skip FU T hlen hsd FD r1 r2 hkl (by lia) hely ?_
    refine x_nil ⟨k, by lia, _, ?_, suF (fun x y => lt y x) ys[k] ys k, by lia, by rw [suF_len]; exact hys, suF_mem El hkl hely, by rw [suF_dflt (d' := d) hkl]; exact hRk, rfl⟩
    exact .keep (.keep (.ns (by tb_start) (.refl _)))

theorem sig_pop : sigOk (fnScope 36) ["heap"] ["heap", "lastelt", "returnitem"] [] ["_siftup"] = true := by rfl
theorem c_heappop {α : Type} {Sf : List AV → Led} {e : α → AV} {El : α → Prop} {lt : α → α → Bool} {l sua sda : Addr} (H : Holds Sf l) (C : LtOk prog w base Sf e El lt) (F : FnIs base a (fnScope 36) ["heap"] (fnBody 36) []) (T : TopIs base gl bl)
    (hlen : (("len" : Str), Value.builtin "len") ∈ bl) (hsd : (("_siftdown" : Str), AV.val (.ref sda)) ∈ gl) (hsu : (("_siftup" : Str), AV.val (.ref sua)) ∈ gl)
    (FU : FnIs base sua (fnScope 42) ["heap", "pos"] (fnBody 42) []) (FD : FnIs base sda (fnScope 41) ["heap", "startpos", "pos"] (fnBody 41) [])
    {ys : List α} {x : α} {v1 : Value} {Q : AV → Led → Prop} (h1 : VR (.val (.ref l)) v1) (hz : ys.length ≤ 900) (hel : ∀ z ∈ ys ++ [x], El z)
    (h : match ys with | [] => Q (e x) (Sf []) | y :: r => Q (e y) (Sf ((suF lt x (x :: r) 0).map e))) : WV prog w base (n + 3) (call (.ref a) [v1]) (Sf ((ys ++ [x]).map e)) Q := by
  refine c_call F (das := []) rfl sig_pop (args := [.val (.ref l)]) ⟨v1, [], rfl, h1, rfl⟩ rfl fun env L ads hlen' hE => ?_
  obtain rfl := List.eq_nil_of_length_eq_zero hlen'
  show W prog w base (n + 2) (execs (fnBody 36) env) ((L, PNs [("heap", some (.val (.ref l))), ("lastelt", none), ("returnitem", none)]) :: Sf ((ys ++ [x]).map e)) (RetS Q)
  rw [List.map_append]
  refine x_cons <| x_AssignName <| ev_Meth0 PySem.F.plainAttrs_list PySem.F.slot_list_pop PySem.F.type_list_pop <| ev_loc hE (by tb_start) (by tb_start) (by tb_start) ⟨.list (List.mem_cons_of_mem _ (H.mem _)), fun v hv => ?_⟩
  obtain rfl : v = .ref l := hv
  refine m_pop (xs := ys.map e) (a := e x) (Upd.tail (H.upd _ _)) (by simp; lia) fun v hv => st_loc hE (by tb_start) (by tb_start) (by tb_start) hv ?_
  refine x_cons <| x_If <| t_val <| ev_loc hE (by tb_start) (by tb_start) (by tb_start) <| T1.list (List.mem_cons_of_mem _ (H.mem _)) (by simp; lia) ?_
  cases ys with
  | nil =>
    rw [if_neg (show ¬ ((!(([] : List α).map e).isEmpty) = true) from Bool.false_ne_true)]
    exact x_nil <| x_cons <| x_Ret <| ev_loc hE (by tb_start) (by tb_start) (by tb_start) fun v hv => ret_end hv (.skip (.refl _)) h
  | cons y r =>
    have hr : r.length + 1 ≤ 900 := by simpa using hz
    rw [if_pos (by rfl)]
    refine x_cons <| x_AssignName <| ev_Sub <| ev_loc hE (by tb_start) (by tb_start) (by tb_start) <| ev_int <| g_list (k := ((0 : Nat) : Int)) (List.mem_cons_of_mem _ (H.mem _)) (by lia) (by lia) (a := e y) (by simp) fun v hv => st_loc hE (by tb_start) (by tb_start) (by tb_start) hv ?_
    refine x_cons <| x_AssignSub <| ev_loc hE (by tb_start) (by tb_start) (by tb_start) <| ev_loc hE (by tb_start) (by tb_start) (by tb_start) <| ev_int fun vc va vb rc ra rb => ?_
    refine p_list (k := 0) ra rb rc (by lia) (by lia) (by simp) (Upd.tail (H.upd _ _)) ?_
    rw [show ((y :: r).map e).set ((0 : Int)).toNat (e x) = (x :: r).map e by simp]
    refine x_cons <| x_Expr hE <| ev_CallDef FU.isDef <| ev_glob hE T (by tb_start) hsu ⟨rfl, vs_cons <| ev_loc hE (by tb_start) (by tb_start) (by tb_start) <| vs_cons <| ev_int <| vs_nil fun vs hvs => ?_⟩
    refine vrs2 hvs fun w1 r1 w2 r2 => ?_
    refine c_su (Sf := fun xs => _ :: Sf xs) (p := 0) ⟨fun _ _ => Upd.tail (H.upd _ _)⟩ C.skip FU T hlen hsd FD r1 r2 (by simp) (by simp; lia) (fun z hz => hel z (by simp at hz ⊢; rcases hz with rfl | hz <;> simp [*])) ?_
    exact x_cons <| x_Ret <| ev_loc hE (by tb_start) (by tb_start) (by tb_start) fun v hv => ret_end hv (.skip (.refl _)) h

theorem sig_rep : sigOk (fnScope 37) ["heap", "item"] ["heap", "item", "returnitem"] [] ["_siftup"] = true := by rfl
theorem c_heaprep {α : Type} {Sf : List AV → Led} {e : α → AV} {El : α → Prop} {lt : α → α → Bool} {l sua sda : Addr} (H : Holds Sf l) (C : LtOk prog w base Sf e El lt) (F : FnIs base a (fnScope 37) ["heap", "item"] (fnBody 37) []) (T : TopIs base gl bl)
    (hlen : (("len" : Str), Value.builtin "len") ∈ bl) (hsd : (("_siftdown" : Str), AV.val (.ref sda)) ∈ gl) (hsu : (("_siftup" : Str), AV.val (.ref sua)) ∈ gl)
    (FU : FnIs base sua (fnScope 42) ["heap", "pos"] (fnBody 42) []) (FD : FnIs base sda (fnScope 41) ["heap", "startpos", "pos"] (fnBody 41) [])
    {r : List α} {x y : α} {v1 v2 : Value} {Q : AV → Led → Prop} (h1 : VR (.val (.ref l)) v1) (h2 : VR (e x) v2) (hz : r.length < 900) (hel : ∀ z ∈ x :: r, El z)
    (h : Q (e y) (Sf ((suF lt x (x :: r) 0).map e))) : WV prog w base (n + 3) (call (.ref a) [v1, v2]) (Sf ((y :: r).map e)) Q := by
  refine c_call F (das := []) rfl sig_rep (args := [.val (.ref l), e x]) ⟨v1, _, rfl, h1, v2, [], rfl, h2, rfl⟩ rfl fun env L ads hlen' hE => ?_
  obtain rfl := List.eq_nil_of_length_eq_zero hlen'
  show W prog w base (n + 2) (execs (fnBody 37) env) ((L, PNs [("heap", some (.val (.ref l))), ("item", some (e x)), ("returnitem", none)]) :: Sf ((y :: r).map e)) (RetS Q)
  refine x_cons <| x_AssignName <| ev_Sub <| ev_loc hE (by tb_start) (by tb_start) (by tb_start) <| ev_int <| g_list (k := ((0 : Nat) : Int)) (List.mem_cons_of_mem _ (H.mem _)) (by lia) (by lia) (a := e y) (by simp) fun v hv => st_loc hE (by tb_start) (by tb_start) (by tb_start) hv ?_
  refine x_cons <| x_AssignSub <| ev_loc hE (by tb_start) (by tb_start) (by tb_start) <| ev_loc hE (by tb_start) (by tb_start) (by tb_start) <| ev_int fun vc va vb rc ra rb => ?_
  refine p_list (k := 0) ra rb rc (by lia) (by lia) (by simp) (Upd.tail (H.upd _ _)) ?_
  rw [show ((y :: r).map e).set ((0 : Int)).toNat (e x) = (x :: r).map e by simp]
  refine x_cons <| x_Expr hE <| ev_CallDef FU.isDef <| ev_glob hE T (by tb_start) hsu ⟨rfl, vs_cons <| ev_loc hE (by tb_start) (by tb_start) (by tb_start) <| vs_cons <| ev_int <| vs_nil fun vs hvs => ?_⟩
  refine vrs2 hvs fun w1 r1 w2 r2 => ?_
  refine c_su (Sf := fun xs => _ :: Sf xs) (p := 0) ⟨fun _ _ => Upd.tail (H.upd _ _)⟩ C.skip FU T hlen hsd FD r1 r2 (by simp) (by simp; lia) hel ?_
  exact x_cons <| x_Ret <| ev_loc hE (by tb_start) (by tb_start) (by tb_start) fun v hv => ret_end hv (.skip (.refl _)) h

theorem sig_repm : sigOk (fnScope 39) ["heap", "item"] ["heap", "item", "returnitem"] [] ["_siftup_max"] = true := by rfl
theorem c_heaprepm {α : Type} {Sf : List AV → Led} {e : α → AV} {El : α → Prop} {lt : α → α → Bool} {l sua sda : Addr} (H : Holds Sf l) (C : LtOk prog w base Sf e El lt) (F : FnIs base a (fnScope 39) ["heap", "item"] (fnBody 39) []) (T : TopIs base gl bl)
    (hlen : (("len" : Str), Value.builtin "len") ∈ bl) (hsd : (("_siftdown_max" : Str), AV.val (.ref sda)) ∈ gl) (hsu : (("_siftup_max" : Str), AV.val (.ref sua)) ∈ gl)
    (FU : FnIs base sua (fnScope 44) ["heap", "pos"] (fnBody 44) []) (FD : FnIs base sda (fnScope 43) ["heap", "startpos", "pos"] (fnBody 43) [])
    {r : List α} {x y : α} {v1 v2 : Value} {Q : AV → Led → Prop} (h1 : VR (.val (.ref l)) v1) (h2 : VR (e x) v2) (hz : r.length < 900) (hel : ∀ z ∈ x :: r, El z)
    (h : Q (e y) (Sf ((suF (fun x y => lt y x) x (x :: r) 0).map e))) : WV prog w base (n + 3) (call (.ref a) [v1, v2]) (Sf ((y :: r).map e)) Q := by
  refine c_call F (das := []) rfl sig_repm (args := [.val (.ref l), e x]) ⟨v1, _, rfl, h1, v2, [], rfl, h2, rfl⟩ rfl fun env L ads hlen' hE => ?_
  obtain rfl := List.eq_nil_of_length_eq_zero hlen'
  show W prog w base (n + 2) (execs (fnBody 39) env) ((L, PNs [("heap", some (.val (.ref l))), ("item", some (e x)), ("returnitem", none)]) :: Sf ((y :: r).map e)) (RetS Q)
  refine x_cons <| x_AssignName <| ev_Sub <| ev_loc hE (by tb_start) (by tb_start) (by tb_start) <| ev_int <| g_list (k := ((0 : Nat) : Int)) (List.mem_cons_of_mem _ (H.mem _)) (by lia) (by lia) (a := e y) (by simp) fun v hv => st_loc hE (by tb_start) (by tb_start) (by tb_start) hv ?_
  refine x_cons <| x_AssignSub <| ev_loc hE (by tb_start) (by tb_start) (by tb_start) <| ev_loc hE (by tb_start) (by tb_start) (by tb_start) <| ev_int fun vc va vb rc ra rb => ?_
  refine p_list (k := 0) ra rb rc (by lia) (by lia) (by simp) (Upd.tail (H.upd _ _)) ?_
  rw [show ((y :: r).map e).set ((0 : Int)).toNat (e x) = (x :: r).map e by simp]
  refine x_cons <| x_Expr hE <| ev_CallDef FU.isDef <| ev_glob hE T (by tb_start) hsu ⟨rfl, vs_cons <| ev_loc hE (by tb_start) (by tb_start) (by tb_start) <| vs_cons <| ev_int <| vs_nil fun vs hvs => ?_⟩
  refine vrs2 hvs fun w1 r1 w2 r2 => ?_
  refine c_sum2 (Sf := fun xs => _ :: Sf xs) (p := 0) ⟨fun _ _ => Upd.tail (H.upd _ _)⟩ C.skip FU T hlen hsd FD r1 r2 (by simp) (by simp; lia) hel ?_
  exact x_cons <| x_Ret <| ev_loc hE (by tb_start) (by tb_start) (by tb_start) fun v hv => ret_end hv (.skip (.refl _)) h
end
end
section
open PySem PySem.W PyProof.Rows PySem.Calls PySem.Spec
set_option linter.all false
set_option maxRecDepth 100000
section
variable {α : Type} {r : α → Int} {d : α}
noncomputable def ltR (r : α → Int) : α → α → Bool := fun x y => decide (r x < r y)
noncomputable def gR (r : α → Int) (d : α) (zs : List α) (i : Nat) : Int := r (zs.getD i d)
theorem gR_set (zs : List α) (q : Nat) (v : α) (i : Nat) (hq : q < zs.length) : gR r d (zs.set q v) i = if i = q then r v else gR r d zs i := by
  unfold gR
  by_cases h : i = q
  · subst h; simp [hq]
  · rw [if_neg h, List.getD_eq_getElem?_getD, List.getElem?_set_ne (by lia), ← List.getD_eq_getElem?_getD]
theorem gR_dflt (zs : List α) (q : Nat) (v : α) (hq : q < zs.length) : r (zs.getD q v) = gR r d zs q := by unfold gR; simp [hq]
inductive Desc (p : Nat) : Nat → Prop where
  | refl : Desc p p
  | step {q : Nat} : 0 < q → Desc p ((q - 1) / 2) → Desc p q
theorem Desc.le {p q : Nat} (h : Desc p q) : p ≤ q := by
  induction h with
  | refl => exact Nat.le_refl _
  | step h1 _ ih => lia
theorem Desc.up {p q : Nat} (h : Desc p q) (hlt : p < q) : Desc p ((q - 1) / 2) := by
  cases h with
  | refl => lia
  | step _ h => exact h
noncomputable def HeapFrom (r : α → Int) (d : α) (p : Nat) (zs : List α) : Prop := ∀ i, 0 < i → i < zs.length → p ≤ (i - 1) / 2 → gR r d zs ((i - 1) / 2) ≤ gR r d zs i
theorem sdF_heap {new : α} {p : Nat} : ∀ (f q : Nat) (ys : List α), q ≤ f → q < ys.length → Desc p q →
    (∀ i, 0 < i → i < ys.length → p ≤ (i - 1) / 2 → i ≠ q → (i - 1) / 2 ≠ q → gR r d ys ((i - 1) / 2) ≤ gR r d ys i) →
    (q ≠ p → ∀ i, 0 < i → i < ys.length → (i - 1) / 2 = q → gR r d ys ((q - 1) / 2) ≤ gR r d ys i) →
    (∀ i, 0 < i → i < ys.length → (i - 1) / 2 = q → r new ≤ gR r d ys i) → HeapFrom r d p (sdF (ltR r) new p f q ys) := by
  have stop : ∀ (q : Nat) (ys : List α), q < ys.length → Desc p q →
    (∀ i, 0 < i → i < ys.length → p ≤ (i - 1) / 2 → i ≠ q → (i - 1) / 2 ≠ q → gR r d ys ((i - 1) / 2) ≤ gR r d ys i) →
    (∀ i, 0 < i → i < ys.length → (i - 1) / 2 = q → r new ≤ gR r d ys i) → (p < q → gR r d ys ((q - 1) / 2) ≤ r new) → HeapFrom r d p (ys.set q new) := by
    intro q ys hq hd u1 u3 hs i h0 hi hp
    rw [List.length_set] at hi
    have hle := hd.le
    rw [gR_set _ _ _ _ hq, gR_set _ _ _ _ hq]
    by_cases e1 : i = q
    · subst e1
      rw [if_neg (by lia), if_pos rfl]
      exact hs (by lia)
    · rw [if_neg e1]
      by_cases e2 : (i - 1) / 2 = q
      · rw [if_pos e2]; exact u3 i h0 hi e2
      · rw [if_neg e2]; exact u1 i h0 hi hp e1 e2
  intro f
  induction f with
  | zero =>
    intro q ys hf hq hd u1 u2 u3
    have hle := hd.le
    unfold sdF
    exact stop q ys hq hd u1 u3 (by lia)
  | succ f ih =>
    intro q ys hf hq hd u1 u2 u3
    have hle := hd.le
    unfold sdF
    split
    · rename_i hc
      obtain ⟨hpq, hlt⟩ := hc
      have hq2 : (q - 1) / 2 < ys.length := by lia
      have hlt' : r new < gR r d ys ((q - 1) / 2) := by rw [← gR_dflt ys _ new hq2]; simpa [ltR] using hlt
      have hv := gR_dflt (r := r) (d := d) ys _ new hq2
      have hd' := hd.up hpq
      have hle' := hd'.le
      refine ih _ _ (by lia) (by simpa using hq2) hd' ?_ ?_ ?_
      · intro i h0 hi hp e1 e2
        rw [List.length_set] at hi
        rw [gR_set _ _ _ _ hq, gR_set _ _ _ _ hq, hv]
        have e3 : i ≠ q := fun e => e2 (by rw [e])
        rw [if_neg e3]
        by_cases e4 : (i - 1) / 2 = q
        · rw [if_pos e4]; exact u2 (by lia) i h0 hi e4
        · rw [if_neg e4]; exact u1 i h0 hi hp e3 e4
      · intro hne i h0 hi e2
        rw [List.length_set] at hi
        rw [gR_set _ _ _ _ hq, gR_set _ _ _ _ hq, hv]
        have hpp : p < (q - 1) / 2 := by lia
        have hle2 := (hd'.up hpp).le
        rw [if_neg (by lia)]
        have top : gR r d ys (((q - 1) / 2 - 1) / 2) ≤ gR r d ys ((q - 1) / 2) := u1 _ (by lia) hq2 hle2 (by lia) (by lia)
        by_cases e3 : i = q
        · rw [if_pos e3]; exact top
        · rw [if_neg e3]
          have := u1 i h0 hi (by lia) e3 (by lia)
          rw [e2] at this
          exact Int.le_trans top this
      · intro i h0 hi e2
        rw [List.length_set] at hi
        rw [gR_set _ _ _ _ hq, hv]
        by_cases e3 : i = q
        · rw [if_pos e3]; lia
        · rw [if_neg e3]
          have := u1 i h0 hi (by lia) e3 (by lia)
          rw [e2] at this
          lia
    · rename_i hc
      refine stop q ys hq hd u1 u3 fun hpq => ?_
      have hq2 : (q - 1) / 2 < ys.length := by lia
      have : ¬ (r new < gR r d ys ((q - 1) / 2)) := fun hlt => hc ⟨hpq, by have e := gR_dflt (r := r) (d := d) ys _ new hq2; simp only [ltR, decide_eq_true_eq]; rw [e]; exact hlt⟩
      lia
theorem kid_is {new : α} {q : Nat} {ys : List α} (hc : 2 * q + 1 < ys.length) : (kid (ltR r) new q ys = 2 * q + 1 ∨ kid (ltR r) new q ys = 2 * q + 2) ∧ kid (ltR r) new q ys < ys.length ∧
    ∀ i, 0 < i → i < ys.length → (i - 1) / 2 = q → gR r d ys (kid (ltR r) new q ys) ≤ gR r d ys i := by
  unfold kid
  split
  · rename_i h
    obtain ⟨h1, h2⟩ := h
    refine ⟨.inr rfl, by lia, fun i h0 hi hp => ?_⟩
    have h3 : ¬ gR r d ys (2 * q + 1) < gR r d ys (2 * q + 1 + 1) := by
      rw [← gR_dflt ys _ new hc, ← gR_dflt ys _ new h1]; simpa [ltR] using h2
    have : i = 2 * q + 1 ∨ i = 2 * q + 1 + 1 := by lia
    rcases this with rfl | rfl <;> lia
  · rename_i h
    refine ⟨.inl rfl, hc, fun i h0 hi hp => ?_⟩
    have : i = 2 * q + 1 ∨ i = 2 * q + 1 + 1 := by lia
    rcases this with rfl | rfl
    · exact Int.le_refl _
    · have h3 : gR r d ys (2 * q + 1) < gR r d ys (2 * q + 1 + 1) := by
        have : ¬ (ltR r (ys.getD (2 * q + 1) new) (ys.getD (2 * q + 1 + 1) new) = false) := fun e => h ⟨hi, e⟩
        rw [← gR_dflt ys _ new hc, ← gR_dflt ys _ new hi]; simpa [ltR] using this
      lia
theorem suLoop_heap {new : α} {p : Nat} : ∀ (f q : Nat) (ys : List α), ys.length ≤ q + f → q < ys.length → Desc p q →
    (∀ i, 0 < i → i < ys.length → p ≤ (i - 1) / 2 → i ≠ q → (i - 1) / 2 ≠ q → gR r d ys ((i - 1) / 2) ≤ gR r d ys i) →
    (q ≠ p → ∀ i, 0 < i → i < ys.length → (i - 1) / 2 = q → gR r d ys ((q - 1) / 2) ≤ gR r d ys i) →
    HeapFrom r d p (sdF (ltR r) new p (suLoop (ltR r) new f q ys).1 (suLoop (ltR r) new f q ys).1 ((suLoop (ltR r) new f q ys).2.set (suLoop (ltR r) new f q ys).1 new)) := by
  have leaf : ∀ (q : Nat) (ys : List α), q < ys.length → Desc p q → ys.length ≤ 2 * q + 1 → (∀ i, 0 < i → i < ys.length → p ≤ (i - 1) / 2 → i ≠ q → (i - 1) / 2 ≠ q → gR r d ys ((i - 1) / 2) ≤ gR r d ys i) →
      HeapFrom r d p (sdF (ltR r) new p q q (ys.set q new)) := by
    intro q ys hq hd hl d1
    refine sdF_heap q q _ (Nat.le_refl _) (by simpa using hq) hd (fun i h0 hi hp e1 e2 => ?_) (fun _ i h0 hi e => ?_) fun i h0 hi e => ?_
    · rw [List.length_set] at hi
      rw [gR_set _ _ _ _ hq, gR_set _ _ _ _ hq, if_neg e1, if_neg e2]
      exact d1 i h0 hi hp e1 e2
    · rw [List.length_set] at hi; lia
    · rw [List.length_set] at hi; lia
  intro f
  induction f with
  | zero => intro q ys hf hq hd d1 d2; lia
  | succ f ih =>
    intro q ys hf hq hd d1 d2
    have hle := hd.le
    unfold suLoop
    split
    · rename_i hc
      obtain ⟨hk, hkl, hmin⟩ := kid_is (r := r) (d := d) (new := new) hc
      generalize kid (ltR r) new q ys = c at hk hkl hmin ⊢
      have hv := gR_dflt (r := r) (d := d) ys _ new hkl
      have hpar : (c - 1) / 2 = q := by lia
      refine ih c _ (by simp; lia) (by simpa using hkl) (.step (by lia) (by rw [hpar]; exact hd)) ?_ ?_
      · intro i h0 hi hp e1 e2
        rw [List.length_set] at hi
        rw [gR_set _ _ _ _ hq, gR_set _ _ _ _ hq, hv]
        by_cases e3 : (i - 1) / 2 = q
        · rw [if_pos e3, if_neg (by lia)]; exact hmin i h0 hi e3
        · rw [if_neg e3]
          by_cases e4 : i = q
          · rw [if_pos e4, e4]; exact d2 (by lia) c (by lia) hkl hpar
          · rw [if_neg e4]; exact d1 i h0 hi hp e4 e3
      · intro hne i h0 hi e
        rw [List.length_set] at hi
        rw [gR_set _ _ _ _ hq, gR_set _ _ _ _ hq, hv, if_pos hpar, if_neg (by lia)]
        have := d1 i h0 hi (by lia) (by lia) (by lia)
        rwa [e] at this
    · exact leaf q ys hq hd (by lia) d1
theorem suF_heap {d' : α} {p : Nat} {zs : List α} (hp : p < zs.length) (h : HeapFrom r d (p + 1) zs) : HeapFrom r d p (suF (ltR r) d' zs p) := by
  unfold suF
  dsimp only
  exact suLoop_heap _ _ _ (by lia) hp .refl (fun i h0 hi hp e1 e2 => h i h0 hi (by lia)) (by lia)

theorem swap_perm {zs : List α} {p c : Nat} {new : α} (hp : p < zs.length) (hc : c < zs.length) (hne : p ≠ c) {d' : α} : ((zs.set p (zs.getD c d')).set c new).Perm (zs.set p new) := by
  have := List.set_set_perm (as := zs.set p new) (i := p) (j := c) (by simpa using hp) (by simpa using hc)
  simpa [List.getElem_set, hne, List.set_set, hc] using this
theorem sdF_perm {lt : α → α → Bool} {new : α} {p : Nat} : ∀ (f q : Nat) (ys : List α), q < ys.length → (sdF lt new p f q ys).Perm (ys.set q new)
  | 0, q, ys, hq => .refl _
  | f + 1, q, ys, hq => by
    unfold sdF
    split
    · refine (sdF_perm f _ _ (by simp; lia)).trans ?_
      exact swap_perm hq (by lia) (by lia)
    · exact .refl _
theorem suLoop_perm {lt : α → α → Bool} {new : α} : ∀ (f q : Nat) (ys : List α), q < ys.length → (suLoop lt new f q ys).1 < ys.length ∧ ((suLoop lt new f q ys).2.set (suLoop lt new f q ys).1 new).Perm (ys.set q new)
  | 0, q, ys, hq => ⟨hq, .refl _⟩
  | f + 1, q, ys, hq => by
    unfold suLoop
    split
    · have hk : kid lt new q ys < ys.length ∧ q < kid lt new q ys := by unfold kid; split <;> lia
      have := suLoop_perm (lt := lt) (new := new) f (kid lt new q ys) (ys.set q (ys.getD (kid lt new q ys) new)) (by simpa using hk.1)
      exact ⟨by simpa using this.1, this.2.trans (swap_perm hq hk.1 (by lia))⟩
    · exact ⟨hq, .refl _⟩
theorem suF_perm {lt : α → α → Bool} {d' : α} {p : Nat} {zs : List α} (hp : p < zs.length) : (suF lt d' zs p).Perm zs := by
  unfold suF
  dsimp only
  obtain ⟨h1, h2⟩ := suLoop_perm (lt := lt) (new := zs.getD p d') zs.length p zs hp
  refine (sdF_perm _ _ _ (by simp [suLoop_len]; exact h1)).trans ?_
  rw [List.set_set]
  refine h2.trans ?_
  rw [show zs.getD p d' = zs[p] by simp [hp]]
  simp
theorem hfF_heap {d' : α} : ∀ (k : Nat) (zs : List α), k ≤ zs.length / 2 → HeapFrom r d k zs → HeapFrom r d 0 (hfF (ltR r) d' k zs) ∧ (hfF (ltR r) d' k zs).Perm zs
  | 0, zs, _, h => ⟨h, .refl _⟩
  | k + 1, zs, hk, h => by
    unfold hfF
    have := hfF_heap (d' := d') k (suF (ltR r) d' zs k) (by rw [suF_len]; lia) (suF_heap (by lia) h)
    exact ⟨this.1, this.2.trans (suF_perm (by lia))⟩
theorem heapify_ok {d' : α} (zs : List α) : HeapFrom r d 0 (hfF (ltR r) d' (zs.length / 2) zs) ∧ (hfF (ltR r) d' (zs.length / 2) zs).Perm zs :=
  hfF_heap _ zs (Nat.le_refl _) fun i h0 hi hp => by lia
theorem heap_min {zs : List α} (h : HeapFrom r d 0 zs) : ∀ i, i < zs.length → gR r d zs 0 ≤ gR r d zs i := by
  intro i
  induction i using Nat.strongRecOn with
  | ind i ih =>
    intro hi
    by_cases h0 : i = 0
    · rw [h0]; exact Int.le_refl _
    · exact Int.le_trans (ih ((i - 1) / 2) (by lia) (by lia)) (h i (by lia) hi (by lia))
end
end
section
open PySem PySem.W PyProof.Rows PySem.Calls PySem.Spec
set_option linter.all false
set_option maxRecDepth 100000
section
open MeetsSeq3 MeetsSeq
open AutoSeq1 (wpAny_loadPart')
theorem eqGives_int {a b : Int} {t u : Tok} : EqGives (.int a t) (.int b u) (a == b) := fun _ _ _ _ _ _ h => wpAny_eqBool_int h
noncomputable def lstO (xs : Array Value) (n : Nat) : Obj := { cls := .type "list", dict := none, data := .seq xs n, slots := #[] }
variable {l b : Addr} {c k c' k' : Int} {t u t' u' : Tok} {n n' : Nat} {xs ys : Array Value}
theorem lt_loop2 (hx : xs.size = 2) (hy : ys.size = 2) : Meets (Builtin.«list.__eq__.loop» ⟨[.ref l, .ref b, rawInt ((2 : Nat) : Int), rawInt 0], []⟩)
      (fun _ R s => s.heap.get? l = some { cls := .type "list", dict := none, data := .seq xs n, slots := #[] } ∧ s.heap.get? b = some { cls := .type "list", dict := none, data := .seq ys n', slots := #[] } ∧ R (.ok (.ret (.bool false))) s) := by
  intro prog w A R s h
  obtain ⟨hp, g, d, tk, os⟩ := s; obtain ⟨hl, hb, h⟩ := h
  wp_walk using wpAny_loadPart' hl, wpAny_loadPart' hb
  have h1 : xs[((2 : Nat) : Int).toNat]? = none := by simp [hx]
  have h2 : ys[((2 : Nat) : Int).toNat]? = none := by simp [hy]
  rw [h1, h2]
  wp_walk using wpAny_loadPart' hl, wpAny_loadPart' hb
  show R (.ok (.ret (.bool (decide (xs.size < ys.size))))) _
  rw [hx, hy]
  exact h
theorem lt_loop1 (hx : xs.size = 2) (hy : ys.size = 2) (hx1 : xs[1]? = some (.int k u)) (hy1 : ys[1]? = some (.int k' u')) : Meets (Builtin.«list.__eq__.loop» ⟨[.ref l, .ref b, rawInt ((1 : Nat) : Int), rawInt 0], []⟩)
      (fun _ R s => s.heap.get? l = some { cls := .type "list", dict := none, data := .seq xs n, slots := #[] } ∧ s.heap.get? b = some { cls := .type "list", dict := none, data := .seq ys n', slots := #[] } ∧ R (.ok (.ret (.bool (decide (k < k'))))) s) := by
  intro prog w A R s h
  obtain ⟨hp, g, d, tk, os⟩ := s; obtain ⟨hl, hb, h⟩ := h
  wp_walk using wpAny_loadPart' hl, wpAny_loadPart' hb
  have h1 : xs[((1 : Nat) : Int).toNat]? = some (.int k u) := hx1
  have h2 : ys[((1 : Nat) : Int).toNat]? = some (.int k' u') := hy1
  rw [h1, h2]
  refine wpAny_bind (wpAny_eqBool_int ?_)
  cases hb' : (k == k') with
  | true =>
    have : decide (k < k') = false := by simp at hb' ⊢; lia
    rw [this] at h
    wp_walk
    exact ⟨plainId_quiet plain_eq_loop _, codeAny_builtin entry_eq_loop (by
        rw [Around.under_plainId plain_eq_loop _]
        exact lt_loop2 hx hy prog w A R _ ⟨hl, hb, h⟩)⟩
  | false =>
    wp_walk using wpAny_loadPart' hl, wpAny_loadPart' hb
    rw [h1, h2]
    refine wpAny_bind (show wpAny _ _ (compareOp .Lt (.int k u) (.int k' u')) _ _ _ from PySem.P.lt_int ?_)
    wp_walk
    exact h
theorem lt_loop0 (hx : xs.size = 2) (hy : ys.size = 2) (hx0 : xs[0]? = some (.int c t)) (hy0 : ys[0]? = some (.int c' t')) (hx1 : xs[1]? = some (.int k u)) (hy1 : ys[1]? = some (.int k' u')) : Meets (Builtin.«list.__eq__.loop» ⟨[.ref l, .ref b, rawInt 0, rawInt 0], []⟩)
      (fun _ R s => s.heap.get? l = some { cls := .type "list", dict := none, data := .seq xs n, slots := #[] } ∧ s.heap.get? b = some { cls := .type "list", dict := none, data := .seq ys n', slots := #[] } ∧ R (.ok (.ret (.bool (if c = c' then decide (k < k') else decide (c < c'))))) s) := by
  intro prog w A R s h
  obtain ⟨hp, g, d, tk, os⟩ := s; obtain ⟨hl, hb, h⟩ := h
  wp_walk using wpAny_loadPart' hl, wpAny_loadPart' hb
  have h1 : xs[(0 : Int).toNat]? = some (.int c t) := hx0
  have h2 : ys[(0 : Int).toNat]? = some (.int c' t') := hy0
  rw [h1, h2]
  refine wpAny_bind (wpAny_eqBool_int ?_)
  cases hb' : (c == c') with
  | true =>
    rw [if_pos (by simpa using hb')] at h
    wp_walk
    exact ⟨plainId_quiet plain_eq_loop _, codeAny_builtin entry_eq_loop (by
        rw [Around.under_plainId plain_eq_loop _]
        exact lt_loop1 hx hy hx1 hy1 prog w A R _ ⟨hl, hb, h⟩)⟩
  | false =>
    rw [if_neg (by simpa using hb')] at h
    wp_walk using wpAny_loadPart' hl, wpAny_loadPart' hb
    rw [h1, h2]
    refine wpAny_bind (show wpAny _ _ (compareOp .Lt (.int c t) (.int c' t')) _ _ _ from PySem.P.lt_int ?_)
    wp_walk
    exact h
theorem list_lt (hx : xs.size = 2) (hy : ys.size = 2) (hx0 : xs[0]? = some (.int c t)) (hy0 : ys[0]? = some (.int c' t')) (hx1 : xs[1]? = some (.int k u)) (hy1 : ys[1]? = some (.int k' u')) : Meets (Builtin.«list.__lt__» ⟨[.ref l, .ref b], []⟩)
      (fun _ R s => s.heap.get? l = some { cls := .type "list", dict := none, data := .seq xs n, slots := #[] } ∧ s.heap.get? b = some { cls := .type "list", dict := none, data := .seq ys n', slots := #[] } ∧ R (.ok (.ret (.bool (if c = c' then decide (k < k') else decide (c < c'))))) s) := by
  intro prog w A R s h
  obtain ⟨hp, g, d, tk, os⟩ := s; obtain ⟨hl, hb, h⟩ := h
  have f3 := AutoSeq1.sub_list_list
  wp_walk using wpAny_loadPart' hl, wpAny_loadPart' hb
  exact ⟨plainId_quiet plain_eq_loop _, codeAny_builtin entry_eq_loop (by
    rw [Around.under_plainId plain_eq_loop _]
    exact lt_loop0 hx hy hx0 hy0 hx1 hy1 prog w A R _ ⟨hl, hb, h⟩)⟩
end
section
variable {prog : Program} {w : World} {base : Heap} {n : Nat} {S : Led} {gl : List (Str × AV)} {bl : List (Str × Value)} {a : Addr}
theorem VRs.two {a b : AV} {vs : List Value} (h : VRs [a, b] vs) : ∃ x y, vs = [x, y] ∧ VR a x ∧ VR b y := by
  obtain ⟨x, _, rfl, ha, y, _, rfl, hb, rfl⟩ := h
  exact ⟨x, y, rfl, ha, hb⟩
theorem o_llt {l l' : Addr} {c k c' k' : Int} {Q : AV → Led → Prop} (h1 : (l, PList [.int c, .int k]) ∈ S) (h2 : (l', PList [.int c', .int k']) ∈ S) (h : Q (.val (.bool (if c = c' then decide (k < k') else decide (c < c')))) S) :
    L2 prog w base n (compareOp .Lt) (.val (.ref l)) (.val (.ref l')) S Q := fun va vb ra rb => .mk fun A s hA R => by
  obtain rfl : va = .ref l := ra
  obtain rfl : vb = .ref l' := rb
  obtain ⟨o, e, vs, j, rfl, hv⟩ := R.get h1
  obtain ⟨o', e', vs', j', rfl, hv'⟩ := R.get h2
  obtain ⟨x, y, rfl, ⟨t1, rfl⟩, ⟨t2, rfl⟩⟩ := hv.two
  obtain ⟨x, y, rfl, ⟨t3, rfl⟩, ⟨t4, rfl⟩⟩ := hv'.two
  refine (show wpAny _ _ (richCompare .Lt (.ref l) (.ref l')) _ _ _ from richCompare_meets_room ⟨_, e, rfl⟩ ⟨_, e', rfl⟩ PySem.F.slot_list_lt PySem.F.entry_list_lt (PySem.F.args_list_lt_2 _ _) (list_lt (c := c) (k := k) (c' := c') (k' := k') rfl rfl rfl rfl rfl rfl) ⟨e, e', ?_⟩ hA.line)
  exact ⟨(by intro q; cases q), Post.self R ⟨_, vVal, h⟩⟩
end
end
section
open PySem PySem.W PyProof.Rows PySem.Calls PySem.Spec
set_option linter.all false
set_option maxRecDepth 100000
section
open AutoSeq1 (wpAny_loadPart')
variable {l b : Addr} {n n' : Nat} {xs ys : Array Value} {x0 y0 : Value} {i j : Int} {t u : Tok}
theorem tup_lt {prog : Program} {w : World} {A : Around} {E : Value → Shared → Prop} {s : Shared} {Q : Value → Shared → Prop} (hz : xs.toList.zip ys.toList = [(x0, y0), (.int i t, .int j u)]) (hx : xs.size = 2) (hy : ys.size = 2)
    (hl : s.heap.get? l = some { cls := .type "tuple", dict := none, data := .seq xs n, slots := #[] }) (hb : s.heap.get? b = some { cls := .type "tuple", dict := none, data := .seq ys n', slots := #[] }) (e : Bool)
    (he : ∀ (Q : Bool → Shared → Prop) E, Q e s → wpAny (model prog w) A (eqBool x0 y0) Q E s)
    (hn : e = false → wpAny (model prog w) A (richCompare .Lt x0 y0) Q E s) (hq : e = true → Q (.bool (decide (i < j))) s) :
    wpAny (model prog w) A (Builtin.«tuple.__lt__» ⟨[.ref l, .ref b], []⟩) (fun fin s' => ∃ v, fin = .done (.ret v) ∧ Q v s') E s := by
  obtain ⟨hp, g, d, tk, os⟩ := s
  have f3 : isSubtype (.type "tuple") (.type "tuple") = pure true := by rw [isSubtype_type]; kernel_rfl
  wp_walk using wpAny_loadPart' hl, wpAny_loadPart' hb
  rw [hz]
  refine wpAny_bind (wpAny_bind (he _ _ ?_))
  cases e with
  | false =>
    simp only [Bool.not_false, if_true]
    refine wpAny_bind (wpAny_rule ?_)
    refine wpAny_bind (wpAny_mono (hn rfl) (fun v s' hv => ?_) fun _ _ x => x)
    obtain ⟨hp, g, d, tk, os⟩ := s'
    wp_walk
    exact ⟨_, rfl, hv⟩
  | true =>
    have h := hq rfl
    simp only [Bool.not_true, Bool.false_eq_true, if_false]
    refine wpAny_pure ?_
    dsimp only [List.forIn'.loop]
    refine wpAny_bind (wpAny_bind (wpAny_eqBool_int ?_))
    cases hij : (i == j) with
    | true =>
      wp_walk
      refine ⟨_, rfl, ?_⟩
      show Q (.bool (decide (xs.size < ys.size))) _
      rw [hx, hy]
      rw [show decide (i < j) = false by simp at hij ⊢; lia] at h
      exact h
    | false =>
      simp only [Bool.not_false, if_true]
      refine wpAny_bind (wpAny_rule ?_)
      refine wpAny_bind (show wpAny _ _ (compareOp .Lt (.int i t) (.int j u)) _ _ _ from PySem.P.lt_int ?_)
      wp_walk
      exact ⟨_, rfl, h⟩
end
section
variable {prog : Program} {w : World} {base : Heap} {n : Nat} {S : Led} {gl : List (Str × AV)} {bl : List (Str × Value)} {a : Addr}
theorem eqv2 {c k c' k' : Int} : PyData.eqv (.list [.int c, .int k]) (.list [.int c', .int k']) = decide (c = c' ∧ k = k') := by
  rw [Bool.eq_iff_iff]; simp [PyData.eqv, PyData.eqvAll]
theorem dep {c k c' k' : Int} {N : Nat} (h : N + 8 < cLine) : N + min (PyData.depth (.list [.int c, .int k])) (PyData.depth (.list [.int c', .int k'])) < cLine := by
  have h1 : PyData.depth (.list [.int c, .int k]) ≤ 8 := by simp [PyData.depth, PyData.depthAll]
  have h2 := Nat.min_le_left (PyData.depth (.list [.int c, .int k])) (PyData.depth (.list [.int c', .int k']))
  lia
theorem llt_any {A : Around} {E : Value → Shared → Prop} {s : Shared} {l l' : Addr} {c k c' k' : Int} {j j' : Nat} {vs vs' : List Value} {Q : Value → Shared → Prop}
    (e : s.heap.get? l = some { cls := .type "list", dict := none, data := .seq (List.toArray vs) j, slots := #[] }) (e' : s.heap.get? l' = some { cls := .type "list", dict := none, data := .seq (List.toArray vs') j', slots := #[] })
    (hv : VRs [.int c, .int k] vs) (hv' : VRs [.int c', .int k'] vs') (hu : A.units < cLine)
    (h : Value.bool (if c = c' then decide (k < k') else decide (c < c')) ≠ .notImplemented ∧ Q (.bool (if c = c' then decide (k < k') else decide (c < c'))) s) : wpAny (model prog w) A (richCompare .Lt (.ref l) (.ref l')) Q E s := by
  obtain ⟨x, y, rfl, ⟨t1, rfl⟩, ⟨t2, rfl⟩⟩ := hv.two
  obtain ⟨x, y, rfl, ⟨t3, rfl⟩, ⟨t4, rfl⟩⟩ := hv'.two
  exact richCompare_meets_room ⟨_, e, rfl⟩ ⟨_, e', rfl⟩ PySem.F.slot_list_lt PySem.F.entry_list_lt (PySem.F.args_list_lt_2 _ _) (list_lt (c := c) (k := k) (c' := c') (k' := k') rfl rfl rfl rfl rfl rfl) ⟨e, e', h⟩ hu
theorem o_tlt {p p' l l' : Addr} {c k c' k' i j : Int} {Q : AV → Led → Prop} (hp : (p, PTup [.val (.ref l), .int i]) ∈ S) (hp' : (p', PTup [.val (.ref l'), .int j]) ∈ S) (h1 : (l, PList [.int c, .int k]) ∈ S) (h2 : (l', PList [.int c', .int k']) ∈ S)
    (h : Q (.val (.bool (if c = c' ∧ k = k' then decide (i < j) else if c = c' then decide (k < k') else decide (c < c')))) S) :
    L2 prog w base n (compareOp .Lt) (.val (.ref p)) (.val (.ref p')) S Q := fun va vb ra rb => .mk fun A s hA R => by
  obtain rfl : va = .ref p := ra
  obtain rfl : vb = .ref p' := rb
  obtain ⟨o, e, vs, j, rfl, hv⟩ := R.get hp
  obtain ⟨o', e', vs', j', rfl, hv'⟩ := R.get hp'
  obtain ⟨x, y, rfl, rfl, ⟨t2, rfl⟩⟩ := hv.two
  obtain ⟨x, y, rfl, rfl, ⟨t4, rfl⟩⟩ := hv'.two
  have dr : ∀ {l : Addr} {c k : Int}, (l, PList [.int c, .int k]) ∈ S → DR S (.val (.ref l)) (.list [.int c, .int k]) := fun hm => .list hm rfl fun i a d ha hd => by
    match i with
    | 0 => obtain rfl := Option.some.inj ha; obtain rfl := Option.some.inj hd; exact .int _
    | 1 => obtain rfl := Option.some.inj ha; obtain rfl := Option.some.inj hd; exact .int _
    | i + 2 => simp at ha
  obtain ⟨o1, e1, vs1, j1, rfl, hx⟩ := R.get h1
  obtain ⟨o2, e2, vs2, j2, rfl, hy⟩ := R.get h2
  obtain ⟨as, r1⟩ := (dr h1).reads R (.ref l) rfl
  obtain ⟨bs, r2⟩ := (dr h2).reads R (.ref l') rfl
  have hu := hA.units
  refine (show wpAny _ _ (richCompare .Lt (.ref p) (.ref p')) _ _ _ from wpAny_richCompare_same_room ⟨_, e, rfl⟩ ⟨_, e', rfl⟩ PySem.F.slot_tuple_lt ?_ hA.line)
  refine wpAny_call_entry PySem.F.slot_tuple_lt ⟨_, e, rfl⟩ PySem.F.entry_tuple_lt (tup_lt (e := PyData.eqv (.list [.int c, .int k]) (.list [.int c', .int k'])) rfl rfl rfl e e' (fun Q E hQ => ?_) (fun hf => ?_) fun ht => ?_) (PySem.F.args_tuple_lt_2 _ _)
  · exact PySem.SeqAt.eqBoolOverData _ _ _ _ _ _ _ _ _ _ _ _ r1 r2 rfl rfl (dep (by show A.units + 1 + 8 < 9900; lia)) hQ
  · rw [eqv2] at hf
    refine llt_any e1 e2 hx hy (by show A.units + 1 < 9900; lia) ⟨(by intro q; cases q), ⟨(by intro q; cases q), Post.self R ⟨_, vVal, ?_⟩⟩⟩
    rw [if_neg (by simpa using hf)] at h
    exact h
  · rw [eqv2] at ht
    rw [if_pos (by simpa using ht)] at h
    exact ⟨(by intro q; cases q), Post.self R ⟨_, vVal, h⟩⟩
end
end
section
open PySem PySem.W PyProof.Rows PySem.Calls PySem.Spec
set_option linter.all false
set_option maxRecDepth 100000
/-! the sort's tree of questions, answered by a strict order of ranks -/
noncomputable def Good {α : Type} (n : Nat) (lt : Nat → Nat → Bool) : KasT α → (α → Prop) → Prop
  | .ret a, P => P a
  | .ask i j k, P => i < n ∧ j < n ∧ Good n lt (k (lt i j)) P
theorem Good.bind {α β : Type} {n : Nat} {lt : Nat → Nat → Bool} {f : α → KasT β} {P : β → Prop} : ∀ {t : KasT α}, Good n lt t (fun a => Good n lt (f a) P) → Good n lt (t.bind f) P
  | .ret _, h => h
  | .ask _ _ _, ⟨h1, h2, h3⟩ => ⟨h1, h2, Good.bind h3⟩
theorem Good.wp {α : Type} {n : Nat} {lt : Nat → Nat → Bool} {P : α → Prop} {cmp : Nat → Nat → (Bool → Shared → Prop) → Shared → Prop} {Q : α → Shared → Prop} {s : Shared} (hc : ∀ i j C, i < n → j < n → C (lt i j) s → cmp i j C s) (hq : ∀ a, P a → Q a s) : ∀ {t : KasT α}, Good n lt t P → t.kasWp cmp Q s
  | .ret a, h => hq a h
  | .ask i j k, ⟨h1, h2, h3⟩ => hc i j _ h1 h2 (Good.wp hc hq h3)
section
variable {n : Nat} {ρ : Nat → Int}
noncomputable def rk (ρ : Nat → Int) (p : Array Nat) (i : Nat) : Int := ρ (p.getD i 0)
structure Pm (n : Nat) (p : Array Nat) : Prop where
  perm : p.Perm (List.range n).toArray
theorem Pm.size {p : Array Nat} (h : Pm n p) : p.size = n := by have := h.perm.size_eq; simpa using this
theorem Pm.lt {p : Array Nat} (h : Pm n p) {i : Nat} (hi : i < n) : p.getD i 0 < n := by
  have hs := h.size
  have hm : p[i]'(by lia) ∈ (List.range n).toArray := h.perm.mem_iff.mp (Array.getElem_mem _)
  simpa [Array.getD, hs, hi] using hm
theorem Pm.inj {p : Array Nat} (h : Pm n p) {i j : Nat} (hi : i < n) (hj : j < n) (hne : i ≠ j) : p.getD i 0 ≠ p.getD j 0 := by
  have hs := h.size
  have hnd : p.toList.Nodup := (Array.perm_iff_toList_perm.mp h.perm).nodup_iff.mpr (by simpa using List.nodup_range)
  have := List.pairwise_iff_getElem.mp hnd
  intro e
  simp only [Array.getD, hs, hi, hj, dif_pos] at e
  rcases Nat.lt_or_gt_of_ne hne with q | q
  · exact this i j (by simpa [hs] using hi) (by simpa [hs] using hj) q (by simpa using e)
  · exact this j i (by simpa [hs] using hj) (by simpa [hs] using hi) q (by simpa using e.symm)
noncomputable def Asc (ρ : Nat → Int) (p : Array Nat) (k : Nat) : Prop := ∀ i j, i < j → j < k → rk ρ p i < rk ρ p j
noncomputable def Dsc (ρ : Nat → Int) (p : Array Nat) (k : Nat) : Prop := ∀ i j, i < j → j < k → rk ρ p j < rk ρ p i
theorem Asc.succ {p : Array Nat} {k : Nat} (h : Asc ρ p k) (hk : 1 ≤ k) (hl : rk ρ p (k - 1) < rk ρ p k) : Asc ρ p (k + 1) := fun i j hij hj => by
  by_cases e : j = k
  · subst e
    by_cases e2 : i = j - 1
    · subst e2; exact hl
    · exact Int.lt_trans (h i (j - 1) (by lia) (by lia)) hl
  · exact h i j hij (by lia)
theorem Dsc.succ {p : Array Nat} {k : Nat} (h : Dsc ρ p k) (hk : 1 ≤ k) (hl : rk ρ p k < rk ρ p (k - 1)) : Dsc ρ p (k + 1) := fun i j hij hj => by
  by_cases e : j = k
  · subst e
    by_cases e2 : i = j - 1
    · subst e2; exact hl
    · exact Int.lt_trans hl (h i (j - 1) (by lia) (by lia))
  · exact h i j hij (by lia)
variable (hρ : ∀ i j, i < n → j < n → i ≠ j → ρ i ≠ ρ j)
include hρ
theorem Pm.ne {p : Array Nat} (h : Pm n p) {i j : Nat} (hi : i < n) (hj : j < n) (hne : i ≠ j) : rk ρ p i ≠ rk ρ p j := hρ _ _ (h.lt hi) (h.lt hj) (h.inj hi hj hne)
theorem good_asc {p : Array Nat} (h : Pm n p) {P : Nat → Prop} : ∀ f k, 1 ≤ k → k + f ≤ n → Asc ρ p k → (∀ m, k ≤ m → m ≤ k + f → Asc ρ p m → (m < k + f → rk ρ p m < rk ρ p (m - 1)) → P m) → Good n (ltR ρ) (kas_asc p f k) P
  | 0, k, h1, hk, ha, hP => hP k (Nat.le_refl _) (Nat.le_refl _) ha (by lia)
  | f + 1, k, h1, hk, ha, hP => by
    refine ⟨h.lt (by lia), h.lt (by lia), ?_⟩
    have hne := h.ne hρ (show k < n by lia) (show k - 1 < n by lia) (by lia)
    dsimp only
    split
    · rename_i hc
      exact hP k (Nat.le_refl _) (by lia) ha fun _ => of_decide_eq_true hc
    · rename_i hc
      have hc : ¬ rk ρ p k < rk ρ p (k - 1) := fun q => hc (decide_eq_true q)
      refine good_asc h f (k + 1) (by lia) (by lia) (ha.succ h1 (by lia)) fun m hm hm2 ham hl => hP m (by lia) (by lia) ham fun q => hl (by lia)
theorem good_desc {p : Array Nat} (h : Pm n p) {P : Array Nat × Nat × Nat → Prop} : ∀ f k, 1 ≤ k → k + f ≤ n → Dsc ρ p k → (∀ m, k ≤ m → m ≤ k + f → Dsc ρ p m → P (p, m, 0)) → Good n (ltR ρ) (kas_desc f p k 0) P
  | 0, k, h1, hk, ha, hP => hP k (Nat.le_refl _) (Nat.le_refl _) ha
  | f + 1, k, h1, hk, ha, hP => by
    refine ⟨h.lt (by lia), h.lt (by lia), ?_⟩
    have hne := h.ne hρ (show k < n by lia) (show k - 1 < n by lia) (by lia)
    dsimp only
    split
    · rename_i hc
      rw [if_neg (by lia)]
      exact good_desc h f (k + 1) (by lia) (by lia) (ha.succ h1 (of_decide_eq_true hc)) fun m hm hm2 ham => hP m (by lia) (by lia) ham
    · rename_i hc
      have hc : ¬ rk ρ p k < rk ρ p (k - 1) := fun q => hc (decide_eq_true q)
      refine ⟨h.lt (by lia), h.lt (by lia), ?_⟩
      dsimp only
      rw [if_pos (show ltR ρ (p.getD (k - 1) 0) (p.getD k 0) = true from decide_eq_true (show rk ρ p (k - 1) < rk ρ p k by lia))]
      exact hP k (Nat.le_refl _) (by lia) ha
omit hρ in
theorem Pm.rev {p : Array Nat} (h : Pm n p) (i j : Nat) : Pm n (kas_rev p i j) := ⟨(mirror_perm _ _ _ _).trans h.perm⟩
omit hρ in
theorem rk_rev {p : Array Nat} (h : Pm n p) {m : Nat} (hm : m ≤ n) (i : Nat) : rk ρ (kas_rev p 0 m) i = if i < m then rk ρ p (m - 1 - i) else rk ρ p i := by
  have := getElem?_mirror_all (xs := p) (i := 0) (j := m) (by rw [h.size]; exact hm) i
  unfold rk kas_rev
  rw [Array.getD_eq_getD_getElem?, this]
  by_cases hi : i < m
  · rw [if_pos ⟨Nat.zero_le _, hi⟩, if_pos hi, Array.getD_eq_getD_getElem?]; congr 3; lia
  · rw [if_neg (by lia), if_neg hi, Array.getD_eq_getD_getElem?]
omit hρ in
theorem Dsc.rev {p : Array Nat} (h : Pm n p) {m : Nat} (hm : m ≤ n) (d : Dsc ρ p m) : Asc ρ (kas_rev p 0 m) m := fun i j hij hj => by
  rw [rk_rev h hm, rk_rev h hm, if_pos (by lia), if_pos hj]
  exact d _ _ (by lia) (by lia)
theorem good_tail3 {p : Array Nat} (h : Pm n p) {m : Nat} (h1 : 1 ≤ m) (hm : m ≤ n) (d : Dsc ρ p m) {P : Nat × Array Nat → Prop} (hP : ∀ k p, Pm n p → 1 ≤ k → k ≤ n → Asc ρ p k → P (k, p)) : Good n (ltR ρ) (kas_tail3 m n p) P :=
  Good.bind (good_asc hρ (h.rev 0 m) (n - m) m h1 (by lia) (d.rev h hm) fun k hk hk2 ha _ => hP k _ (h.rev 0 m) (by lia) (by lia) ha)
theorem good_count {p : Array Nat} (h : Pm n p) (hn : 2 ≤ n) {P : Nat × Array Nat → Prop} (hP : ∀ k p, Pm n p → 1 ≤ k → k ≤ n → Asc ρ p k → P (k, p)) : Good n (ltR ρ) (kas_count n p) P := by
  refine Good.bind (good_asc hρ h (n - 1) 1 (Nat.le_refl _) (by lia) (fun i j _ _ => by lia) fun m hm hm2 ha hl => ?_)
  split
  · exact hP m p h hm (by lia) ha
  · rename_i hne
    have hne : m ≠ n := by simpa using hne
    split
    · rename_i hm1
      refine ⟨h.lt (by lia), h.lt (by lia), ?_⟩
      dsimp only
      rw [if_pos (show ltR ρ (p.getD 0 0) (p.getD (m - 1) 0) = true from decide_eq_true (show rk ρ p 0 < rk ρ p (m - 1) from ha 0 (m - 1) (by lia) (by lia)))]
      exact hP m p h hm (by lia) ha
    · have e : m = 1 := by lia
      subst e
      have hlt := hl (by lia)
      refine Good.bind (good_desc hρ h (n - (1 + 1)) (1 + 1) (by lia) (by lia) (fun i j hij hj => ?_) fun k hk hk2 hd => ?_)
      · obtain rfl : i = 0 := by lia
        obtain rfl : j = 1 := by lia
        exact hlt
      · dsimp only
        rw [if_neg (by lia)]
        exact good_tail3 hρ h (by lia) (by lia) hd hP
theorem good_place {p : Array Nat} (h : Pm n p) {k : Nat} (hk : k < n) (ha : Asc ρ p k) {P : Nat → Prop} (hP : ∀ m, m ≤ k → (∀ i, i < m → rk ρ p i < rk ρ p k) → (∀ i, m ≤ i → i < k → rk ρ p k < rk ρ p i) → P m) :
    ∀ f l r, l ≤ r → r ≤ k → r ≤ l + f → (∀ i, i < l → rk ρ p i < rk ρ p k) → (∀ i, r ≤ i → i < k → rk ρ p k < rk ρ p i) → Good n (ltR ρ) (kas_place p k f l r) P
  | 0, l, r, h1, h2, h3, h4, h5 => hP l (by lia) h4 (by intro i hi; exact h5 i (by lia))
  | f + 1, l, r, h1, h2, h3, h4, h5 => by
    unfold kas_place
    split
    · exact hP l (by lia) h4 (by intro i hi; exact h5 i (by lia))
    · refine ⟨h.lt hk, h.lt (by lia), ?_⟩
      dsimp only
      have hne := h.ne hρ hk (show (l + r) / 2 < n by lia) (by lia)
      split
      · rename_i hc
        have hc : rk ρ p k < rk ρ p ((l + r) / 2) := of_decide_eq_true hc
        refine good_place h hk ha hP f l _ (by lia) (by lia) (by lia) h4 fun i hi hik => ?_
        by_cases e : i = (l + r) / 2
        · rw [e]; exact hc
        · exact Int.lt_trans hc (ha _ _ (by lia) hik)
      · rename_i hc
        have hc : ¬ rk ρ p k < rk ρ p ((l + r) / 2) := fun q => hc (decide_eq_true q)
        refine good_place h hk ha hP f _ r (by lia) h2 (by lia) (fun i hi => ?_) h5
        by_cases e : i = (l + r) / 2
        · rw [e]; lia
        · have := ha i ((l + r) / 2) (by lia) (by lia); lia
omit hρ in
theorem rk_bubble {p : Array Nat} (h : Pm n p) {k l : Nat} (hk : k < n) (hl : l ≤ k) (i : Nat) : rk ρ (bubble p k (k - l)) i = if i = l then rk ρ p k else if l < i ∧ i ≤ k then rk ρ p (i - 1) else rk ρ p i := by
  have := getElem?_bubble (xs := p) (src := k) (by rw [h.size]; exact hk) (k - l) (by lia) i
  rw [show k - (k - l) = l by lia] at this
  unfold rk
  rw [Array.getD_eq_getD_getElem?, this]
  repeat' split
  all_goals rw [Array.getD_eq_getD_getElem?]
theorem good_bin {P : Array Nat → Prop} (hP : ∀ p, Pm n p → Asc ρ p n → P p) : ∀ f (p : Array Nat) k, Pm n p → k + f = n → Asc ρ p k → Good n (ltR ρ) (kas_bin f p k) P
  | 0, p, k, h, hk, ha => hP p h (by rw [← show k = n by lia]; exact ha)
  | f + 1, p, k, h, hk, ha => by
    refine Good.bind (good_place hρ h (by lia) ha (fun l hl h1 h2 => ?_) k 0 k (Nat.zero_le _) (Nat.le_refl _) (by lia) (by intro i hi; lia) (by intro i hi hik; lia))
    refine good_bin hP f _ (k + 1) ⟨(bubble_perm _ _ _).trans h.perm⟩ (by lia) fun i j hij hj => ?_
    have hkn : k < n := by lia
    rw [rk_bubble h hkn hl, rk_bubble h hkn hl]
    by_cases ei : i = l
    · rw [if_pos ei]
      rw [if_neg (by lia), if_pos ⟨by lia, by lia⟩]
      exact h2 _ (by lia) (by lia)
    · rw [if_neg ei]
      by_cases ej : j = l
      · rw [if_pos ej, if_neg (by lia)]; exact h1 i (by lia)
      · rw [if_neg ej]
        by_cases e1 : l < i ∧ i ≤ k <;> by_cases e2 : l < j ∧ j ≤ k
        · rw [if_pos e1, if_pos e2]; exact ha _ _ (by lia) (by lia)
        · lia
        · rw [if_neg e1, if_pos e2]
          by_cases e3 : i = j - 1
          · lia
          · exact ha _ _ (by lia) (by lia)
        · rw [if_neg e1, if_neg e2]; exact ha _ _ (by lia) (by lia)
theorem good_sort (hn : 2 ≤ n) {P : Array Nat → Prop} (hP : ∀ p, Pm n p → Asc ρ p n → P p) : Good n (ltR ρ) (kas_sort n) P := by
  refine Good.bind (good_count hρ ⟨.refl _⟩ hn fun k p h h1 hk ha => ?_)
  dsimp only
  split
  · have e : max k 1 = k := by lia
    rw [e]
    exact good_bin hρ hP _ p k h (by lia) ha
  · exact hP p h (by rw [← show k = n by lia]; exact ha)
end
end
section
open PySem PySem.W PyProof.Rows PySem.Calls PySem.Spec
set_option linter.all false
set_option maxRecDepth 100000
set_option maxHeartbeats 1000000
/-! list.sort and sorted without a key, of items that the ledger can compare -/
noncomputable def srt (a : Addr) (b : Bool) : Sem PySem.Fin := do
  let items ← Builtin.List.listItems (.ref a)
  Builtin.List.listUpdate (.ref a) fun _ => #[]
  let before ← seqEpoch a
  let held ← newTuple items.toList
  let keyStore ← newList []
  holding [held, keyStore] do
    if b then rule "list.sort.reverse"
    let kind ← if items.size < 2 then pure general' else keyKind' items
    let ((), s) ← (if items.size < 2 then pure () else sortRuns').run (SortSt.mk' kind (if b then (items.zip items).reverse else items.zip items) #[] 7 none)
    let sorted := (arrOf s).map (·.2)
    let touched := (← seqEpoch a) != before
    Builtin.List.listUpdate (.ref a) fun _ => if b then sorted.reverse else sorted
    if let some e := failedOf s then rule "list.sort.comparison-raised"; throw e
    if touched then rule "list.sort.modified"; raiseError "ValueError" "list modified during sort"
    ret .none
theorem srt_0 (a : Addr) : Builtin.«list.sort» ⟨[.ref a], []⟩ = srt a false := rfl
theorem srt_k (a : Addr) : Builtin.«list.sort» ⟨[.ref a], [(Str.ofString "key", .none)]⟩ = srt a false := rfl
theorem srt_r (a : Addr) : Builtin.«list.sort» ⟨[.ref a], [(Str.ofString "reverse", .bool true)]⟩ = srt a true := rfl
theorem srt_kr (a : Addr) : Builtin.«list.sort» ⟨[.ref a], [(Str.ofString "key", .none), (Str.ofString "reverse", .bool true)]⟩ = srt a true := rfl
theorem Upd.sameAddr {S S' : Led} {a : Addr} {P P' : OP} (U : Upd S a P P' S') : S'.map (·.1) = S.map (·.1) := U.addrs

section
variable {prog : Program} {w : World} {base : Heap} {A : Around} {E : Value → Shared → Prop} {s : Shared} {a : Addr} {α : Type} {e : α → AV} {r : α → Int} {d : α} {zs : List α} {b : Bool} {Sf : OP → Led} {κ : SortKind}
theorem katRev_map {β γ : Type} (f : β → γ) (b : Bool) (l : List β) : katRev b (l.map f) = (katRev b l).map f := by cases b <;> simp [katRev]
theorem VRs.rev {as : List AV} {vs : List Value} (h : VRs as vs) (b : Bool) : VRs (katRev b as) (katRev b vs) := by
  cases b
  · exact h
  · exact h.reverse
theorem VRs.pick {as : List AV} {vs : List Value} (h : VRs as vs) {d : AV} : ∀ (is : List Nat), (∀ i ∈ is, i < as.length) → VRs (is.map fun i => as.getD i d) (is.map fun i => vs.getD i Value.none)
  | [], _ => rfl
  | i :: is, hi => by
    have hl := hi i (.head _)
    have h1 : as[i]? = some (as.getD i d) := by simp [hl]
    obtain ⟨v, hv, rv⟩ := h.get h1
    refine ⟨v, _, ?_, rv, VRs.pick h is fun i h => hi i (.tail _ h)⟩
    simp [hv]
theorem getD_map' {α : Type} {e : α → AV} {zs : List α} {i : Nat} {d : α} (h : i < zs.length) : (zs.map e).getD i (e d) = e (zs.getD i d) := by simp [h]
theorem srt_run (hU : ∀ P P', Upd (Sf P) a P P' (Sf P')) (hz : zs.length < 64) (hr : ∀ i j, i < zs.length → j < zs.length → i ≠ j → r (zs.getD i d) ≠ r (zs.getD j d))
    (hkind : 2 ≤ zs.length → ∀ (P : OP) (s : Shared) (vs : List Value) (Q : SortKind → Shared → Prop), VRs (zs.map e) vs → Rep base (Sf P) s.heap → Q κ s → wpAny (model prog w) A (keyKind' vs.toArray) Q (fun _ _ => False) s)
    (hask : 2 ≤ zs.length → ∀ (P : OP) (s : Shared) (x y : α) (v u : Value) (Q : Bool → Shared → Prop), x ∈ zs → y ∈ zs → VR (e x) v → VR (e y) u → Rep base (Sf P) s.heap → Q (decide (r x < r y)) s → wpAny (model prog w) A (keyLt' κ v u) Q (fun _ _ => False) s)
    {P : PySem.Fin → Shared → Prop} (R : Rep base (Sf (PList (zs.map e))) s.heap)
    (h : ∀ (out : List α) (h' : Heap), out.Perm zs → (out.map r).Pairwise (fun x y => if b then y < x else x < y) → Rep base (Sf (PList (out.map e))) h' → P (.done (.ret .none)) { s with heap := h' }) :
    wpAny (model prog w) A (srt a b) P E s := by
  obtain ⟨vs, j, ho, hv⟩ := R.isL (hU _ (PList [])).memOld
  have ho : s.heap.get? a = some (seqObj "list" vs.toArray j) := ho
  have hlen : vs.length = zs.length := by rw [← hv.length, List.length_map]
  have s1 := Heap.SameBut.update s.heap a (Obj.mapSeq fun _ => (#[] : Array Value))
  obtain ⟨e1, ho1⟩ : ∃ e1, (s.heap.update a (Obj.mapSeq fun _ => (#[] : Array Value))).get? a = some (seqObj "list" #[] e1) := ⟨_, get?_update_seq ho fun _ => #[]⟩
  have R1 : Rep base (Sf (PExact (seqObj "list" #[] e1))) (s.heap.update a (Obj.mapSeq fun _ => (#[] : Array Value))) := R.update (hU _ _) s1 ⟨_, ho1, rfl⟩
  have R2 : Rep base (Sf (PExact (seqObj "list" #[] e1))) (((s.heap.update a (Obj.mapSeq fun _ => (#[] : Array Value))).push (seqObj "tuple" vs.toArray 0)).push (seqObj "list" #[] 0)) :=
    R1.grow fun b o q => Heap.get?_push_of_some _ (Heap.get?_push_of_some _ q)
  generalize hh2 : (((s.heap.update a (Obj.mapSeq fun _ => (#[] : Array Value))).push (seqObj "tuple" vs.toArray 0)).push (seqObj "list" #[] 0)) = h2 at R2
  have ho2 : h2.get? a = some (seqObj "list" #[] e1) := by rw [← hh2]; exact Heap.get?_push_of_some _ (Heap.get?_push_of_some _ ho1)
  unfold srt
  refine wpAny_bind (listItems_at ho rfl ?_)
  refine wpAny_bind (listUpdate_at ho rfl ?_ (by rw [List.size_toArray, sizeLine_eq]; lia) (Nat.zero_le _))
  refine wpAny_bind (seqEpoch_at ho1 rfl ?_)
  refine wpAny_bind (wpAny_newTuple ?_ (by show vs.length ≤ _; rw [sizeLine_eq]; lia))
  refine wpAny_bind (wpAny_newList ?_ (Nat.zero_le _))
  refine wpAny_holding ?_
  show wpAny (model prog w) A _ P E { s with heap := ((s.heap.update a (Obj.mapSeq fun _ => (#[] : Array Value))).push (seqObj "tuple" vs.toArray 0)).push (seqObj "list" #[] 0) }
  rw [hh2]
  have step : ∀ t : Sem PySem.Fin, wpAny (model prog w) A t P E { s with heap := h2 } → wpAny (model prog w) A (if b = true then (do let _ ← rule "list.sort.reverse"; t) else t) P E { s with heap := h2 } := by
    intro t ht
    split
    · exact wpAny_bind (wpAny_rule ht)
    · exact ht
  dsimp only
  refine step _ ?_
  -- the end of it
  have tail : ∀ (st : SortSt) (out : List α), failedOf st = none → VRs ((katRev b out).map e) (if b = true then ((arrOf st).map (·.2)).reverse else (arrOf st).map (·.2)).toList → out.length = zs.length → (katRev b out).Perm zs → ((katRev b out).map r).Pairwise (fun x y => if b then y < x else x < y) →
      wpAny (model prog w) A (do
        let touched := (← seqEpoch a) != e1
        Builtin.List.listUpdate (.ref a) fun _ => if b = true then ((arrOf st).map (·.2)).reverse else (arrOf st).map (·.2)
        if let some e := failedOf st then rule "list.sort.comparison-raised"; throw e
        if touched then rule "list.sort.modified"; raiseError "ValueError" "list modified during sort"
        ret .none) P E { s with heap := h2 } := by
    intro st out hf hvo hlo hp hs
    obtain ⟨ys, hys⟩ : ∃ ys : List Value, (if b = true then ((arrOf st).map (·.2)).reverse else (arrOf st).map (·.2)) = ys.toArray := ⟨_, (Array.toArray_toList (xs := _)).symm⟩
    rw [hys] at hvo ⊢
    have hyl : ys.length = zs.length := by have := hvo.length; rw [List.length_map, kat_len] at this; simpa [hlo] using this.symm
    refine wpAny_bind (seqEpoch_at ho2 rfl ?_)
    refine wpAny_bind (listUpdate_at ho2 rfl ?_ (Nat.zero_le _) (by show ys.toArray.size ≤ _; rw [List.size_toArray, sizeLine_eq]; lia))
    rw [hf]
    simp only [bne_self_eq_false, Bool.false_eq_true, if_false]
    refine wpAny_pure (h (katRev b out) _ hp hs (R2.update (hU _ _) (Heap.SameBut.update h2 a (Obj.mapSeq fun _ => ys.toArray)) ⟨_, get?_update_seq ho2 fun _ => ys.toArray, ?_⟩))
    exact ⟨ys, _, rfl, by simpa using hvo⟩
  by_cases h2l : 2 ≤ zs.length
  · have hn2 : ¬ vs.toArray.size < 2 := by rw [List.size_toArray]; lia
    rw [if_neg hn2, if_neg hn2]
    refine wpAny_bind (wpAny_mono (hkind h2l (PExact (seqObj "list" #[] e1)) { s with heap := h2 } vs (fun k s' => k = κ ∧ s' = { s with heap := h2 }) hv R2 ⟨rfl, rfl⟩) (fun _ _ q => ?_) fun _ _ x => x.elim)
    rw [q.1, q.2]
    rw [kat_pairs b rfl]
    have hz' : (katRev b zs).length = zs.length := kat_len _ _
    have hlr : (katRev b vs).length = (katRev b zs).length := by rw [kat_len, kat_len, hlen]
    have hvr : VRs ((katRev b zs).map e) (katRev b vs) := by rw [← katRev_map]; exact hv.rev b
    have hmem : ∀ x, x ∈ katRev b zs ↔ x ∈ zs := by intro x; cases b <;> simp [katRev]
    have hr' : ∀ i j, i < zs.length → j < zs.length → i ≠ j → r ((katRev b zs).getD i d) ≠ r ((katRev b zs).getD j d) := by
      intro i j hi hj hne
      cases b with
      | false => exact hr i j hi hj hne
      | true =>
        have e : ∀ k, k < zs.length → (katRev true zs).getD k d = zs.getD (zs.length - 1 - k) d := fun k hk => by rw [List.getD_eq_getElem?_getD, List.getD_eq_getElem?_getD]; show (zs.reverse[k]?).getD d = _; rw [List.getElem?_reverse hk]
        rw [e i hi, e j hj]
        exact hr _ _ (by lia) (by lia) (by lia)
    have good := good_sort (n := zs.length) (ρ := fun i => r ((katRev b zs).getD i d)) hr' h2l (P := fun p => Pm zs.length p ∧ Asc (fun i => r ((katRev b zs).getD i d)) p zs.length) fun p h1 h2 => ⟨h1, h2⟩
    have run : (kas_sort (katRev b vs).length).kasWp (kas_ask prog w A κ (katRev b vs)) (fun p s' => s' = { s with heap := h2 } ∧ Pm zs.length p ∧ Asc (fun i => r ((katRev b zs).getD i d)) p zs.length) { s with heap := h2 } := by
      rw [hlr, hz']
      refine Good.wp (fun i j C hi hj hC => ?_) (fun p hp => ⟨rfl, hp⟩) good
      have gi : ((katRev b zs).map e)[i]? = some (e ((katRev b zs).getD i d)) := by simp [hz', hi]
      have gj : ((katRev b zs).map e)[j]? = some (e ((katRev b zs).getD j d)) := by simp [hz', hj]
      obtain ⟨v, hvi, rvi⟩ := hvr.get gi
      obtain ⟨u, huj, ruj⟩ := hvr.get gj
      unfold kas_ask
      rw [show (katRev b vs).getD i Value.none = v by simp [hvi], show (katRev b vs).getD j Value.none = u by simp [huj]]
      exact hask h2l (PExact (seqObj "list" #[] e1)) _ _ _ v u C ((hmem _).mp (getD_mem (by lia))) ((hmem _).mp (getD_mem (by lia))) rvi ruj R2 hC
    refine wpAny_bind (wpAny_mono (kat_run (vs := katRev b vs) (Q := fun st' s' => ∃ p : Array Nat, arrOf st' = p.map (kas_item ((List.toArray (katRev b vs)).zip (List.toArray (katRev b vs)))) ∧ failedOf st' = none ∧ s' = { s with heap := h2 } ∧ Pm zs.length p ∧ Asc (fun i => r ((katRev b zs).getD i d)) p zs.length)
      rfl (by lia) (by lia) (fun p' st' s' a1 a2 a3 a4 => ⟨p', a2, a3, a4⟩) run) ?_ fun _ _ x => x)
    rintro ⟨⟨⟩, st'⟩ s' ⟨p, har, hf, rfl, hpm, hasc⟩
    dsimp only
    have hsn := kat_snds (ks := katRev b vs) (vs := katRev b vs) rfl har
    have hpl : ∀ i ∈ p.toList, i < zs.length := fun i hi => by
      have := (Array.perm_iff_toList_perm.mp hpm.perm).mem_iff.mp hi
      simpa using this
    have hout : (p.toList.map fun i => (katRev b zs).getD i d).Perm zs := by
      refine ((Array.perm_iff_toList_perm.mp hpm.perm).map _).trans ?_
      have e1 : ((List.range zs.length).map fun i => (katRev b zs).getD i d) = katRev b zs := by
        apply List.ext_getElem?
        intro i
        by_cases hi : i < zs.length
        · simp [hi, hz']
        · simp [hi, hz', Nat.le_of_not_lt hi]
      simp only
      rw [e1]
      cases b
      · exact .refl _
      · exact List.reverse_perm _
    refine tail st' (p.toList.map fun i => (katRev b zs).getD i d) hf ?_ (by simp [hpm.size]) ?_ ?_
    · rw [hsn, kat_outs]
      have := (hvr.pick (d := e d) p.toList (fun i hi => by rw [List.length_map, hz']; exact hpl i hi)).rev b
      have e2 : (p.toList.map fun i => ((katRev b zs).map e).getD i (e d)) = (p.toList.map fun i => (katRev b zs).getD i d).map e := by
        rw [List.map_map]
        exact List.map_congr_left fun i hi => getD_map' (by rw [hz']; exact hpl i hi)
      rw [e2, katRev_map] at this
      simpa using this
    · cases b
      · exact hout
      · exact (List.reverse_perm _).trans hout
    · have hpw : ((p.toList.map fun i => (katRev b zs).getD i d).map r).Pairwise (· < ·) := by
        rw [List.pairwise_iff_getElem]
        intro i j hi hj hij
        have hps := hpm.size
        have hj' : j < zs.length := by simpa [hps] using hj
        have hi' : i < zs.length := by lia
        have := hasc i j hij hj'
        unfold rk at this
        simpa [Array.getD, hps, hi', hj'] using this
      cases b
      · simpa [katRev] using hpw
      · simp only [katRev, if_true, List.map_reverse, List.pairwise_reverse]
        exact hpw
  · have hn2 : vs.toArray.size < 2 := by rw [List.size_toArray]; lia
    rw [if_pos hn2, if_pos hn2]
    refine wpAny_bind (wpAny_pure ?_)
    refine wpAny_bind (wpAny_of_eq (a := ((), SortSt.mk' general' (if b = true then (vs.toArray.zip vs.toArray).reverse else vs.toArray.zip vs.toArray) #[] 7 none)) rfl ?_)
    dsimp only
    have e3 : (if b = true then ((if b = true then (vs.toArray.zip vs.toArray).reverse else vs.toArray.zip vs.toArray).map (·.2)).reverse else (if b = true then (vs.toArray.zip vs.toArray).reverse else vs.toArray.zip vs.toArray).map (·.2)).toList = vs := by
      have e4 : List.map Prod.snd (vs.zip vs) = vs := List.map_snd_zip (Nat.le_refl _)
      cases b <;> simp [e4]
    refine tail _ (katRev b zs) rfl ?_ (kat_len _ _) ?_ ?_
    · show VRs _ (if b = true then ((if b = true then (vs.toArray.zip vs.toArray).reverse else vs.toArray.zip vs.toArray).map (·.2)).reverse else (if b = true then (vs.toArray.zip vs.toArray).reverse else vs.toArray.zip vs.toArray).map (·.2)).toList
      rw [e3, show katRev b (katRev b zs) = zs by cases b <;> simp [katRev]]
      exact hv
    · rw [show katRev b (katRev b zs) = zs by cases b <;> simp [katRev]]
    · rw [show katRev b (katRev b zs) = zs by cases b <;> simp [katRev]]
      match zs, h2l with
      | [], _ => simp
      | [x], _ => simp
      | x :: y :: r, h2l => simp at h2l
end
end
section
open PySem PySem.W PyProof.Rows PySem.Calls PySem.Spec
set_option linter.all false
set_option maxRecDepth 100000
set_option maxHeartbeats 1000000
/-- an item [c, k] of the ledger -/
structure It where
  (a : Addr) (c k : Int)
noncomputable abbrev eIt (x : It) : AV := .val (.ref x.a)
noncomputable def rIt (x : It) : Int := 16 * x.c + x.k
noncomputable def ElI (S : Led) (x : It) : Prop := (x.a, PList [.int x.c, .int x.k]) ∈ S ∧ 0 ≤ x.k ∧ x.k < 16
theorem rIt_lt {x y : It} {S S' : Led} (hx : ElI S x) (hy : ElI S' y) : (if x.c = y.c then decide (x.k < y.k) else decide (x.c < y.c)) = decide (rIt x < rIt y) := by
  obtain ⟨_, h1, h2⟩ := hx
  obtain ⟨_, h3, h4⟩ := hy
  unfold rIt
  split <;> rw [decide_eq_decide] <;> lia
/-- a pair (item, i) of the ledger -/
structure Tp where
  (p : Addr) (it : It) (i : Int)
noncomputable abbrev eTp (x : Tp) : AV := .val (.ref x.p)
noncomputable def rTp (x : Tp) : Int := rIt x.it
noncomputable def ElT (S : Led) (x : Tp) : Prop := (x.p, PTup [.val (.ref x.it.a), .int x.i]) ∈ S ∧ ElI S x.it
theorem rTp_lt {x y : Tp} {S : Led} (hx : ElT S x) (hy : ElT S y) (h : rTp x = rTp y → x.i = y.i) :
    (if x.it.c = y.it.c ∧ x.it.k = y.it.k then decide (x.i < y.i) else if x.it.c = y.it.c then decide (x.it.k < y.it.k) else decide (x.it.c < y.it.c)) = decide (rTp x < rTp y) := by
  by_cases hc : x.it.c = y.it.c ∧ x.it.k = y.it.k
  · rw [if_pos hc]
    have e : rTp x = rTp y := by unfold rTp rIt; lia
    rw [h e, e]; simp
  · rw [if_neg hc]; exact rIt_lt hx.2 hy.2
section
variable {prog : Program} {w : World} {base : Heap} {n : Nat} {S : Led}
theorem ltOk_it {Sf : List AV → Led} {El : It → Prop} (h : ∀ x xs, El x → ElI (Sf xs) x) : LtOk prog w base Sf eIt El (ltR rIt) := fun n Q pre xs x y hx hy q => by
  have h1 := h x xs hx
  have h2 := h y xs hy
  refine o_llt (List.mem_append_right _ h1.1) (List.mem_append_right _ h2.1) ?_
  rw [rIt_lt h1 h2]; exact q
theorem ltOk_tp {Sf : List AV → Led} {El : Tp → Prop} (h : ∀ x xs, El x → ElT (Sf xs) x) (hi : ∀ x y, El x → El y → rTp x = rTp y → x.i = y.i) : LtOk prog w base Sf eTp El (ltR rTp) := fun n Q pre xs x y hx hy q => by
  have h1 := h x xs hx
  have h2 := h y xs hy
  refine o_tlt (List.mem_append_right _ h1.1) (List.mem_append_right _ h2.1) (List.mem_append_right _ h1.2.1) (List.mem_append_right _ h2.2.1) ?_
  rw [rTp_lt h1 h2 (hi x y hx hy)]; exact q

variable {A : Around} {E : Value → Shared → Prop} {s : Shared}
theorem onelt_it {x y : It} {Q : Bool → Shared → Prop} (hx : ElI S x) (hy : ElI S y) (R : Rep base S s.heap) (hu : A.units < cLine) (h : Q (decide (rIt x < rIt y)) s) : wpAny (model prog w) A (oneLt' true (.ref x.a) (.ref y.a)) Q E s := by
  rw [← rIt_lt hx hy] at h
  obtain ⟨o, e, vs, j, rfl, hv⟩ := R.get hx.1
  obtain ⟨o', e', vs', j', rfl, hv'⟩ := R.get hy.1
  obtain ⟨_, _, rfl, ⟨t1, rfl⟩, ⟨t2, rfl⟩⟩ := hv.two
  obtain ⟨_, _, rfl, ⟨t3, rfl⟩, ⟨t4, rfl⟩⟩ := hv'.two
  rw [oneLt'_eq]
  simp only [if_true]
  refine wpAny_bind (wpAny_cRoomFor hu ?_)
  refine wpAny_bind (wpAny_callSpecialIfBound?_slot ⟨_, e, rfl⟩ PySem.F.slot_list_lt (call_meets PySem.F.slot_list_lt ⟨_, e, rfl⟩ PySem.F.entry_list_lt (PySem.F.args_list_lt_2 _ _) (list_lt rfl rfl rfl rfl rfl rfl) ⟨e, e', ?_⟩))
  exact wpAny_truthy_bool h
theorem kind_it {vs : List Value} {zs : List It} {Q : SortKind → Shared → Prop} (h2 : 2 ≤ zs.length) (hz : ∀ x ∈ zs, ElI S x) (hv : VRs (zs.map eIt) vs) (R : Rep base S s.heap) (h : Q oneType' s) : wpAny (model prog w) A (keyKind' vs.toArray) Q E s := by
  have hlen := hv.length
  rw [List.length_map] at hlen
  refine kas_kind (T := .type "list") (by lia) (fun v hm => ?_) rfl rfl h
  obtain ⟨i, hi, hvi⟩ := List.getElem_of_mem hm
  have hi' : i < zs.length := by lia
  have ha : (zs.map eIt)[i]? = some (eIt zs[i]) := by simp [hi']
  obtain ⟨u, hu, ru⟩ := hv.get ha
  have e1 : vs[i]? = some v := by rw [List.getElem?_eq_getElem hi, hvi]
  rw [e1] at hu
  obtain rfl := Option.some.inj hu
  obtain rfl : v = .ref zs[i].a := ru
  obtain ⟨o, e, ws, j, rfl, _⟩ := R.get (hz _ (List.getElem_mem hi')).1
  exact (Looks.ld e).andThen .now
theorem kind_tp {vs : List Value} {zs : List Tp} {Q : SortKind → Shared → Prop} (h2 : 2 ≤ zs.length) (hz : ∀ x ∈ zs, ElT S x) (hv : VRs (zs.map eTp) vs) (R : Rep base S s.heap) (h : Q (tuples' true) s) : wpAny (model prog w) A (keyKind' vs.toArray) Q E s := by
  have hlen := hv.length
  rw [List.length_map] at hlen
  have go : ∀ (zs : List Tp) (vs : List Value), VRs (zs.map eTp) vs → (∀ x ∈ zs, ElT S x) → KatTups s.heap vs (zs.map fun x => .ref x.it.a) := by
    intro zs
    induction zs with
    | nil => intro vs hv _; obtain rfl := hv; exact KatTups.nil
    | cons x r ih =>
      intro vs hv hz
      obtain ⟨v, us, rfl, rv, hv⟩ := hv
      obtain rfl : v = .ref x.p := rv
      obtain ⟨o, e, ws, j, rfl, hw⟩ := R.get (hz x (.head _)).1
      obtain ⟨_, _, rfl, rfl, _⟩ := hw.two
      exact KatTups.cons e rfl rfl rfl (ih us hv fun y hy => hz y (.tail _ hy))
  refine kat_kind (T := .type "list") (go zs vs hv hz) (by simp; lia) (fun v hm => ?_) rfl h
  obtain ⟨x, hx, rfl⟩ := List.mem_map.mp hm
  obtain ⟨o, e, ws, j, rfl, _⟩ := R.get (hz x hx).2.1
  exact (Looks.ld e).andThen .now
theorem onelt_tp {x y : Tp} {Q : Bool → Shared → Prop} (hx : ElT S x) (hy : ElT S y) (hi : rTp x = rTp y → x.i = y.i) (R : Rep base S s.heap) (hu : A.units + 64 < cLine) (h : Q (decide (rTp x < rTp y)) s) : wpAny (model prog w) A (keyLt' (tuples' true) (.ref x.p) (.ref y.p)) Q E s := by
  obtain ⟨o, e, vs, j, rfl, hv⟩ := R.get hx.1
  obtain ⟨o', e', vs', j', rfl, hv'⟩ := R.get hy.1
  obtain ⟨_, _, rfl, rfl, ⟨t2, rfl⟩⟩ := hv.two
  obtain ⟨_, _, rfl, rfl, ⟨t4, rfl⟩⟩ := hv'.two
  have dr : ∀ {l : Addr} {c k : Int}, (l, PList [.int c, .int k]) ∈ S → DR S (.val (.ref l)) (.list [.int c, .int k]) := fun hm => .list hm rfl fun i a d ha hd => by
    match i with
    | 0 => obtain rfl := Option.some.inj ha; obtain rfl := Option.some.inj hd; exact .int _
    | 1 => obtain rfl := Option.some.inj ha; obtain rfl := Option.some.inj hd; exact .int _
    | i + 2 => simp at ha
  obtain ⟨as, r1⟩ := (dr hx.2.1).reads R (.ref x.it.a) rfl
  obtain ⟨bs, r2⟩ := (dr hy.2.1).reads R (.ref y.it.a) rfl
  refine kat_lt e rfl e' rfl ?_
  refine kat_cons (PySem.SeqAt.eqBoolOverData _ _ _ _ _ _ _ _ _ _ _ _ r1 r2 rfl rfl (dep (by show A.units + 8 < cLine; lia)) ?_)
  rw [eqv2]
  by_cases hc : x.it.c = y.it.c ∧ x.it.k = y.it.k
  · rw [decide_eq_true hc]
    have e : rTp x = rTp y := by unfold rTp rIt; lia
    refine kat_yes (kat_cons (wpAny_eqBool_int ?_))
    rw [hi e, beq_self_eq_true]
    refine kat_yes (kat_nil ?_)
    rw [e] at h
    simpa using h
  · rw [decide_eq_false hc]
    exact kat_no (onelt_it hx.2 hy.2 R (by lia) h)
end
end
section
open PySem PySem.W PyProof.Rows PySem.Calls PySem.Spec
set_option linter.all false
set_option maxRecDepth 100000
set_option maxHeartbeats 1000000
section
variable {prog : Program} {w : World} {base : Heap} {n : Nat} {S : Led} {env : Env}
/-- the keywords' values -/
noncomputable def WKs (prog : Program) (w : World) (base : Heap) (n : Nat) (pos : Pos) (kws : List Keyword) (env : Env) (S : Led) (Q : List AV → Led → Prop) : Prop :=
  W prog w base n (evalAll ((backToKw pos (keywordEach kws env)).map (·.2))) S fun vs S' => ∃ as, VRs as vs ∧ Q as S'
theorem kw_nil {pos : Pos} {Q : List AV → Led → Prop} (h : Q [] S) : WKs prog w base n pos [] env S Q := .mk fun A s hA R => kws_nil (Post.self R ⟨[], rfl, h⟩)
theorem kw_cons {pos : Pos} {name : Str} {e : Expr} {kp : Pos} {r : List Keyword} {Q : List AV → Led → Prop} (h : WV prog w base n (eval e env) S (fun a S₁ => WKs prog w base n pos r env S₁ (fun as S₂ => Q (a :: as) S₂))) : WKs prog w base n pos (⟨some name, e, kp⟩ :: r) env S Q := .mk fun A s hA R => by
  refine kws_cons (wpAny_mono (h.run A s hA R) (fun v s₁ p => ?_) fun _ _ x => x)
  obtain ⟨S₁, h₁, k₁, rfl, R₁, a, ra, q⟩ := p
  refine wpAny_mono (q.run A _ hA R₁) (fun vs s₂ p => ?_) fun _ _ x => x
  obtain ⟨S₂, h₂, k₂, rfl, R₂, as, ras, q⟩ := p
  exact ⟨S₂, h₂, k₂, rfl, R₂, a :: as, ⟨v, vs, rfl, ra, ras⟩, q⟩
theorem ev_CallBK {x : Str} {np pos : Pos} {e : Expr} {r : List Expr} {kws : List Keyword} {Q : AV → Led → Prop} {id : String}
    (h : WV prog w base n (eval (.Name x np) env) S (fun a S₁ => a = .val (.builtin id) ∧ WVs prog w base n pos (e :: r) env S₁ (fun as S₂ => ∀ vs, VRs as vs → WKs prog w base n pos kws env S₂ (fun ks S₃ => ∀ kvs, VRs ks kvs →
      WV prog w base n (call (.builtin id) vs (((backToKw pos (keywordEach kws env)).filterMap (·.1)).zip kvs)) S₃ Q))))
    (he : backTo pos (starEach (e :: r) env) = (false, eval e env) :: backTo pos (starEach r env) := by rfl)
    (hplain : (backTo pos (starEach (e :: r) env)).any (·.1) = false := by rfl)
    (hall : (backToKw pos (keywordEach kws env)).all (·.1.isSome) = true := by rfl)
    (hkw : (backToKw pos (keywordEach kws env)).any (·.1.isNone) = false := by rfl) :
    WV prog w base n (eval (.Call (.Name x np) (e :: r) kws pos) env) S Q := .mk fun A s hA R => by
  refine wpAny_Call_Name_kw (wpAny_mono (h.run A s hA R) (fun v s₁ p => ?_) fun _ _ x => x)
  obtain ⟨S₁, h₁, k₁, rfl, R₁, a, ra, rfl, q⟩ := p
  obtain rfl : v = .builtin id := ra
  refine callWith_kw ?_ he hplain hall hkw
  refine wpAny_mono (q.run A _ hA R₁) (fun vs s₂ p => ?_) fun _ _ x => x
  obtain ⟨S₂, h₂, k₂, rfl, R₂, as, ras, q⟩ := p
  refine wpAny_mono ((q vs ras).run A _ hA R₂) (fun kvs s₃ p => ?_) fun _ _ x => x
  obtain ⟨S₃, h₃, k₃, rfl, R₃, ks, rks, q⟩ := p
  exact (q kvs rks).at hA rfl R₃
theorem call_methodK {A : Around} {E : Value → Shared → Prop} {s : Shared} {o : Expr} {name : Str} {apos pos : Pos} {kws : List Keyword} {T id : String} {Q : Value → Shared → Prop}
    (hbase : attributeBase o name env (eval o env) = eval o env)
    (hfew : methodCallForm (([] : List Expr).length + kws.length) (backTo pos (starEach [] env)) (backToKw pos (keywordEach kws env)) = true)
    (hline : (apos.endLine == pos.line) = true)
    (pa : PlainAttrs T) (slot : Slot T name id) (hty : typeOf (.builtin id) = pure (.type "method_descriptor"))
    (h : wpAny (model prog w) A (eval o env) (fun ov s₁ => s₁.TypeIs ov T ∧ (∀ a, ov = .ref a → ∃ ob, s₁.heap.get? a = some ob ∧ ob.dict = none) ∧
      wpAny (model prog w) A (callWith pos (.builtin id) [ov] (backTo pos (starEach [] env)) (backToKw pos (keywordEach kws env))) Q E s₁) E s) :
    wpAny (model prog w) A (eval (.Call (.Attribute o name apos) [] kws pos) env) Q E s := by
  rw [arm_eval_Call, hbase]
  refine wpAny_bind (wpAny_mono h (fun ov s₁ h₁ => ?_) fun _ _ e => e)
  obtain ⟨hT, hd, hc⟩ := h₁
  refine wpAny_bind (wpAny_standAt ?_)
  have hpos : methodCallPos true o env apos pos = pure pos := by unfold methodCallPos; simp [hline]
  unfold methodCall
  rw [hfew]
  refine wpAny_bind (wpAny_holding (getMethod_builtin hT pa slot hty hd ?_))
  exact wpAny_bind (wpAny_of_eq hpos hc)
theorem ev_MethK {o : Expr} {name : Str} {apos pos : Pos} {kws : List Keyword} {T id : String} {Q : AV → Led → Prop} (pa : PlainAttrs T) (slot : Slot T name id) (hty : typeOf (.builtin id) = pure (.type "method_descriptor"))
    (h : WV prog w base n (eval o env) S (fun a S₁ => OnT base S₁ a T ∧ ∀ v, VR a v → WKs prog w base n pos kws env S₁ (fun ks S₂ => ∀ kvs, VRs ks kvs → WV prog w base n (call (.builtin id) [v] (((backToKw pos (keywordEach kws env)).filterMap (·.1)).zip kvs)) S₂ Q)))
    (hbase : attributeBase o name env (eval o env) = eval o env := by rfl)
    (hfew : methodCallForm (([] : List Expr).length + kws.length) (backTo pos (starEach [] env)) (backToKw pos (keywordEach kws env)) = true := by rfl)
    (hline : (apos.endLine == pos.line) = true := by rfl)
    (hall : (backToKw pos (keywordEach kws env)).all (·.1.isSome) = true := by rfl)
    (hkw : (backToKw pos (keywordEach kws env)).any (·.1.isNone) = false := by rfl) :
    WV prog w base n (eval (.Call (.Attribute o name apos) [] kws pos) env) S Q := .mk fun A s hA R => by
  refine call_methodK hbase hfew hline pa slot hty (wpAny_mono (h.run A s hA R) (fun v s₁ p => ?_) fun _ _ x => x)
  obtain ⟨S₁, h₁, k₁, rfl, R₁, a, ra, hT, q⟩ := p
  obtain ⟨hT1, hT2⟩ := hT v { s with heap := h₁, toks := k₁ } ra R₁
  refine ⟨hT1, hT2, callWith_builtin_kwB rfl hkw (evalArgs_kw2_nil hall ?_)⟩
  refine wpAny_mono ((q v ra).run A _ hA R₁) (fun kvs s₃ p => ?_) fun _ _ x => x
  obtain ⟨S₃, h₃, k₃, rfl, R₃, ks, rks, q⟩ := p
  exact (q kvs rks).at hA rfl R₃

/-- sorted, of items -/
theorem c_sorted {kw : List (Str × Value)} {b : Bool} {l : Addr} {v : Value} {zs : List It} {Q : AV → Led → Prop} (hv : VR (.val (.ref l)) v) (hl : LAt base S l (zs.map eIt)) (hz : ∀ x ∈ zs, ElI S x) (h64 : zs.length < 64) (hr : ∀ d i j, i < zs.length → j < zs.length → i ≠ j → rIt (zs.getD i d) ≠ rIt (zs.getD j d))
    (ha1 : ∀ x, argsOk "sorted" ⟨[.ref x], kw⟩) (ha2 : ∀ x, argsOk "list.sort" ⟨[.ref x], kw⟩) (ht : ∀ x, Builtin.«list.sort» ⟨[.ref x], kw⟩ = srt x b)
    (h : ∀ D (out : List It), out.Perm zs → (out.map rIt).Pairwise (fun x y => if b then y < x else x < y) → Q (.val (.ref D)) ((D, PList (out.map eIt)) :: S)) : WV prog w base n (call (.builtin "sorted") [v] kw) S Q := .mk fun A s hA R => by
  obtain rfl : v = .ref l := hv
  have hu := hA.units
  obtain ⟨vs, hL, hvs⟩ := hl _ R
  have hlen := hvs.length
  rw [List.length_map] at hlen
  refine call_function_entry_kw kind_sorted plain_sorted entry_sorted (ha1 _) ?_
  unfold Builtin.«sorted»
  refine wpAny_bind (m := checkCount "sorted" 1 1 _) (wpAny_pure ?_)
  refine wpAny_bind (collect_list hL ?_ (by rw [sizeLine_eq]; lia))
  refine wpAny_bind (wpAny_newList ?_ (by rw [sizeLine_eq]; lia))
  have R1 : Rep base S ((s.heap.push (seqObj "list" #[] 0)).update s.heap.objs.size (Obj.mapSeq (· ++ vs.toArray))) := R.grow fun b o q => by
    have hlt : b < s.heap.objs.size := Heap.lt_size q
    rw [Heap.get?_update_ne _ _ _ _ (Nat.ne_of_lt hlt), Heap.get?_push_ne _ _ _ (Nat.ne_of_lt hlt)]
    exact q
  have R2 := R1.push (P := PList (zs.map eIt)) (o := { cls := .type "list", data := .seq vs.toArray }) ⟨vs, 0, rfl, hvs⟩
  generalize hh : ((s.heap.push (seqObj "list" #[] 0)).update s.heap.objs.size (Obj.mapSeq (· ++ vs.toArray))) = h1 at R2 ⊢
  have ho := Heap.get?_push_size (h := h1) (o := { cls := .type "list", data := .seq vs.toArray }) rfl
  refine wpAny_bind (wpAny_holding (wpAny_call_entry_kw slot_list_sort ⟨_, ho, rfl⟩ entry_list_sort ?body (ha2 _)))
  show wpAny (model prog w) A.in1.in1 (Builtin.«list.sort» ⟨[.ref h1.objs.size], kw⟩) _ _ _
  rw [ht]
  match hzs : zs with
  | [] =>
    refine srt_run (Sf := fun P => (h1.objs.size, P) :: S) (zs := ([] : List It)) (e := eIt) (r := rIt) (d := ⟨0, 0, 0⟩) (κ := oneType') (fun _ _ => Upd.head) (by decide) (by intro i j hi; simp at hi) (by intro q; simp at q) (by intro q; simp at q) R2 fun out h' hp hs R' => ?_
    exact ⟨_, rfl, wpAny_pure ⟨_, rfl, _, _, _, rfl, R', .val (.ref _), rfl, h _ out hp hs⟩⟩
  | d :: zr =>
    refine srt_run (Sf := fun P => (h1.objs.size, P) :: S) (zs := d :: zr) (e := eIt) (r := rIt) (d := d) (κ := oneType') (fun _ _ => Upd.head) h64 (hr d) (fun h2 P s' ws Q' hw R' q => ?_) (fun h2 P s' x y v u Q' hx hy rv ru R' q => ?_) R2 fun out h' hp hs R' => ?_
    · exact kind_it h2 (fun x hx => (hz x hx).imp (List.mem_cons_of_mem _) id) hw R' q
    · obtain rfl : v = .ref x.a := rv
      obtain rfl : u = .ref y.a := ru
      exact onelt_it ((hz x hx).imp (List.mem_cons_of_mem _) id) ((hz y hy).imp (List.mem_cons_of_mem _) id) R' (by show A.units + 1 + 1 < 9900; lia) q
    · exact ⟨_, rfl, wpAny_pure ⟨_, rfl, _, _, _, rfl, R', .val (.ref _), rfl, h _ out hp hs⟩⟩
/-- sort, of pairs -/
theorem c_tsort {Sf : OP → Led} {kw : List (Str × Value)} {b : Bool} {l : Addr} {zs : List Tp} {Q : AV → Led → Prop} (hU : ∀ P P', Upd (Sf P) l P P' (Sf P')) (hz : ∀ P, ∀ x ∈ zs, ElT (Sf P) x) (h64 : zs.length < 64) (d : Tp) (hr : ∀ i j, i < zs.length → j < zs.length → i ≠ j → rTp (zs.getD i d) ≠ rTp (zs.getD j d))
    (hi : ∀ x ∈ zs, ∀ y ∈ zs, rTp x = rTp y → x.i = y.i)
    (ha2 : ∀ x, argsOk "list.sort" ⟨[.ref x], kw⟩) (ht : ∀ x, Builtin.«list.sort» ⟨[.ref x], kw⟩ = srt x b)
    (h : ∀ (out : List Tp), out.Perm zs → (out.map rTp).Pairwise (fun x y => if b then y < x else x < y) → Q (.val .none) (Sf (PList (out.map eTp)))) : WV prog w base n (call (.builtin "list.sort") [.ref l] kw) (Sf (PList (zs.map eTp))) Q := .mk fun A s hA R => by
  have hu := hA.units
  obtain ⟨vs, j, ho, hv⟩ := R.isL (hU _ (PList [])).memOld
  refine wpAny_call_entry_kw slot_list_sort ⟨_, ho, rfl⟩ entry_list_sort ?body (ha2 _)
  rw [ht]
  refine srt_run (Sf := Sf) (zs := zs) (e := eTp) (r := rTp) (d := d) (κ := tuples' true) hU h64 hr (fun h2 P s' ws Q' hw R' q => ?_) (fun h2 P s' x y v u Q' hx hy rv ru R' q => ?_) R fun out h' hp hs R' => ?_
  · exact kind_tp h2 (hz P) hw R' q
  · obtain rfl : v = .ref x.p := rv
    obtain rfl : u = .ref y.p := ru
    exact onelt_tp (hz P x hx) (hz P y hy) (hi x hx y hy) R' (by show A.units + 1 + 64 < 9900; lia) q
  · exact ⟨_, rfl, _, _, _, rfl, R', .val .none, rfl, h out hp hs⟩
end
end
section
open PySem PySem.W PyProof.Rows PySem.Calls PySem.Spec
set_option linter.all false
set_option maxRecDepth 100000
set_option maxHeartbeats 1000000
section
variable {prog : Program} {w : World} {A : Around} {E : Value → Shared → Prop} {s : Shared}
theorem zip_new {r it l : Addr} {x n c : Int} {t u v : Tok} {k : Nat} :
    Meets (Builtin.«zip.__new__» ⟨[.type "zip", .ref r, .ref it], []⟩) (fun _ R s => IsRange s.heap r x n c t u v ∧ Builtin.Range.small x n c = true ∧ s.heap.IsListIter it l k ∧
      R (.ok (.ret (.ref (s.heap.objs.size + 3)))) { s with heap := (((s.heap.push { cls := .type "range_iterator", data := .fields #[rawInt x, rawInt (Builtin.Range.rangeSize x n c), rawInt c] }).push { cls := .type "tuple", data := .seq #[.ref s.heap.objs.size, .ref it] }).push { cls := .type "tuple", data := .seq #[.none, .none] }).push { cls := .type "zip", data := .fields #[.none, .bool false, .bool false, .ref (s.heap.objs.size + 1), .ref (s.heap.objs.size + 2)] } }) :=
  .of_wp fun prog w A R s h => by
    obtain ⟨hp, g, d, tk, os⟩ := s; obtain ⟨hr, hs, hi, h⟩ := h
    have hsub := sub_zip
    have hR : IsRange (Shared.heap ⟨hp, g, d, tk, os⟩) r x n c t u v := hr
    have hI : Heap.IsListIter (Shared.heap ⟨hp.push { cls := .type "range_iterator", data := .fields #[rawInt x, rawInt (Builtin.Range.rangeSize x n c), rawInt c] }, g, d, tk, os⟩) it l k := hi.at fun o e => Heap.get?_push_of_some _ e
    wp_walk using wpAny_pyIter_range hR hs, wpAny_pyIter_listiter hI
    refine ⟨_, rfl, ?_⟩
    simp only [Heap.size_push] at h ⊢
    exact h
theorem call_zip {r it l : Addr} {x n c : Int} {t u v : Tok} {k : Nat} {Q : Value → Shared → Prop} (hr : IsRange s.heap r x n c t u v) (hs : Builtin.Range.small x n c = true) (hi : s.heap.IsListIter it l k)
    (h : Q (.ref (s.heap.objs.size + 3)) { s with heap := (((s.heap.push { cls := .type "range_iterator", data := .fields #[rawInt x, rawInt (Builtin.Range.rangeSize x n c), rawInt c] }).push { cls := .type "tuple", data := .seq #[.ref s.heap.objs.size, .ref it] }).push { cls := .type "tuple", data := .seq #[.none, .none] }).push { cls := .type "zip", data := .fields #[.none, .bool false, .bool false, .ref (s.heap.objs.size + 1), .ref (s.heap.objs.size + 2)] } }) : wpAny (model prog w) A (call (.type "zip") [.ref r, .ref it]) Q E s := by
  refine callType_new F.called_zip (by decide) (F.typeCall_zip_2 _ _) (F.newCall_zip_2 _ _) (fun obj => F.args_object_init_3 obj _ _) F.entry_zip_new zip_new ⟨hr, hs, hi, ?_⟩
  have := Heap.get?_push_size (h := ((s.heap.push { cls := .type "range_iterator", data := .fields #[rawInt x, rawInt (Builtin.Range.rangeSize x n c), rawInt c] }).push { cls := .type "tuple", data := .seq #[.ref s.heap.objs.size, .ref it] }).push { cls := .type "tuple", data := .seq #[.none, .none] }) (o := { cls := .type "zip", data := .fields #[.none, .bool false, .bool false, .ref (s.heap.objs.size + 1), .ref (s.heap.objs.size + 2)] }) rfl
  simp only [Heap.size_push] at this
  exact ⟨⟨_, this, rfl⟩, h⟩
theorem nextOf_range_item {it : Addr} {x left step : Int} {Q : Value → Shared → Prop} (hit : IsRangeIter s.heap it x left step) (hleft : 0 < left)
    (hQ : ∀ h', IsRangeIter h' it (x + step) (left - 1) step → Heap.SameBut it s.heap h' → Q (.int x s.toks) { s with heap := h', toks := s.toks + 1 }) :
    wpAny (model prog w) A (Builtin.SmallTypes.nextOf (.ref it)) Q E s := by
  have hT : s.TypeIs (.ref it) "range_iterator" := ⟨_, hit, rfl⟩
  unfold Builtin.SmallTypes.nextOf
  refine wpAny_bind (wpAny_callSpecial?_slot (name := Str.ofString "__next__") hT F.slot_range_iterator_next
    (call_meets F.slot_range_iterator_next hT F.entry_range_iterator_next (F.args_range_iterator_next_1 _) (AutoRange.range_iterator___next___range_iterator_1 it x left step (by lia)) ⟨hit, ?_⟩))
  exact wpAny_pure (hQ _ (Heap.get?_update_self _ (Heap.get?_update_self _ hit rfl) rfl) ((Heap.SameBut.update ..).trans (Heap.SameBut.update ..)))
theorem nextOf_range_end {it : Addr} {x left step : Int} {Q : Value → Shared → Prop} (hh : A.handled = none) (hit : IsRangeIter s.heap it x left step) (hleft : left ≤ 0)
    (hE : ∀ h' e, Heap.ExtBut it s.heap h' → (∃ o, h'.get? e = some o ∧ o.cls = .type "StopIteration") → E (.ref e) { s with heap := h' }) :
    wpAny (model prog w) A (Builtin.SmallTypes.nextOf (.ref it)) Q E s := by
  have hT : s.TypeIs (.ref it) "range_iterator" := ⟨_, hit, rfl⟩
  unfold Builtin.SmallTypes.nextOf
  refine wpAny_bind (wpAny_callSpecial?_slot (name := Str.ofString "__next__") hT F.slot_range_iterator_next
    (wpAny_call_entry F.slot_range_iterator_next hT F.entry_range_iterator_next ?_ (F.args_range_iterator_next_1 _)))
  show wpAny _ _ (field (.ref it) 0 >>= _) _ _ s
  refine wpAny_bind (wpAny_field hit rfl (x := rawInt x) rfl ?_)
  show wpAny _ _ (field (.ref it) 1 >>= _) _ _ s
  refine wpAny_bind (wpAny_field hit rfl (x := rawInt left) rfl ?_)
  show wpAny _ _ (field (.ref it) 2 >>= _) _ _ s
  refine wpAny_bind (wpAny_field hit rfl (x := rawInt step) rfl ?_)
  show wpAny _ _ (if left ≤ 0 then _ else _) _ _ s
  rw [if_pos hleft]
  refine wpAny_bind (wpAny_rule ?_)
  refine wpAny_bind ?_
  show wpAny _ _ (newExc (.type "StopIteration") [] >>= _) _ _ _
  refine wpAny_bind ?_
  simp only [newExc, newTuple]
  refine wpAny_bind (wpAny_newObj_type ?_ (by size_fits))
  refine wpAny_bind (m := firstArgMember _ _) (wpAny_of_eq (a := Value.none) (by first | rfl | (simp only [firstArgMember]; rfl)) ?_)
  refine wpAny_newObj_type ?_ (by size_fits)
  simp only [raiseNew]
  refine wpAny_bind (wpAny_handled ?_)
  first | rw [show A.in1.handled = none from hh] | rw [hh]
  refine wpAny_bind (wpAny_pure (wpAny_throw ?_))
  exact hE _ _ (((Heap.ExtBut.refl it s.heap).push _).push _) ⟨_, Heap.get?_push_size _ rfl, rfl⟩
end
section
variable {prog : Program} {w : World} {base : Heap} {n : Nat} {S : Led}
noncomputable def PZip (f0 : Value) (TI TO : Addr) : OP := fun o => o = { cls := .type "zip", dict := none, data := .fields #[f0, .bool false, .bool false, .ref TI, .ref TO], slots := #[] }
noncomputable def PPair (a b : Value) : OP := fun o => o = { cls := .type "tuple", data := .seq #[a, b] }
noncomputable def PPairA : OP := fun o => ∃ a b, o = { cls := .type "tuple", data := .seq #[a, b] }
theorem c_zip {r it l : Addr} {x m c : Int} {k : Nat} {vr vi : Value} {Q : AV → Led → Prop} (hr : VR (.val (.ref r)) vr) (hi : VR (.val (.ref it)) vi) (h1 : (r, PRange x m c) ∈ S) (hs : Builtin.Range.small x m c = true) (h2 : (it, PLIter l k) ∈ S)
    (h : ∀ z TO TI i1, Q (.val (.ref z)) ((z, PZip .none TI TO) :: (TO, PPairA) :: (TI, PPair (.ref i1) (.ref it)) :: (i1, PRIter x (Builtin.Range.rangeSize x m c) c) :: S)) : WV prog w base n (call (.type "zip") [vr, vi]) S Q := .mk fun A s hA R => by
  obtain rfl : vr = .ref r := hr
  obtain rfl : vi = .ref it := hi
  obtain ⟨o, e, t, u, v, rfl⟩ := R.get h1
  obtain ⟨o', e', h1', h2'⟩ := R.get h2
  refine call_zip e hs ⟨o', e', h1', h2'⟩ ?_
  have R1 := R.push (P := PRIter x (Builtin.Range.rangeSize x m c) c) (o := { cls := .type "range_iterator", data := .fields #[rawInt x, rawInt (Builtin.Range.rangeSize x m c), rawInt c] }) rfl
  have R2 := R1.push (P := PPair (.ref s.heap.objs.size) (.ref it)) (o := { cls := .type "tuple", data := .seq #[.ref s.heap.objs.size, .ref it] }) rfl
  have R3 := R2.push (P := PPairA) (o := { cls := .type "tuple", data := .seq #[.none, .none] }) ⟨_, _, rfl⟩
  have R4 := R3.push (P := PZip .none (s.heap.objs.size + 1) (s.heap.objs.size + 2)) (o := { cls := .type "zip", data := .fields #[.none, .bool false, .bool false, .ref (s.heap.objs.size + 1), .ref (s.heap.objs.size + 2)] }) rfl
  simp only [Heap.size_push] at R4
  exact ⟨_, _, _, rfl, R4, .val (.ref _), rfl, h _ _ _ _⟩
theorem it_zip {z TI TO : Addr} {f0 : Value} {Q : AV → Led → Prop} (hm : (z, PZip f0 TI TO) ∈ S) (h : Q (.val (.ref z)) S) : L1 prog w base n pyIter (.val (.ref z)) S Q := l1_ref <| .mk fun A s hA R => by
  obtain ⟨o, e, rfl⟩ := R.get hm
  exact wpAny_pyIter_zip e (Post.self R ⟨.val (.ref z), rfl, h⟩)
theorem ext_trans {h h' : Heap} {a : Addr} {P : OP} (x : ∃ o, h.get? a = some o ∧ P o) (k : ∀ o, h.get? a = some o → h'.get? a = some o) : ∃ o, h'.get? a = some o ∧ P o := let ⟨o, e, p⟩ := x; ⟨o, k _ e, p⟩
theorem w_field {a : Addr} {P : OP} {i : Nat} {v : Value} {Q : Value → Led → Prop} (hm : (a, P) ∈ S) (hP : ∀ o, P o → ∃ vs, o.data = .fields vs ∧ vs[i]? = some v) (h : Q v S) : W prog w base n (field (.ref a) i) S Q := .mk fun A s hA R => by
  obtain ⟨o, e, p⟩ := R.get hm
  obtain ⟨vs, hd, hv⟩ := hP o p
  exact wpAny_field e hd hv (Post.self R h)
theorem w_setZip {z TI TO : Addr} {f0 f1 : Value} {S' : Led} {Q : Unit → Led → Prop} (U : Upd S z (PZip f0 TI TO) (PZip f1 TI TO) S') (h : Q () S') : W prog w base n (setField (.ref z) 0 f1) S Q := .mk fun A s hA R => by
  obtain ⟨o, e, rfl⟩ := R.get U.memOld
  exact wpAny_setField_rec e (by simp) fun h' hz hs => ⟨S', h', s.toks, rfl, R.update U hs ⟨_, hz, rfl⟩, h⟩
theorem w_setZip1 {z TI TO : Addr} {f0 : Value} {Q : Unit → Led → Prop} (U : Upd S z (PZip f0 TI TO) (PZip f0 TI TO) S) (h : Q () S) : W prog w base n (setField (.ref z) 1 (.bool false)) S Q := .mk fun A s hA R => by
  obtain ⟨o, e, rfl⟩ := R.get U.memOld
  exact wpAny_setField_rec e (by simp) fun h' hz hs => ⟨S, h', s.toks, rfl, R.update U hs ⟨_, hz, rfl⟩, h⟩
theorem w_items {a : Addr} {x y : Value} {Q : Option (Array Value) → Led → Prop} (hm : (a, PPair x y) ∈ S) (h : Q (some #[x, y]) S) : W prog w base n (seqItems? (.ref a)) S Q := .mk fun A s hA R => by
  obtain ⟨o, e, rfl⟩ := R.get hm
  exact wpAny_seqItems e rfl (Post.self R h)
/-- a pair whose parts are not known is some pair -/
theorem W.pair {α : Type} {a : Addr} {S' : Value → Value → Led} {t : Sem α} {Q : α → Led → Prop} (U : ∀ x y, Upd S a PPairA (PPair x y) (S' x y)) (h : ∀ x y, W prog w base n t (S' x y) Q) : W prog w base n t S Q := .mk fun A s hA R => by
  obtain ⟨o, e, x, y, rfl⟩ := R.get (U .none .none).memOld
  refine (h x y).run A s hA ?_
  exact R.update (U x y) ⟨rfl, fun _ _ => rfl⟩ ⟨_, e, rfl⟩
theorem w_updPair {a : Addr} {x y v : Value} {k : Nat} {x' y' : Value} {S' : Led} {Q : Unit → Led → Prop} (U : Upd S a (PPair x y) (PPair x' y') S') (hk : (#[x, y] : Array Value).setIfInBounds k v = #[x', y']) (h : Q () S') : W prog w base n (updateSeq a (·.setIfInBounds k v)) S Q := .mk fun A s hA R => by
  obtain ⟨o, e, rfl⟩ := R.get U.memOld
  exact wpAny_updateSeq_pair e fun h' hz hs => ⟨S', h', s.toks, rfl, R.update U hs ⟨_, hz, by rw [hk]; rfl⟩, h⟩
theorem w_letGo {vs ks : List Value} {Q : Unit → Led → Prop} (h : Q () S) : W prog w base n (letGo vs ks) S Q := .mk fun A s hA R => wpAny_letGo (Post.self R h)
theorem nf_range {it : Addr} {x left step : Int} {S' : Led} {Q : Value → Led → Prop} (U : Upd S it (PRIter x left step) (PRIter (x + step) (left - 1) step) S') (hl : 0 < left) (h : ∀ v, VR (.int x) v → Q v S') :
    W prog w base n (Builtin.SmallTypes.nextOf (.ref it)) S Q := .mk fun A s hA R => by
  obtain ⟨o, e, rfl⟩ := R.get U.memOld
  exact nextOf_range_item e hl fun h' hi hs => ⟨S', h', _, rfl, R.update U hs ⟨_, hi, rfl⟩, h _ vInt⟩
theorem nf_list {it l : Addr} {i : Nat} {xs : List AV} {a : AV} {S' : Led} {Q : Value → Led → Prop} (U : Upd S it (PLIter l i) (PLIter l (i + 1)) S') (hm : (l, PList xs) ∈ S) (hx : xs[i]? = some a) (h : ∀ v, VR a v → Q v S') :
    W prog w base n (Builtin.SmallTypes.nextOf (.ref it)) S Q := .mk fun A s hA R => by
  obtain ⟨o, e, h1, h2⟩ := R.get U.memOld
  obtain ⟨vs, hl, hv⟩ := R.list hm
  obtain ⟨v, hvi, rv⟩ := hv.get hx
  exact wpAny_nextOf_list_item ⟨o, e, h1, h2⟩ hl (by simpa using hvi) fun h' hi hs => ⟨S', h', _, rfl, R.update U hs (let ⟨o, e, h1, h2⟩ := hi; ⟨o, e, h1, h2⟩), h _ rv⟩
theorem W.onRaise {α : Type} {t : Sem α} {f : Value → Sem Unit} {Q : α → Led → Prop} (h : W prog w base n t S Q) : W prog w base n (t.onRaise f) S Q := .mk fun A s hA R => wpAny_onRaise (wpAny_mono (h.run A s hA R) (fun _ _ x => x) fun _ _ x => x.elim)

theorem w_newPair {x y : Value} {Q : Value → Led → Prop} (h : ∀ T, Q (.ref T) ((T, PPair x y) :: S)) : W prog w base n (newTuple [x, y]) S Q := .mk fun A s hA R =>
  wpAny_newTuple ⟨_, _, s.toks, rfl, R.push (P := PPair x y) rfl, h _⟩ (by rw [sizeLine_eq]; show 2 ≤ 16777216; decide)
theorem w_load {α : Type} {a : Addr} {P : OP} {t : Obj → Sem α} {Q : α → Led → Prop} (hm : (a, P) ∈ S) (h : ∀ o, P o → W prog w base n (t o) S Q) : W prog w base n (load a >>= t) S Q := .mk fun A s hA R => by
  obtain ⟨o, e, p⟩ := R.get hm
  exact wpAny_bind (wpAny_load e ((h o p).run A s hA R))
theorem zip_body {z TI TO i1 it l : Addr} {x left step : Int} {k : Nat} {ys : List AV} {a : AV} {R R' : Led} {Q : PySem.Fin → Led → Prop} (h0 : 0 < left) (hl : (l, PList ys) ∈ R) (hx : ys[k]? = some a) (U : Upd R it (PLIter l k) (PLIter l (k + 1)) R')
    (h : ∀ T v y, VR (.int x) v → VR a y → Q (.done (.ret (.ref T))) ((T, PPair v y) :: (z, PZip (rawInt T) TI TO) :: (TO, PPair v y) :: (TI, PPair (.ref i1) (.ref it)) :: (i1, PRIter (x + step) (left - 1) step) :: R')) :
    W prog w base n (Builtin.«zip.__next__» ⟨[.ref z], []⟩) ((z, PZip .none TI TO) :: (TO, PPairA) :: (TI, PPair (.ref i1) (.ref it)) :: (i1, PRIter x left step) :: R) Q := by
  have fz : ∀ {f0 : Value} (i : Nat) (v : Value), (#[f0, .bool false, .bool false, .ref TI, .ref TO] : Array Value)[i]? = some v → ∀ o, PZip f0 TI TO o → ∃ vs, o.data = .fields vs ∧ vs[i]? = some v := by
    rintro f0 i v e o rfl
    exact ⟨_, rfl, e⟩
  refine W.pair (a := TO) (S' := fun p q => (z, PZip .none TI TO) :: (TO, PPair p q) :: (TI, PPair (.ref i1) (.ref it)) :: (i1, PRIter x left step) :: R) (fun _ _ => Upd.tail Upd.head) fun p q => ?_
  show W _ _ _ _ (field (.ref z) 2 >>= _) _ _
  refine W.bind (w_field List.mem_cons_self (fz 2 (.bool false) rfl) ?_)
  show W _ _ _ _ (field (.ref z) 3 >>= _) _ _
  refine W.bind (w_field List.mem_cons_self (fz 3 (.ref TI) rfl) ?_)
  refine W.bind (w_items (x := .ref i1) (y := .ref it) (List.mem_cons_of_mem _ (List.mem_cons_of_mem _ List.mem_cons_self)) ?_)
  show W _ _ _ _ (Builtin.SmallTypes.ownedTupleIsFree (.ref z) >>= _) _ _
  refine W.bind ?_
  unfold Builtin.SmallTypes.ownedTupleIsFree
  refine W.bind (w_field List.mem_cons_self (fz 0 .none rfl) (W.pure ?_))
  simp only [if_true]
  refine W.bind (W.rule ?_)
  refine W.bind (w_field List.mem_cons_self (fz 4 (.ref TO) rfl) ?_)
  refine W.bind (w_setZip Upd.head ?_)
  refine W.bind ?_
  simp only [List.zipIdx_cons, List.zipIdx_nil, List.forIn_cons, List.forIn_nil]
  refine W.bind (W.bind (W.onRaise ?_))
  show W _ _ _ _ (Builtin.SmallTypes.nextOf (.ref i1) >>= _) _ _
  refine W.bind (nf_range (.tail (.tail (.tail .head))) h0 fun v hv => W.pure ?_)
  refine W.bind (w_items (x := p) (y := q) (List.mem_cons_of_mem _ List.mem_cons_self) ?_)
  refine W.bind (w_updPair (x' := v) (y' := q) (.tail .head) rfl ?_)
  refine W.bind (w_letGo (W.pure ?_))
  refine W.bind (W.bind (W.onRaise ?_))
  show W _ _ _ _ (Builtin.SmallTypes.nextOf (.ref it) >>= _) _ _
  refine W.bind (nf_list (.tail (.tail (.tail (.tail U)))) (List.mem_cons_of_mem _ (List.mem_cons_of_mem _ (List.mem_cons_of_mem _ (List.mem_cons_of_mem _ hl)))) hx fun y hy => W.pure ?_)
  refine W.bind (w_items (x := v) (y := q) (List.mem_cons_of_mem _ List.mem_cons_self) ?_)
  refine W.bind (w_updPair (x' := v) (y' := y) (.tail .head) rfl ?_)
  refine W.bind (w_letGo (W.pure (W.pure ?_)))
  refine W.bind (w_items (x := v) (y := y) (List.mem_cons_of_mem _ List.mem_cons_self) ?_)
  refine W.bind (w_newPair fun T => ?_)
  show W _ _ _ _ (Builtin.SmallTypes.ownedTupleHandOut (.ref z) (.ref T) >>= _) _ _
  refine W.bind ?_
  unfold Builtin.SmallTypes.ownedTupleHandOut
  refine W.bind (w_setZip (.tail .head) (w_setZip1 (.tail .head) ?_))
  exact W.pure (h T v y hv hy)
theorem PPair.tup {v y : Value} {a b : AV} (ha : VR a v) (hb : VR b y) (o : Obj) : PPair v y o → PTup [a, b] o := by
  rintro rfl
  exact ⟨[v, y], 0, rfl, v, _, rfl, ha, y, [], rfl, hb, rfl⟩
theorem PPair.any {v y : Value} (o : Obj) : PPair v y o → PPairA o := fun h => ⟨_, _, h⟩
theorem nx_zip {z TI TO i1 it l : Addr} {x left step : Int} {k : Nat} {ys : List AV} {a : AV} {R R' : Led} {Q : Option Value → Led → Prop} (h0 : 0 < left) (hl : (l, PList ys) ∈ R) (hx : ys[k]? = some a) (U : Upd R it (PLIter l k) (PLIter l (k + 1)) R')
    (h : ∀ T, Q (some (.ref T)) ((T, PTup [.int x, a]) :: (z, PZip (rawInt T) TI TO) :: (TO, PPairA) :: (TI, PPair (.ref i1) (.ref it)) :: (i1, PRIter (x + step) (left - 1) step) :: R')) :
    W prog w base (n + 1) (pyNext (.ref z)) ((z, PZip .none TI TO) :: (TO, PPairA) :: (TI, PPair (.ref i1) (.ref it)) :: (i1, PRIter x left step) :: R) Q := .mk fun A s hA RR => by
  obtain ⟨o, e, rfl⟩ := RR.get List.mem_cons_self
  have hT : s.TypeIs (.ref z) "zip" := ⟨_, e, rfl⟩
  unfold pyNext
  refine wpAny_bind (wpAny_attempt (wpAny_callSpecial?_slot (name := Str.ofString "__next__") hT F.slot_zip_next
    (wpAny_call_entry F.slot_zip_next hT F.entry_zip_next (wpAny_mono ((zip_body (prog := prog) (w := w) (base := base) (n := n) (z := z) (TI := TI) (TO := TO) (i1 := i1) (step := step)
      (Q := fun f S' => ∃ T v y, VR (.int x) v ∧ VR a y ∧ f = .done (.ret (.ref T)) ∧ S' = ((T, PPair v y) :: (z, PZip (rawInt T) TI TO) :: (TO, PPair v y) :: (TI, PPair (.ref i1) (.ref it)) :: (i1, PRIter (x + step) (left - 1) step) :: R')) h0 hl hx U
      (fun T v y hv hy => ⟨T, v, y, hv, hy, rfl, rfl⟩)).run _ _ hA.in1 RR) (fun f s' p => ?_) fun _ _ x => x.elim) (F.args_zip_next_1 _))))
  obtain ⟨S₁, h₁, k₁, rfl, R₁, T, v, y, hv, hy, rfl, rfl⟩ := p
  refine ⟨_, rfl, ?_⟩
  exact wpAny_pure ⟨_, h₁, k₁, rfl, R₁.wk (.weak (PPair.tup hv hy) (.keep (.weak PPair.any (.refl _)))), h T⟩
theorem lo_zip {elts : List Expr} {x1 : Nat} {pos : Pos} {z TI TO T : Addr} {S' : Led} {Q : Unit → Led → Prop} (U : Upd S z (PZip (rawInt T) TI TO) (PZip .none TI TO) S') (h : Q () S') : W prog w base n (letOwnedTupleGo (.Tuple elts x1 pos) (.ref z) (.ref T)) S Q := .mk fun A s hA R => by
  obtain ⟨o, e, rfl⟩ := R.get U.memOld
  exact wpAny_letOwnedTupleGo_zip e fun h' hz hs => ⟨S', h', s.toks, rfl, R.update U hs ⟨_, hz, rfl⟩, h⟩
theorem nx_zip_end {z TI TO i1 it : Addr} {x left step : Int} {R : Led} {Q : Option Value → Led → Prop} (h0 : left ≤ 0) (h : Q none ((TO, PPairA) :: (TI, PPair (.ref i1) (.ref it)) :: R)) :
    W prog w base (n + 1) (pyNext (.ref z)) ((z, PZip .none TI TO) :: (TO, PPairA) :: (TI, PPair (.ref i1) (.ref it)) :: (i1, PRIter x left step) :: R) Q := .mk fun A s hA RR => by
  obtain ⟨o, hz, rfl⟩ := RR.get (a := z) List.mem_cons_self
  obtain ⟨o, hTI, rfl⟩ := RR.get (a := TI) (List.mem_cons_of_mem _ (List.mem_cons_of_mem _ List.mem_cons_self))
  obtain ⟨o, h1, rfl⟩ := RR.get (a := i1) (List.mem_cons_of_mem _ (List.mem_cons_of_mem _ (List.mem_cons_of_mem _ List.mem_cons_self)))
  obtain ⟨o, hTO, p, q, rfl⟩ := RR.get (a := TO) (List.mem_cons_of_mem _ List.mem_cons_self)
  have hT : s.TypeIs (.ref z) "zip" := ⟨_, hz, rfl⟩
  have hnd := RR.nodup
  simp only [List.map_cons, List.nodup_cons, List.mem_cons, not_or] at hnd
  have i1z : i1 ≠ z := fun e => hnd.1.2.2.1 e.symm
  unfold pyNext
  refine wpAny_bind (wpAny_attempt (wpAny_callSpecial?_slot (name := Str.ofString "__next__") hT F.slot_zip_next
    (wpAny_call_entry F.slot_zip_next hT F.entry_zip_next ?_ (F.args_zip_next_1 _))))
  show wpAny _ _ (field (.ref z) 2 >>= _) _ _ _
  refine wpAny_bind (wpAny_field hz rfl (x := .bool false) rfl ?_)
  show wpAny _ _ (field (.ref z) 3 >>= _) _ _ _
  refine wpAny_bind (wpAny_field hz rfl (x := .ref TI) rfl ?_)
  refine wpAny_bind (wpAny_seqItems hTI rfl ?_)
  show wpAny _ _ (Builtin.SmallTypes.ownedTupleIsFree (.ref z) >>= _) _ _ _
  refine wpAny_bind ?_
  unfold Builtin.SmallTypes.ownedTupleIsFree
  refine wpAny_bind (wpAny_field hz rfl (x := .none) rfl (wpAny_pure ?_))
  simp only [if_true]
  refine wpAny_bind (wpAny_rule ?_)
  refine wpAny_bind (wpAny_field hz rfl (x := .ref TO) rfl ?_)
  refine wpAny_bind (wpAny_setField_rec hz (by simp) fun h₁ hz₁ hs₁ => ?_)
  replace hz₁ : IsZip h₁ z TI TO .ellipsis := hz₁
  refine wpAny_bind ?_
  simp only [List.zipIdx_cons, List.zipIdx_nil, List.forIn_cons, List.forIn_nil]
  refine wpAny_bind (wpAny_bind (wpAny_onRaise ?_))
  show wpAny _ _ (Builtin.SmallTypes.nextOf (.ref i1) >>= _) _ _ _
  refine wpAny_bind (nextOf_range_end hA.handled (hs₁.extBut _ _ i1z h1) h0 fun h₂ e hs₂ he => ?_)
  obtain ⟨oe, hoe, hce⟩ := he
  have hz₂ : IsZip h₂ z TI TO .ellipsis := hs₂ _ _ i1z.symm hz₁
  have hez : e ≠ z := fun x => by subst x; rw [hz₂] at hoe; cases hoe; simp at hce
  refine wpAny_setField_rec hz₂ (by simp) fun h₃ _ hs₃ => ?_
  refine wpAny_bind (wpAny_isInstance (T := "StopIteration") (b := true) ⟨oe, hs₃.extBut _ _ hez hoe, hce⟩ isSubtype_stop ?_)
  refine wpAny_pure ⟨_, h₃, s.toks, rfl, ?_, h⟩
  have keep : ∀ c o, c ≠ z → c ≠ i1 → s.heap.get? c = some o → h₃.get? c = some o := fun c o c1 c2 x => hs₃.extBut _ _ c1 (hs₂ _ _ c2 (hs₁.extBut _ _ c1 x))
  refine ⟨fun b o e => ?_, fun p hp => ?_, fun p hp => ?_, ?_, RR.last⟩
  · refine keep b o (fun q => ?_) (fun q => ?_) (RR.keep b o e)
    · rw [q, RR.gone (P := PZip .none TI TO) List.mem_cons_self] at e; cases e
    · rw [q, RR.gone (P := PRIter x left step) (List.mem_cons_of_mem _ (List.mem_cons_of_mem _ (List.mem_cons_of_mem _ List.mem_cons_self)))] at e; cases e
  · have hm : p ∈ (z, PZip .none TI TO) :: (TO, PPairA) :: (TI, PPair (.ref i1) (.ref it)) :: (i1, PRIter x left step) :: R := by
      rcases List.mem_cons.mp hp with rfl | hp
      · simp
      · rcases List.mem_cons.mp hp with rfl | hp
        · simp
        · simp [hp]
    obtain ⟨o, e, po⟩ := RR.mem p hm
    refine ⟨o, keep _ o ?_ ?_ e, po⟩
    · rintro rfl
      rcases List.mem_cons.mp hp with rfl | hp
      · exact hnd.1.1 rfl
      · rcases List.mem_cons.mp hp with rfl | hp
        · exact hnd.1.2.1 rfl
        · exact hnd.1.2.2.2 (List.mem_map_of_mem hp)
    · intro q
      rcases List.mem_cons.mp hp with rfl | hp
      · exact hnd.2.1.2.1 q
      · rcases List.mem_cons.mp hp with rfl | hp
        · exact hnd.2.2.1.1 q
        · exact hnd.2.2.2.1 (q ▸ List.mem_map_of_mem hp)
  · refine RR.fresh p ?_
    rcases List.mem_cons.mp hp with rfl | hp
    · simp
    · rcases List.mem_cons.mp hp with rfl | hp
      · simp
      · simp [hp]
  · simp only [List.map_cons, List.nodup_cons, List.mem_cons, not_or]
    exact ⟨⟨hnd.2.1.1, hnd.2.1.2.2⟩, hnd.2.2.1.2, hnd.2.2.2.2⟩
theorem WC.perm {c : Code} {S' : Led} {Q : FQ} (h : WC prog w base n c S' Q) (hs : S'.Perm S) : WC prog w base n c S Q := .mk fun A s hA R => h.run A s hA (R.perm hs)
end
end
section
open PySem PySem.W PyProof.Rows PySem.Calls PySem.Spec
set_option linter.all false
set_option maxRecDepth 100000
set_option maxHeartbeats 1000000
section
variable {prog : Program} {w : World} {base : Heap} {n : Nat} {S : Led} {env : Env} {L : Addr} {ls gs : List Str} {cs fs : List (Str × Addr)}
theorem W.pk {α : Type} {t : Sem α} {S' : Led} {Q : α → Led → Prop} (h : W prog w base n t S' Q) (hs : Pk S' S) : W prog w base n t S Q := .mk fun A s hA R => h.run A s hA (R.pk hs)
theorem WC.pk {c : Code} {S' : Led} {Q : FQ} (h : WC prog w base n c S' Q) (hs : Pk S' S) : WC prog w base n c S Q := .mk fun A s hA R => h.run A s hA (R.pk hs)
theorem W.post {α : Type} {t : Sem α} {Q Q' : α → Led → Prop} (h : W prog w base n t S Q') (hq : ∀ a S', Q' a S' → ∃ S'', Pk S'' S' ∧ Q a S'') : W prog w base n t S Q := .mk fun A s hA R => wpAny_mono (h.run A s hA R) (fun a s' p => by
  obtain ⟨S', h', k', e, R', q⟩ := p
  obtain ⟨S'', hp, q⟩ := hq a S' q
  exact ⟨S'', h', k', e, R'.pk hp, q⟩) fun _ _ x => x
theorem WC.post {c : Code} {Q Q' : FQ} (h : WC prog w base n c S Q') (hq : ∀ a S', Q' a S' → ∃ S'', Pk S'' S' ∧ Q a S'') : WC prog w base n c S Q := .mk fun A s hA R => codeAny_mono (h.run A s hA R) fun r s' p => by
  cases r with
  | error e => exact p
  | ok a =>
    obtain ⟨S', h', k', e, R', q⟩ := p
    obtain ⟨S'', hp, q⟩ := hq a S' q
    exact ⟨S'', h', k', e, R'.pk hp, q⟩
theorem x_Try {body orelse : List Stmt} {h₀ : ExceptHandler} {hs : List ExceptHandler} {pos : Pos} {Q : FQ} (h : W prog w base n (execs body env) S (Sq prog w base n orelse env Q)) :
    W prog w base n (exec (.Try body (h₀ :: hs) orelse [] pos) env) S Q := .mk fun A s hA R => by
  refine wpAny_Try_except (wpAny_mono (h.run A s hA R) (fun f s₁ p => ?_) fun _ _ x => x.elim)
  obtain ⟨S₁, h₁, k₁, rfl, R₁, q⟩ := p
  cases f with
  | next => exact W.at q hA rfl R₁
  | brk => exact ⟨S₁, h₁, k₁, rfl, R₁, q⟩
  | cont => exact ⟨S₁, h₁, k₁, rfl, R₁, q⟩
  | ret v => exact ⟨S₁, h₁, k₁, rfl, R₁, q⟩
theorem c_iter {l : Addr} {xs : List AV} {v : Value} {Q : AV → Led → Prop} (hv : VR (.val (.ref l)) v) (hm : (l, PList xs) ∈ S) (h : ∀ it, Q (.val (.ref it)) ((it, PLIter l 0) :: S)) : WV prog w base (n + 1) (call (.builtin "iter") [v]) S Q := .mk fun A s hA R => by
  obtain rfl : v = .ref l := hv
  refine call_function_entry (by decide +kernel) (by decide +kernel) kdk_entry_iter (kdk_args_iter _) ?_
  unfold Builtin.«iter»
  refine wpAny_bind (m := someArgs "iter" 1 2 _) (wpAny_of_eq (a := [Value.ref l]) (by first | rfl | kernel_rfl!) ?_)
  show wpAny _ _ (pyIter (.ref l) >>= _) _ _ _
  refine wpAny_bind (wpAny_mono ((it_list (prog := prog) (w := w) (n := n) (Q := Q) hm h _ rfl).run _ _ hA.in1 R) (fun it s₁ p => ?_) fun _ _ x => x.elim)
  obtain ⟨S₁, h₁, k₁, rfl, R₁, q⟩ := p
  exact wpAny_pure ⟨_, rfl, S₁, h₁, k₁, rfl, R₁, q⟩
theorem lo_list {elts : List Expr} {x1 : Nat} {pos : Pos} {I l t : Addr} {i : Nat} {Q : Unit → Led → Prop} (hm : (I, PLIter l i) ∈ S) (h : Q () S) : W prog w base n (letOwnedTupleGo (.Tuple elts x1 pos) (.ref I) (.ref t)) S Q := .mk fun A s hA R => by
  obtain ⟨⟨cls, dict, data, slots⟩, e, h1, h2⟩ := R.get hm
  obtain rfl : cls = .type "list_iterator" := h1
  obtain rfl : data = .fields #[.ref l, .int i 0] := h2
  unfold letOwnedTupleGo
  refine wpAny_bind (wpAny_load e ?_)
  show wpAny _ _ (if (["enumerate", "zip", "dict_itemiterator", "dict_reverseitemiterator", "odict_iterator", "itertools.zip_longest", "itertools.pairwise"].contains "list_iterator" && _) = true then _ else _) _ _ _
  rw [if_neg (by simp)]
  exact wpAny_pure (Post.self R h)
theorem o_isub {a b : Int} {Q : AV → Led → Prop} (h : Q (.int (a - b)) S) : L2 prog w base n (inplaceOp .Sub) (.int a) (.int b) S Q := by
  rintro va vb ⟨t, rfl⟩ ⟨u, rfl⟩
  exact .mk fun A s hA R => PySem.P.isub_int (Post.tok R ⟨_, vInt, h⟩)
end
end
section
open PySem PySem.W PyProof.Rows PySem.Calls PySem.Spec
set_option linter.all false
set_option maxRecDepth 100000
set_option maxHeartbeats 1000000
section
variable {prog : Program} {w : World} {base : Heap} {n : Nat} {S : Led} {env : Env}
noncomputable def PartOk : Option Int → Value → Prop
  | none, v => v = .none
  | some i, v => ∃ t, v = .int i t
noncomputable def PSlice (l u : Option Int) : OP := fun o => o.cls = .type "slice" ∧ ∃ vl vu, o.data = .fields #[vl, vu, .none] ∧ PartOk l vl ∧ PartOk u vu
theorem ev_SlUp {e : Expr} {p : Pos} {Q : AV → Led → Prop} (h : WV prog w base n (eval e env) S (fun b S₁ => ∃ k : Int, b = .int k ∧ ∀ sl, Q (.val (.ref sl)) ((sl, PSlice none (some k)) :: S₁))) : WV prog w base n (eval (.Slice none (some e) none p) env) S Q := .mk fun A s hA R => by
  refine wpAny_Slice (wpAny_evalPart_none (wpAny_evalPart_some (wpAny_mono (h.run A s hA R) (fun vu s₂ p => wpAny_evalPart_none ?_) fun _ _ x => x)))
  obtain ⟨S₂, h₂, k₂, rfl, R₂, b, rb, k, rfl, q⟩ := p
  obtain ⟨t, rfl⟩ := rb
  exact ⟨_, _, _, rfl, R₂.push (P := PSlice none (some k)) ⟨rfl, _, _, rfl, rfl, t, rfl⟩, .val (.ref _), rfl, q _⟩
theorem ev_SlFrom {e : Expr} {p : Pos} {Q : AV → Led → Prop} (h : WV prog w base n (eval e env) S (fun b S₁ => ∃ k : Int, b = .int k ∧ ∀ sl, Q (.val (.ref sl)) ((sl, PSlice (some k) none) :: S₁))) : WV prog w base n (eval (.Slice (some e) none none p) env) S Q := .mk fun A s hA R => by
  refine wpAny_Slice (wpAny_evalPart_some (wpAny_mono (h.run A s hA R) (fun vu s₂ p => wpAny_evalPart_none (wpAny_evalPart_none ?_)) fun _ _ x => x))
  obtain ⟨S₂, h₂, k₂, rfl, R₂, b, rb, k, rfl, q⟩ := p
  obtain ⟨t, rfl⟩ := rb
  exact ⟨_, _, _, rfl, R₂.push (P := PSlice (some k) none) ⟨rfl, _, _, rfl, ⟨t, rfl⟩, rfl⟩, .val (.ref _), rfl, q _⟩
theorem ev_SlBoth {e f : Expr} {p : Pos} {Q : AV → Led → Prop} (h : WV prog w base n (eval e env) S (fun b S₁ => ∃ k : Int, b = .int k ∧ WV prog w base n (eval f env) S₁ (fun c S₂ => ∃ m : Int, c = .int m ∧ ∀ sl, Q (.val (.ref sl)) ((sl, PSlice (some k) (some m)) :: S₂)))) : WV prog w base n (eval (.Slice (some e) (some f) none p) env) S Q := .mk fun A s hA R => by
  refine wpAny_Slice (wpAny_evalPart_some (wpAny_mono (h.run A s hA R) (fun vu s₂ p => ?_) fun _ _ x => x))
  obtain ⟨S₂, h₂, k₂, rfl, R₂, b, rb, k, rfl, q⟩ := p
  obtain ⟨t, rfl⟩ := rb
  refine wpAny_evalPart_some (wpAny_mono (q.run A _ hA R₂) (fun vu s₂ p => wpAny_evalPart_none ?_) fun _ _ x => x)
  obtain ⟨S₃, h₃, k₃, rfl, R₃, b, rb, m, rfl, q⟩ := p
  obtain ⟨u, rfl⟩ := rb
  exact ⟨_, _, _, rfl, R₃.push (P := PSlice (some k) (some m)) ⟨rfl, _, _, rfl, ⟨t, rfl⟩, ⟨u, rfl⟩⟩, .val (.ref _), rfl, q _⟩
theorem g_slUp {value e : Expr} {p : Pos} {l sl : Addr} {xs : List AV} {k : Nat} {Q : AV → Led → Prop} (hL : LAt base S l xs) (hs : (sl, PSlice none (some (k : Int))) ∈ S) (hl : xs.length ≤ 1000) (h : ∀ l', Q (.val (.ref l')) ((l', PList (xs.take k)) :: S)) :
    L2 prog w base n (subscriptTail value (.Slice none (some e) none p)) (.val (.ref l)) (.val (.ref sl)) S Q := by
  rintro va vb r1 r2
  rw [show va = .ref l from r1, show vb = .ref sl from r2]
  refine .mk fun A s hA R => ?_
  obtain ⟨o, eo, hc, vl, vu, hd, hl', t, hu⟩ := R.get hs
  obtain rfl : vl = .none := hl'
  subst hu
  obtain ⟨vs, hll, hv⟩ := hL _ R
  have hlv := hv.length
  refine tail_any hll.typeIs slot_list_get (wpAny_getItem_list_slice hll ⟨o, eo, hc, hd⟩ .none (.int _ _) .none (by decide) ?_ (by rw [List.size_toArray, sizeLine_eq]; lia)) rfl
  have R₄ := R.push (P := PList (xs.take k)) (o := { cls := .type "list", data := .seq (slicePick (List.toArray vs) none (some (k : Int)) none) }) ⟨vs.take k, 0, by rw [slicePick_upto'], hv.take k⟩
  exact ⟨_, _, _, rfl, R₄, .val (.ref _), rfl, h _⟩
end
/-! two smallest of a list, by rank -/
section
variable {α : Type} {r : α → Int}
theorem sorted_head {m : α} {rest so : List α} (hp : so.Perm (m :: rest)) (hs : (so.map r).Pairwise (· < ·)) (hm : ∀ z ∈ rest, r m < r z) : ∃ t, so = m :: t ∧ t.Perm rest ∧ (t.map r).Pairwise (· < ·) := by
  cases so with
  | nil => exact absurd hp.length_eq (by simp)
  | cons x t =>
    have hx : x ∈ m :: rest := hp.mem_iff.mp (.head _)
    have hmm : m ∈ x :: t := hp.mem_iff.mpr (.head _)
    rw [List.map_cons, List.pairwise_cons] at hs
    have e : x = m := by
      rcases List.mem_cons.mp hx with rfl | hx
      · rfl
      · rcases List.mem_cons.mp hmm with rfl | hmm
        · rfl
        · have h1 := hm x hx
          have h2 := hs.1 (r m) (List.mem_map_of_mem hmm)
          lia
    subst e
    exact ⟨t, rfl, hp.cons_inv, hs.2⟩
theorem sorted_uniq : ∀ {a b : List α}, a.Perm b → (a.map r).Pairwise (· < ·) → (b.map r).Pairwise (· < ·) → a = b
  | a, [], hp, _, _ => hp.eq_nil
  | a, y :: b, hp, ha, hb => by
    rw [List.map_cons, List.pairwise_cons] at hb
    obtain ⟨t, rfl, ht, hts⟩ := sorted_head hp ha fun z hz => hb.1 _ (List.mem_map_of_mem hz)
    rw [sorted_uniq ht hts hb.2]
theorem two_least {so zs rest : List α} {a b : α} (hp : so.Perm zs) (hs : (so.map r).Pairwise (· < ·)) (hz : zs.Perm (b :: a :: rest)) (hba : r b < r a) (hr : ∀ z ∈ rest, r a < r z) : so.take 2 = [b, a] := by
  obtain ⟨t, rfl, ht, hts⟩ := sorted_head (hp.trans hz) hs fun z hz => by
    rcases List.mem_cons.mp hz with rfl | hz
    · exact hba
    · have := hr z hz; lia
  obtain ⟨u, rfl, _, _⟩ := sorted_head ht hts hr
  rfl
theorem suF_two {lt : α → α → Bool} {d x b : α} : suF lt d [x, b] 0 = if lt x b = true then [x, b] else [b, x] := by
  cases h : lt x b <;> simp [suF, suLoop, kid, sdF, h]
theorem hfF_two {lt : α → α → Bool} {d x b : α} : hfF lt d 1 [x, b] = if lt x b = true then [x, b] else [b, x] := suF_two
end
end
section
open PySem PySem.W PyProof.Rows PySem.Calls PySem.Spec
set_option linter.all false
set_option maxRecDepth 100000
set_option maxHeartbeats 2000000
section
variable {prog : Program} {w : World} {base : Heap} {n : Nat} {S : Led} {gl : List (Str × AV)} {bl : List (Str × Value)} {a : Addr}
theorem Sel.pre {e : Addr × OP} {S R : Led} : ∀ (pre : Led), Sel e S R → Sel e (pre ++ S) (pre ++ R)
  | [], h => h
  | _ :: r, h => .tail (Sel.pre r h)
theorem Wk.pre {S' S : Led} : ∀ (pre : Led), Wk S' S → Wk (pre ++ S') (pre ++ S)
  | [], h => h
  | _ :: r, h => .keep (Wk.pre r h)
theorem ltOk_self {Sf : List AV → Led} {El : Tp → Prop} (h : ∀ x xs, El x → ElT (Sf xs) x) (hi : ∀ x y, El x → El y → rTp x = rTp y → x.i = y.i) : LtOk prog w base Sf eTp El (ltR rTp) := ltOk_tp h hi
theorem take_succ {zs : List It} {m : Nat} {z : It} (h : zs[m]? = some z) : zs.take (m + 1) = zs.take m ++ [z] := by
  rw [List.take_succ, h]; rfl
/-- one more, kept out -/
theorem step_out {zs rest : List It} {m : Nat} {z a b : It} (h : zs[m]? = some z) (hp : (zs.take m).Perm (b :: a :: rest)) : (zs.take (m + 1)).Perm (b :: a :: z :: rest) := by
  rw [take_succ h]
  refine (hp.append_right [z]).trans ?_
  show (b :: a :: (rest ++ [z])).Perm _
  exact (((List.perm_append_comm (l₁ := rest) (l₂ := [z])).cons a).cons b)
/-- one more, put in for the worst -/
theorem step_in {zs rest : List It} {m : Nat} {z a b : It} (h : zs[m]? = some z) (hp : (zs.take m).Perm (b :: a :: rest)) : (zs.take (m + 1)).Perm (z :: b :: a :: rest) := by
  rw [take_succ h]
  exact (hp.append_right [z]).trans List.perm_append_comm

theorem sig_nsm : sigOk (fnScope 45) ["n", "iterable", "key"] ["n", "iterable", "it", "sentinel", "result", "size", "elem", "top", "order", "_heapreplace", "_order", "k", "_elem"] ["key"] ["iter", "len", "sorted", "zip", "range", "_heapify_max", "_heapreplace_max"] = true := by rfl
theorem c_nsm {lh hya hra sua sda : Addr} {zs so : List It} (F : FnIs base a (fnScope 45) ["n", "iterable", "key"] (fnBody 45) [.none]) (T : TopIs base gl bl)
    (b1 : (("iter" : Str), Value.builtin "iter") ∈ bl) (b2 : (("len" : Str), Value.builtin "len") ∈ bl) (b3 : (("sorted" : Str), Value.builtin "sorted") ∈ bl) (b4 : (("zip" : Str), Value.type "zip") ∈ bl) (b5 : (("range" : Str), Value.type "range") ∈ bl) (b6 : (("reversed" : Str), Value.type "reversed") ∈ bl)
    (hsd : (("_siftdown_max" : Str), AV.val (.ref sda)) ∈ gl) (hsu : (("_siftup_max" : Str), AV.val (.ref sua)) ∈ gl) (hhy : (("_heapify_max" : Str), AV.val (.ref hya)) ∈ gl) (hhr : (("_heapreplace_max" : Str), AV.val (.ref hra)) ∈ gl)
    (FU : FnIs base sua (fnScope 44) ["heap", "pos"] (fnBody 44) []) (FD : FnIs base sda (fnScope 43) ["heap", "startpos", "pos"] (fnBody 43) []) (FH : FnIs base hya (fnScope 40) ["x"] (fnBody 40) []) (FR : FnIs base hra (fnScope 39) ["heap", "item"] (fnBody 39) [])
    (hm : (lh, PList (zs.map eIt)) ∈ S) (hz : ∀ x ∈ zs, ElI S x) (h64 : zs.length < 64) (hnd : (zs.map rIt).Nodup) (hso : so.Perm zs) (hss : (so.map rIt).Pairwise (· < ·))
    {v1 v2 : Value} {Q : AV → Led → Prop} (h1 : VR (.int 2) v1) (h2 : VR (.val (.ref lh)) v2) (h : ∀ D, Q (.val (.ref D)) ((D, PList ((so.take 2).map eIt)) :: S)) : WV prog w base (n + 6) (call (.ref a) [v1, v2]) S Q := by
  refine c_call F (das := [.val .none]) ⟨.none, [], rfl, rfl, rfl⟩ sig_nsm (args := [.int 2, .val (.ref lh)]) ⟨v1, _, rfl, h1, v2, [], rfl, h2, rfl⟩ rfl fun env L ads hlen hE => ?_
  obtain ⟨ck, rfl⟩ : ∃ ck, ads = [ck] := List.length_eq_one_iff.mp hlen
  replace hE : EnvOk env L ["n", "iterable", "it", "sentinel", "result", "size", "elem", "top", "order", "_heapreplace", "_order", "k", "_elem"] [("key", ck)] [] ["iter", "len", "sorted", "zip", "range", "_heapify_max", "_heapreplace_max"] := hE
  show W prog w base (n + 5) (execs (fnBody 45) env) ((L, PNs [("n", some (.int 2)), ("iterable", some (.val (.ref lh))), ("it", none), ("sentinel", none), ("result", none), ("size", none), ("elem", none), ("top", none), ("order", none), ("_heapreplace", none), ("_order", none), ("k", none), ("_elem", none)]) :: (ck, PCell (some (.val .none))) :: S) (RetS Q)
  have hrk : ∀ i j (x y : It), zs[i]? = some x → zs[j]? = some y → i ≠ j → rIt x ≠ rIt y := fun i j x y hx hy hne e => by
    have := List.pairwise_iff_getElem.mp hnd
    obtain ⟨hi, rfl⟩ := List.getElem?_eq_some_iff.mp hx
    obtain ⟨hj, rfl⟩ := List.getElem?_eq_some_iff.mp hy
    rcases Nat.lt_or_gt_of_ne hne with q | q
    · exact this i j (by simpa using hi) (by simpa using hj) q (by simpa using e)
    · exact this j i (by simpa using hj) (by simpa using hi) q (by simpa using e.symm)
  refine x_cons <| x_If <| t_Compare <| ev_loc hE (by tb_start) (by tb_start) (by tb_start) <| ev_int <| o_eq <| T1.bool ?_
  rw [if_neg (by decide)]
  refine x_nil <| x_cons <| x_Try <| x_cons <| x_AssignName <| ev_CallB <| ev_blt hE T (by tb_start) b2 ⟨rfl, vs_cons <| ev_loc hE (by tb_start) (by tb_start) (by tb_start) <| vs_nil fun vs hvs => ?_⟩
  refine vrs1 hvs fun v9 h9 => ?_
  refine c_lenList (l := lh) (xs := zs.map eIt) h9 (List.mem_cons_of_mem _ (List.mem_cons_of_mem _ hm)) (by simp; lia) fun v hv => st_loc hE (a := .int zs.length) (by tb_start) (by tb_start) (by tb_start) (by simpa using hv) <| x_nil ?_
  refine x_cons <| x_If <| t_Compare <| ev_loc hE (by tb_start) (by tb_start) (by tb_start) <| ev_loc hE (by tb_start) (by tb_start) (by tb_start) <| o_ge <| T1.bool ?_
  by_cases hle : zs.length ≤ 2
  · rw [if_pos (by simp; lia)]
    refine x_cons <| x_Ret <| ev_Sub <| ev_CallBK (id := "sorted") ?_
    refine ev_blt hE T (by tb_start) b3 ⟨rfl, vs_cons <| ev_loc hE (by tb_start) (by tb_start) (by tb_start) <| vs_nil fun vs hvs => ?_⟩
    refine kw_cons <| ev_cell hE (by tb_start) (by tb_start) <| kw_nil fun kvs hk => ?_
    refine vrs1 hvs fun v8 h8 => ?_
    obtain ⟨k1, _, rfl, rfl, rfl⟩ := hk
    refine c_sorted (kw := [("key", .none)]) (b := false) h8 (.own (List.mem_cons_of_mem _ (List.mem_cons_of_mem _ hm))) (fun x hx => (hz x hx).imp (fun q => List.mem_cons_of_mem _ (List.mem_cons_of_mem _ q)) id) h64 (fun d i j hi hj hne => ?_) (fun _ => ksk_s1 _ _) (fun _ => ksk_l1 _ _) srt_k fun D out hop hos => ?_
    · exact hrk i j _ _ (by simp [hi]) (by simp [hj]) hne
    · obtain rfl : so = out := sorted_uniq (r := rIt) (hso.trans hop.symm) hss (by simpa [List.pairwise_map] using hos)
      refine ev_SlUp <| ev_loc hE (by tb_start) (by tb_start) (by tb_start) ⟨2, rfl, fun sl => g_slUp (k := 2) (.own (List.mem_cons_of_mem _ List.mem_cons_self)) List.mem_cons_self (by simp [hso.length_eq]; lia) fun l' => fun v hv => ret_end hv (S' := (l', PList ((so.map eIt).take 2)) :: S) (.keep (.skip (.skip (.skip (.skip (.refl _)))))) (by rw [← List.map_take]; exact h l')⟩
  · rw [if_neg (by simp; lia)]
    obtain ⟨z0, z1, zr, rfl⟩ : ∃ z0 z1 zr, zs = z0 :: z1 :: zr := by
      match zs, hle with
      | z0 :: z1 :: zr, _ => exact ⟨z0, z1, zr, rfl⟩
      | [], hle => simp at hle
      | [_], hle => simp at hle
    refine x_nil ?_
    refine x_nil ?_
    refine x_cons <| x_If <| t_Compare <| ev_cell hE (by tb_start) (by tb_start) <| ev_none <| o_isNone <| T1.bool ?_
    rw [if_pos (by rfl)]
    refine x_cons <| x_AssignName <| ev_CallB <| ev_blt hE T (by tb_start) b1 ⟨rfl, vs_cons <| ev_loc hE (by tb_start) (by tb_start) (by tb_start) <| vs_nil fun vs hvs => ?_⟩
    refine vrs1 hvs fun v8 h8 => ?_
    refine c_iter h8 (List.mem_cons_of_mem _ (List.mem_cons_of_mem _ hm)) fun it v hv => st_loc hE (by tb_start) (by tb_start) (by tb_start) hv ?_
    refine x_cons <| x_AssignComp hE (by tb_start) (by rfl) (lsC := ["i", "elem"]) (frs := []) (gsC := []) (by rfl) (by intro p hp; cases hp) ?_
    refine ev_CallT <| ev_blt hE T (by tb_start) b4 ⟨rfl, vs_cons <| ev_CallT <| ev_blt hE T (by tb_start) b5 ⟨rfl, vs_cons <| ev_loc hE (by tb_start) (by tb_start) (by tb_start) <| vs_nil fun vs hvs => ?_⟩⟩
    refine vrs1 hvs fun v7 h7 => ?_
    refine c_range1 h7 fun rg => vs_cons <| ev_loc hE (by tb_start) (by tb_start) (by tb_start) <| vs_nil fun vs hvs => ?_
    refine vrs2 hvs fun v6 h6 v5 h5 => ?_
    refine c_zip h6 h5 (by tb_start) (by decide) (l := lh) (k := 0) (by tb_start) fun z TO TI i1 => it_zip (by tb_start) ⟨z, rfl, fun S' Q hS q => it_zip (hS _ List.mem_cons_self) q, fun acc C cenv hC => ?_⟩
    refine WC.post (Q' := fun f S' => f = .next ∧ ∃ (t0 t1 : Tp) (pre : Led), t0.it = z0 ∧ t1.it = z1 ∧ (t0.p, PTup [.val (.ref t0.it.a), .int t0.i]) ∈ pre ∧ (t1.p, PTup [.val (.ref t1.it.a), .int t1.i]) ∈ pre ∧ S' = (TO, PPairA) :: (TI, PPair (.ref i1) (.ref it)) :: (pre ++
        (C, PNs [("i", none), ("elem", none)]) :: (acc, PList [eTp t0, eTp t1]) :: (rg, PRange 0 2 1) :: (it, PLIter lh 2) :: (L, PNs [("n", some (.int 2)), ("iterable", some (.val (.ref lh))), ("it", some (.val (.ref it))), ("sentinel", none), ("result", none), ("size", some (.int ((z0 :: z1 :: zr).length : Nat))), ("elem", none), ("top", none), ("order", none), ("_heapreplace", none), ("_order", none), ("k", none), ("_elem", none)]) :: (ck, PCell (some (.val .none))) :: S)) ?_ ?_
    · -- the comprehension's two turns
      refine WC.pk (S' := (z, PZip .none TI TO) :: (TO, PPairA) :: (TI, PPair (.ref i1) (.ref it)) :: (i1, PRIter 0 2 1) :: ([] ++ (C, PNs [("i", none), ("elem", none)]) :: (acc, PList []) :: (rg, PRange 0 2 1) :: (it, PLIter lh 0) :: (L, PNs [("n", some (.int 2)), ("iterable", some (.val (.ref lh))), ("it", some (.val (.ref it))), ("sentinel", none), ("result", none), ("size", some (.int ((z0 :: z1 :: zr).length : Nat))), ("elem", none), ("top", none), ("order", none), ("_heapreplace", none), ("_order", none), ("k", none), ("_elem", none)]) :: (ck, PCell (some (.val .none))) :: S)) ?_ (by rw [show Builtin.Range.rangeSize 0 2 1 = 2 from rfl]; dsimp only [List.map]; show Pk (_ :: _ :: _ :: _ :: _ :: _ :: _ :: _ :: _ :: _ :: S) _; tb_start)
      refine wc_compPair (fun k S' => ∃ (ts : List Tp) (pre : Led), k ≤ 2 ∧ ts.map (·.it) = [z0, z1].take (2 - k) ∧ (∀ t ∈ ts, (t.p, PTup [.val (.ref t.it.a), .int t.i]) ∈ pre) ∧ S' = (z, PZip .none TI TO) :: (TO, PPairA) :: (TI, PPair (.ref i1) (.ref it)) :: (i1, PRIter (((2 - k : Nat) : Int) * 1) (k : Int) 1) :: (pre ++
        (C, PNs [("i", none), ("elem", none)]) :: (acc, PList (ts.map eTp)) :: (rg, PRange 0 2 1) :: (it, PLIter lh (2 - k)) :: (L, PNs [("n", some (.int 2)), ("iterable", some (.val (.ref lh))), ("it", some (.val (.ref it))), ("sentinel", none), ("result", none), ("size", some (.int ((z0 :: z1 :: zr).length : Nat))), ("elem", none), ("top", none), ("order", none), ("_heapreplace", none), ("_order", none), ("k", none), ("_elem", none)]) :: (ck, PCell (some (.val .none))) :: S)) ?_ 2 ⟨[], [], Nat.le_refl _, rfl, (by intro t ht; cases ht), rfl⟩
      rintro k S' ⟨ts, pre, hk, hts, htp, rfl⟩
      cases k with
      | zero =>
        refine nx_zip_end (by decide) ?_
        obtain ⟨t0, t1, rfl⟩ : ∃ t0 t1, ts = [t0, t1] := by
          have := congrArg List.length hts
          match ts, this with
          | [t0, t1], _ => exact ⟨t0, t1, rfl⟩
        simp only [List.map_cons, List.map_nil, Nat.sub_zero, List.take_succ_cons, List.take_zero, List.cons.injEq, and_true] at hts
        refine ⟨rfl, t0, t1, pre, hts.1, hts.2, htp t0 (by simp), htp t1 (by simp), rfl⟩
      | succ k =>
        obtain ⟨zk, hzk⟩ : ∃ zk, (z0 :: z1 :: zr)[2 - (k + 1)]? = some zk := ⟨_, List.getElem?_eq_getElem (by simp; lia)⟩
        have hlz : (lh, PList ((z0 :: z1 :: zr).map eIt)) ∈ (pre ++ (C, PNs [("i", none), ("elem", none)]) :: (acc, PList (ts.map eTp)) :: (rg, PRange 0 2 1) :: (it, PLIter lh (2 - (k + 1))) :: (L, PNs [("n", some (.int 2)), ("iterable", some (.val (.ref lh))), ("it", some (.val (.ref it))), ("sentinel", none), ("result", none), ("size", some (.int ((z0 :: z1 :: zr).length : Nat))), ("elem", none), ("top", none), ("order", none), ("_heapreplace", none), ("_order", none), ("k", none), ("_elem", none)]) :: (ck, PCell (some (.val .none))) :: S) := List.mem_append_right _ (List.mem_cons_of_mem _ (List.mem_cons_of_mem _ (List.mem_cons_of_mem _ (List.mem_cons_of_mem _ (List.mem_cons_of_mem _ (List.mem_cons_of_mem _ hm))))))
        refine nx_zip (a := eIt zk) (k := 2 - (k + 1)) (by lia) hlz (by rw [List.getElem?_map, hzk]; rfl) (Upd.pre (.tail (.tail (.tail .head))) pre) fun T => lo_zip (by tb_start) <| as_Pair List.mem_cons_self fun va vb ra rb => ?_
        refine st_loc hC (by tb_start) (by tb_start) (by tb_start) ra <| st_loc hC (by tb_start) (by tb_start) (by tb_start) rb ?_
        refine ev_Tuple <| vs_cons <| ev_loc hC (by tb_start) (by tb_start) (by tb_start) <| vs_cons <| ev_loc hC (by tb_start) (by tb_start) (by tb_start) <| vs_nil ⟨(by show 2 ≤ 1000; decide), fun p va hva => ?_⟩
        have e1 : ((2 - (k + 1) : Nat) : Int) * 1 + 1 = ((2 - k : Nat) : Int) * 1 := by lia
        have e2 : (((k + 1 : Nat)) : Int) - 1 = (k : Int) := by lia
        have e3 : 2 - (k + 1) + 1 = 2 - k := by lia
        rw [e1, e2, e3]
        refine W.pk (S' := (z, PZip .none TI TO) :: (TO, PPairA) :: (TI, PPair (.ref i1) (.ref it)) :: (i1, PRIter (((2 - k : Nat) : Int) * 1) (k : Int) 1) :: (p, PTup [eIt zk, .int (((2 - (k + 1) : Nat) : Int) * 1)]) :: (pre ++
          (C, PNs [("i", some (.int (((2 - (k + 1) : Nat) : Int) * 1))), ("elem", some (eIt zk))]) :: (acc, PList (ts.map eTp)) :: (rg, PRange 0 2 1) :: (it, PLIter lh (2 - k)) :: (L, PNs [("n", some (.int 2)), ("iterable", some (.val (.ref lh))), ("it", some (.val (.ref it))), ("sentinel", none), ("result", none), ("size", some (.int ((z0 :: z1 :: zr).length : Nat))), ("elem", none), ("top", none), ("order", none), ("_heapreplace", none), ("_order", none), ("k", none), ("_elem", none)]) :: (ck, PCell (some (.val .none))) :: S)) ?_ (by tb_start)
        refine m_append (a := eTp ⟨p, zk, ((2 - (k + 1) : Nat) : Int) * 1⟩) hva (by tb_start) (by simp; have := congrArg List.length hts; simp at this; lia) ?_
        refine ⟨k, by lia, (z, PZip .none TI TO) :: (TO, PPairA) :: (TI, PPair (.ref i1) (.ref it)) :: (i1, PRIter (((2 - k : Nat) : Int) * 1) (k : Int) 1) :: (((p, PTup [eIt zk, .int (((2 - (k + 1) : Nat) : Int) * 1)]) :: pre) ++
          (C, PNs [("i", none), ("elem", none)]) :: (acc, PList (ts.map eTp ++ [eTp ⟨p, zk, ((2 - (k + 1) : Nat) : Int) * 1⟩])) :: (rg, PRange 0 2 1) :: (it, PLIter lh (2 - k)) :: (L, PNs [("n", some (.int 2)), ("iterable", some (.val (.ref lh))), ("it", some (.val (.ref it))), ("sentinel", none), ("result", none), ("size", some (.int ((z0 :: z1 :: zr).length : Nat))), ("elem", none), ("top", none), ("order", none), ("_heapreplace", none), ("_order", none), ("k", none), ("_elem", none)]) :: (ck, PCell (some (.val .none))) :: S), .keep (.keep (.keep (.keep (.keep (.app (.ns (by tb_start) (.refl _))))))), ts ++ [⟨p, zk, ((2 - (k + 1) : Nat) : Int) * 1⟩], (p, PTup [eIt zk, .int (((2 - (k + 1) : Nat) : Int) * 1)]) :: pre, by lia, ?_, ?_, by rw [List.map_append]; rfl⟩
        · rw [List.map_append, hts]
          have : k = 0 ∨ k = 1 := by lia
          rcases this with rfl | rfl
          · obtain rfl : z1 = zk := by simpa using hzk
            rfl
          · obtain rfl : z0 = zk := by simpa using hzk
            rfl
        · intro t ht
          rcases List.mem_append.mp ht with ht | ht
          · exact List.mem_cons_of_mem _ (htp t ht)
          · obtain rfl := List.mem_singleton.mp ht
            exact List.mem_cons_self
    · rintro f S' ⟨rfl, t0, t1, pre, ht0, ht1, hp0, hp1, rfl⟩
      refine ⟨(C, PNs [("i", none), ("elem", none)]) :: (pre ++ (acc, PList [eTp t0, eTp t1]) :: (rg, PRange 0 2 1) :: (it, PLIter lh 2) :: (L, PNs [("n", some (.int 2)), ("iterable", some (.val (.ref lh))), ("it", some (.val (.ref it))), ("sentinel", none), ("result", none), ("size", some (.int ((z0 :: z1 :: zr).length : Nat))), ("elem", none), ("top", none), ("order", none), ("_heapreplace", none), ("_order", none), ("k", none), ("_elem", none)]) :: (ck, PCell (some (.val .none))) :: S), by tb_start, ⟨_, _, rfl⟩, ?_⟩
      refine st_loc hE (by tb_start) (by tb_start) (by tb_start) (a := .val (.ref acc)) rfl ⟨_, _, rfl, ?_⟩
      refine x_cons <| x_If <| t_Not <| t_val <| ev_loc hE (by tb_start) (by tb_start) (by tb_start) <| T1.list (xs := [eTp t0, eTp t1]) (by tb_start) (by simp) ?_
      rw [if_neg (by simp)]
      refine x_nil <| x_cons <| x_Expr hE <| ev_CallDef FH.isDef <| ev_glob hE T (by tb_start) hhy ⟨rfl, vs_cons <| ev_loc hE (by tb_start) (by tb_start) (by tb_start) <| vs_nil fun vs hvs => ?_⟩
      refine vrs1 hvs fun v4 h4 => ?_
      have hz0 : ElI S z0 := hz _ (by simp)
      have hz1 : ElI S z1 := hz _ (by simp)
      have h01 : rIt z0 ≠ rIt z1 := hrk 0 1 z0 z1 rfl rfl (by decide)
      refine c_heapifym (n := n + 2) (Sf := fun xs => pre ++ (acc, PList xs) :: (rg, PRange 0 2 1) :: (it, PLIter lh 2) :: (L, PNs [("n", some (.int 2)), ("iterable", some (.val (.ref lh))), ("it", some (.val (.ref it))), ("sentinel", none), ("result", some (.val (.ref acc))), ("size", some (.int ((z0 :: z1 :: zr).length : Nat))), ("elem", none), ("top", none), ("order", none), ("_heapreplace", none), ("_order", none), ("k", none), ("_elem", none)]) :: (ck, PCell (some (.val .none))) :: S) (e := eTp) (El := fun x => x = t0 ∨ x = t1) (lt := ltR rTp) (zs := [t0, t1]) ⟨fun _ _ => by tb_start⟩
        (ltOk_tp (fun x xs hx => ?_) fun x y hx hy e => ?_) FH T b2 b6 b5 hsd hsu FU FD t0 h4 (by simp) (fun x hx => by simpa using hx) ?_
      · rcases hx with rfl | rfl
        · exact ⟨List.mem_append_left _ hp0, (by rw [ht0]; exact hz0.imp (fun q => by tb_start) id)⟩
        · exact ⟨List.mem_append_left _ hp1, (by rw [ht1]; exact hz1.imp (fun q => by tb_start) id)⟩
      · rcases hx with rfl | rfl <;> rcases hy with rfl | rfl <;> first | rfl | (exfalso; unfold rTp at e; rw [ht0, ht1] at e; lia)
      rw [show ([t0, t1] : List Tp).length / 2 = 1 by simp, hfF_two]
      have hab : ∃ a b : Tp, (if ltR rTp t1 t0 = true then [t0, t1] else [t1, t0]) = [a, b] ∧ (a.p, PTup [.val (.ref a.it.a), .int a.i]) ∈ pre ∧ (b.p, PTup [.val (.ref b.it.a), .int b.i]) ∈ pre ∧ rIt b.it < rIt a.it ∧ [z0, z1].Perm [b.it, a.it] := by
        by_cases hlt : rTp t1 < rTp t0
        · refine ⟨t0, t1, by rw [if_pos (show ltR rTp t1 t0 = true from decide_eq_true hlt)], hp0, hp1, hlt, ?_⟩
          rw [ht0, ht1]; exact List.Perm.swap _ _ _
        · refine ⟨t1, t0, by rw [if_neg (by simpa [ltR] using hlt)], hp1, hp0, ?_, ?_⟩
          · unfold rTp at hlt; rw [ht0, ht1] at *; lia
          · rw [ht0, ht1]
      obtain ⟨a, b, hif, hpa, hpb, hba, hperm⟩ := hab
      rw [hif, show ([a, b] : List Tp).map eTp = [eTp a, eTp b] from rfl]
      have ha0 : a.it ∈ [z0, z1] := hperm.mem_iff.mpr (by simp)
      have hia : ElI S a.it := by
        rcases List.mem_cons.mp ha0 with e | e
        · rw [e]; exact hz0
        · rw [List.mem_singleton.mp e]; exact hz1
      refine x_cons <| x_AssignName <| ev_Sub <| ev_Sub <| ev_loc hE (by tb_start) (by tb_start) (by tb_start) <| ev_int <| g_list (l := acc) (xs := [eTp a, eTp b]) (k := ((0 : Nat) : Int)) (by tb_start) (by decide) (by decide) (a := eTp a) rfl ?_
      refine ev_int <| g_tup (l := a.p) (xs := [.val (.ref a.it.a), .int a.i]) (k := 0) (j := 0) (List.mem_append_left _ hpa) (by decide) (by decide) rfl rfl fun v hv => st_loc hE (a := eIt a.it) (by tb_start) (by tb_start) (by tb_start) hv ?_
      refine x_cons <| x_AssignName <| ev_loc hE (by tb_start) (by tb_start) (by tb_start) fun v hv => st_loc hE (by tb_start) (by tb_start) (by tb_start) hv ?_
      refine x_cons <| x_AssignName <| ev_glob hE T (by tb_start) hhr fun v hv => st_loc hE (by tb_start) (by tb_start) (by tb_start) hv ?_
      refine x_cons <| x_For <| ev_loc hE (by tb_start) (by tb_start) (by tb_start) <| it_liter (l := lh) (i := 2) (by tb_start) fun vi hvi => ?_
      obtain rfl : vi = .ref it := hvi
      refine wc_for (fun k S' => ∃ (m : Nat) (a b : Tp) (pre : Led) (rest : List It) (o : Int) (oe oo : Option AV), m + k = (z0 :: z1 :: zr).length ∧ 2 ≤ m ∧ (a.p, PTup [.val (.ref a.it.a), .int a.i]) ∈ pre ∧ (b.p, PTup [.val (.ref b.it.a), .int b.i]) ∈ pre ∧
        ((z0 :: z1 :: zr).take m).Perm (b.it :: a.it :: rest) ∧ rIt b.it < rIt a.it ∧ (∀ z ∈ rest, rIt a.it < rIt z) ∧
        S' = pre ++ (acc, PList [eTp a, eTp b]) :: (rg, PRange 0 2 1) :: (it, PLIter lh m) :: (L, PNs [("n", some (.int 2)), ("iterable", some (.val (.ref lh))), ("it", some (.val (.ref it))), ("sentinel", none), ("result", some (.val (.ref acc))), ("size", some (.int ((z0 :: z1 :: zr).length : Nat))), ("elem", oe), ("top", some (eIt a.it)), ("order", some (.int o)), ("_heapreplace", some (.val (.ref hra))), ("_order", oo), ("k", none), ("_elem", none)]) :: (ck, PCell (some (.val .none))) :: S) ?_ zr.length ⟨2, a, b, pre, [], 2, none, none, by simp; lia, Nat.le_refl _, hpa, hpb, by simpa using hperm, hba, (by intro z hz; cases hz), rfl⟩
      rintro k S' ⟨m, a, b, pre, rest, o, oe, oo, hmk, hm2, hpa, hpb, hperm, hba, hrest, rfl⟩
      have mem : ∀ x ∈ b.it :: a.it :: rest, ∃ j, j < m ∧ (z0 :: z1 :: zr)[j]? = some x := fun x hx => by
        have := hperm.mem_iff.mpr hx
        obtain ⟨j, hj, e⟩ := List.mem_iff_getElem.mp this
        rw [List.length_take] at hj
        exact ⟨j, by lia, by rw [List.getElem_take] at e; rw [← e]; exact List.getElem?_eq_getElem (by lia)⟩
      have inz : ∀ x ∈ b.it :: a.it :: rest, ElI S x := fun x hx => by
        obtain ⟨j, _, e⟩ := mem x hx
        exact hz x (List.mem_of_getElem? e)
      have hia : ElI S a.it := inz _ (by simp)
      have hib : ElI S b.it := inz _ (by simp)
      cases k with
      | zero =>
        refine nx_list_end (xs := (z0 :: z1 :: zr).map eIt) (l := lh) (i := m) (by tb_start) (by tb_start) (by rw [List.length_map]; lia) ?_
        refine x_nil ?_
        have hm : m = (z0 :: z1 :: zr).length := by lia
        rw [hm, List.take_length] at hperm
        have htk : so.take 2 = [b.it, a.it] := two_least hso hss hperm hba hrest
        refine x_cons <| x_Expr hE <| ev_Meth0 PySem.F.plainAttrs_list PySem.F.slot_list_sort PySem.F.type_list_sort <| ev_loc hE (by tb_start) (by tb_start) (by tb_start) ⟨.list (xs := [eTp a, eTp b]) (by tb_start), fun v hv => ?_⟩
        obtain rfl : v = .ref acc := hv
        have hne : rTp b ≠ rTp a := fun e => by unfold rTp at e; lia
        refine c_tsort (kw := []) (b := false) (Sf := fun P => pre ++ (acc, P) :: (rg, PRange 0 2 1) :: (L, PNs [("n", some (.int 2)), ("iterable", some (.val (.ref lh))), ("it", some (.val (.ref it))), ("sentinel", none), ("result", some (.val (.ref acc))), ("size", some (.int ((z0 :: z1 :: zr).length : Nat))), ("elem", oe), ("top", some (eIt a.it)), ("order", some (.int o)), ("_heapreplace", some (.val (.ref hra))), ("_order", oo), ("k", none), ("_elem", none)]) :: (ck, PCell (some (.val .none))) :: S) (zs := [a, b]) (fun _ _ => by tb_start) (fun P x hx => ?_) (by simp) a (fun i j hi hj hij => ?_) (fun x hx y hy e => ?_) (fun _ => args_list_sort _) srt_0 fun out hop hos => ?_
        · have hma := hia.1
          have hmb := hib.1
          rcases List.mem_cons.mp hx with rfl | hx
          · exact ⟨List.mem_append_left _ hpa, hia.imp (fun q => by tb_start) id⟩
          · obtain rfl := List.mem_singleton.mp hx
            exact ⟨List.mem_append_left _ hpb, hib.imp (fun q => by tb_start) id⟩
        · have hi' : i = 0 ∨ i = 1 := by simp at hi; lia
          have hj' : j = 0 ∨ j = 1 := by simp at hj; lia
          rcases hi' with rfl | rfl <;> rcases hj' with rfl | rfl <;> first | exact absurd rfl hij | exact hne | exact hne.symm
        · have hx : x = a ∨ x = b := by simpa using hx
          have hy : y = a ∨ y = b := by simpa using hy
          rcases hx with rfl | rfl <;> rcases hy with rfl | rfl <;> first | rfl | exact absurd e hne | exact absurd e.symm hne
        obtain rfl : out = [b, a] := sorted_uniq (r := rTp) (hop.trans (List.Perm.swap _ _ _)) (by simpa using hos) (by simpa using show rTp b < rTp a from hba)
        rw [show ([b, a] : List Tp).map eTp = [eTp b, eTp a] from rfl]
        refine x_cons <| x_Ret <| ev_ListComp hE (lsC := ["elem", "order"]) (frs := []) (gsC := []) (by rfl) (by intro p hp; cases hp) ?_
        refine ev_loc hE (by tb_start) (by tb_start) (by tb_start) <| it_list (xs := [eTp b, eTp a]) (by tb_start) fun I => ⟨I, rfl, fun S' Q hS q => it_liter (hS _ List.mem_cons_self) q, fun acc2 C2 cenv hC => ?_⟩
        refine wc_compPair (fun k S' => k ≤ 2 ∧ S' = (C2, PNs [("elem", none), ("order", none)]) :: (acc2, PList ([eIt b.it, eIt a.it].take (2 - k))) :: (I, PLIter acc (2 - k)) :: (pre ++ (acc, PList [eTp b, eTp a]) :: (rg, PRange 0 2 1) :: (L, PNs [("n", some (.int 2)), ("iterable", some (.val (.ref lh))), ("it", some (.val (.ref it))), ("sentinel", none), ("result", some (.val (.ref acc))), ("size", some (.int ((z0 :: z1 :: zr).length : Nat))), ("elem", oe), ("top", some (eIt a.it)), ("order", some (.int o)), ("_heapreplace", some (.val (.ref hra))), ("_order", oo), ("k", none), ("_elem", none)]) :: (ck, PCell (some (.val .none))) :: S)) ?_ 2 ⟨Nat.le_refl _, rfl⟩
        rintro k S' ⟨hk, rfl⟩
        cases k with
        | zero =>
          refine nx_list_end (xs := [eTp b, eTp a]) (l := acc) (i := 2) (by tb_start) (by tb_start) (by simp) ⟨_, _, rfl, fun v hv => ret_end hv (S' := (acc2, PList ((so.take 2).map eIt)) :: S) ?_ (h acc2)⟩
          rw [htk]
          exact .keep (.dropPre (.skip (.skip (.skip (.skip (.refl _))))))
        | succ k =>
          obtain ⟨x, hx, hxp, htake⟩ : ∃ x : Tp, [eTp b, eTp a][2 - (k + 1)]? = some (eTp x) ∧ (x.p, PTup [.val (.ref x.it.a), .int x.i]) ∈ pre ∧ [eIt b.it, eIt a.it].take (2 - k) = [eIt b.it, eIt a.it].take (2 - (k + 1)) ++ [eIt x.it] := by
            have : k = 0 ∨ k = 1 := by lia
            rcases this with rfl | rfl
            · exact ⟨a, rfl, hpa, rfl⟩
            · exact ⟨b, rfl, hpb, rfl⟩
          have e3 : 2 - (k + 1) + 1 = 2 - k := by lia
          refine nx_list (xs := [eTp b, eTp a]) (l := acc) (i := 2 - (k + 1)) (a := eTp x) (by tb_start) (by tb_start) hx fun v hv => ?_
          obtain rfl : v = .ref x.p := hv
          refine lo_list (l := acc) (i := 2 - (k + 1) + 1) (by tb_start) <| as_Pair (a := .val (.ref x.it.a)) (b := .int x.i) (List.mem_cons_of_mem _ (List.mem_cons_of_mem _ (List.mem_cons_of_mem _ (List.mem_append_left _ hxp)))) fun va vb ra rb => ?_
          refine st_loc hC (by tb_start) (by tb_start) (by tb_start) ra <| st_loc hC (by tb_start) (by tb_start) (by tb_start) rb ?_
          refine ev_loc hC (by tb_start) (by tb_start) (by tb_start) fun va hva => ?_
          refine m_append (a := eIt x.it) hva (by tb_start) (by simp; lia) ⟨k, by lia, (C2, PNs [("elem", none), ("order", none)]) :: _, .ns (by tb_start) (.refl _), by lia, ?_⟩
          rw [e3, htake]
      | succ k =>
        obtain ⟨z, hzm⟩ : ∃ z, (z0 :: z1 :: zr)[m]? = some z := ⟨_, List.getElem?_eq_getElem (by lia)⟩
        have hiz : ElI S z := hz z (List.mem_of_getElem? hzm)
        have hdz : ∀ x ∈ b.it :: a.it :: rest, rIt x ≠ rIt z := fun x hx => by
          obtain ⟨j, hj, e⟩ := mem x hx
          exact hrk j m x z e hzm (by lia)
        refine nx_list (xs := (z0 :: z1 :: zr).map eIt) (l := lh) (i := m) (a := eIt z) (by tb_start) (by tb_start) (by rw [List.getElem?_map, hzm]; rfl) fun v hv => lo_Name (as_Name ?_)
        refine st_loc hE (by tb_start) (by tb_start) (by tb_start) hv ?_
        have hmz : (z.a, PList [.int z.c, .int z.k]) ∈ S := hiz.1
        have hma : (a.it.a, PList [.int a.it.c, .int a.it.k]) ∈ S := hia.1
        refine x_cons <| x_If <| t_Compare <| ev_loc hE (by tb_start) (by tb_start) (by tb_start) <| ev_loc hE (by tb_start) (by tb_start) (by tb_start) <| o_llt (l := z.a) (l' := a.it.a) (c := z.c) (k := z.k) (c' := a.it.c) (k' := a.it.k) (by tb_start) (by tb_start) <| T1.bool ?_
        rw [rIt_lt hiz hia]
        by_cases hlt : rIt z < rIt a.it
        · rw [if_pos (decide_eq_true hlt)]
          refine x_cons <| x_Expr hE <| ev_CallDef FR.isDef <| ev_loc hE (by tb_start) (by tb_start) (by tb_start) ⟨rfl, vs_cons <| ev_loc hE (by tb_start) (by tb_start) (by tb_start) <| vs_cons <| ev_Tuple <| vs_cons <| ev_loc hE (by tb_start) (by tb_start) (by tb_start) <| vs_cons <| ev_loc hE (by tb_start) (by tb_start) (by tb_start) <| vs_nil ⟨(by show 2 ≤ 1000; decide), fun t => vs_nil fun vs hvs => ?_⟩⟩
          refine vrs2 hvs fun w1 r1 w2 r2 => ?_
          have hzb : rIt z ≠ rIt b.it := fun e => hdz b.it (by simp) e.symm
          refine c_heaprepm (n := n + 2) (Sf := fun xs => (t, PTup [eIt z, .int o]) :: (pre ++ (acc, PList xs) :: (rg, PRange 0 2 1) :: (it, PLIter lh (m + 1)) :: (L, PNs [("n", some (.int 2)), ("iterable", some (.val (.ref lh))), ("it", some (.val (.ref it))), ("sentinel", none), ("result", some (.val (.ref acc))), ("size", some (.int ((z0 :: z1 :: zr).length : Nat))), ("elem", some (eIt z)), ("top", some (eIt a.it)), ("order", some (.int o)), ("_heapreplace", some (.val (.ref hra))), ("_order", oo), ("k", none), ("_elem", none)]) :: (ck, PCell (some (.val .none))) :: S)) (e := eTp) (El := fun x => x = ⟨t, z, o⟩ ∨ x = b) (lt := ltR rTp) (r := [b]) (x := ⟨t, z, o⟩) (y := a) ⟨fun _ _ => by tb_start⟩
            (ltOk_tp (fun x xs hx => ?_) fun x y hx hy e => ?_) FR T b2 hsd hsu FU FD r1 r2 (by simp) (fun x hx => by simpa using hx) ?_
          · have hmb := hib.1
            rcases hx with rfl | rfl
            · exact ⟨List.mem_cons_self, hiz.imp (fun q => by tb_start) id⟩
            · exact ⟨List.mem_cons_of_mem _ (List.mem_append_left _ hpb), hib.imp (fun q => by tb_start) id⟩
          · rcases hx with rfl | rfl <;> rcases hy with rfl | rfl <;> first | rfl | (exfalso; unfold rTp at e; exact hzb e) | (exfalso; unfold rTp at e; exact hzb e.symm)
          rw [suF_two]
          have hnew : ∃ a' b' : Tp, (if (fun x y => ltR rTp y x) (⟨t, z, o⟩ : Tp) b = true then [(⟨t, z, o⟩ : Tp), b] else [b, ⟨t, z, o⟩]) = [a', b'] ∧ (a'.p, PTup [.val (.ref a'.it.a), .int a'.i]) ∈ ((t, PTup [eIt z, .int o]) :: pre : Led) ∧ (b'.p, PTup [.val (.ref b'.it.a), .int b'.i]) ∈ ((t, PTup [eIt z, .int o]) :: pre : Led) ∧
              rIt b'.it < rIt a'.it ∧ rIt a'.it < rIt a.it ∧ ((z0 :: z1 :: zr).take (m + 1)).Perm (b'.it :: a'.it :: a.it :: rest) := by
            by_cases hc : rIt b.it < rIt z
            · exact ⟨⟨t, z, o⟩, b, by rw [if_pos (show (fun x y => ltR rTp y x) (⟨t, z, o⟩ : Tp) b = true from decide_eq_true hc)], List.mem_cons_self, List.mem_cons_of_mem _ hpb, hc, hlt, (step_in hzm hperm).trans (List.Perm.swap _ _ _)⟩
            · exact ⟨b, ⟨t, z, o⟩, by rw [if_neg (show ¬ (fun x y => ltR rTp y x) (⟨t, z, o⟩ : Tp) b = true from fun q => hc (of_decide_eq_true q))], List.mem_cons_of_mem _ hpb, List.mem_cons_self, (by show rIt z < rIt b.it; lia), hba, step_in hzm hperm⟩
          obtain ⟨a', b', hif, hpa', hpb', hba', haa, hperm'⟩ := hnew
          rw [hif, show ([a', b'] : List Tp).map eTp = [eTp a', eTp b'] from rfl]
          refine x_cons <| x_Unpack (h := ?_)
          refine ev_Sub <| ev_loc hE (by tb_start) (by tb_start) (by tb_start) <| ev_int <| g_list (l := acc) (xs := [eTp a', eTp b']) (k := ((0 : Nat) : Int)) (by tb_start) (by decide) (by decide) (a := eTp a') rfl ?_
          refine ⟨a'.p, .val (.ref a'.it.a), .int a'.i, rfl, List.mem_append_left (as := (t, PTup [eIt z, .int o]) :: pre) _ hpa', fun va vb ra rb => st_loc hE (by tb_start) (by tb_start) (by tb_start) ra <| st_loc hE (by tb_start) (by tb_start) (by tb_start) rb ?_⟩
          refine x_cons <| x_AugName <| ld_loc hE (by tb_start) (by tb_start) (by tb_start) <| ev_int <| o_iadd fun v hv => st_loc hE (by tb_start) (by tb_start) (by tb_start) hv ?_
          refine x_nil (x_nil ⟨k, by lia, _, .refl _, m + 1, a', b', (t, PTup [eIt z, .int o]) :: pre, a.it :: rest, o + 1, _, _, by lia, by lia, hpa', hpb', hperm', hba', ?_, rfl⟩)
          intro x hx
          rcases List.mem_cons.mp hx with rfl | hx
          · exact haa
          · have := hrest x hx; lia
        · rw [if_neg (by simpa using hlt)]
          refine x_nil (x_nil ⟨k, by lia, _, .refl _, m + 1, a, b, pre, z :: rest, o, _, oo, by lia, by lia, hpa, hpb, step_out hzm hperm, hba, ?_, rfl⟩)
          intro x hx
          rcases List.mem_cons.mp hx with rfl | hx
          · have := hdz a.it (by simp); lia
          · exact hrest x hx
end
end
section
open PySem PySem.W PyProof.Rows PySem.Calls PySem.Spec
set_option linter.all false
set_option maxRecDepth 100000
set_option maxHeartbeats 2000000
section
variable {prog : Program} {w : World} {base : Heap} {n : Nat} {S : Led} {gl : List (Str × AV)} {bl : List (Str × Value)} {a : Addr}
theorem args_sort_rev (a : Value) : argsOk "list.sort" ⟨[a], [(Str.ofString "reverse", .bool true)]⟩ := by unfold argsOk; kernel_rfl
theorem sig_nlg : sigOk (fnScope 46) ["n", "iterable", "key"] ["n", "iterable", "it", "sentinel", "result", "size", "elem", "top", "order", "_heapreplace", "_order", "k", "_elem"] ["key"] ["iter", "len", "sorted", "zip", "range", "heapify", "heapreplace"] = true := by rfl
theorem c_nlg {lh hya hra sua sda : Addr} {zs so : List It} (F : FnIs base a (fnScope 46) ["n", "iterable", "key"] (fnBody 46) [.none]) (T : TopIs base gl bl)
    (b1 : (("iter" : Str), Value.builtin "iter") ∈ bl) (b2 : (("len" : Str), Value.builtin "len") ∈ bl) (b3 : (("sorted" : Str), Value.builtin "sorted") ∈ bl) (b4 : (("zip" : Str), Value.type "zip") ∈ bl) (b5 : (("range" : Str), Value.type "range") ∈ bl) (b6 : (("reversed" : Str), Value.type "reversed") ∈ bl)
    (hsd : (("_siftdown" : Str), AV.val (.ref sda)) ∈ gl) (hsu : (("_siftup" : Str), AV.val (.ref sua)) ∈ gl) (hhy : (("heapify" : Str), AV.val (.ref hya)) ∈ gl) (hhr : (("heapreplace" : Str), AV.val (.ref hra)) ∈ gl)
    (FU : FnIs base sua (fnScope 42) ["heap", "pos"] (fnBody 42) []) (FD : FnIs base sda (fnScope 41) ["heap", "startpos", "pos"] (fnBody 41) []) (FH : FnIs base hya (fnScope 38) ["x"] (fnBody 38) []) (FR : FnIs base hra (fnScope 37) ["heap", "item"] (fnBody 37) [])
    (hm : (lh, PList (zs.map eIt)) ∈ S) (hz : ∀ x ∈ zs, ElI S x) (h64 : zs.length < 64) (hnd : (zs.map rIt).Nodup) (hso : so.Perm zs) (hss : (so.map fun x => - rIt x).Pairwise (· < ·))
    {v1 v2 : Value} {Q : AV → Led → Prop} (h1 : VR (.int 2) v1) (h2 : VR (.val (.ref lh)) v2) (h : ∀ D, Q (.val (.ref D)) ((D, PList ((so.take 2).map eIt)) :: S)) : WV prog w base (n + 6) (call (.ref a) [v1, v2]) S Q := by
  refine c_call F (das := [.val .none]) ⟨.none, [], rfl, rfl, rfl⟩ sig_nlg (args := [.int 2, .val (.ref lh)]) ⟨v1, _, rfl, h1, v2, [], rfl, h2, rfl⟩ rfl fun env L ads hlen hE => ?_
  obtain ⟨ck, rfl⟩ : ∃ ck, ads = [ck] := List.length_eq_one_iff.mp hlen
  replace hE : EnvOk env L ["n", "iterable", "it", "sentinel", "result", "size", "elem", "top", "order", "_heapreplace", "_order", "k", "_elem"] [("key", ck)] [] ["iter", "len", "sorted", "zip", "range", "heapify", "heapreplace"] := hE
  show W prog w base (n + 5) (execs (fnBody 46) env) ((L, PNs [("n", some (.int 2)), ("iterable", some (.val (.ref lh))), ("it", none), ("sentinel", none), ("result", none), ("size", none), ("elem", none), ("top", none), ("order", none), ("_heapreplace", none), ("_order", none), ("k", none), ("_elem", none)]) :: (ck, PCell (some (.val .none))) :: S) (RetS Q)
  have hrk : ∀ i j (x y : It), zs[i]? = some x → zs[j]? = some y → i ≠ j → rIt x ≠ rIt y := fun i j x y hx hy hne e => by
    have := List.pairwise_iff_getElem.mp hnd
    obtain ⟨hi, rfl⟩ := List.getElem?_eq_some_iff.mp hx
    obtain ⟨hj, rfl⟩ := List.getElem?_eq_some_iff.mp hy
    rcases Nat.lt_or_gt_of_ne hne with q | q
    · exact this i j (by simpa using hi) (by simpa using hj) q (by simpa using e)
    · exact this j i (by simpa using hj) (by simpa using hi) q (by simpa using e.symm)
  refine x_cons <| x_If <| t_Compare <| ev_loc hE (by tb_start) (by tb_start) (by tb_start) <| ev_int <| o_eq <| T1.bool ?_
  rw [if_neg (by decide)]
  refine x_nil <| x_cons <| x_Try <| x_cons <| x_AssignName <| ev_CallB <| ev_blt hE T (by tb_start) b2 ⟨rfl, vs_cons <| ev_loc hE (by tb_start) (by tb_start) (by tb_start) <| vs_nil fun vs hvs => ?_⟩
  refine vrs1 hvs fun v9 h9 => ?_
  refine c_lenList (l := lh) (xs := zs.map eIt) h9 (List.mem_cons_of_mem _ (List.mem_cons_of_mem _ hm)) (by simp; lia) fun v hv => st_loc hE (a := .int zs.length) (by tb_start) (by tb_start) (by tb_start) (by simpa using hv) <| x_nil ?_
  refine x_cons <| x_If <| t_Compare <| ev_loc hE (by tb_start) (by tb_start) (by tb_start) <| ev_loc hE (by tb_start) (by tb_start) (by tb_start) <| o_ge <| T1.bool ?_
  by_cases hle : zs.length ≤ 2
  · rw [if_pos (by simp; lia)]
    refine x_cons <| x_Ret <| ev_Sub <| ev_CallBK (id := "sorted") ?_
    refine ev_blt hE T (by tb_start) b3 ⟨rfl, vs_cons <| ev_loc hE (by tb_start) (by tb_start) (by tb_start) <| vs_nil fun vs hvs => ?_⟩
    refine kw_cons <| ev_cell hE (by tb_start) (by tb_start) <| kw_cons <| ev_bool <| kw_nil fun kvs hk => ?_
    refine vrs1 hvs fun v8 h8 => ?_
    obtain ⟨k1, _, rfl, rfl, k2, _, rfl, rfl, rfl⟩ := hk
    refine c_sorted (kw := [("key", .none), ("reverse", .bool true)]) (b := true) h8 (.own (List.mem_cons_of_mem _ (List.mem_cons_of_mem _ hm))) (fun x hx => (hz x hx).imp (fun q => List.mem_cons_of_mem _ (List.mem_cons_of_mem _ q)) id) h64 (fun d i j hi hj hne => ?_) (fun _ => ksk_s2 _ _ _) (fun _ => ksk_l2 _ _ _) srt_kr fun D out hop hos => ?_
    · exact hrk i j _ _ (by simp [hi]) (by simp [hj]) hne
    · obtain rfl : so = out := sorted_uniq (r := fun x => - rIt x) (hso.trans hop.symm) hss (by simpa [List.pairwise_map] using hos)
      refine ev_SlUp <| ev_loc hE (by tb_start) (by tb_start) (by tb_start) ⟨2, rfl, fun sl => g_slUp (k := 2) (.own (List.mem_cons_of_mem _ List.mem_cons_self)) List.mem_cons_self (by simp [hso.length_eq]; lia) fun l' => fun v hv => ret_end hv (S' := (l', PList ((so.map eIt).take 2)) :: S) (.keep (.skip (.skip (.skip (.skip (.refl _)))))) (by rw [← List.map_take]; exact h l')⟩
  · rw [if_neg (by simp; lia)]
    obtain ⟨z0, z1, zr, rfl⟩ : ∃ z0 z1 zr, zs = z0 :: z1 :: zr := by
      match zs, hle with
      | z0 :: z1 :: zr, _ => exact ⟨z0, z1, zr, rfl⟩
      | [], hle => simp at hle
      | [_], hle => simp at hle
    refine x_nil ?_
    refine x_nil ?_
    refine x_cons <| x_If <| t_Compare <| ev_cell hE (by tb_start) (by tb_start) <| ev_none <| o_isNone <| T1.bool ?_
    rw [if_pos (by rfl)]
    refine x_cons <| x_AssignName <| ev_CallB <| ev_blt hE T (by tb_start) b1 ⟨rfl, vs_cons <| ev_loc hE (by tb_start) (by tb_start) (by tb_start) <| vs_nil fun vs hvs => ?_⟩
    refine vrs1 hvs fun v8 h8 => ?_
    refine c_iter h8 (List.mem_cons_of_mem _ (List.mem_cons_of_mem _ hm)) fun it v hv => st_loc hE (by tb_start) (by tb_start) (by tb_start) hv ?_
    refine x_cons <| x_AssignComp hE (by tb_start) (by rfl) (lsC := ["i", "elem"]) (frs := []) (gsC := []) (by rfl) (by intro p hp; cases hp) ?_
    refine ev_CallT <| ev_blt hE T (by tb_start) b4 ⟨rfl, vs_cons <| ev_CallT <| ev_blt hE T (by tb_start) b5 ⟨rfl, vs_cons <| ev_int <| vs_cons <| ev_Unary <| ev_loc hE (by tb_start) (by tb_start) (by tb_start) <| o_neg <| vs_cons <| ev_Unary <| ev_int <| o_neg <| vs_nil fun vs hvs => ?_⟩⟩
    refine vrs3 hvs fun v7 h7 v7b h7b v7c h7c => ?_
    refine c_range3 h7 h7b h7c (by decide) (by decide) fun rg => vs_cons <| ev_loc hE (by tb_start) (by tb_start) (by tb_start) <| vs_nil fun vs hvs => ?_
    refine vrs2 hvs fun v6 h6 v5 h5 => ?_
    refine c_zip h6 h5 (by tb_start) (by decide) (l := lh) (k := 0) (by tb_start) fun z TO TI i1 => it_zip (by tb_start) ⟨z, rfl, fun S' Q hS q => it_zip (hS _ List.mem_cons_self) q, fun acc C cenv hC => ?_⟩
    refine WC.post (Q' := fun f S' => f = .next ∧ ∃ (t0 t1 : Tp) (pre : Led), t0.it = z0 ∧ t1.it = z1 ∧ (t0.p, PTup [.val (.ref t0.it.a), .int t0.i]) ∈ pre ∧ (t1.p, PTup [.val (.ref t1.it.a), .int t1.i]) ∈ pre ∧ S' = (TO, PPairA) :: (TI, PPair (.ref i1) (.ref it)) :: (pre ++
        (C, PNs [("i", none), ("elem", none)]) :: (acc, PList [eTp t0, eTp t1]) :: (rg, PRange 0 (-2) (-1)) :: (it, PLIter lh 2) :: (L, PNs [("n", some (.int 2)), ("iterable", some (.val (.ref lh))), ("it", some (.val (.ref it))), ("sentinel", none), ("result", none), ("size", some (.int ((z0 :: z1 :: zr).length : Nat))), ("elem", none), ("top", none), ("order", none), ("_heapreplace", none), ("_order", none), ("k", none), ("_elem", none)]) :: (ck, PCell (some (.val .none))) :: S)) ?_ ?_
    · -- the comprehension's two turns
      refine WC.pk (S' := (z, PZip .none TI TO) :: (TO, PPairA) :: (TI, PPair (.ref i1) (.ref it)) :: (i1, PRIter 0 2 (-1)) :: ([] ++ (C, PNs [("i", none), ("elem", none)]) :: (acc, PList []) :: (rg, PRange 0 (-2) (-1)) :: (it, PLIter lh 0) :: (L, PNs [("n", some (.int 2)), ("iterable", some (.val (.ref lh))), ("it", some (.val (.ref it))), ("sentinel", none), ("result", none), ("size", some (.int ((z0 :: z1 :: zr).length : Nat))), ("elem", none), ("top", none), ("order", none), ("_heapreplace", none), ("_order", none), ("k", none), ("_elem", none)]) :: (ck, PCell (some (.val .none))) :: S)) ?_ (by rw [show Builtin.Range.rangeSize 0 (-2) (-1) = 2 from rfl]; dsimp only [List.map]; show Pk (_ :: _ :: _ :: _ :: _ :: _ :: _ :: _ :: _ :: _ :: S) _; tb_start)
      refine wc_compPair (fun k S' => ∃ (ts : List Tp) (pre : Led), k ≤ 2 ∧ ts.map (·.it) = [z0, z1].take (2 - k) ∧ (∀ t ∈ ts, (t.p, PTup [.val (.ref t.it.a), .int t.i]) ∈ pre) ∧ S' = (z, PZip .none TI TO) :: (TO, PPairA) :: (TI, PPair (.ref i1) (.ref it)) :: (i1, PRIter (((2 - k : Nat) : Int) * (-1)) (k : Int) (-1)) :: (pre ++
        (C, PNs [("i", none), ("elem", none)]) :: (acc, PList (ts.map eTp)) :: (rg, PRange 0 (-2) (-1)) :: (it, PLIter lh (2 - k)) :: (L, PNs [("n", some (.int 2)), ("iterable", some (.val (.ref lh))), ("it", some (.val (.ref it))), ("sentinel", none), ("result", none), ("size", some (.int ((z0 :: z1 :: zr).length : Nat))), ("elem", none), ("top", none), ("order", none), ("_heapreplace", none), ("_order", none), ("k", none), ("_elem", none)]) :: (ck, PCell (some (.val .none))) :: S)) ?_ 2 ⟨[], [], Nat.le_refl _, rfl, (by intro t ht; cases ht), rfl⟩
      rintro k S' ⟨ts, pre, hk, hts, htp, rfl⟩
      cases k with
      | zero =>
        refine nx_zip_end (by decide) ?_
        obtain ⟨t0, t1, rfl⟩ : ∃ t0 t1, ts = [t0, t1] := by
          have := congrArg List.length hts
          match ts, this with
          | [t0, t1], _ => exact ⟨t0, t1, rfl⟩
        simp only [List.map_cons, List.map_nil, Nat.sub_zero, List.take_succ_cons, List.take_zero, List.cons.injEq, and_true] at hts
        refine ⟨rfl, t0, t1, pre, hts.1, hts.2, htp t0 (by simp), htp t1 (by simp), rfl⟩
      | succ k =>
        obtain ⟨zk, hzk⟩ : ∃ zk, (z0 :: z1 :: zr)[2 - (k + 1)]? = some zk := ⟨_, List.getElem?_eq_getElem (by simp; lia)⟩
        have hlz : (lh, PList ((z0 :: z1 :: zr).map eIt)) ∈ (pre ++ (C, PNs [("i", none), ("elem", none)]) :: (acc, PList (ts.map eTp)) :: (rg, PRange 0 (-2) (-1)) :: (it, PLIter lh (2 - (k + 1))) :: (L, PNs [("n", some (.int 2)), ("iterable", some (.val (.ref lh))), ("it", some (.val (.ref it))), ("sentinel", none), ("result", none), ("size", some (.int ((z0 :: z1 :: zr).length : Nat))), ("elem", none), ("top", none), ("order", none), ("_heapreplace", none), ("_order", none), ("k", none), ("_elem", none)]) :: (ck, PCell (some (.val .none))) :: S) := List.mem_append_right _ (List.mem_cons_of_mem _ (List.mem_cons_of_mem _ (List.mem_cons_of_mem _ (List.mem_cons_of_mem _ (List.mem_cons_of_mem _ (List.mem_cons_of_mem _ hm))))))
        refine nx_zip (a := eIt zk) (k := 2 - (k + 1)) (by lia) hlz (by rw [List.getElem?_map, hzk]; rfl) (Upd.pre (.tail (.tail (.tail .head))) pre) fun T => lo_zip (by tb_start) <| as_Pair List.mem_cons_self fun va vb ra rb => ?_
        refine st_loc hC (by tb_start) (by tb_start) (by tb_start) ra <| st_loc hC (by tb_start) (by tb_start) (by tb_start) rb ?_
        refine ev_Tuple <| vs_cons <| ev_loc hC (by tb_start) (by tb_start) (by tb_start) <| vs_cons <| ev_loc hC (by tb_start) (by tb_start) (by tb_start) <| vs_nil ⟨(by show 2 ≤ 1000; decide), fun p va hva => ?_⟩
        have e1 : ((2 - (k + 1) : Nat) : Int) * (-1) + (-1) = ((2 - k : Nat) : Int) * (-1) := by lia
        have e2 : (((k + 1 : Nat)) : Int) - 1 = (k : Int) := by lia
        have e3 : 2 - (k + 1) + 1 = 2 - k := by lia
        rw [e1, e2, e3]
        refine W.pk (S' := (z, PZip .none TI TO) :: (TO, PPairA) :: (TI, PPair (.ref i1) (.ref it)) :: (i1, PRIter (((2 - k : Nat) : Int) * (-1)) (k : Int) (-1)) :: (p, PTup [eIt zk, .int (((2 - (k + 1) : Nat) : Int) * (-1))]) :: (pre ++
          (C, PNs [("i", some (.int (((2 - (k + 1) : Nat) : Int) * (-1)))), ("elem", some (eIt zk))]) :: (acc, PList (ts.map eTp)) :: (rg, PRange 0 (-2) (-1)) :: (it, PLIter lh (2 - k)) :: (L, PNs [("n", some (.int 2)), ("iterable", some (.val (.ref lh))), ("it", some (.val (.ref it))), ("sentinel", none), ("result", none), ("size", some (.int ((z0 :: z1 :: zr).length : Nat))), ("elem", none), ("top", none), ("order", none), ("_heapreplace", none), ("_order", none), ("k", none), ("_elem", none)]) :: (ck, PCell (some (.val .none))) :: S)) ?_ (by tb_start)
        refine m_append (a := eTp ⟨p, zk, ((2 - (k + 1) : Nat) : Int) * (-1)⟩) hva (by tb_start) (by simp; have := congrArg List.length hts; simp at this; lia) ?_
        refine ⟨k, by lia, (z, PZip .none TI TO) :: (TO, PPairA) :: (TI, PPair (.ref i1) (.ref it)) :: (i1, PRIter (((2 - k : Nat) : Int) * (-1)) (k : Int) (-1)) :: (((p, PTup [eIt zk, .int (((2 - (k + 1) : Nat) : Int) * (-1))]) :: pre) ++
          (C, PNs [("i", none), ("elem", none)]) :: (acc, PList (ts.map eTp ++ [eTp ⟨p, zk, ((2 - (k + 1) : Nat) : Int) * (-1)⟩])) :: (rg, PRange 0 (-2) (-1)) :: (it, PLIter lh (2 - k)) :: (L, PNs [("n", some (.int 2)), ("iterable", some (.val (.ref lh))), ("it", some (.val (.ref it))), ("sentinel", none), ("result", none), ("size", some (.int ((z0 :: z1 :: zr).length : Nat))), ("elem", none), ("top", none), ("order", none), ("_heapreplace", none), ("_order", none), ("k", none), ("_elem", none)]) :: (ck, PCell (some (.val .none))) :: S), .keep (.keep (.keep (.keep (.keep (.app (.ns (by tb_start) (.refl _))))))), ts ++ [⟨p, zk, ((2 - (k + 1) : Nat) : Int) * (-1)⟩], (p, PTup [eIt zk, .int (((2 - (k + 1) : Nat) : Int) * (-1))]) :: pre, by lia, ?_, ?_, by rw [List.map_append]; rfl⟩
        · rw [List.map_append, hts]
          have : k = 0 ∨ k = 1 := by lia
          rcases this with rfl | rfl
          · obtain rfl : z1 = zk := by simpa using hzk
            rfl
          · obtain rfl : z0 = zk := by simpa using hzk
            rfl
        · intro t ht
          rcases List.mem_append.mp ht with ht | ht
          · exact List.mem_cons_of_mem _ (htp t ht)
          · obtain rfl := List.mem_singleton.mp ht
            exact List.mem_cons_self
    · rintro f S' ⟨rfl, t0, t1, pre, ht0, ht1, hp0, hp1, rfl⟩
      refine ⟨(C, PNs [("i", none), ("elem", none)]) :: (pre ++ (acc, PList [eTp t0, eTp t1]) :: (rg, PRange 0 (-2) (-1)) :: (it, PLIter lh 2) :: (L, PNs [("n", some (.int 2)), ("iterable", some (.val (.ref lh))), ("it", some (.val (.ref it))), ("sentinel", none), ("result", none), ("size", some (.int ((z0 :: z1 :: zr).length : Nat))), ("elem", none), ("top", none), ("order", none), ("_heapreplace", none), ("_order", none), ("k", none), ("_elem", none)]) :: (ck, PCell (some (.val .none))) :: S), by tb_start, ⟨_, _, rfl⟩, ?_⟩
      refine st_loc hE (by tb_start) (by tb_start) (by tb_start) (a := .val (.ref acc)) rfl ⟨_, _, rfl, ?_⟩
      refine x_cons <| x_If <| t_Not <| t_val <| ev_loc hE (by tb_start) (by tb_start) (by tb_start) <| T1.list (xs := [eTp t0, eTp t1]) (by tb_start) (by simp) ?_
      rw [if_neg (by simp)]
      refine x_nil <| x_cons <| x_Expr hE <| ev_CallDef FH.isDef <| ev_glob hE T (by tb_start) hhy ⟨rfl, vs_cons <| ev_loc hE (by tb_start) (by tb_start) (by tb_start) <| vs_nil fun vs hvs => ?_⟩
      refine vrs1 hvs fun v4 h4 => ?_
      have hz0 : ElI S z0 := hz _ (by simp)
      have hz1 : ElI S z1 := hz _ (by simp)
      have h01 : rIt z0 ≠ rIt z1 := hrk 0 1 z0 z1 rfl rfl (by decide)
      refine c_heapify (n := n + 2) (Sf := fun xs => pre ++ (acc, PList xs) :: (rg, PRange 0 (-2) (-1)) :: (it, PLIter lh 2) :: (L, PNs [("n", some (.int 2)), ("iterable", some (.val (.ref lh))), ("it", some (.val (.ref it))), ("sentinel", none), ("result", some (.val (.ref acc))), ("size", some (.int ((z0 :: z1 :: zr).length : Nat))), ("elem", none), ("top", none), ("order", none), ("_heapreplace", none), ("_order", none), ("k", none), ("_elem", none)]) :: (ck, PCell (some (.val .none))) :: S) (e := eTp) (El := fun x => x = t0 ∨ x = t1) (lt := ltR rTp) (zs := [t0, t1]) ⟨fun _ _ => by tb_start⟩
        (ltOk_tp (fun x xs hx => ?_) fun x y hx hy e => ?_) FH T b2 b6 b5 hsd hsu FU FD t0 h4 (by simp) (fun x hx => by simpa using hx) ?_
      · rcases hx with rfl | rfl
        · exact ⟨List.mem_append_left _ hp0, (by rw [ht0]; exact hz0.imp (fun q => by tb_start) id)⟩
        · exact ⟨List.mem_append_left _ hp1, (by rw [ht1]; exact hz1.imp (fun q => by tb_start) id)⟩
      · rcases hx with rfl | rfl <;> rcases hy with rfl | rfl <;> first | rfl | (exfalso; unfold rTp at e; rw [ht0, ht1] at e; lia)
      rw [show ([t0, t1] : List Tp).length / 2 = 1 by simp, hfF_two]
      have hab : ∃ a b : Tp, (if ltR rTp t0 t1 = true then [t0, t1] else [t1, t0]) = [a, b] ∧ (a.p, PTup [.val (.ref a.it.a), .int a.i]) ∈ pre ∧ (b.p, PTup [.val (.ref b.it.a), .int b.i]) ∈ pre ∧ rIt a.it < rIt b.it ∧ [z0, z1].Perm [b.it, a.it] := by
        by_cases hlt : rTp t0 < rTp t1
        · refine ⟨t0, t1, by rw [if_pos (show ltR rTp t0 t1 = true from decide_eq_true hlt)], hp0, hp1, hlt, ?_⟩
          rw [ht0, ht1]; exact List.Perm.swap _ _ _
        · refine ⟨t1, t0, by rw [if_neg (by simpa [ltR] using hlt)], hp1, hp0, ?_, ?_⟩
          · unfold rTp at hlt; rw [ht0, ht1] at *; lia
          · rw [ht0, ht1]
      obtain ⟨a, b, hif, hpa, hpb, hba, hperm⟩ := hab
      rw [hif, show ([a, b] : List Tp).map eTp = [eTp a, eTp b] from rfl]
      have ha0 : a.it ∈ [z0, z1] := hperm.mem_iff.mpr (by simp)
      have hia : ElI S a.it := by
        rcases List.mem_cons.mp ha0 with e | e
        · rw [e]; exact hz0
        · rw [List.mem_singleton.mp e]; exact hz1
      refine x_cons <| x_AssignName <| ev_Sub <| ev_Sub <| ev_loc hE (by tb_start) (by tb_start) (by tb_start) <| ev_int <| g_list (l := acc) (xs := [eTp a, eTp b]) (k := ((0 : Nat) : Int)) (by tb_start) (by decide) (by decide) (a := eTp a) rfl ?_
      refine ev_int <| g_tup (l := a.p) (xs := [.val (.ref a.it.a), .int a.i]) (k := 0) (j := 0) (List.mem_append_left _ hpa) (by decide) (by decide) rfl rfl fun v hv => st_loc hE (a := eIt a.it) (by tb_start) (by tb_start) (by tb_start) hv ?_
      refine x_cons <| x_AssignName <| ev_Unary <| ev_loc hE (by tb_start) (by tb_start) (by tb_start) <| o_neg fun v hv => st_loc hE (by tb_start) (by tb_start) (by tb_start) hv ?_
      refine x_cons <| x_AssignName <| ev_glob hE T (by tb_start) hhr fun v hv => st_loc hE (by tb_start) (by tb_start) (by tb_start) hv ?_
      refine x_cons <| x_For <| ev_loc hE (by tb_start) (by tb_start) (by tb_start) <| it_liter (l := lh) (i := 2) (by tb_start) fun vi hvi => ?_
      obtain rfl : vi = .ref it := hvi
      refine wc_for (fun k S' => ∃ (m : Nat) (a b : Tp) (pre : Led) (rest : List It) (o : Int) (oe oo : Option AV), m + k = (z0 :: z1 :: zr).length ∧ 2 ≤ m ∧ (a.p, PTup [.val (.ref a.it.a), .int a.i]) ∈ pre ∧ (b.p, PTup [.val (.ref b.it.a), .int b.i]) ∈ pre ∧
        ((z0 :: z1 :: zr).take m).Perm (b.it :: a.it :: rest) ∧ rIt a.it < rIt b.it ∧ (∀ z ∈ rest, rIt z < rIt a.it) ∧
        S' = pre ++ (acc, PList [eTp a, eTp b]) :: (rg, PRange 0 (-2) (-1)) :: (it, PLIter lh m) :: (L, PNs [("n", some (.int 2)), ("iterable", some (.val (.ref lh))), ("it", some (.val (.ref it))), ("sentinel", none), ("result", some (.val (.ref acc))), ("size", some (.int ((z0 :: z1 :: zr).length : Nat))), ("elem", oe), ("top", some (eIt a.it)), ("order", some (.int o)), ("_heapreplace", some (.val (.ref hra))), ("_order", oo), ("k", none), ("_elem", none)]) :: (ck, PCell (some (.val .none))) :: S) ?_ zr.length ⟨2, a, b, pre, [], -2, none, none, by simp; lia, Nat.le_refl _, hpa, hpb, by simpa using hperm, hba, (by intro z hz; cases hz), rfl⟩
      rintro k S' ⟨m, a, b, pre, rest, o, oe, oo, hmk, hm2, hpa, hpb, hperm, hba, hrest, rfl⟩
      have mem : ∀ x ∈ b.it :: a.it :: rest, ∃ j, j < m ∧ (z0 :: z1 :: zr)[j]? = some x := fun x hx => by
        have := hperm.mem_iff.mpr hx
        obtain ⟨j, hj, e⟩ := List.mem_iff_getElem.mp this
        rw [List.length_take] at hj
        exact ⟨j, by lia, by rw [List.getElem_take] at e; rw [← e]; exact List.getElem?_eq_getElem (by lia)⟩
      have inz : ∀ x ∈ b.it :: a.it :: rest, ElI S x := fun x hx => by
        obtain ⟨j, _, e⟩ := mem x hx
        exact hz x (List.mem_of_getElem? e)
      have hia : ElI S a.it := inz _ (by simp)
      have hib : ElI S b.it := inz _ (by simp)
      cases k with
      | zero =>
        refine nx_list_end (xs := (z0 :: z1 :: zr).map eIt) (l := lh) (i := m) (by tb_start) (by tb_start) (by rw [List.length_map]; lia) ?_
        refine x_nil ?_
        have hm : m = (z0 :: z1 :: zr).length := by lia
        rw [hm, List.take_length] at hperm
        have htk : so.take 2 = [b.it, a.it] := two_least (r := fun x => - rIt x) hso hss hperm (by show -_ < -_; lia) (fun z hz => by have := hrest z hz; show -_ < -_; lia)
        refine x_cons <| x_Expr hE <| ev_MethK PySem.F.plainAttrs_list PySem.F.slot_list_sort PySem.F.type_list_sort <| ev_loc hE (by tb_start) (by tb_start) (by tb_start) ⟨.list (xs := [eTp a, eTp b]) (by tb_start), fun v hv => kw_cons <| ev_bool <| kw_nil fun kvs hk => ?_⟩
        obtain rfl : v = .ref acc := hv
        obtain ⟨k1, _, rfl, rfl, rfl⟩ := hk
        have hne : rTp b ≠ rTp a := fun e => by unfold rTp at e; lia
        refine c_tsort (kw := [("reverse", .bool true)]) (b := true) (Sf := fun P => pre ++ (acc, P) :: (rg, PRange 0 (-2) (-1)) :: (L, PNs [("n", some (.int 2)), ("iterable", some (.val (.ref lh))), ("it", some (.val (.ref it))), ("sentinel", none), ("result", some (.val (.ref acc))), ("size", some (.int ((z0 :: z1 :: zr).length : Nat))), ("elem", oe), ("top", some (eIt a.it)), ("order", some (.int o)), ("_heapreplace", some (.val (.ref hra))), ("_order", oo), ("k", none), ("_elem", none)]) :: (ck, PCell (some (.val .none))) :: S) (zs := [a, b]) (fun _ _ => by tb_start) (fun P x hx => ?_) (by simp) a (fun i j hi hj hij => ?_) (fun x hx y hy e => ?_) (fun _ => args_sort_rev _) srt_r fun out hop hos => ?_
        · have hma := hia.1
          have hmb := hib.1
          rcases List.mem_cons.mp hx with rfl | hx
          · exact ⟨List.mem_append_left _ hpa, hia.imp (fun q => by tb_start) id⟩
          · obtain rfl := List.mem_singleton.mp hx
            exact ⟨List.mem_append_left _ hpb, hib.imp (fun q => by tb_start) id⟩
        · have hi' : i = 0 ∨ i = 1 := by simp at hi; lia
          have hj' : j = 0 ∨ j = 1 := by simp at hj; lia
          rcases hi' with rfl | rfl <;> rcases hj' with rfl | rfl <;> first | exact absurd rfl hij | exact hne | exact hne.symm
        · have hx : x = a ∨ x = b := by simpa using hx
          have hy : y = a ∨ y = b := by simpa using hy
          rcases hx with rfl | rfl <;> rcases hy with rfl | rfl <;> first | rfl | exact absurd e hne | exact absurd e.symm hne
        obtain rfl : out = [b, a] := sorted_uniq (r := fun x => - rTp x) (hop.trans (List.Perm.swap _ _ _)) (by simpa [List.pairwise_map] using hos) (by simpa using show rTp a < rTp b from hba)
        rw [show ([b, a] : List Tp).map eTp = [eTp b, eTp a] from rfl]
        refine x_cons <| x_Ret <| ev_ListComp hE (lsC := ["elem", "order"]) (frs := []) (gsC := []) (by rfl) (by intro p hp; cases hp) ?_
        refine ev_loc hE (by tb_start) (by tb_start) (by tb_start) <| it_list (xs := [eTp b, eTp a]) (by tb_start) fun I => ⟨I, rfl, fun S' Q hS q => it_liter (hS _ List.mem_cons_self) q, fun acc2 C2 cenv hC => ?_⟩
        refine wc_compPair (fun k S' => k ≤ 2 ∧ S' = (C2, PNs [("elem", none), ("order", none)]) :: (acc2, PList ([eIt b.it, eIt a.it].take (2 - k))) :: (I, PLIter acc (2 - k)) :: (pre ++ (acc, PList [eTp b, eTp a]) :: (rg, PRange 0 (-2) (-1)) :: (L, PNs [("n", some (.int 2)), ("iterable", some (.val (.ref lh))), ("it", some (.val (.ref it))), ("sentinel", none), ("result", some (.val (.ref acc))), ("size", some (.int ((z0 :: z1 :: zr).length : Nat))), ("elem", oe), ("top", some (eIt a.it)), ("order", some (.int o)), ("_heapreplace", some (.val (.ref hra))), ("_order", oo), ("k", none), ("_elem", none)]) :: (ck, PCell (some (.val .none))) :: S)) ?_ 2 ⟨Nat.le_refl _, rfl⟩
        rintro k S' ⟨hk, rfl⟩
        cases k with
        | zero =>
          refine nx_list_end (xs := [eTp b, eTp a]) (l := acc) (i := 2) (by tb_start) (by tb_start) (by simp) ⟨_, _, rfl, fun v hv => ret_end hv (S' := (acc2, PList ((so.take 2).map eIt)) :: S) ?_ (h acc2)⟩
          rw [htk]
          exact .keep (.dropPre (.skip (.skip (.skip (.skip (.refl _))))))
        | succ k =>
          obtain ⟨x, hx, hxp, htake⟩ : ∃ x : Tp, [eTp b, eTp a][2 - (k + 1)]? = some (eTp x) ∧ (x.p, PTup [.val (.ref x.it.a), .int x.i]) ∈ pre ∧ [eIt b.it, eIt a.it].take (2 - k) = [eIt b.it, eIt a.it].take (2 - (k + 1)) ++ [eIt x.it] := by
            have : k = 0 ∨ k = 1 := by lia
            rcases this with rfl | rfl
            · exact ⟨a, rfl, hpa, rfl⟩
            · exact ⟨b, rfl, hpb, rfl⟩
          have e3 : 2 - (k + 1) + 1 = 2 - k := by lia
          refine nx_list (xs := [eTp b, eTp a]) (l := acc) (i := 2 - (k + 1)) (a := eTp x) (by tb_start) (by tb_start) hx fun v hv => ?_
          obtain rfl : v = .ref x.p := hv
          refine lo_list (l := acc) (i := 2 - (k + 1) + 1) (by tb_start) <| as_Pair (a := .val (.ref x.it.a)) (b := .int x.i) (List.mem_cons_of_mem _ (List.mem_cons_of_mem _ (List.mem_cons_of_mem _ (List.mem_append_left _ hxp)))) fun va vb ra rb => ?_
          refine st_loc hC (by tb_start) (by tb_start) (by tb_start) ra <| st_loc hC (by tb_start) (by tb_start) (by tb_start) rb ?_
          refine ev_loc hC (by tb_start) (by tb_start) (by tb_start) fun va hva => ?_
          refine m_append (a := eIt x.it) hva (by tb_start) (by simp; lia) ⟨k, by lia, (C2, PNs [("elem", none), ("order", none)]) :: _, .ns (by tb_start) (.refl _), by lia, ?_⟩
          rw [e3, htake]
      | succ k =>
        obtain ⟨z, hzm⟩ : ∃ z, (z0 :: z1 :: zr)[m]? = some z := ⟨_, List.getElem?_eq_getElem (by lia)⟩
        have hiz : ElI S z := hz z (List.mem_of_getElem? hzm)
        have hdz : ∀ x ∈ b.it :: a.it :: rest, rIt x ≠ rIt z := fun x hx => by
          obtain ⟨j, hj, e⟩ := mem x hx
          exact hrk j m x z e hzm (by lia)
        refine nx_list (xs := (z0 :: z1 :: zr).map eIt) (l := lh) (i := m) (a := eIt z) (by tb_start) (by tb_start) (by rw [List.getElem?_map, hzm]; rfl) fun v hv => lo_Name (as_Name ?_)
        refine st_loc hE (by tb_start) (by tb_start) (by tb_start) hv ?_
        have hmz : (z.a, PList [.int z.c, .int z.k]) ∈ S := hiz.1
        have hma : (a.it.a, PList [.int a.it.c, .int a.it.k]) ∈ S := hia.1
        refine x_cons <| x_If <| t_Compare <| ev_loc hE (by tb_start) (by tb_start) (by tb_start) <| ev_loc hE (by tb_start) (by tb_start) (by tb_start) <| o_llt (l := a.it.a) (l' := z.a) (c := a.it.c) (k := a.it.k) (c' := z.c) (k' := z.k) (by tb_start) (by tb_start) <| T1.bool ?_
        rw [rIt_lt hia hiz]
        by_cases hlt : rIt a.it < rIt z
        · rw [if_pos (decide_eq_true hlt)]
          refine x_cons <| x_Expr hE <| ev_CallDef FR.isDef <| ev_loc hE (by tb_start) (by tb_start) (by tb_start) ⟨rfl, vs_cons <| ev_loc hE (by tb_start) (by tb_start) (by tb_start) <| vs_cons <| ev_Tuple <| vs_cons <| ev_loc hE (by tb_start) (by tb_start) (by tb_start) <| vs_cons <| ev_loc hE (by tb_start) (by tb_start) (by tb_start) <| vs_nil ⟨(by show 2 ≤ 1000; decide), fun t => vs_nil fun vs hvs => ?_⟩⟩
          refine vrs2 hvs fun w1 r1 w2 r2 => ?_
          have hzb : rIt z ≠ rIt b.it := fun e => hdz b.it (by simp) e.symm
          refine c_heaprep (n := n + 2) (Sf := fun xs => (t, PTup [eIt z, .int o]) :: (pre ++ (acc, PList xs) :: (rg, PRange 0 (-2) (-1)) :: (it, PLIter lh (m + 1)) :: (L, PNs [("n", some (.int 2)), ("iterable", some (.val (.ref lh))), ("it", some (.val (.ref it))), ("sentinel", none), ("result", some (.val (.ref acc))), ("size", some (.int ((z0 :: z1 :: zr).length : Nat))), ("elem", some (eIt z)), ("top", some (eIt a.it)), ("order", some (.int o)), ("_heapreplace", some (.val (.ref hra))), ("_order", oo), ("k", none), ("_elem", none)]) :: (ck, PCell (some (.val .none))) :: S)) (e := eTp) (El := fun x => x = ⟨t, z, o⟩ ∨ x = b) (lt := ltR rTp) (r := [b]) (x := ⟨t, z, o⟩) (y := a) ⟨fun _ _ => by tb_start⟩
            (ltOk_tp (fun x xs hx => ?_) fun x y hx hy e => ?_) FR T b2 hsd hsu FU FD r1 r2 (by simp) (fun x hx => by simpa using hx) ?_
          · have hmb := hib.1
            rcases hx with rfl | rfl
            · exact ⟨List.mem_cons_self, hiz.imp (fun q => by tb_start) id⟩
            · exact ⟨List.mem_cons_of_mem _ (List.mem_append_left _ hpb), hib.imp (fun q => by tb_start) id⟩
          · rcases hx with rfl | rfl <;> rcases hy with rfl | rfl <;> first | rfl | (exfalso; unfold rTp at e; exact hzb e) | (exfalso; unfold rTp at e; exact hzb e.symm)
          rw [suF_two]
          have hnew : ∃ a' b' : Tp, (if ltR rTp (⟨t, z, o⟩ : Tp) b = true then [(⟨t, z, o⟩ : Tp), b] else [b, ⟨t, z, o⟩]) = [a', b'] ∧ (a'.p, PTup [.val (.ref a'.it.a), .int a'.i]) ∈ ((t, PTup [eIt z, .int o]) :: pre : Led) ∧ (b'.p, PTup [.val (.ref b'.it.a), .int b'.i]) ∈ ((t, PTup [eIt z, .int o]) :: pre : Led) ∧
              rIt a'.it < rIt b'.it ∧ rIt a.it < rIt a'.it ∧ ((z0 :: z1 :: zr).take (m + 1)).Perm (b'.it :: a'.it :: a.it :: rest) := by
            by_cases hc : rIt z < rIt b.it
            · exact ⟨⟨t, z, o⟩, b, by rw [if_pos (show ltR rTp (⟨t, z, o⟩ : Tp) b = true from decide_eq_true hc)], List.mem_cons_self, List.mem_cons_of_mem _ hpb, hc, hlt, (step_in hzm hperm).trans (List.Perm.swap _ _ _)⟩
            · exact ⟨b, ⟨t, z, o⟩, by rw [if_neg (show ¬ ltR rTp (⟨t, z, o⟩ : Tp) b = true from fun q => hc (of_decide_eq_true q))], List.mem_cons_of_mem _ hpb, List.mem_cons_self, (by show rIt b.it < rIt z; lia), hba, step_in hzm hperm⟩
          obtain ⟨a', b', hif, hpa', hpb', hba', haa, hperm'⟩ := hnew
          rw [hif, show ([a', b'] : List Tp).map eTp = [eTp a', eTp b'] from rfl]
          refine x_cons <| x_Unpack (h := ?_)
          refine ev_Sub <| ev_loc hE (by tb_start) (by tb_start) (by tb_start) <| ev_int <| g_list (l := acc) (xs := [eTp a', eTp b']) (k := ((0 : Nat) : Int)) (by tb_start) (by decide) (by decide) (a := eTp a') rfl ?_
          refine ⟨a'.p, .val (.ref a'.it.a), .int a'.i, rfl, List.mem_append_left (as := (t, PTup [eIt z, .int o]) :: pre) _ hpa', fun va vb ra rb => st_loc hE (by tb_start) (by tb_start) (by tb_start) ra <| st_loc hE (by tb_start) (by tb_start) (by tb_start) rb ?_⟩
          refine x_cons <| x_AugName <| ld_loc hE (by tb_start) (by tb_start) (by tb_start) <| ev_int <| o_isub fun v hv => st_loc hE (by tb_start) (by tb_start) (by tb_start) hv ?_
          refine x_nil (x_nil ⟨k, by lia, _, .refl _, m + 1, a', b', (t, PTup [eIt z, .int o]) :: pre, a.it :: rest, o - 1, _, _, by lia, by lia, hpa', hpb', hperm', hba', ?_, rfl⟩)
          intro x hx
          rcases List.mem_cons.mp hx with rfl | hx
          · exact haa
          · have := hrest x hx; lia
        · rw [if_neg (by simpa using hlt)]
          refine x_nil (x_nil ⟨k, by lia, _, .refl _, m + 1, a, b, pre, z :: rest, o, _, oo, by lia, by lia, hpa, hpb, step_out hzm hperm, hba, ?_, rfl⟩)
          intro x hx
          rcases List.mem_cons.mp hx with rfl | hx
          · have := hdz a.it (by simp); lia
          · exact hrest x hx
end
end
section
open PySem PySem.W PyProof.Rows PySem.Calls PySem.Spec
set_option linter.all false
set_option maxRecDepth 100000
set_option maxHeartbeats 1000000
section
variable {prog : Program} {w : World} {base : Heap} {n : Nat} {S : Led} {env : Env}
theorem VRs.strs {ys : List Str} : ∀ {vs : List Value}, VRs (ys.map AV.str) vs → StrsAre vs ys := by
  induction ys with
  | nil => intro vs h; obtain rfl := h; exact .nil
  | cons y r ih =>
    intro vs h
    obtain ⟨v, us, rfl, ⟨t, rfl⟩, h⟩ := h
    exact .cons y t (ih h)
theorem m_join {x : Str} {l : Addr} {ys : List Str} {vx vl : Value} {Q : AV → Led → Prop} (hx : VR (.str x) vx) (hl : VR (.val (.ref l)) vl) (hm : (l, PList (ys.map AV.str)) ∈ S) (hok : (ys.map (·.length)).sum + ys.length * x.length ≤ 16777216) (h : Q (.str (Txt.join x ys)) S) :
    WV prog w base n (call (.builtin "str.join") [vx, vl]) S Q := .mk fun A s hA R => by
  obtain ⟨t, rfl⟩ := hx
  obtain rfl : vl = .ref l := hl
  obtain ⟨vs, hL, hv⟩ := R.list hm
  exact join_list hL (by simpa using hv.strs) hok fun t' k => Post.tok R ⟨_, vStr, h⟩
end
/-! the regular expression that meets none of its signs -/
noncomputable def codeRe : Array Nat := #[14, 14, 4, 1, 1, 9, 0, 64, 0, 1342177280, 0, 0, 0, 0, 0, 17, 0, 13, 11, 9, 0, 64, 0, 1342177280, 0, 0, 0, 0, 0, 17, 1, 1]
theorem fail_xs : ((Sre.forSearch codeRe #[120, 115] 1 0 2 false).runFor 4).outcome = some .failed := by kernel_rfl
theorem fail_xt : ((Sre.forSearch codeRe #[120, 116] 1 0 2 false).runFor 4).outcome = some .failed := by kernel_rfl
theorem seen_loop {M : Model} {A : Around} {E : Value → Shared → Prop} {s : Shared} {f : Nat → Bool} {g : Nat → String} {Q : PUnit → Shared → Prop} : ∀ (l : List Nat), Q ⟨⟩ s →
    wpAny M A (forIn l (⟨⟩ : PUnit) fun i _ => if f i = true then (rule (g i) >>= fun _ => pure (ForInStep.yield ⟨⟩)) else pure (ForInStep.yield ⟨⟩)) Q E s
  | [], h => by rw [List.forIn_nil]; exact wpAny_pure h
  | i :: l, h => by
    rw [List.forIn_cons]
    refine wpAny_bind ?_
    split
    · exact wpAny_bind (wpAny_rule (wpAny_pure (seen_loop l h)))
    · exact wpAny_pure (seen_loop l h)
theorem reDrive_1 {M : Model} {A : Around} {E : Value → Shared → Prop} {s : Shared} {m : Sre.M} {k : Nat} {Q : Sre.M → Shared → Prop} (h : (m.runFor 4).outcome.isSome = true) (hq : Q (m.runFor 4) s) : wpAny M A (Builtin.Re.reDrive (k + 1) m) Q E s := by
  unfold Builtin.Re.reDrive
  show wpAny _ _ (if (m.runFor 4).outcome.isSome = true then pure (m.runFor 4) else _) _ _ _
  rw [if_pos h]
  exact wpAny_pure hq
theorem run_fail {M : Model} {A : Around} {E : Value → Shared → Prop} {s : Shared} {m : Sre.M} {Q : Option Sre.M → Shared → Prop} (h : (m.runFor 4).outcome = some .failed) (hq : Q none s) : wpAny M A (Builtin.Re.reRunToEnd m) Q E s := by
  unfold Builtin.Re.reRunToEnd
  rw [show (2 ^ 64 : Nat) = 18446744073709551615 + 1 from rfl]
  refine wpAny_bind (reDrive_1 (by rw [h]; rfl) ?_)
  refine wpAny_bind (seen_loop _ ?_)
  rw [h]
  exact wpAny_pure hq
end
section
open PySem PySem.W PyProof.Rows PySem.Calls PySem.Spec
set_option linter.all false
set_option maxRecDepth 100000
set_option maxHeartbeats 1000000
section
variable {prog : Program} {w : World} {A : Around} {E : Value → Shared → Prop} {s : Shared}
/-- the pattern's object and its code's -/
noncomputable def IsRe (h : Heap) (p : Addr) : Prop :=
  ∃ (c : Addr) (ps : Str) (t1 : Tok) (i2 : Int) (t2 t3 t4 : Tok) (vs : Array Value) (k : Nat), h.get? p = some { cls := .type "re.Pattern", data := .fields #[.str ps t1, .int i2 t2, .int 1 t3, .none, .none, .ref c, .int 0 t4] } ∧ h.get? c = some { cls := .type "tuple", data := .seq vs k } ∧ (vs.map Builtin.Re.reRawOf).map (·.toNat) = codeRe
theorem wholeTarget {p : Addr} {x : Str} {t : Tok} {Q : Builtin.Re.ReTarget → Shared → Prop} (hp : IsRe s.heap p) (h : Q { pattern := .ref p, string := .str x t, code := codeRe, text := x.cps, kind := 0, groups := 1, pos := 0, lim := x.cps.size } s) :
    wpAny (model prog w) A (Builtin.Re.reWholeTarget (.ref p) (.str x t)) Q E s := by
  obtain ⟨c, ps, t1, i2, t2, t3, t4, vs, k, hp, hc, hcode⟩ := hp
  unfold Builtin.Re.reWholeTarget
  refine wpAny_bind (wpAny_fieldsOf hp rfl ?_)
  refine wpAny_bind (wpAny_of_eq (a := (x.cps, 0)) rfl ?_)
  dsimp only
  rw [if_neg (by simp)]
  rw [if_neg (by simp [Builtin.Re.reRawNat])]
  refine wpAny_bind (wpAny_of_eq (a := ()) rfl ?_)
  show wpAny _ _ (Builtin.Re.reRawItems (.ref c) >>= _) _ _ _
  refine wpAny_bind ?_
  unfold Builtin.Re.reRawItems
  refine wpAny_bind (wpAny_seqItems hc rfl (wpAny_pure (wpAny_pure ?_)))
  show Q { pattern := .ref p, string := .str x t, code := (vs.map Builtin.Re.reRawOf).map (·.toNat), text := x.cps, kind := 0, groups := 1, pos := 0, lim := x.cps.size } s
  rw [hcode]
  exact h
theorem sub_pm : isSubtype (.type "str") (.type "bytearray") = pure false := by rw [isSubtype_type]; kernel_rfl
theorem call_fn : ∃ v, typeLookup (.type "function") "__call__" = pure (some v) := ⟨.builtin "function.__call__", by rw [typeLookup_type, builtinLookup_eq_fast]; kernel_rfl⟩
end
end
section
open PySem PySem.W PyProof.Rows PySem.Calls PySem.Spec
set_option linter.all false
set_option maxRecDepth 100000
set_option maxHeartbeats 1000000
theorem slot_re_sub : Slot "re.Pattern" "sub" "re.Pattern.sub" :=
  .of (owner := "re.Pattern") (n := "sub") (by rw [typeLookup_type, builtinLookup_eq_fast]; kernel_rfl) (by decide +kernel) (by decide +kernel) (by decide +kernel)
    (by first | exact .inl (by decide +kernel) | exact .inr (by decide +kernel)) (by rw [isSubtype_type]; kernel_rfl)
theorem type_re_sub : typeOf (.builtin "re.Pattern.sub") = pure (.type "method_descriptor") := by show builtinType _ = _; rw [builtinType_eq_fast]; kernel_rfl
theorem entry_re_sub : entryFor table "re.Pattern.sub" = some Builtin.«re.Pattern.sub» := entryFor_of_tree (by kernel_rfl)
theorem args_re_sub (a b c : Value) : argsOk "re.Pattern.sub" ⟨[a, b, c], []⟩ := by
  unfold argsOk; kernel_rfl
theorem entry_re_loop : entryFor table "re.Pattern.sub.loop" = some Builtin.«re.Pattern.sub.loop» := entryFor_of_tree (by kernel_rfl)
theorem plain_re_loop : plainId "re.Pattern.sub.loop" = true := by decide +kernel
theorem plainAttrs_re : PlainAttrs "re.Pattern" :=
  ⟨⟨"object.__getattribute__", by rw [typeLookup_type, builtinLookup_eq_fast]; kernel_rfl, by decide +kernel⟩, by rw [typeLookup_type, builtinLookup_eq_fast]; kernel_rfl⟩
section
variable {prog : Program} {w : World} {A : Around} {E : Value → Shared → Prop} {s : Shared}
theorem sub_type_re {p f : Addr} {x : Str} {t : Tok} {fo : Obj} {P : PySem.Fin → Shared → Prop} (hp : IsRe s.heap p) (hf : s.heap.get? f = some fo) (hfc : fo.cls = .type "function")
    (h : P (.again (.builtin "re.Pattern.sub.loop" ⟨[.ref p, .str x t, .ref f, rawInt 1, rawInt 0, rawInt 0, rawInt 0, rawInt 0, .bool false, .ref s.heap.objs.size, .bool false], []⟩)) { s with heap := s.heap.push { cls := .type "list", data := .seq #[] } }) :
    wpAny (model prog w) A (Builtin.«re.Pattern.sub» ⟨[.ref p, .ref f, .str x t], []⟩) P E s := by
  obtain ⟨cv, hcv⟩ := call_fn
  unfold Builtin.«re.Pattern.sub» Builtin.Re.reSubstitute
  dsimp only
  refine wpAny_bind (wpAny_of_eq (a := [some (.ref f), some (.str x t), none]) rfl ?_)
  dsimp only
  refine wpAny_bind (wpAny_of_eq (a := (0 : Int)) rfl ?_)
  refine wpAny_bind (wpAny_specialOf ⟨fo, hf, hfc⟩ hcv ?_)
  simp only [Option.isSome_some, if_true]
  refine wpAny_bind (wpAny_pure ?_)
  refine wpAny_bind (wpAny_pure ?_)
  dsimp only
  refine wpAny_bind (wpAny_holding (wholeTarget hp ?_))
  rw [if_pos (by decide)]
  refine wpAny_bind ?_
  unfold Builtin.Re.reNotHeld
  refine wpAny_bind (wpAny_isInstance (typeIs_str s x t) sub_pm ?_)
  simp only [Bool.false_eq_true, if_false]
  refine wpAny_pure ?_
  refine wpAny_bind (wpAny_newList ?_ (Nat.zero_le _))
  exact wpAny_pure h
/-- the walk over a text of two signs that meets none -/
theorem sub_loop {p f L : Addr} {x : Str} {t : Tok} {P : PySem.Fin → Shared → Prop} (hp : IsRe s.heap p) (hL : s.heap.get? L = some { cls := .type "list", data := .seq #[] }) (hx : x = "xs" ∨ x = "xt")
    (h : ∀ h' k v, Heap.SameBut L s.heap h' → VR (.str x) v → P (.done (.ret v)) { s with heap := h', toks := k }) :
    wpAny (model prog w) A (Builtin.«re.Pattern.sub.loop» ⟨[.ref p, .str x t, .ref f, rawInt 1, rawInt 0, rawInt 0, rawInt 0, rawInt 0, .bool false, .ref L, .bool false], []⟩) P E s := by
  unfold Builtin.«re.Pattern.sub.loop»
  dsimp only
  have key : ∀ (y : Array Nat), ((Sre.forSearch codeRe y 1 0 2 false).runFor 4).outcome = some .failed → y.size = 2 → x = ⟨y⟩ → wpAny (model prog w) A (Builtin.«re.Pattern.sub.loop» ⟨[.ref p, .str x t, .ref f, rawInt 1, rawInt 0, rawInt 0, rawInt 0, rawInt 0, .bool false, .ref L, .bool false], []⟩) P E s := by
    rintro y hy hy2 rfl
    unfold Builtin.«re.Pattern.sub.loop»
    dsimp only
    refine wpAny_bind (wholeTarget hp ?_)
    dsimp only
    rw [if_neg (by decide)]
    try dsimp only
    refine wpAny_bind ?_
    rw [if_neg (by decide)]
    refine run_fail (by rw [hy2]; exact hy) ?_
    dsimp only
    rw [if_pos (by rw [hy2]; decide)]
    rw [hy2]
    have hex : y.extract 0 2 = y := by rw [← hy2]; simp
    have he0 : y.extract 0 0 = #[] := by simp
    refine wpAny_bind (show wpAny _ _ (mkStr ⟨y.extract 0 2⟩) _ _ _ from wpAny_mkStr ?_ (by rw [hex]; show y.size ≤ _; rw [hy2, sizeLine_eq]; decide))
    rw [hex]
    refine wpAny_bind (wpAny_updateSeq hL rfl ?_ (Nat.zero_le _) (by rw [sizeLine_eq]; show 1 ≤ 16777217; decide))
    refine wpAny_bind (show wpAny _ _ (mkStr ⟨y.extract 0 0⟩) _ _ _ from wpAny_mkStr ?_ (by rw [he0]; exact Nat.zero_le _))
    rw [he0]
    have hL2 := get?_update_seq (h := s.heap) (a := L) (c := "list") (xs := #[]) (n := 0) hL (fun v => v.push (.str ⟨y⟩ s.toks))
    refine wpAny_bind (wpAny_seqItems hL2 rfl ?_)
    rw [if_neg (by simp)]
    have hI : (s.heap.update L (Obj.mapSeq fun v => v.push (.str ⟨y⟩ s.toks))).IsList L (List.toArray [.str ⟨y⟩ s.toks]) := ⟨_, hL2, rfl, _, rfl⟩
    have hsum : (([⟨y⟩] : List Str).map (·.length)).sum + ([⟨y⟩] : List Str).length * (⟨#[]⟩ : Str).length ≤ 16777216 := by
      show y.size + 0 + 1 * 0 ≤ 16777216
      lia
    refine wpAny_bind (join_list (x := ⟨#[]⟩) (ys := [⟨y⟩]) hI (.cons _ _ .nil) hsum fun t' k => ?_)
    dsimp only
    rw [if_neg (by decide)]
    refine wpAny_pure ?_
    rw [show Txt.join (⟨#[]⟩ : Str) [⟨y⟩] = ⟨y⟩ from by rcases hx with e | e <;> rw [e] <;> rfl]
    exact h _ _ _ (Heap.SameBut.update ..) vStr
  rcases hx with rfl | rfl
  · exact key _ fail_xs rfl rfl
  · exact key _ fail_xt rfl rfl
theorem call_re_sub {p f : Addr} {x : Str} {t : Tok} {fo : Obj} {Q : Value → Shared → Prop} (hp : IsRe s.heap p) (hf : s.heap.get? f = some fo) (hfc : fo.cls = .type "function") (hx : x = "xs" ∨ x = "xt")
    (h : ∀ h' k v, (∀ b o, s.heap.get? b = some o → h'.get? b = some o) → VR (.str x) v → Q v { s with heap := h', toks := k }) : wpAny (model prog w) A (call (.builtin "re.Pattern.sub") [.ref p, .ref f, .str x t]) Q E s := by
  have hT : s.TypeIs (.ref p) "re.Pattern" := let ⟨_, _, _, _, _, _, _, _, _, e, _⟩ := hp; ⟨_, e, rfl⟩
  refine wpAny_call (codeAny_call_builtin slot_re_sub.plain entry_re_sub (slot_re_sub.check _ _ _ _ _ _ _ _ hT (args_re_sub _ _ _) (sub_type_re hp hf hfc ?_)))
  refine ⟨plainId_quiet plain_re_loop _, codeAny_builtin entry_re_loop ?_⟩
  rw [Around.under_plainId plain_re_loop _]
  have hp2 : IsRe (s.heap.push { cls := .type "list", data := .seq #[] }) p := by
    obtain ⟨c, ps, t1, i2, t2, t3, t4, vs, k, hp, hc, hcode⟩ := hp
    exact ⟨c, ps, t1, i2, t2, t3, t4, vs, k, Heap.get?_push_of_some _ hp, Heap.get?_push_of_some _ hc, hcode⟩
  refine sub_loop (s := { s with heap := s.heap.push { cls := .type "list", data := .seq #[] } }) hp2 (Heap.get?_push_size _ rfl) hx fun h' k v hs hv => ?_
  exact h h' k v (fun b o e => hs.2 b (Nat.ne_of_lt (Heap.lt_size e)) ▸ Heap.get?_push_of_some _ e) hv
end
end
section
open PySem PySem.W PyProof.Rows PySem.Calls PySem.Spec
set_option linter.all false
set_option maxRecDepth 100000
set_option maxHeartbeats 1000000
section
variable {prog : Program} {w : World} {base : Heap} {n : Nat} {S : Led} {env : Env}
/-- a tuple that the base or the ledger holds -/
noncomputable def TAt (base : Heap) (S : Led) (l : Addr) (xs : List AV) : Prop := ∀ h, Rep base S h → ∃ vs, h.IsTuple l (List.toArray vs) ∧ VRs xs vs
theorem TAt.own {l : Addr} {xs : List AV} (hm : (l, PTup xs) ∈ S) : TAt base S l xs := fun h R => R.tuple hm
theorem TAt.old {l : Addr} {xs : List AV} {vs : List Value} (hl : base.IsTuple l (List.toArray vs)) (hv : VRs xs vs) : TAt base S l xs := fun h R => ⟨vs, let ⟨o, e, r⟩ := hl; ⟨o, R.keep _ _ e, r⟩, hv⟩
theorem itB_tuple {l : Addr} {xs : List AV} {Q : AV → Led → Prop} (hm : TAt base S l xs) (h : ∀ it, Q (.val (.ref it)) ((it, PTIter l 0) :: S)) : L1 prog w base n pyIter (.val (.ref l)) S Q := l1_ref <| .mk fun A s hA R => by
  obtain ⟨vs, hl, _⟩ := hm _ R
  exact wpAny_pyIter_tuple hl ⟨_, _, s.toks, rfl, R.push (P := PTIter l 0) ⟨rfl, rfl⟩, .val (.ref _), rfl, h _⟩
theorem nxB_tuple {it l : Addr} {i : Nat} {xs : List AV} {a : AV} {S' : Led} {Q : Option Value → Led → Prop} (U : Upd S it (PTIter l i) (PTIter l (i + 1)) S') (hm : TAt base S l xs) (hx : xs[i]? = some a) (h : ∀ v, VR a v → Q (some v) S') :
    W prog w base n (pyNext (.ref it)) S Q := .mk fun A s hA R => by
  obtain ⟨o, e, h1, h2⟩ := R.get U.memOld
  obtain ⟨vs, hl, hv⟩ := hm _ R
  obtain ⟨v, ev, rv⟩ := hv.get hx
  refine wpAny_pyNext_tuple_item ⟨o, e, h1, h2⟩ hl (by simpa using ev) fun h' hi hs => ?_
  obtain ⟨o', e', h1', h2'⟩ := hi
  exact ⟨S', h', s.toks, rfl, R.update U hs ⟨o', e', h1', h2'⟩, h v rv⟩
theorem nxB_tuple_end {it l : Addr} {i : Nat} {xs : List AV} {S' : Led} {Q : Option Value → Led → Prop} (D : Del S it (PTIter l i) S') (hm : TAt base S l xs) (hx : xs.length ≤ i) (h : Q none S') :
    W prog w base n (pyNext (.ref it)) S Q := .mk fun A s hA R => by
  obtain ⟨o, e, h1, h2⟩ := R.get D.mem
  obtain ⟨vs, hl, hv⟩ := hm _ R
  have := hv.length
  exact wpAny_pyNext_tuple_end hA.handled ⟨o, e, h1, h2⟩ hl (by simp; lia) fun h' x => ⟨S', h', s.toks, rfl, R.del D x, h⟩
end
end
section
open PySem PySem.W PyProof.Rows PySem.Calls PySem.Spec
set_option linter.all false
set_option maxRecDepth 100000
set_option maxHeartbeats 1000000
section
variable {prog : Program} {w : World} {A : Around} {E : Value → Shared → Prop} {s : Shared}
theorem enum_newT (l : Addr) (items : Array Value) :
    Meets (Builtin.«enumerate.__new__» ⟨[.type "enumerate", .ref l], []⟩) (fun _ R s => s.heap.IsTuple l items ∧
      R (.ok (.ret (.ref (s.heap.push { cls := .type "tuple_iterator", data := .fields #[.ref l, .int 0 0] }).objs.size)))
        { s with heap := (s.heap.push { cls := .type "tuple_iterator", data := .fields #[.ref l, .int 0 0] }).push { cls := .type "enumerate", data := .fields #[.none, .bool false, .ref s.heap.objs.size, rawInt 0, .none, .none] } }) :=
  .of_wp fun prog w A R s h => by
    obtain ⟨hp, g, d, tk, os⟩ := s; obtain ⟨hl, h⟩ := h
    have hsub := sub_enumerate
    have hL : Heap.IsTuple (Shared.heap ⟨hp, g, d, tk, os⟩) l items := hl
    wp_walk
    refine wpAny_stack_any fun st => wpAny_pure ?_
    split
    · rename_i c _ _ _ _ _
      cases (c == Value.type "enumerate")
      · wp_walk using wpAny_pyIter_tuple hL
        exact ⟨_, rfl, h⟩
      · wp_walk using wpAny_pyIter_tuple hL
        exact ⟨_, rfl, h⟩
    · wp_walk using wpAny_pyIter_tuple hL
      exact ⟨_, rfl, h⟩
theorem call_enumT {l : Addr} {items : Array Value} {Q : Value → Shared → Prop} (hl : s.heap.IsTuple l items)
    (h : Q (.ref (s.heap.objs.size + 1)) { s with heap := (s.heap.push { cls := .type "tuple_iterator", data := .fields #[.ref l, .int 0 0] }).push { cls := .type "enumerate", data := .fields #[.none, .bool false, .ref s.heap.objs.size, rawInt 0, .none, .none] } }) :
    wpAny (model prog w) A (call (.type "enumerate") [.ref l]) Q E s := by
  refine callType_new F.called_enumerate (by decide) (F.typeCall_enumerate_1 _) (F.newCall_enumerate_1 _) (fun obj => F.args_object_init_2 obj _) F.entry_enumerate_new
    (enum_newT l items) ⟨hl, ?_⟩
  have hz : (s.heap.push { cls := .type "tuple_iterator", data := .fields #[.ref l, .int 0 0] }).objs.size = s.heap.objs.size + 1 := Heap.size_push ..
  show _ ∧ _
  rw [hz]
  have := Heap.get?_push_size (s.heap.push { cls := .type "tuple_iterator", data := .fields #[.ref l, .int 0 0] })
      (o := { cls := .type "enumerate", data := .fields #[.none, .bool false, .ref s.heap.objs.size, rawInt 0, .none, .none] }) rfl
  rw [hz] at this
  exact ⟨⟨_, this, rfl⟩, h⟩
theorem nextOf_tuple_item {it t : Addr} {i : Nat} {items : Array Value} {x : Value} {Q : Value → Shared → Prop} (hit : s.heap.IsTupleIter it t i)
    (ht : s.heap.IsTuple t items) (hx : items[i]? = some x)
    (hQ : ∀ h', h'.IsTupleIter it t (i + 1) → Heap.SameBut it s.heap h' → Q x { s with heap := h' }) :
    wpAny (model prog w) A (Builtin.SmallTypes.nextOf (.ref it)) Q E s := by
  obtain ⟨o, ho, hc, hd⟩ := id hit
  obtain ⟨ol, hol, _, nl, hdl⟩ := ht
  unfold Builtin.SmallTypes.nextOf
  refine wpAny_bind (wpAny_callSpecial?_slot (name := Str.ofString "__next__") hit.typeIs F.slot_tuple_iterator_next
    (wpAny_call_entry F.slot_tuple_iterator_next hit.typeIs F.entry_tuple_iterator_next ?_ (F.args_tuple_iterator_next_1 _)))
  show wpAny _ _ (field (.ref it) 0 >>= _) _ _ s
  refine wpAny_bind (wpAny_field ho hd (x := .ref t) rfl ?_)
  show wpAny _ _ (if (Value.ref t == Value.none) = true then _ else _) _ _ s
  rw [if_neg (show ¬ ((Value.ref t == Value.none) = true) from Bool.false_ne_true)]
  show wpAny _ _ (field (.ref it) 1 >>= _) _ _ s
  refine wpAny_bind (wpAny_field ho hd (x := .int i 0) rfl ?_)
  show wpAny _ _ (seqItems? (.ref t) >>= _) _ _ s
  refine wpAny_bind (wpAny_seqItems hol hdl ?_)
  simp only [Int.toNat_natCast, hx]
  refine wpAny_bind (wpAny_setField ho hd (by simp) (wpAny_pure ⟨x, rfl, wpAny_pure (hQ _ ?_ (Heap.SameBut.update ..))⟩))
  exact ⟨_, Heap.get?_update_self _ ho (Obj.isFreed_of_fields (Obj.data_mapFields hd _)), (Obj.cls_mapFields ..).trans hc, by
    rw [Obj.data_mapFields hd]; simp [rawInt]⟩
theorem nextOf_tuple_end {it t : Addr} {i : Nat} {items : Array Value} {Q : Value → Shared → Prop} (hh : A.handled = none)
    (hit : s.heap.IsTupleIter it t i) (ht : s.heap.IsTuple t items) (hx : items[i]? = none)
    (hE : ∀ h' e, Heap.ExtBut it s.heap h' → (∃ o, h'.get? e = some o ∧ o.cls = .type "StopIteration") → E (.ref e) { s with heap := h' }) :
    wpAny (model prog w) A (Builtin.SmallTypes.nextOf (.ref it)) Q E s := by
  obtain ⟨o, ho, hc, hd⟩ := id hit
  obtain ⟨ol, hol, _, nl, hdl⟩ := ht
  unfold Builtin.SmallTypes.nextOf
  refine wpAny_bind (wpAny_callSpecial?_slot (name := Str.ofString "__next__") hit.typeIs F.slot_tuple_iterator_next
    (wpAny_call_entry F.slot_tuple_iterator_next hit.typeIs F.entry_tuple_iterator_next ?_ (F.args_tuple_iterator_next_1 _)))
  show wpAny _ _ (field (.ref it) 0 >>= _) _ _ s
  refine wpAny_bind (wpAny_field ho hd (x := .ref t) rfl ?_)
  show wpAny _ _ (if (Value.ref t == Value.none) = true then _ else _) _ _ s
  rw [if_neg (show ¬ ((Value.ref t == Value.none) = true) from Bool.false_ne_true)]
  show wpAny _ _ (field (.ref it) 1 >>= _) _ _ s
  refine wpAny_bind (wpAny_field ho hd (x := .int i 0) rfl ?_)
  show wpAny _ _ (seqItems? (.ref t) >>= _) _ _ s
  refine wpAny_bind (wpAny_seqItems hol hdl ?_)
  simp only [Int.toNat_natCast, hx]
  refine wpAny_bind (wpAny_rule (wpAny_bind (wpAny_setField ho hd (by simp) ?_)))
  show wpAny _ _ (newExc (.type "StopIteration") [] >>= _) _ _ _
  refine wpAny_bind ?_
  simp only [newExc, newTuple]
  refine wpAny_bind (wpAny_newObj_type ?_ (by size_fits))
  refine wpAny_bind (m := firstArgMember _ _) (wpAny_of_eq (a := Value.none) (by first | rfl | (simp only [firstArgMember]; rfl)) ?_)
  refine wpAny_newObj_type ?_ (by size_fits)
  simp only [raiseNew]
  refine wpAny_bind (wpAny_handled ?_)
  first | rw [show A.in1.handled = none from hh] | rw [hh]
  refine wpAny_bind (wpAny_pure (wpAny_throw ?_))
  exact hE _ _ (((Heap.SameBut.update ..).extBut.push _).push _) ⟨_, Heap.get?_push_size _ rfl, rfl⟩
end
end
section
open PySem PySem.W PyProof.Rows PySem.Calls PySem.Spec
set_option linter.all false
set_option maxRecDepth 100000
set_option maxHeartbeats 1000000
section
variable {prog : Program} {w : World} {base : Heap} {n : Nat} {S : Led} {env : Env}
noncomputable def PEnum (f0 : Value) (it : Addr) (i : Int) (old : Value) : OP := fun o => o = { cls := .type "enumerate", dict := none, data := .fields #[f0, .bool false, .ref it, rawInt i, .none, old], slots := #[] }
noncomputable def PEnumA (it : Addr) (i : Int) : OP := fun o => ∃ old, o = { cls := .type "enumerate", dict := none, data := .fields #[.none, .bool false, .ref it, rawInt i, .none, old], slots := #[] }
theorem W.enum {α : Type} {a it : Addr} {i : Int} {S' : Value → Led} {t : Sem α} {Q : α → Led → Prop} (U : ∀ x, Upd S a (PEnumA it i) (PEnum .none it i x) (S' x)) (h : ∀ x, W prog w base n t (S' x) Q) : W prog w base n t S Q := .mk fun A s hA R => by
  obtain ⟨o, e, x, rfl⟩ := R.get (U .none).memOld
  exact (h x).run A s hA (R.update (U x) ⟨rfl, fun _ _ => rfl⟩ ⟨_, e, rfl⟩)
theorem w_setEnum {e it it' : Addr} {i i' : Int} {f0 f1 old old' x : Value} {k : Nat} {S' : Led} {Q : Unit → Led → Prop} (hk : k < 6) (U : Upd S e (PEnum f0 it i old) (PEnum f1 it' i' old') S')
    (hv : (#[f0, .bool false, .ref it, rawInt i, .none, old] : Array Value).setIfInBounds k x = #[f1, .bool false, .ref it', rawInt i', .none, old']) (h : Q () S') : W prog w base n (setField (.ref e) k x) S Q := .mk fun A s hA R => by
  obtain ⟨o, eo, rfl⟩ := R.get U.memOld
  exact wpAny_setField_rec eo (by simpa using hk) fun h' hz hs => ⟨S', h', s.toks, rfl, R.update U hs ⟨_, hz, by rw [hv]; rfl⟩, h⟩
theorem w_mkInt {i : Int} {Q : Value → Led → Prop} (h : ∀ v, VR (.int i) v → Q v S) : W prog w base n (mkInt i) S Q := .mk fun A s hA R => wpAny_mkInt (Post.tok R (h _ vInt))
theorem nf_tuple {it l : Addr} {i : Nat} {xs : List AV} {a : AV} {S' : Led} {Q : Value → Led → Prop} (U : Upd S it (PTIter l i) (PTIter l (i + 1)) S') (hm : TAt base S l xs) (hx : xs[i]? = some a) (h : ∀ v, VR a v → Q v S') :
    W prog w base n (Builtin.SmallTypes.nextOf (.ref it)) S Q := .mk fun A s hA R => by
  obtain ⟨o, e, h1, h2⟩ := R.get U.memOld
  obtain ⟨vs, hl, hv⟩ := hm _ R
  obtain ⟨v, ev, rv⟩ := hv.get hx
  refine nextOf_tuple_item ⟨o, e, h1, h2⟩ hl (by simpa using ev) fun h' hi hs => ?_
  obtain ⟨o', e', h1', h2'⟩ := hi
  exact ⟨S', h', s.toks, rfl, R.update U hs ⟨o', e', h1', h2'⟩, h v rv⟩
theorem enum_body {e it l : Addr} {i : Nat} {xs : List AV} {a : AV} {R : Led} {Q : PySem.Fin → Led → Prop} (hl : ∀ S, TAt base S l xs) (hx : xs[i]? = some a)
    (h : ∀ T v y, VR (.int i) v → VR a y → Q (.done (.ret (.ref T))) ((T, PPair v y) :: (e, PEnum (rawInt T) it ((i : Int) + 1) y) :: (it, PTIter l (i + 1)) :: R)) :
    W prog w base n (Builtin.«enumerate.__next__» ⟨[.ref e], []⟩) ((e, PEnumA it i) :: (it, PTIter l i) :: R) Q := by
  have fe : ∀ {f0 : Value} {j : Int} {old : Value} (k : Nat) (v : Value), (#[f0, .bool false, .ref it, rawInt j, .none, old] : Array Value)[k]? = some v → ∀ o, PEnum f0 it j old o → ∃ vs, o.data = .fields vs ∧ vs[k]? = some v := by
    rintro f0 j old k v q o rfl
    exact ⟨_, rfl, q⟩
  refine W.enum (a := e) (S' := fun x => (e, PEnum .none it i x) :: (it, PTIter l i) :: R) (fun _ => Upd.head) fun old => ?_
  show W _ _ _ _ (field (.ref e) 2 >>= _) _ _
  refine W.bind (w_field List.mem_cons_self (fe 2 (.ref it) rfl) ?_)
  refine W.bind (nf_tuple (.tail .head) (hl _) hx fun y hy => ?_)
  refine W.bind (w_field List.mem_cons_self (fe 3 (rawInt i) rfl) ?_)
  dsimp only [rawInt]
  refine W.bind (w_field List.mem_cons_self (fe 4 .none rfl) ?_)
  refine W.bind ?_
  refine w_mkInt fun v hv => ?_
  refine W.bind (w_setEnum (k := 3) (x := rawInt ((i : Int) + 1)) (f1 := .none) (it' := it) (i' := (i : Int) + 1) (old' := old) (by decide) Upd.head rfl ?_)
  refine W.bind (w_setEnum (k := 4) (x := .none) (f1 := .none) (it' := it) (i' := (i : Int) + 1) (old' := old) (by decide) Upd.head rfl ?_)
  refine W.bind (w_newPair fun T => ?_)
  show W _ _ _ _ (Builtin.SmallTypes.ownedTupleIsFree (.ref e) >>= _) _ _
  refine W.bind ?_
  unfold Builtin.SmallTypes.ownedTupleIsFree
  refine W.bind (w_field (List.mem_cons_of_mem _ List.mem_cons_self) (fe 0 .none rfl) (W.pure ?_))
  simp only [if_true]
  refine W.bind (W.rule ?_)
  refine W.bind (w_field (List.mem_cons_of_mem _ List.mem_cons_self) (fe 5 old rfl) ?_)
  refine W.bind (w_setEnum (k := 5) (x := y) (f1 := .none) (it' := it) (i' := (i : Int) + 1) (old' := y) (by decide) (.tail .head) rfl ?_)
  show W _ _ _ _ (Builtin.SmallTypes.ownedTupleHandOut (.ref e) (.ref T) >>= _) _ _
  refine W.bind ?_
  unfold Builtin.SmallTypes.ownedTupleHandOut
  refine W.bind (w_setEnum (k := 0) (x := rawInt T) (f1 := rawInt T) (it' := it) (i' := (i : Int) + 1) (old' := y) (by decide) (.tail .head) rfl ?_)
  refine w_setEnum (k := 1) (x := .bool false) (f1 := rawInt T) (it' := it) (i' := (i : Int) + 1) (old' := y) (by decide) (.tail .head) rfl ?_
  refine W.bind (w_letGo ?_)
  exact W.pure (h T v y hv hy)
theorem nx_enum {e it l : Addr} {i : Nat} {xs : List AV} {a : AV} {R : Led} {Q : Option Value → Led → Prop} (hl : ∀ S, TAt base S l xs) (hx : xs[i]? = some a)
    (h : ∀ T y, VR a y → Q (some (.ref T)) ((T, PTup [.int i, a]) :: (e, PEnum (rawInt T) it ((i : Int) + 1) y) :: (it, PTIter l (i + 1)) :: R)) :
    W prog w base (n + 1) (pyNext (.ref e)) ((e, PEnumA it i) :: (it, PTIter l i) :: R) Q := .mk fun A s hA RR => by
  obtain ⟨o, eo, old, rfl⟩ := RR.get List.mem_cons_self
  have hT : s.TypeIs (.ref e) "enumerate" := ⟨_, eo, rfl⟩
  unfold pyNext
  refine wpAny_bind (wpAny_attempt (wpAny_callSpecial?_slot (name := Str.ofString "__next__") hT F.slot_enumerate_next
    (wpAny_call_entry F.slot_enumerate_next hT F.entry_enumerate_next (wpAny_mono ((enum_body (prog := prog) (w := w) (base := base) (n := n) (e := e) (it := it) (R := R)
      (Q := fun f S' => ∃ T v y, VR (.int i) v ∧ VR a y ∧ f = .done (.ret (.ref T)) ∧ S' = ((T, PPair v y) :: (e, PEnum (rawInt T) it ((i : Int) + 1) y) :: (it, PTIter l (i + 1)) :: R)) hl hx
      (fun T v y hv hy => ⟨T, v, y, hv, hy, rfl, rfl⟩)).run _ _ hA.in1 RR) (fun f s' p => ?_) fun _ _ x => x.elim) (F.args_enumerate_next_1 _))))
  obtain ⟨S₁, h₁, k₁, rfl, R₁, T, v, y, hv, hy, rfl, rfl⟩ := p
  refine ⟨_, rfl, ?_⟩
  exact wpAny_pure ⟨_, h₁, k₁, rfl, R₁.wk (.weak (PPair.tup hv hy) (.refl _)), h T y hy⟩
theorem lo_enum {elts : List Expr} {x1 : Nat} {pos : Pos} {e it T : Addr} {i : Int} {y : Value} {S' : Led} {Q : Unit → Led → Prop} (U : Upd S e (PEnum (rawInt T) it i y) (PEnumA it i) S') (h : Q () S') : W prog w base n (letOwnedTupleGo (.Tuple elts x1 pos) (.ref e) (.ref T)) S Q := .mk fun A s hA R => by
  obtain ⟨o, eo, rfl⟩ := R.get U.memOld
  exact wpAny_letOwnedTupleGo_enum eo fun h' hz hs => ⟨S', h', s.toks, rfl, R.update U hs ⟨_, hz, _, rfl⟩, h⟩
theorem c_enum {l : Addr} {xs : List AV} {v : Value} {Q : AV → Led → Prop} (hv : VR (.val (.ref l)) v) (hl : TAt base S l xs) (h : ∀ e it, Q (.val (.ref e)) ((e, PEnumA it 0) :: (it, PTIter l 0) :: S)) : WV prog w base n (call (.type "enumerate") [v]) S Q := .mk fun A s hA R => by
  obtain rfl : v = .ref l := hv
  obtain ⟨vs, hL, _⟩ := hl _ R
  refine call_enumT hL ?_
  have R1 := R.push (P := PTIter l 0) (o := { cls := .type "tuple_iterator", data := .fields #[.ref l, .int 0 0] }) ⟨rfl, rfl⟩
  have R2 := R1.push (P := PEnumA s.heap.objs.size 0) (o := { cls := .type "enumerate", data := .fields #[.none, .bool false, .ref s.heap.objs.size, rawInt 0, .none, .none] }) ⟨_, rfl⟩
  simp only [Heap.size_push] at R2
  exact ⟨_, _, _, rfl, R2, .val (.ref _), rfl, h _ _⟩
theorem it_enum {e it : Addr} {i : Int} {Q : AV → Led → Prop} (hm : (e, PEnumA it i) ∈ S) (h : Q (.val (.ref e)) S) : L1 prog w base n pyIter (.val (.ref e)) S Q := l1_ref <| .mk fun A s hA R => by
  obtain ⟨o, eo, x, rfl⟩ := R.get hm
  exact wpAny_pyIter_enum eo (Post.self R ⟨.val (.ref e), rfl, h⟩)
theorem nx_enum_end {e it l : Addr} {i : Nat} {xs : List AV} {R : Led} {Q : Option Value → Led → Prop} (hl : ∀ S, TAt base S l xs) (hx : xs.length ≤ i) (h : Q none ((e, PEnumA it i) :: R)) :
    W prog w base (n + 1) (pyNext (.ref e)) ((e, PEnumA it i) :: (it, PTIter l i) :: R) Q := .mk fun A s hA RR => by
  obtain ⟨o, eo, old, rfl⟩ := RR.get (a := e) List.mem_cons_self
  obtain ⟨o2, e2, h1, h2⟩ := RR.get (a := it) (List.mem_cons_of_mem _ List.mem_cons_self)
  obtain ⟨vs, hL, hv⟩ := hl _ _ RR
  have hlen := hv.length
  have hT : s.TypeIs (.ref e) "enumerate" := ⟨_, eo, rfl⟩
  unfold pyNext
  refine wpAny_bind (wpAny_attempt (wpAny_callSpecial?_slot (name := Str.ofString "__next__") hT F.slot_enumerate_next
    (wpAny_call_entry F.slot_enumerate_next hT F.entry_enumerate_next ?_ (F.args_enumerate_next_1 _))))
  show wpAny _ _ (field (.ref e) 2 >>= _) _ _ _
  refine wpAny_bind (wpAny_field eo rfl (x := .ref it) rfl ?_)
  refine wpAny_bind (nextOf_tuple_end hA.handled ⟨o2, e2, h1, h2⟩ hL (by simp; lia) fun h' ex hk he => ?_)
  obtain ⟨oe, hoe, hce⟩ := he
  refine wpAny_bind (wpAny_isInstance (T := "StopIteration") (b := true) ⟨oe, hoe, hce⟩ isSubtype_stop ?_)
  exact wpAny_pure ⟨_, h', s.toks, rfl, RR.del (.tail .head) hk, h⟩
end
end
section
open PySem PySem.W PyProof.Rows PySem.Calls PySem.Spec
set_option linter.all false
set_option maxRecDepth 100000
set_option maxHeartbeats 2000000
section
variable {prog : Program} {w : World} {base : Heap} {n : Nat} {S : Led} {env : Env}
theorem as_PairB {x y : Str} {px py : Pos} {k : Nat} {pos : Pos} {t : Addr} {a b : AV} {Q : Unit → Led → Prop} (hm : TAt base S t [a, b])
    (h : ∀ va vb, VR a va → VR b vb → W prog w base n (storeName env x va) S (fun _ S₁ => W prog w base n (storeName env y vb) S₁ Q)) : W prog w base n (assign (.Tuple [.Name x px, .Name y py] k pos) env (.ref t)) S Q := .mk fun A s hA R => by
  obtain ⟨vs, ht, va, r1, rfl, ra, vb, r2, rfl, rb, rfl⟩ := hm _ R
  refine wpAny_assign_Tuple hA.handled ht rfl rfl fun h' x => ?_
  refine ((in_cons (as_Name ((h va vb ra rb).mono fun _ _ q => in_cons (as_Name (q.mono fun _ _ q => in_nil (ts := []) q))))).at hA rfl (R.grow fun b o e => x b o (Nat.ne_of_lt (Heap.lt_size e)) e))
theorem lo_tuple {elts : List Expr} {x1 : Nat} {pos : Pos} {I l t : Addr} {i : Nat} {Q : Unit → Led → Prop} (hm : (I, PTIter l i) ∈ S) (h : Q () S) : W prog w base n (letOwnedTupleGo (.Tuple elts x1 pos) (.ref I) (.ref t)) S Q := .mk fun A s hA R => by
  obtain ⟨⟨cls, dict, data, slots⟩, e, h1, h2⟩ := R.get hm
  obtain rfl : cls = .type "tuple_iterator" := h1
  obtain rfl : data = .fields #[.ref l, .int i 0] := h2
  unfold letOwnedTupleGo
  refine wpAny_bind (wpAny_load e ?_)
  show wpAny _ _ (if (["enumerate", "zip", "dict_itemiterator", "dict_reverseitemiterator", "odict_iterator", "itertools.zip_longest", "itertools.pairwise"].contains "tuple_iterator" && _) = true then _ else _) _ _ _
  rw [if_neg (by simp)]
  exact wpAny_pure (Post.self R h)
end
/-! the table of a mode's signs -/
structure FRow where
  (a : Addr) (ps : List (Addr × Int × Str))
structure FTab (base : Heap) (tb : Addr) (rows : List FRow) : Prop where
  tab : ∀ S, TAt base S tb (rows.map fun r => .val (.ref r.a))
  row : ∀ r ∈ rows, ∀ S, TAt base S r.a (r.ps.map fun p => .val (.ref p.1))
  pair : ∀ r ∈ rows, ∀ p ∈ r.ps, ∀ S, TAt base S p.1 [.int p.2.1, .str p.2.2]
  one : ∀ r ∈ rows, ∀ p ∈ r.ps, p.2.2.length = 1
  few : rows.length ≤ 900
noncomputable def fTest (idx : Nat) (mode bit : Int) : Bool := if idx = 0 then Builtin.bitAnd mode 61440 == bit else Builtin.bitAnd mode bit == bit
noncomputable def fCh (idx : Nat) (mode : Int) : List (Addr × Int × Str) → Str
  | [] => if idx = 0 then "?" else "-"
  | p :: r => if fTest idx mode p.2.1 = true then p.2.2 else fCh idx mode r
noncomputable def fmCh (rows : List FRow) (mode : Int) (i : Nat) : Str := fCh i mode (rows.getD i ⟨0, []⟩).ps
noncomputable def fmList (rows : List FRow) (mode : Int) (i : Nat) : List Str := (List.range i).map (fmCh rows mode)
theorem fmList_succ (rows : List FRow) (mode : Int) (i : Nat) : fmList rows mode (i + 1) = fmList rows mode i ++ [fmCh rows mode i] := by simp [fmList, List.range_succ]
theorem fmList_len (rows : List FRow) (mode : Int) (i : Nat) : (fmList rows mode i).length = i := by simp [fmList]
theorem fCh_len {i : Nat} {mode : Int} : ∀ {ps : List (Addr × Int × Str)}, (∀ p ∈ ps, p.2.2.length = 1) → (fCh i mode ps).length = 1
  | [], _ => by unfold fCh; split <;> rfl
  | p :: r, h => by
    unfold fCh
    split
    · exact h p (.head _)
    · exact fCh_len fun q hq => h q (.tail _ hq)
theorem sum_ones : ∀ {ys : List Str}, (∀ y ∈ ys, y.length = 1) → (ys.map (·.length)).sum = ys.length
  | [], _ => rfl
  | y :: r, h => by
    rw [List.map_cons, List.sum_cons, sum_ones fun q hq => h q (.tail _ hq), h y (.head _), List.length_cons]; lia
theorem fm_ok {base : Heap} {tb : Addr} {rows : List FRow} (B : FTab base tb rows) (mode : Int) : ((fmList rows mode rows.length).map (·.length)).sum + (fmList rows mode rows.length).length * (Str.empty).length ≤ 16777216 := by
  have h0 : (Str.empty).length = 0 := rfl
  have := B.few
  rw [sum_ones, fmList_len, h0]
  · lia
  · intro y hy
    obtain ⟨i, hi, rfl⟩ := List.mem_map.mp hy
    have hi := List.mem_range.mp hi
    refine fCh_len fun p hp => B.one _ ?_ p hp
    rw [List.getD_eq_getElem?_getD, List.getElem?_eq_getElem hi]
    exact List.getElem_mem _
section
variable {prog : Program} {w : World} {base : Heap} {n : Nat} {S : Led} {gl : List (Str × AV)} {bl : List (Str × Value)} {a : Addr}
theorem sig_fm : sigOk (fnScope 25) ["mode"] ["mode", "perm", "index", "table", "bit", "char"] [] ["enumerate", "_filemode_table", "S_IFMT"] = true := by rfl
theorem c_filemode {iff tb : Addr} {rows : List FRow} (F : FnIs base a (fnScope 25) ["mode"] (fnBody 25) []) (T : TopIs base gl bl) (he : (("enumerate" : Str), Value.type "enumerate") ∈ bl) (htb : (("_filemode_table" : Str), AV.val (.ref tb)) ∈ gl)
    (hif : (("S_IFMT" : Str), AV.val (.ref iff)) ∈ gl) (FI : FnIs base iff (fnScope 3) ["mode"] (fnBody 3) []) (B : FTab base tb rows) {mode : Int} {v : Value} {Q : AV → Led → Prop} (hv : VR (.int mode) v)
    (h : Q (.str (Txt.join Str.empty (fmList rows mode rows.length))) S) : WV prog w base (n + 2) (call (.ref a) [v]) S Q := by
  refine c_call F (das := []) rfl sig_fm (args := [.int mode]) ⟨v, [], rfl, hv, rfl⟩ rfl fun env L ads hlen hE => ?_
  obtain rfl := List.eq_nil_of_length_eq_zero hlen
  show W prog w base (n + 1) (execs (fnBody 25) env) ((L, PNs [("mode", some (.int mode)), ("perm", none), ("index", none), ("table", none), ("bit", none), ("char", none)]) :: S) (RetS Q)
  refine x_cons <| x_AssignName <| ev_List <| vs_nil ⟨by decide, fun P v hv => ?_⟩
  obtain rfl : v = .ref P := hv
  refine st_loc hE (by tb_start) (by tb_start) (by tb_start) (a := .val (.ref P)) rfl ?_
  refine x_cons <| x_For <| ev_CallT <| ev_blt hE T (by tb_start) he ⟨rfl, vs_cons <| ev_glob hE T (by tb_start) htb <| vs_nil fun vs hvs => ?_⟩
  refine vrs1 hvs fun v1 r1 => ?_
  refine c_enum (l := tb) r1 (B.tab _) fun e it => it_enum (by tb_start) fun v hv => ?_
  obtain rfl : v = .ref e := hv
  refine WC.pk (S' := (e, PEnumA it 0) :: (it, PTIter tb 0) :: (L, PNs [("mode", some (.int mode)), ("perm", some (.val (.ref P))), ("index", none), ("table", none), ("bit", none), ("char", none)]) :: (P, PList []) :: S) ?_ (by tb_start)
  refine wc_for (fun k S' => ∃ i, i ≤ rows.length ∧ k = rows.length - i ∧ S' = (e, PEnumA it (i : Int)) :: (it, PTIter tb i) :: (L, PNs [("mode", some (.int mode)), ("perm", some (.val (.ref P))), ("index", none), ("table", none), ("bit", none), ("char", none)]) :: (P, PList (aStrs (fmList rows mode i))) :: S) ?_ rows.length ⟨0, Nat.zero_le _, rfl, rfl⟩
  rintro k S' ⟨i, hi, rfl, rfl⟩
  by_cases hlt : i < rows.length
  · have hrow : (rows.map fun r => AV.val (.ref r.a))[i]? = some (.val (.ref rows[i].a)) := by rw [List.getElem?_map, List.getElem?_eq_getElem hlt]; rfl
    have hmem : rows[i] ∈ rows := List.getElem_mem _
    have hD : (rows.getD i ⟨0, []⟩) = rows[i] := by rw [List.getD_eq_getElem?_getD, List.getElem?_eq_getElem hlt]; rfl
    generalize hrr : rows[i] = r at hrow hmem hD
    refine nx_enum (fun S => B.tab S) hrow fun t y hy => ?_
    refine lo_enum (.tail .head) ?_
    refine as_Pair List.mem_cons_self fun va vb ra rb => ?_
    refine st_loc hE (by tb_start) (by tb_start) (by tb_start) ra ?_
    refine st_loc hE (by tb_start) (by tb_start) (by tb_start) rb ?_
    refine x_cons <| x_For <| ev_loc hE (by tb_start) (by tb_start) (by tb_start) <| itB_tuple (B.row r hmem _) fun I v hv => ?_
    obtain rfl : v = .ref I := hv
    have step := fmList_succ rows mode i
    unfold fmCh at step
    rw [hD] at step
    have happ : ∀ c : Str, fCh i mode r.ps = c → aStrs (fmList rows mode i) ++ [.str c] = aStrs (fmList rows mode (i + 1)) := fun c hc => by
      rw [step, hc]; simp [aStrs]
    have hlen2 : (aStrs (fmList rows mode i)).length ≤ 1000 := by have := B.few; simp [aStrs, fmList_len]; lia
    have e1 : ((i : Int) + 1) = ((i + 1 : Nat) : Int) := by lia
    have fin : ∀ (S₄ : Led), Wk ((e, PEnumA it ((i + 1 : Nat) : Int)) :: (it, PTIter tb (i + 1)) :: (L, PNs [("mode", some (.int mode)), ("perm", some (.val (.ref P))), ("index", none), ("table", none), ("bit", none), ("char", none)]) :: (P, PList (aStrs (fmList rows mode (i + 1)))) :: S) S₄ →
        Les (fun m S₅ => ∃ j, j ≤ rows.length ∧ m = rows.length - j ∧ S₅ = (e, PEnumA it (j : Int)) :: (it, PTIter tb j) :: (L, PNs [("mode", some (.int mode)), ("perm", some (.val (.ref P))), ("index", none), ("table", none), ("bit", none), ("char", none)]) :: (P, PList (aStrs (fmList rows mode j))) :: S) (rows.length - i) S₄ :=
      fun S₄ hw => ⟨rows.length - (i + 1), by lia, _, hw, i + 1, by lia, rfl, rfl⟩
    refine WC.pk (S' := (I, PTIter r.a 0) :: (e, PEnumA it ((i : Int) + 1)) :: (it, PTIter tb (i + 1)) :: (L, PNs [("mode", some (.int mode)), ("perm", some (.val (.ref P))), ("index", some (.int (i : Int))), ("table", some (.val (.ref r.a))), ("bit", none), ("char", none)]) :: (P, PList (aStrs (fmList rows mode i))) :: S) ?_ (by tb_start)
    rw [e1]
    refine wc_for (fun k S' => ∃ j, j ≤ r.ps.length ∧ k = r.ps.length - j ∧ fCh i mode (r.ps.drop j) = fCh i mode r.ps ∧ S' = (I, PTIter r.a j) :: (e, PEnumA it ((i + 1 : Nat) : Int)) :: (it, PTIter tb (i + 1)) :: (L, PNs [("mode", some (.int mode)), ("perm", some (.val (.ref P))), ("index", some (.int (i : Int))), ("table", some (.val (.ref r.a))), ("bit", none), ("char", none)]) :: (P, PList (aStrs (fmList rows mode i))) :: S) ?_ r.ps.length ⟨0, Nat.zero_le _, rfl, rfl, rfl⟩
    rintro k S' ⟨j, hj, rfl, hch, rfl⟩
    by_cases hjl : j < r.ps.length
    · have hp : (r.ps.map fun p => AV.val (.ref p.1))[j]? = some (.val (.ref r.ps[j].1)) := by rw [List.getElem?_map, List.getElem?_eq_getElem hjl]; rfl
      have hpm : r.ps[j] ∈ r.ps := List.getElem_mem _
      have hdrop : r.ps.drop j = r.ps[j] :: r.ps.drop (j + 1) := List.drop_eq_getElem_cons hjl
      generalize r.ps[j] = p at hp hpm hdrop
      refine nxB_tuple .head (B.row r hmem _) hp fun v hv => ?_
      obtain rfl : v = .ref p.1 := hv
      refine lo_tuple (l := r.a) (i := j + 1) List.mem_cons_self ?_
      refine as_PairB (B.pair r hmem p hpm _) fun va vb ra rb => ?_
      refine st_loc hE (by tb_start) (by tb_start) (by tb_start) ra ?_
      refine st_loc hE (by tb_start) (by tb_start) (by tb_start) rb ?_
      have hit : fTest i mode p.2.1 = true → fCh i mode r.ps = p.2.2 := fun q => by rw [← hch, hdrop]; unfold fCh; rw [if_pos q]
      have miss : fTest i mode p.2.1 = false → fCh i mode (r.ps.drop (j + 1)) = fCh i mode r.ps := fun q => by rw [← hch, hdrop]; conv => rhs; unfold fCh; rw [if_neg (by rw [q]; decide)]
      have again : fTest i mode p.2.1 = false → ∀ (S₄ : Led), Wk ((I, PTIter r.a (j + 1)) :: (e, PEnumA it ((i + 1 : Nat) : Int)) :: (it, PTIter tb (i + 1)) :: (L, PNs [("mode", some (.int mode)), ("perm", some (.val (.ref P))), ("index", some (.int (i : Int))), ("table", some (.val (.ref r.a))), ("bit", none), ("char", none)]) :: (P, PList (aStrs (fmList rows mode i))) :: S) S₄ →
          Les (fun m S₅ => ∃ j', j' ≤ r.ps.length ∧ m = r.ps.length - j' ∧ fCh i mode (r.ps.drop j') = fCh i mode r.ps ∧ S₅ = (I, PTIter r.a j') :: (e, PEnumA it ((i + 1 : Nat) : Int)) :: (it, PTIter tb (i + 1)) :: (L, PNs [("mode", some (.int mode)), ("perm", some (.val (.ref P))), ("index", some (.int (i : Int))), ("table", some (.val (.ref r.a))), ("bit", none), ("char", none)]) :: (P, PList (aStrs (fmList rows mode i))) :: S) (r.ps.length - j) S₄ :=
        fun q S₄ hw => ⟨r.ps.length - (j + 1), by lia, _, hw, j + 1, by lia, rfl, miss q, rfl⟩
      refine x_cons <| x_If <| t_Compare <| ev_loc hE (by tb_start) (by tb_start) (by tb_start) <| ev_int <| o_eqN (j := 0) <| T1.bool ?_
      cases hi0 : (i == 0) with
      | true =>
        rw [if_pos rfl]
        have hi0 : i = 0 := by simpa using hi0
        have hT : fTest i mode p.2.1 = (Builtin.bitAnd mode 61440 == p.2.1) := by unfold fTest; rw [if_pos hi0]
        refine x_cons <| x_If <| t_Compare <| ev_CallDef FI.isDef <| ev_glob hE T (by tb_start) hif ⟨rfl, vs_cons <| ev_loc hE (by tb_start) (by tb_start) (by tb_start) <| vs_nil fun vs hvs => ?_⟩
        refine vrs1 hvs fun v1 r1 => ?_
        refine c_ifmt FI r1 ?_
        refine ev_loc hE (by tb_start) (by tb_start) (by tb_start) <| o_eq <| T1.bool ?_
        rw [← hT]
        cases hb : fTest i mode p.2.1 with
        | true =>
          rw [if_pos rfl]
          refine x_cons <| x_Expr hE <| ev_Meth1 PySem.F.plainAttrs_list PySem.F.slot_list_append PySem.F.type_list_append <| ev_loc hE (by tb_start) (by tb_start) (by tb_start) ⟨.list (xs := aStrs (fmList rows mode i)) (by tb_start), vs_cons <| ev_loc hE (by tb_start) (by tb_start) (by tb_start) <| vs_nil fun v vs hv hvs => ?_⟩
          obtain rfl : v = .ref P := hv
          refine vrs1 hvs fun v1 r1 => ?_
          refine m_append (xs := aStrs (fmList rows mode i)) r1 (by tb_start) hlen2 ?_
          refine x_cons <| x_Break ?_
          refine x_nil (fin _ ?_)
          rw [happ _ (hit hb)]
          tb_start
        | false => 
          rw [if_neg (by decide)]
          exact x_nil (x_nil (x_nil (again hb _ (by tb_start))))
      | false =>
        rw [if_neg (by decide)]
        have hi0 : i ≠ 0 := by simpa using hi0
        have hT : fTest i mode p.2.1 = (Builtin.bitAnd mode p.2.1 == p.2.1) := by unfold fTest; rw [if_neg hi0]
        refine x_cons <| x_If <| t_Compare <| ev_BinOp <| ev_loc hE (by tb_start) (by tb_start) (by tb_start) <| ev_loc hE (by tb_start) (by tb_start) (by tb_start) <| o_and <| ev_loc hE (by tb_start) (by tb_start) (by tb_start) <| o_eq <| T1.bool ?_
        rw [← hT]
        cases hb : fTest i mode p.2.1 with
        | true =>
          rw [if_pos rfl]
          refine x_cons <| x_Expr hE <| ev_Meth1 PySem.F.plainAttrs_list PySem.F.slot_list_append PySem.F.type_list_append <| ev_loc hE (by tb_start) (by tb_start) (by tb_start) ⟨.list (xs := aStrs (fmList rows mode i)) (by tb_start), vs_cons <| ev_loc hE (by tb_start) (by tb_start) (by tb_start) <| vs_nil fun v vs hv hvs => ?_⟩
          obtain rfl : v = .ref P := hv
          refine vrs1 hvs fun v1 r1 => ?_
          refine m_append (xs := aStrs (fmList rows mode i)) r1 (by tb_start) hlen2 ?_
          refine x_cons <| x_Break ?_
          refine x_nil (fin _ ?_)
          rw [happ _ (hit hb)]
          tb_start
        | false => 
          rw [if_neg (by decide)]
          exact x_nil (x_nil (x_nil (again hb _ (by tb_start))))
    · obtain rfl : j = r.ps.length := by lia
      refine nxB_tuple_end .head (B.row r hmem _) (by simp) ?_
      rw [List.drop_length] at hch
      refine x_cons <| x_If <| t_Compare <| ev_loc hE (by tb_start) (by tb_start) (by tb_start) <| ev_int <| o_eqN (j := 0) <| T1.bool ?_
      cases hi0 : (i == 0) with
      | true =>
        rw [if_pos rfl]
        have hi0 : i = 0 := by simpa using hi0
        have hc : fCh i mode r.ps = "?" := by rw [← hch]; unfold fCh; rw [if_pos hi0]
        refine x_cons <| x_Expr hE <| ev_Meth1 PySem.F.plainAttrs_list PySem.F.slot_list_append PySem.F.type_list_append <| ev_loc hE (by tb_start) (by tb_start) (by tb_start) ⟨.list (xs := aStrs (fmList rows mode i)) (by tb_start), vs_cons <| ev_str <| vs_nil fun v vs hv hvs => ?_⟩
        obtain rfl : v = .ref P := hv
        refine vrs1 hvs fun v1 r1 => ?_
        refine m_append (xs := aStrs (fmList rows mode i)) r1 (by tb_start) hlen2 ?_
        refine x_nil <| x_nil <| x_nil (fin _ ?_)
        rw [happ _ hc]
        tb_start
      | false =>
        rw [if_neg (by decide)]
        have hi0 : i ≠ 0 := by simpa using hi0
        have hc : fCh i mode r.ps = "-" := by rw [← hch]; unfold fCh; rw [if_neg hi0]
        refine x_cons <| x_Expr hE <| ev_Meth1 PySem.F.plainAttrs_list PySem.F.slot_list_append PySem.F.type_list_append <| ev_loc hE (by tb_start) (by tb_start) (by tb_start) ⟨.list (xs := aStrs (fmList rows mode i)) (by tb_start), vs_cons <| ev_str <| vs_nil fun v vs hv hvs => ?_⟩
        obtain rfl : v = .ref P := hv
        refine vrs1 hvs fun v1 r1 => ?_
        refine m_append (xs := aStrs (fmList rows mode i)) r1 (by tb_start) hlen2 ?_
        refine x_nil <| x_nil <| x_nil (fin _ ?_)
        rw [happ _ hc]
        tb_start
  · obtain rfl : i = rows.length := by lia
    refine nx_enum_end (fun S => B.tab S) (by simp) ?_
    refine x_nil <| x_cons <| x_Ret <| ev_Meth1 PySem.F.plainAttrs_str PySem.F.slot_str_join PySem.F.type_str_join <| ev_str ⟨.str, vs_cons <| ev_loc hE (by tb_start) (by tb_start) (by tb_start) <| vs_nil fun v vs hv hvs => ?_⟩
    refine vrs1 hvs fun v1 r1 => ?_
    exact m_join (x := Str.empty) (ys := fmList rows mode rows.length) hv r1 (show (P, PList (aStrs (fmList rows mode rows.length))) ∈ _ from by tb_start) (fm_ok B mode) fun v hv => ret_end hv (by tb_start) h
end
end
section
open PySem PySem.W PyProof.Rows PySem.Calls PySem.Spec
set_option linter.all false
set_option maxRecDepth 100000
set_option maxHeartbeats 1000000
theorem md_type : typeOf (.builtin "list.append") = pure (.type "method_descriptor") := PySem.F.type_list_append
theorem md_slot : Slot "method_descriptor" "__get__" "method_descriptor.__get__" :=
  .of (owner := "method_descriptor") (n := "__get__") (by rw [typeLookup_type, builtinLookup_eq_fast]; kernel_rfl) (by decide +kernel) (by decide +kernel) (by decide +kernel)
    (by first | exact .inl (by decide +kernel) | exact .inr (by decide +kernel)) (by rw [isSubtype_type]; kernel_rfl)
theorem md_entry : entryFor table "method_descriptor.__get__" = some Builtin.«method_descriptor.__get__» := entryFor_of_tree (by kernel_rfl)
theorem md_args (a b c : Value) : argsOk "method_descriptor.__get__" ⟨[a, b, c], []⟩ := by unfold argsOk; kernel_rfl
theorem md_lk : typeLookup (.type "list") "append" = pure (some (.builtin "list.append")) := by rw [typeLookup_type, builtinLookup_eq_fast]; kernel_rfl
theorem md_noset : typeLookup (.type "method_descriptor") "__set__" = pure none := by rw [typeLookup_type, builtinLookup_eq_fast]; kernel_rfl
theorem md_nodel : typeLookup (.type "method_descriptor") "__delete__" = pure none := by rw [typeLookup_type, builtinLookup_eq_fast]; kernel_rfl
theorem md_sub : isSubtype (.type "list") (.type "list") = pure true := by rw [isSubtype_type]; kernel_rfl
noncomputable abbrev bndObj (l : Addr) : Obj := { cls := .type "builtin_function_or_method", data := .fields #[.builtin "list.append", .ref l] }
section
variable {prog : Program} {w : World} {A : Around} {E : Value → Shared → Prop} {h : Heap} {g : Array GenState} {d : Drawn} {t : Nat} {os : OsState} {a : Addr} {o : Obj}
theorem md_run {P : PySem.Fin → Shared → Prop} (hx : h.get? a = some o) (hc : o.cls = .type "list") (hq : P (.done (.ret (.ref h.objs.size))) ⟨h.push (bndObj a), g, d, t, os⟩) :
    wpAny (model prog w) A (Builtin.«method_descriptor.__get__» ⟨[.builtin "list.append", .ref a, .type "list"], []⟩) P E ⟨h, g, d, t, os⟩ := by
  have hT : (⟨h, g, d, t, os⟩ : Shared).TypeIs (.ref a) "list" := ⟨_, hx, hc⟩
  unfold Builtin.«method_descriptor.__get__»
  refine wpAny_bind (wpAny_of_eq (a := (.builtin "list.append", some (.ref a), some (.type "list"))) (by first | rfl | kernel_rfl) ?_)
  dsimp only
  refine KFB.if_not (by decide +kernel) ?_
  refine wpAny_bind (wpAny_bind (wpAny_of_eq (a := (("append" : Str), .type "list")) (by first | rfl | kernel_rfl) ?_))
  dsimp only
  refine wpAny_bind (wpAny_isInstance hT md_sub ?_)
  refine wpAny_pure ?_
  refine wpAny_bind ?_
  exact wpAny_newObj_type (wpAny_pure hq)
theorem md_get {R : Result → Shared → Prop} (hx : h.get? a = some o) (hc : o.cls = .type "list") (hq : R (.ok (.ret (.ref h.objs.size))) ⟨h.push (bndObj a), g, d, t, os⟩) :
    codeAny (model prog w) A (.call (.builtin "method_descriptor.__get__") ⟨[.builtin "list.append", .ref a, .type "list"], []⟩) R ⟨h, g, d, t, os⟩ := by
  have hT : (⟨h, g, d, t, os⟩ : Shared).TypeIs (.ref a) "list" := ⟨_, hx, hc⟩
  have hT5 : (⟨h, g, d, t, os⟩ : Shared).TypeIs (.builtin "list.append") "method_descriptor" := md_type
  refine codeAny_call_builtin md_slot.plain md_entry (md_slot.check _ _ _ _ _ _ _ _ hT5 (md_args _ _ _) ?_)
  exact md_run hx hc hq
theorem md_ga {tk : Tok} {xs : Array Value} {k : Nat} {Q : PySem.Fin → Shared → Prop} (hx : h.get? a = some { cls := .type "list", dict := none, data := .seq xs k, slots := #[] }) (hq : Q (.done (.ret (.ref h.objs.size))) ⟨h.push (bndObj a), g, d, t, os⟩) :
    wpAny (model prog w) A (Builtin.«object.__getattribute__» ⟨[.ref a, .str "append" tk], []⟩) Q E ⟨h, g, d, t, os⟩ := by
  have hT : (⟨h, g, d, t, os⟩ : Shared).TypeIs (.ref a) "list" := ⟨_, hx, rfl⟩
  have hT5 : (⟨h, g, d, t, os⟩ : Shared).TypeIs (.builtin "list.append") "method_descriptor" := md_type
  have f4 := md_lk
  have f5 := md_type
  have f6 := md_slot.lookup
  have f7 := md_noset
  have f8 := md_nodel
  repeat (any_goals (first | assumption | wp_step))
  exact md_get hx rfl (wpAny_pure hq)
theorem md_call {tk : Tok} {xs : Array Value} {k : Nat} {R : Result → Shared → Prop} (hx : h.get? a = some { cls := .type "list", dict := none, data := .seq xs k, slots := #[] }) (hq : R (.ok (.ret (.ref h.objs.size))) ⟨h.push (bndObj a), g, d, t, os⟩) :
    codeAny (model prog w) A (.call (.builtin "list.__getattribute__") ⟨[.ref a, .str "append" tk], []⟩) R ⟨h, g, d, t, os⟩ :=
  codeAny_call_builtin F.slot_list_getattribute.plain F.entry_list_ga (F.slot_list_getattribute.check _ _ _ _ _ _ _ _ (show (⟨h, g, d, t, os⟩ : Shared).TypeIs (.ref a) "list" from ⟨_, hx, rfl⟩) (F.args_list_getattribute_2 _ _) (md_ga hx hq))
theorem md_attr {xs : Array Value} {k : Nat} {Q : Value → Shared → Prop} (hx : h.get? a = some { cls := .type "list", dict := none, data := .seq xs k, slots := #[] }) (hq : Q (.ref h.objs.size) ⟨h.push (bndObj a), g, d, t + 1, os⟩) :
    wpAny (model prog w) A (getAttr (.ref a) "append" true) Q E ⟨h, g, d, t, os⟩ := by
  have hT : ∀ tk', (⟨h, g, d, tk', os⟩ : Shared).TypeIs (.ref a) "list" := fun _ => ⟨_, hx, rfl⟩
  have f2 := F.slot_list_getattribute.lookup
  have f3 := F.slot_list_getattribute.bind (.ref a)
  unfold getAttr getAttrBy
  repeat (any_goals (first | assumption | exact hT _ | wp_step))
  refine md_call hx ?_
  repeat (any_goals (first | assumption | wp_step))
end
end
section
open PySem PySem.W PyProof.Rows PySem.Calls PySem.Spec
set_option linter.all false
set_option maxRecDepth 100000
set_option maxHeartbeats 1000000
noncomputable def PBnd (l : Addr) : OP := fun o => o = bndObj l
theorem sub_list_module : isSubtype (.type "list") (.type "module") = pure false := by rw [isSubtype_type]; kernel_rfl
section
variable {prog : Program} {w : World} {A : Around} {E : Value → Shared → Prop} {s : Shared}
theorem bnd_check {l : Addr} {v : Value} {o : Obj} {Q : Unit → Shared → Prop} (hl : s.heap.get? l = some o) (hc : o.cls = .type "list") (hd : ∃ xs k, o.data = .seq xs k) (h : Q () s) : wpAny (model prog w) A (checkBoundCall "list.append" ⟨[.ref l, v], []⟩) Q E s := by
  obtain ⟨xs, k, hd⟩ := hd
  unfold checkBoundCall
  refine wpAny_bind (m := isInstance (.ref l) (.type "module")) (wpAny_isInstance ⟨o, hl, hc⟩ sub_list_module ?_)
  refine KFB.if_not (by decide +kernel) ?_
  refine wpAny_bind (m := isType (.ref l)) ?_
  unfold isType
  refine wpAny_bind (m := loadHead l) ?_
  refine (wpAny_load hl ?_)
  rw [hd]
  refine wpAny_pure ?_
  refine KFB.if_not rfl ?_
  refine wpAny_bind (wpAny_typeOf ⟨o, hl, hc⟩ ?_)
  dsimp only
  exact wpAny_of_eq (a := ()) (by kernel_rfl) h
theorem bnd_call {b l : Addr} {v : Value} {xs : Array Value} {k : Nat} {Q : Value → Shared → Prop} (hb : s.heap.get? b = some (bndObj l)) (hl : PySem.IsL s.heap l xs k)
    (hsz : xs.size ≤ 1000) (h : Q .none { s with heap := s.heap.update l (Obj.mapSeq (·.push v)) }) : wpAny (model prog w) A (call (.ref b) [v]) Q E s := by
  refine wpAny_call (codeAny_of_tree ?_)
  show wpAny _ A.in1 (callAny (.ref b) ⟨[v], []⟩) _ _ s
  simp only [callAny]
  refine wpAny_bind (wpAny_load hb ?_)
  simp only [show (Value.type "builtin_function_or_method" == Value.type "method" || Value.type "builtin_function_or_method" == Value.type "builtin_function_or_method" || Value.type "builtin_function_or_method" == Value.type "method-wrapper") = true by decide, if_true]
  refine KFB.if_so (by decide) ?_
  refine wpAny_bind (bnd_check hl rfl ⟨_, _, rfl⟩ ?_)
  refine wpAny_bind (wpAny_pure (wpAny_pure ?_))
  refine ⟨Code.quiet_builtin _ (by decide +kernel), codeAny_builtin entry_list_append ?_⟩
  show wpAny _ _ (updateSeq l (·.push v) >>= fun _ => ret .none) _ _ s
  refine wpAny_bind ?_
  exact wpAny_updateSeq hl rfl (wpAny_pure h) (by rw [sizeLine_eq]; lia)
theorem bnd_callWith {b l : Addr} {pos : Pos} {args : List (Bool × Sem Value)} {Q : Value → Shared → Prop} (hplain : args.any (·.1) = false)
    (h : wpAny (model prog w) A (evalArgs (.ref b) true args []) (fun x s₁ => s₁.heap.get? b = some (bndObj l) ∧ wpAny (model prog w) A (call (.ref b) x.pos x.kw) Q E s₁) E s) : wpAny (model prog w) A (callWith pos (.ref b) [] args []) Q E s := by
  unfold callWith
  refine wpAny_bind (wpAny_holding (wpAny_mono h (fun x s₁ h₁ => wpAny_bind (wpAny_standAt ?_)) fun _ _ x => x))
  obtain ⟨ho, hcall⟩ := h₁
  simp only [hplain, List.any_nil, Bool.or_false]
  refine wpAny_bind (m := keeperOf (.ref b)) ?_
  unfold keeperOf
  refine wpAny_bind (wpAny_load ho ?_)
  simp only [show (Value.type "builtin_function_or_method" != Value.type "method") = true by decide, show (Value.type "builtin_function_or_method" == Value.type "builtin_function_or_method" || Value.type "builtin_function_or_method" == Value.type "method-wrapper") = true by decide, if_true]
  refine wpAny_pure ?_
  exact wpAny_bind (wpAny_mono hcall (fun r s₂ hr => wpAny_bind (wpAny_holding (wpAny_point (wpAny_pure hr)))) fun _ _ x => x)
end
section
variable {prog : Program} {w : World} {base : Heap} {n : Nat} {S : Led} {env : Env}
theorem ev_Append {x : Str} {np pos : Pos} {Q : AV → Led → Prop} (h : WV prog w base n (eval (.Name x np) env) S (fun a S₁ => ∃ l xs, a = .val (.ref l) ∧ (l, PList xs) ∈ S₁ ∧ ∀ b, Q (.val (.ref b)) ((b, PBnd l) :: S₁))) :
    WV prog w base n (eval (.Attribute (.Name x np) "append" pos) env) S Q := .mk fun A s hA R => by
  refine Attribute_name (wpAny_mono (h.run A s hA R) (fun v s₁ p => ?_) fun _ _ x => x)
  obtain ⟨S₁, h₁, k₁, rfl, R₁, a, ra, l, xs, rfl, hm, q⟩ := p
  obtain rfl : v = .ref l := ra
  obtain ⟨vs, k, hL, hv⟩ := R₁.isL hm
  refine md_attr hL ?_
  exact ⟨_, _, _, rfl, R₁.push (P := PBnd l) rfl, .val (.ref _), rfl, q _⟩
theorem ev_CallBnd {x : Str} {np pos : Pos} {e : Expr} {Q : AV → Led → Prop}
    (h : WV prog w base n (eval (.Name x np) env) S (fun a S₁ => ∃ b l, a = .val (.ref b) ∧ WV prog w base n (eval e env) S₁ (fun c S₂ => ∃ xs S', (b, PBnd l) ∈ S₂ ∧ Upd S₂ l (PList xs) (PList (xs ++ [c])) S' ∧ xs.length ≤ 1000 ∧ Q (.val .none) S')))
    (he : starEach [e] env = [(false, eval e env)] := by rfl) :
    WV prog w base n (eval (.Call (.Name x np) [e] [] pos) env) S Q := .mk fun A s hA R => by
  refine wpAny_Call_NameR (wpAny_mono (h.run A s hA R) (fun v s₁ p => ?_) fun _ _ x => x)
  obtain ⟨S₁, h₁, k₁, rfl, R₁, a, ra, b, l, rfl, q⟩ := p
  obtain rfl : v = .ref b := ra
  have q' : WVs prog w base n pos [e] env S₁ (fun as S₂ => ∃ c xs S', as = [c] ∧ (b, PBnd l) ∈ S₂ ∧ Upd S₂ l (PList xs) (PList (xs ++ [c])) S' ∧ xs.length ≤ 1000 ∧ Q (.val .none) S') :=
    vs_cons (q.mono fun c S₂ ⟨xs, S', h1, h2, h3, h4⟩ => vs_nil ⟨c, xs, S', rfl, h1, h2, h3, h4⟩) he
  unfold WVs at q'
  rw [he] at q' ⊢
  refine bnd_callWith (l := l) rfl (evalArgs_plain (wpAny_mono (q'.run A _ hA R₁) (fun vs s₂ p => ?_) fun _ _ x => x.elim))
  obtain ⟨S₂, h₂, k₂, rfl, R₂, as, ras, c, xs, S', rfl, hb, U, hl, q⟩ := p
  obtain ⟨vc, _, rfl, rc, rfl⟩ := ras
  obtain ⟨ob, eb, rfl⟩ := R₂.get hb
  obtain ⟨vs, k, hL, hv⟩ := R₂.isL U.memOld
  have hlen := hv.length
  refine ⟨eb, bnd_call eb hL (by simp; lia) ?_⟩
  exact ⟨S', _, _, rfl, R₂.isLNew hL U (·.push vc) (vs' := vs ++ [vc]) (by simp) (hv.snoc rc), .val .none, rfl, q⟩
end
end
section
open PySem PySem.W PyProof.Rows PySem.Calls PySem.Spec
set_option linter.all false
set_option maxRecDepth 100000
set_option maxHeartbeats 1000000
/-! texts laid end to end -/
noncomputable def catS : List Str → Str
  | [] => Str.empty
  | y :: r => y ++ catS r
theorem Str.append_emptyR (a : Str) : a ++ Str.empty = a := by
  cases a with
  | mk c => show (⟨c ++ #[]⟩ : Str) = _; simp
theorem join_cat (ys : List Str) : Txt.join Str.empty ys = catS ys := by
  have h := join_plain_closes Str.empty ys
  have h2 : Txt.join Str.empty ys = Str.join Str.empty ys := by simpa using h
  rw [h2]
  induction ys with
  | nil => rfl
  | cons y r ih =>
    cases r with
    | nil => show y = y ++ Str.empty; rw [Str.append_emptyR]
    | cons z q =>
      show y ++ Str.empty ++ Str.join Str.empty (z :: q) = y ++ catS (z :: q)
      have := ih (join_plain_closes _ _) (by simpa using join_plain_closes Str.empty (z :: q))
      rw [this, Str.append_emptyR]
theorem catS_len (ys : List Str) : (catS ys).length = (ys.map (·.length)).sum := by
  induction ys with
  | nil => rfl
  | cons y r ih => show (y ++ catS r).length = _; rw [Str.length_append, ih]; rfl
theorem catS_append (xs ys : List Str) : catS (xs ++ ys) = catS xs ++ catS ys := by
  induction xs with
  | nil => show catS ys = Str.empty ++ catS ys; rw [Str.empty_append]
  | cons x r ih => show x ++ catS (r ++ ys) = x ++ catS r ++ catS ys; rw [ih, Str.append_assoc]
theorem sum_le4 : ∀ {ys : List Str} {c : Nat}, (∀ y ∈ ys, y.length ≤ c) → (ys.map (·.length)).sum ≤ c * ys.length
  | [], _, _ => by simp
  | y :: r, c, h => by
    rw [List.map_cons, List.sum_cons, List.length_cons, Nat.mul_succ]
    have h1 := sum_le4 (c := c) fun q hq => h q (.tail _ hq)
    have h2 := h y (.head _)
    lia
theorem m_joinC {prog : Program} {w : World} {base : Heap} {n : Nat} {S : Led} {l : Addr} {ys : List Str} {vx vl : Value} {Q : AV → Led → Prop} (hx : VR (.str Str.empty) vx) (hl : VR (.val (.ref l)) vl) (hm : (l, PList (aStrs ys)) ∈ S) (hok : (ys.map (·.length)).sum ≤ 16777216) (h : Q (.str (catS ys)) S) :
    WV prog w base n (call (.builtin "str.join") [vx, vl]) S Q :=
  m_join (x := Str.empty) (ys := ys) hx hl hm (by rw [show (Str.empty).length = 0 from rfl]; lia) (by rw [join_cat]; exact h)
/-! the pattern -/
noncomputable def lpPiece (w : Int) (k : Nat) : Str := if (bitAt w (8 - k) == 1) = true then (if k % 3 < 2 then chrAt "rw" (k % 3) else (["[xs]", "[xs]", "[xt]"] : List Str).getD (k / 3) Str.empty) else "?"
noncomputable def lpHead (folder : Bool) : Str := if folder then "d" else "?"
noncomputable def lpParts (folder : Bool) (w : Int) : List Str := lpHead folder :: (List.range 9).map (lpPiece w)
theorem lpPiece_len (w : Int) (k : Nat) (hk : k < 9) : (lpPiece w k).length ≤ 4 := by
  unfold lpPiece
  have : k / 3 = 0 ∨ k / 3 = 1 ∨ k / 3 = 2 := by lia
  split
  · split
    · show 1 ≤ 4; decide
    · rcases this with e | e | e <;> rw [e] <;> decide
  · decide
theorem lpSum (w : Int) : (((List.range 9).map (lpPiece w)).map (·.length)).sum ≤ 36 := by
  have := sum_le4 (ys := (List.range 9).map (lpPiece w)) (c := 4) fun y hy => by
    obtain ⟨k, hk, rfl⟩ := List.mem_map.mp hy
    exact lpPiece_len w k (List.mem_range.mp hk)
  simpa using this
section
variable {prog : Program} {w : World} {base : Heap} {n : Nat} {S : Led} {gl : List (Str × AV)} {bl : List (Str × Value)} {a : Addr}
theorem sig_lpat : sigOk (fnScope 49) ["folder", "wanted"] ["folder"] ["parts", "wanted"] ["range"] = true := by rfl
theorem c_lpattern (F : FnIs base a (fnScope 49) ["folder", "wanted"] (fnBody 49) []) (T : TopIs base gl bl) (hr : (("range" : Str), Value.type "range") ∈ bl) {folder : Bool} {m : Int} {v1 v2 : Value} {Q : AV → Led → Prop}
    (h1 : VR (.val (.bool folder)) v1) (h2 : VR (.int m) v2) (h : Q (.str (catS (lpParts folder m))) S) : WV prog w base (n + 1) (call (.ref a) [v1, v2]) S Q := by
  refine c_call F (das := []) rfl sig_lpat (args := [.val (.bool folder), .int m]) ⟨v1, _, rfl, h1, v2, [], rfl, h2, rfl⟩ rfl fun env L ads hlen hE => ?_
  obtain ⟨cp, cw, rfl⟩ := len_two hlen
  replace hE : EnvOk env L ["folder"] [("parts", cp), ("wanted", cw)] [] ["range"] := hE
  show W prog w base n (execs (fnBody 49) env) ((L, PNs [("folder", some (.val (.bool folder)))]) :: (cp, PCell none) :: (cw, PCell (some (.int m))) :: S) (RetS Q)
  refine x_cons <| x_AssignName <| ev_List <| vs_cons <| ev_str <| vs_cons <| ev_str <| vs_cons <| ev_str <| vs_nil ⟨by show (3 : Nat) ≤ 1000; decide, fun P v hv => ?_⟩
  refine st_cell hE (by tb_start) (by tb_start) (a := .val (.ref P)) hv ?_
  refine x_cons <| x_Ret <| ev_BinOp <| ev_IfExp <| t_val <| ev_loc hE (by tb_start) (by tb_start) (by tb_start) <| T1.bool ?_
  have cont : WV prog w base n (eval (match fnStmt 49 with | .FunctionDef _ _ [_, .Return (some (.BinOp _ _ r _)) _] _ _ _ _ _ _ _ => r | _ => .Name "" ⟨0, 0, 0, 0⟩) env) ((P, PList (aStrs ["[xs]", "[xs]", "[xt]"])) :: (L, PNs [("folder", some (.val (.bool folder)))]) :: (cp, PCell (some (.val (.ref P)))) :: (cw, PCell (some (.int m))) :: S)
      (fun b S₁ => L2 prog w base n (binaryOp .Add) (.str (lpHead folder)) b S₁ (fun c S₂ => ∀ v, VR c v → RetS Q (.ret v) S₂)) := by
    refine ev_Meth1 PySem.F.plainAttrs_str PySem.F.slot_str_join PySem.F.type_str_join <| ev_str ⟨.str, vs_cons <| ev_ListComp (lsC := ["k"]) (gsC := []) (frs := [("parts", cp), ("wanted", cw)]) hE (by rfl) (by simp) ?_⟩
    refine ev_CallT (ev_blt hE T (by tb_start) hr ⟨rfl, vs_cons (ev_int (vs_nil fun vs hvs => ?_))⟩)
    refine vrs1 hvs fun v9 h9 => ?_
    refine c_range1 h9 fun l => ?_
    refine it_rangeN (N := 9) List.mem_cons_self (by decide) fun it => ⟨it, rfl, fun S' Q' hs hq => it_riter (hs _ List.mem_cons_self) hq, fun acc C cenv hE' => ?_⟩
    refine wc_compRange (N := 9) (m0 := [("k", none)]) (fun i => aStrs ((List.range i).map (lpPiece m))) (fun _ => (l, PRange 0 9 1) :: (P, PList (aStrs ["[xs]", "[xs]", "[xt]"])) :: (L, PNs [("folder", some (.val (.bool folder)))]) :: (cp, PCell (some (.val (.ref P)))) :: (cw, PCell (some (.int m))) :: S) rfl (fun i hi => by simp [aStrs]; lia) (fun i hi v hv => ?_) ?_
    · refine st_loc hE' (by tb_start) (by tb_start) (by tb_start) hv (ifs_nil ?_)
      rw [if_pos rfl]
      have step : ∀ y, lpPiece m i = y → aStrs ((List.range (i + 1)).map (lpPiece m)) = aStrs ((List.range i).map (lpPiece m)) ++ [.str y] := fun y hy => by
        rw [List.range_succ, List.map_append, aStrs, List.map_append, ← hy]; rfl
      refine ev_IfExp <| t_Compare <| ev_BinOp <| ev_BinOp <| ev_cell hE' (by tb_start) (by tb_start) <| ev_BinOp <| ev_int <| ev_BinOp <| ev_int <| ev_loc hE' (by tb_start) (by tb_start) (by tb_start) <| o_subN (i := 8) (by lia) <| o_pow2 (by lia) <| o_div2 (by lia) <| ev_int <| o_mod (ev_int <| o_eq <| T1.bool ?_) (by decide)
      show if (bitAt m (8 - i) == 1) = true then _ else _
      split
      · rename_i hb
        refine ev_IfExp <| t_Compare <| ev_BinOp <| ev_loc hE' (by tb_start) (by tb_start) (by tb_start) <| ev_int <| o_modN (j := 3) (by decide) <| ev_int <| o_ltN (j := 2) <| T1.bool ?_
        by_cases h3 : i % 3 < 2
        · rw [if_pos (by simpa using h3)]
          refine ev_Sub <| ev_str <| ev_BinOp <| ev_loc hE' (by tb_start) (by tb_start) (by tb_start) <| ev_int <| o_modN (j := 3) (by decide) <| g_str (by lia) (by lia) (chr_at (by show _ < 2; lia)) ⟨step _ ?_, by tb_start⟩
          unfold lpPiece
          rw [if_pos hb, if_pos h3]; rfl
        · rw [if_neg (by simpa using h3)]
          refine ev_Sub <| ev_cell hE' (by tb_start) (by tb_start) <| ev_BinOp <| ev_loc hE' (by tb_start) (by tb_start) (by tb_start) <| ev_int <| o_divN (j := 3) (by decide) (by decide) <| g_list (xs := aStrs ["[xs]", "[xs]", "[xt]"]) (by tb_start) (by lia) (by lia) (strs_at (by show i / 3 < 3; lia)) ⟨step _ ?_, by tb_start⟩
          unfold lpPiece
          rw [if_pos hb, if_neg h3]
      · rename_i hb
        refine ev_str ⟨step _ ?_, by tb_start⟩
        unfold lpPiece
        rw [if_neg hb]
    · refine ⟨_, _, rfl, vs_nil fun v vs hv hvs => ?_⟩
      refine vrs1 hvs fun w1 r1 => ?_
      have hs := lpSum m
      refine m_joinC (ys := (List.range 9).map (lpPiece m)) hv r1 (by tb_start) (by lia) (o_sadd (fun v hv => ret_end hv (by tb_start) h) ?_)
      rw [catS_len]
      have : (lpHead folder).length = 1 := by cases folder <;> rfl
      lia
  cases folder with
  | true => exact ev_str cont
  | false => exact ev_str cont
end
end
section
open PySem PySem.W PyProof.Rows PySem.Calls PySem.Spec
set_option linter.all false
set_option maxRecDepth 100000
set_option maxHeartbeats 1000000
/-! the counter of made values never falls -/
theorem runs_toks {M : Model} {Γ : PySem.Ctx} {p : Pos} {t : Sem PySem.Fin} {fs : List Frame} {s : Shared} {e : End} {s' : Shared} (h : Runs M Γ p t fs s e s') : s.toks ≤ s'.toks := by
  induction h <;> ((try simp only [Shared.setGen] at *); lia)
theorem wakes_toks {M : Model} {Γ : PySem.Ctx} {p : Pos} {g : Nat} {r : Resume} {s s' : Shared} {res : GenResult} (h : Wakes M Γ p g r s res s') : s.toks ≤ s'.toks := by
  unfold Wakes at h
  split at h
  · exact h.elim
  · split at h
    · obtain ⟨e₁, s₁, h1, _, _, rfl⟩ := h
      exact (show (s.setGen g .running).toks ≤ s₁.toks from runs_toks h1)
    · obtain ⟨_, rfl⟩ := h; exact Nat.le_refl _
    · obtain ⟨_, rfl⟩ := h; exact Nat.le_refl _
  · obtain ⟨e₁, s₁, h1, _, _, rfl⟩ := h
    exact (show (s.setGen g .running).toks ≤ s₁.toks from runs_toks h1)
  · obtain ⟨_, rfl⟩ := h; exact Nat.le_refl _
  · obtain ⟨_, rfl⟩ := h; exact Nat.le_refl _
theorem wp_toks {α : Type} {M : Model} {Γ : PySem.Ctx} : ∀ (t : Sem α) {Q : α → Pos → Shared → Prop} {E : Value → Pos → Shared → Prop} {p : Pos} {s : Shared} {m : Nat}, m ≤ s.toks → Sem.wp M Γ t Q E p s → Sem.wp M Γ t (fun a p s' => m ≤ s'.toks ∧ Q a p s') (fun e p s' => m ≤ s'.toks ∧ E e p s') p s := by
  intro t
  induction t with
  | pure a => intro Q E p s m hm h; exact ⟨hm, h⟩
  | raise e => intro Q E p s m hm h; exact ⟨hm, h⟩
  | unsupported _ => intro Q E p s m hm h; exact h
  | finish _ => intro Q E p s m hm h; exact h
  | rule _ k ih => intro Q E p s m hm h; exact ih _ hm h
  | «at» _ k ih => intro Q E p s m hm h; exact ih _ hm h
  | load a _ k ih => intro Q E p s m hm h; obtain ⟨o, e, h⟩ := h; exact ⟨o, e, ih _ hm h⟩
  | update a _ f k ih => intro Q E p s m hm h; exact ⟨h.1, ih _ (by simpa using hm) h.2⟩
  | alloc o k ih => intro Q E p s m hm h; exact ih _ (by simpa using hm) h
  | loadIfAlive a k ih => intro Q E p s m hm h; exact ih _ hm h
  | point _ k ih => intro Q E p s m hm h; exact ih _ hm h
  | register _ _ => intro Q E p s m hm h; exact h
  | fresh k ih => intro Q E p s m hm h; exact ih s.toks (s := { s with toks := s.toks + 1 }) (by show m ≤ s.toks + 1; lia) h
  | ask k ih => intro Q E p s m hm h; exact ih _ hm h
  | choose src n k ih => intro Q E p s m hm h; exact ⟨h.1, ih _ (by simpa using hm) h.2⟩
  | os q _ k ih => intro Q E p s m hm h; exact ih _ (by simpa using hm) h
  | call c hd g l k ih =>
    intro Q E p s m hm h
    obtain ⟨r, s', h1, h2⟩ := h
    exact ⟨r, s', h1, ih _ (Nat.le_trans hm (runs_toks h1)) h2⟩
  | handled own k ih => intro Q E p s m hm h; exact ih _ hm h
  | newGen c k ih => intro Q E p s m hm h; exact ih _ (by simpa using hm) h
  | genState g k ih => intro Q E p s m hm h; obtain ⟨o, e, h⟩ := h; exact ⟨o, e, ih _ hm h⟩
  | resume g r l k ih => intro Q E p s m hm h; obtain ⟨res, s', h1, h2⟩ := h; exact ⟨res, s', h1, ih _ (Nat.le_trans hm (wakes_toks h1)) h2⟩
  | yield _ _ _ _ => intro Q E p s m hm h; exact h
  | stack k ih => intro Q E p s m hm h; exact ih _ hm h
  | fork _ _ => intro Q E p s m hm h; exact h
  | thread k ih => intro Q E p s m hm h; exact ih _ hm h
  | await _ _ _ _ _ => intro Q E p s m hm h; exact h
theorem wpAny_toks {α : Type} {M : Model} {A : Around} {t : Sem α} {Q : α → Shared → Prop} {E : Value → Shared → Prop} {s : Shared} {m : Nat} (hm : m ≤ s.toks) (h : wpAny M A t Q E s) : wpAny M A t (fun a s' => m ≤ s'.toks ∧ Q a s') (fun e s' => m ≤ s'.toks ∧ E e s') s :=
  fun Γ p hΓ => wp_toks t hm (h Γ p hΓ)
end
section
open PySem PySem.W PyProof.Rows PySem.Calls PySem.Spec
set_option linter.all false
set_option maxRecDepth 100000
set_option maxHeartbeats 1000000
theorem obj_called : TypeCalled "object" "object.__new__" "object.__init__" where
  notType := by decide
  canCreate := by decide +kernel
  mro := ⟨.type "object", [], by kernel_rfl⟩
  made := madeBy_type (tl := []) (c := .type "object") (by kernel_rfl) (by rw [typeLookup_type, builtinLookup_eq_fast]; kernel_rfl) (by decide +kernel)
  plain := by decide +kernel
  sub := by rw [isSubtype_type]; kernel_rfl
  init := .of (owner := "object") (n := "__init__") (by rw [typeLookup_type, builtinLookup_eq_fast]; kernel_rfl) (by decide +kernel) (by decide +kernel) (by decide +kernel)
    (by first | exact .inl (by decide +kernel) | exact .inr (by decide +kernel)) (by rw [isSubtype_type]; kernel_rfl)
theorem obj_check : checkTypeCall "object" ⟨[], []⟩ = pure () := by kernel_rfl
theorem obj_checkN : checkBuiltinCall "object.__new__" ⟨[.type "object"], []⟩ = pure () := by kernel_rfl
theorem obj_args (v : Value) : argsOk "object.__init__" ⟨[v], []⟩ := by unfold argsOk; kernel_rfl
theorem obj_new : Meets (Builtin.«object.__new__» ⟨[.type "object"], []⟩) (fun _ R s => R (.ok (.ret (.ref s.heap.objs.size))) { s with heap := s.heap.push { cls := .type "object", data := .plain } }) :=
  .of_wp fun prog w A R s h => by
    unfold Builtin.«object.__new__»
    dsimp only
    refine wpAny_bind (wpAny_of_eq (a := true) rfl ?_)
    refine KFB.if_not rfl ?_
    refine KFB.if_not (by decide +kernel) ?_
    refine wpAny_bind (m := Bind.madeHere "object.__new__" (.type "object")) (wpAny_of_eq (a := ()) (by kernel_rfl) ?_)
    refine KFB.if_not rfl ?_
    refine KFB.if_not (by kernel_rfl) ?_
    refine wpAny_bind (wpAny_pure ?_)
    refine wpAny_bind (wpAny_newObj_type ?_)
    refine KFB.if_not (by decide +kernel) ?_
    exact wpAny_pure ⟨_, rfl, h⟩
section
variable {prog : Program} {w : World} {A : Around} {E : Value → Shared → Prop} {s : Shared}
theorem call_object {Q : Value → Shared → Prop} (h : Q (.ref s.heap.objs.size) { s with heap := s.heap.push { cls := .type "object", data := .plain } }) : wpAny (model prog w) A (call (.type "object") []) Q E s := by
  refine callType_meets (Q₁ := fun v s₁ => s₁.TypeIs v "object" ∧ Q v s₁) obj_called obj_check obj_checkN F.entry_object_new F.entry_object_init obj_new ?_ fun obj s₁ hq => ?_
  · exact ⟨⟨_, Heap.get?_push_size _ rfl, rfl⟩, h⟩
  · refine ⟨hq.1, obj_args _, (fun _ R s => R (.ok (.ret .none)) s), .of_wp fun prog w A R s h => wpAny_pure ⟨_, rfl, h⟩, rfl, hq.2⟩
end
noncomputable def PObj : OP := fun o => o = { cls := .type "object", data := .plain }
section
variable {prog : Program} {w : World} {base : Heap} {n : Nat} {S : Led} {env : Env}
theorem c_object {Q : AV → Led → Prop} (h : ∀ a, Q (.val (.ref a)) ((a, PObj) :: S)) : WV prog w base n (call (.type "object") []) S Q := .mk fun A s hA R =>
  call_object ⟨_, _, s.toks, rfl, R.push (P := PObj) rfl, .val (.ref _), rfl, h _⟩
theorem ev_CallT0 {x : Str} {np pos : Pos} {Q : AV → Led → Prop} {id : String}
    (h : WV prog w base n (eval (.Name x np) env) S (fun a S₁ => a = .val (.type id) ∧ WV prog w base n (call (.type id) []) S₁ Q)) :
    WV prog w base n (eval (.Call (.Name x np) [] [] pos) env) S Q := .mk fun A s hA R => by
  refine wpAny_Call_NameR (wpAny_mono (h.run A s hA R) (fun v s₁ p => ?_) fun _ _ x => x)
  obtain ⟨S₁, h₁, k₁, rfl, R₁, a, ra, rfl, q⟩ := p
  obtain rfl : v = .type id := ra
  exact PySem.callWith_type rfl (evalArgs_nil3 (q.at hA rfl R₁))
theorem T1.str {x : Str} {Q : Bool → Led → Prop} (hl : x.length ≤ 1000) (h : Q ((x.length : Int) != 0) S) : T1 prog w base n (.str x) S Q := by
  rintro va ⟨t, rfl⟩
  exact .mk fun A s hA R => PySem.P.truthy_str (by lia) (Post.tok R h)
theorem o_isNotSR {x : Str} {a : Addr} {Q : AV → Led → Prop} (h : Q (.val (.bool true)) S) : L2 prog w base n (compareOp .IsNot) (.str x) (.val (.ref a)) S Q := by
  rintro va vb ⟨t, rfl⟩ r
  rw [show vb = .ref a from r]
  refine .mk fun A s hA R => ?_
  with_reducible refine wpAny_isNot_plain rfl ?_
  exact Post.self R ⟨.val (.bool true), rfl, h⟩
theorem c_isStr {x : Str} {v1 v2 : Value} {Q : AV → Led → Prop} (h1 : VR (.str x) v1) (h2 : VR (.val (.type "str")) v2) (h : Q (.val (.bool true)) S) : WV prog w base n (call (.builtin "isinstance") [v1, v2]) S Q := by
  obtain ⟨t, rfl⟩ := h1
  obtain rfl : v2 = .type "str" := h2
  refine .mk fun A s hA R => ?_
  refine call_isinstance_yes (typeIs_str _ _ _) (by kernel_rfl) isSubtype_str_str ?_
  exact Post.self R ⟨.val (.bool true), rfl, h⟩
theorem g_strSS {value e f : Expr} {p : Pos} {x : Str} {sl : Addr} {i j : Nat} {Q : AV → Led → Prop} (hs : (sl, PSlice (some (i : Int)) (some (j : Int))) ∈ S) (hl : x.length ≤ 1000) (h : Q (.str (Txt.slice x (some (i : Int)) (some (j : Int)))) S) :
    L2 prog w base n (subscriptTail value (.Slice (some e) (some f) none p)) (.str x) (.val (.ref sl)) S Q := by
  rintro va vb ⟨t, rfl⟩ r2
  rw [show vb = .ref sl from r2]
  refine .mk fun A s hA R => ?_
  obtain ⟨o, eo, hc, vl, vu, hd, ⟨t1, rfl⟩, t2, rfl⟩ := R.get hs
  refine tail_any (typeIs_str s x t) typeLookup_str_item (wpAny_getItem_str_slice (l := some ((i : Int), t1)) (u := some ((j : Int), t2)) (st := none) ⟨o, eo, hc, hd⟩ rfl ?_) rfl
  exact post_val_or_str ⟨Nat.le_trans (Txt.slice_le x _ _) (by rw [sizeLine_eq]; lia), fun t' k => Post.tok R ⟨.str _, ⟨_, rfl⟩, h⟩⟩
theorem o_inStrs {t : Addr} {ys : List Str} {x : Str} {Q : AV → Led → Prop} (hm : (t, PTup (aStrs ys)) ∈ S) (h : Q (.val (.bool (ys.any (· == x)))) S) : L2 prog w base n (compareOp .In) (.str x) (.val (.ref t)) S Q := by
  rintro va vb ⟨u, rfl⟩ r
  rw [show vb = .ref t from r]
  refine .mk fun A s hA R => ?_
  obtain ⟨vs, hl, hv⟩ := R.tuple hm
  have hv' : VRs (ys.map AV.str) vs := hv
  exact in_tuple_strs hl (by simpa using hv'.strs) (Post.self R ⟨.val (.bool _), rfl, h⟩)
end
end
section
open PySem PySem.W PyProof.Rows PySem.Calls PySem.Spec
set_option linter.all false
set_option maxRecDepth 100000
set_option maxHeartbeats 1000000
theorem sub_key_lookup : isSubtype (.type "KeyError") (.type "LookupError") = pure true := by rw [isSubtype_type]; kernel_rfl
section
variable {prog : Program} {w : World} {A : Around} {E : Value → Shared → Prop} {s : Shared}
/-- the table of special signs lacks c -/
noncomputable def Lacks (prog : Program) (w : World) (h : Heap) (d : Addr) (c : Nat) : Prop := ∃ f, h.MapOf (intKind prog w) d f ∧ f (c : Int) = none
theorem tableLookup_lacks {d : Addr} {c : Nat} {Q : Builtin.Str.Mapped → Shared → Prop} (hd : (d == sysModules) = false) (hh : A.handled = none) (hm : Lacks prog w s.heap d c)
    (h : ∀ h' k, (∀ b o, s.heap.get? b = some o → h'.get? b = some o) → Q .keep { s with heap := h', toks := k }) : wpAny (model prog w) A (Builtin.Str.tableLookup (.ref d) c) Q E s := by
  obtain ⟨f, hm, hf⟩ := hm
  unfold Builtin.Str.tableLookup
  refine wpAny_bind (wpAny_attempt (wpAny_bind (wpAny_mkInt ?_)))
  refine wpAny_getItem_missing_of (knd := intKind prog w) (k := (c : Int)) (by simp [intKind, Value.isInt]) hd hh hm hf fun h' e hx => ?_
  obtain ⟨ob, t, he, hc, _⟩ := hx.there
  refine wpAny_bind (wpAny_isInstance ⟨ob, he, hc⟩ sub_key_lookup ?_)
  refine KFB.if_so rfl ?_
  exact wpAny_bind (wpAny_rule (wpAny_pure (h _ _ hx.keeps)))
theorem translate_one {d : Addr} {c : Nat} {t : Tok} {Q : PySem.Fin → Shared → Prop} (hc : c < 128) (hd : (d == sysModules) = false) (hh : A.handled = none) (hm : Lacks prog w s.heap d c)
    (h : ∀ h' k t', (∀ b o, s.heap.get? b = some o → h'.get? b = some o) → Q (.done (.ret (.str ⟨#[c]⟩ t'))) { s with heap := h', toks := k }) : wpAny (model prog w) A (Builtin.«str.translate» ⟨[.str ⟨#[c]⟩ t, .ref d], []⟩) Q E s := by
  unfold Builtin.«str.translate»
  refine wpAny_bind (wpAny_of_eq (a := (.str ⟨#[c]⟩ t, ⟨#[c]⟩, .ref d)) (by rfl) ?_)
  dsimp only
  refine KFB.if_not rfl ?_
  rw [List.forIn_toArray, List.forIn_cons]
  refine wpAny_bind (wpAny_bind ?_)
  refine KFB.if_not (by rfl) ?_
  refine KFB.if_so (by simpa using hc) ?_
  show wpAny _ _ (Builtin.Str.tableLookup (.ref d) c >>= _) _ _ _
  refine wpAny_bind (tableLookup_lacks hd hh hm fun h' k hk => ?_)
  dsimp only
  refine wpAny_bind (wpAny_pure ?_)
  dsimp only
  refine wpAny_pure ?_
  dsimp only
  rw [List.forIn_nil]
  refine wpAny_pure ?_
  refine KFB.if_not (by rfl) ?_
  have e : (⟨List.foldl (fun (acc : Array Nat) (p : Str) => acc ++ p.cps) #[] [(⟨#[c]⟩ : Str)].reverse⟩ : Str) = ⟨#[c]⟩ := by simp
  show wpAny _ _ (mkStr ⟨List.foldl (fun (acc : Array Nat) (p : Str) => acc ++ p.cps) #[] [(⟨#[c]⟩ : Str)].reverse⟩ >>= _) _ _ _
  rw [e]
  refine wpAny_bind (wpAny_mkStr ?_ (by rw [sizeLine_eq]; show 1 ≤ 16777216; lia))
  exact wpAny_pure (h h' _ _ hk)
theorem call_translate {d : Addr} {c : Nat} {t : Tok} {Q : Value → Shared → Prop} (hc : c < 128) (hd : (d == sysModules) = false) (hh : A.handled = none) (hm : Lacks prog w s.heap d c)
    (h : ∀ h' k t', (∀ b o, s.heap.get? b = some o → h'.get? b = some o) → Q (.str ⟨#[c]⟩ t') { s with heap := h', toks := k }) : wpAny (model prog w) A (call (.builtin "str.translate") [.str ⟨#[c]⟩ t, .ref d]) Q E s :=
  wpAny_call_entry PySem.F.slot_str_translate (typeIs_str _ _ _) PySem.F.entry_str_translate (translate_one hc hd hh hm fun h' k t' hk => ⟨_, rfl, h h' k t' hk⟩) (PySem.F.args_str_translate_2 _ _)
theorem call_replaceNone {x y z : Str} {t u v : Tok} {Q : Value → Shared → Prop} (ho : (Builtin.Str.occurrences x y 0 x.length (x.length + 1)).isEmpty = true) (h : Q (.str x t) s) : wpAny (model prog w) A (call (.builtin "str.replace") [.str x t, .str y u, .str z v]) Q E s := by
  have g := PySem.gives_str_replace x y z t u v (by rw [ho]; intro q; simp at q)
  rw [if_pos (by rw [ho]; rfl)] at g
  exact call_gives PySem.F.slot_str_replace (typeIs_str _ _ _) PySem.F.entry_str_replace (PySem.F.args_str_replace_3 _ _ _) g h
end
section
variable {prog : Program} {w : World} {base : Heap} {n : Nat} {S : Led} {env : Env}
theorem c_replNone {x y z : Str} {v1 v2 v3 : Value} {Q : AV → Led → Prop} (h1 : VR (.str x) v1) (h2 : VR (.str y) v2) (h3 : VR (.str z) v3) (ho : (Builtin.Str.occurrences x y 0 x.length (x.length + 1)).isEmpty = true) (h : Q (.str x) S) :
    WV prog w base n (call (.builtin "str.replace") [v1, v2, v3]) S Q := by
  obtain ⟨t, rfl⟩ := h1; obtain ⟨u, rfl⟩ := h2; obtain ⟨v, rfl⟩ := h3
  exact .mk fun A s hA R => call_replaceNone ho (Post.self R ⟨.str x, ⟨_, rfl⟩, h⟩)
theorem Lacks.keeps {d : Addr} {c : Nat} {h h' : Heap} (L : Lacks prog w h d c) (k : ∀ b o, h.get? b = some o → h'.get? b = some o) : Lacks prog w h' d c := by
  obtain ⟨f, ⟨o, es, ep, ho, r⟩, hf⟩ := L
  exact ⟨f, ⟨o, es, ep, k _ _ ho, r⟩, hf⟩
theorem c_transl {d : Addr} {c : Nat} {v1 v2 : Value} {Q : AV → Led → Prop} (h1 : VR (.str ⟨#[c]⟩) v1) (h2 : VR (.val (.ref d)) v2) (hc : c < 128) (hd : (d == sysModules) = false) (hm : Lacks prog w base d c) (h : Q (.str ⟨#[c]⟩) S) :
    WV prog w base n (call (.builtin "str.translate") [v1, v2]) S Q := by
  obtain ⟨t, rfl⟩ := h1
  obtain rfl : v2 = .ref d := h2
  exact .mk fun A s hA R => call_translate hc hd hA.handled (hm.keeps R.keep) fun h' k t' hk => ⟨S, h', k, rfl, R.grow hk, .str _, ⟨_, rfl⟩, h⟩
/-! f-strings -/
theorem jp_nil {out : Str} {Q : AV → Led → Prop} (hl : out.length ≤ 1000) (h : Q (.str out) S) : WV prog w base n (joinParts out []) S Q := .mk fun A s hA R => joinParts_nil (Post.tok R ⟨.str out, ⟨_, rfl⟩, h⟩) (by rw [sizeLine_eq]; lia)
theorem jp_cons {out : Str} {x : Sem Value} {rest : List (Sem Value)} {Q : AV → Led → Prop} (h : WV prog w base n x S (fun a S₁ => ∃ y, a = .str y ∧ (out ++ y).length ≤ 1000 ∧ WV prog w base n (joinParts (out ++ y) rest) S₁ Q)) : WV prog w base n (joinParts out (x :: rest)) S Q := .mk fun A s hA R => by
  refine joinParts_cons (wpAny_mono (h.run A s hA R) (fun v s₁ p => ?_) fun _ _ x => x)
  obtain ⟨S₁, h₁, k₁, rfl, R₁, a, ra, y, rfl, hl, q⟩ := p
  obtain ⟨t, rfl⟩ := ra
  exact ⟨by rw [sizeLine_eq]; lia, q.at hA rfl R₁⟩
theorem ev_FV {value : Expr} {pos : Pos} {Q : AV → Led → Prop} (h : WV prog w base n (eval value env) S (fun a S₁ => ∃ y, a = .str y ∧ y.length ≤ 1000 ∧ Q (.str y) S₁)) : WV prog w base n (eval (.FormattedValue value (-1) none pos) env) S Q := .mk fun A s hA R => by
  refine FormattedValue_plain (wpAny_mono (h.run A s hA R) (fun v s₁ p => ?_) fun _ _ x => x)
  obtain ⟨S₁, h₁, k₁, rfl, R₁, a, ra, y, rfl, hl, q⟩ := p
  obtain ⟨t, rfl⟩ := ra
  exact formatField_str (fun t' tk => ⟨S₁, h₁, tk, rfl, R₁, .str y, ⟨_, rfl⟩, q⟩) (by rw [sizeLine_eq]; lia)
theorem ev_FStr3 {a b : Str} {k1 k2 : Nat} {e : Expr} {p1 p2 p3 pos : Pos} {Q : AV → Led → Prop} (ha : a.length ≤ 1000) (h : WV prog w base n (eval e env) S (fun c S₁ => ∃ y, c = .str y ∧ a.length + y.length + b.length ≤ 1000 ∧ Q (.str (a ++ y ++ b)) S₁)) :
    WV prog w base n (eval (.JoinedStr [.Constant (.str a) k1 p1, .FormattedValue e (-1) none p2, .Constant (.str b) k2 p3] pos) env) S Q := by
  show WV prog w base n (joinParts Str.empty (eval (.Constant (.str a) k1 p1) env :: eval (.FormattedValue e (-1) none p2) env :: [eval (.Constant (.str b) k2 p3) env])) S Q
  refine jp_cons (ev_str ⟨a, rfl, by rw [Str.empty_append]; exact ha, ?_⟩)
  rw [Str.empty_append]
  refine jp_cons (ev_FV (h.mono fun c S₁ ⟨y, hc, hl, q⟩ => ⟨y, hc, by lia, y, rfl, by rw [Str.length_append]; lia, ?_⟩))
  exact jp_cons (ev_str ⟨b, rfl, by simp only [Str.length_append]; lia, jp_nil (by simp only [Str.length_append]; lia) q⟩)
end
end
section
open PySem PySem.W PyProof.Rows PySem.Calls PySem.Spec
set_option linter.all false
set_option maxRecDepth 100000
set_option maxHeartbeats 1000000
/-- the table of made codes: nothing in it, or the one lambda's -/
noncomputable def PTab (pos : Pos) : OP := fun o => o = tabObj #[] ∨ ∃ c' : Addr, o = tabObj #[rawInt pos.line, rawInt pos.col, .ref c']
noncomputable def PFun : OP := fun o => o.cls = .type "function"
structure LamOk (base : Heap) (c P : Addr) : Prop where
  code : CodeHd base c P
  mg : ∃ mg, base.Ns mainGlobals mg ∧ base.BuiltinsAt mg P
theorem BuiltinsAt.keeps {h h' : Heap} {mg : Str → Option Value} {P : Addr} (B : h.BuiltinsAt mg P) (k : ∀ b o, h.get? b = some o → h'.get? b = some o) : h'.BuiltinsAt mg P := by
  obtain ⟨bm, o, h1, h2, h3, h4, h5, h6⟩ := B
  exact ⟨bm, o, h1, h2, h3, h4, k _ _ h5, h6⟩
theorem Rep.extUpd {base : Heap} {S S' : Led} {h h' : Heap} {a : Addr} {P P' : OP} (R : Rep base S h) (U : Upd S a P P' S') (x : Heap.ExtBut a h h') (hp : ∃ o, h'.get? a = some o ∧ P' o) : Rep base S' h' where
  keep := fun b o e => x b o (fun q => by rw [q, R.gone U.memOld] at e; cases e) (R.keep b o e)
  mem := fun p hm => by
    rcases U.cases R.nodup p hm with rfl | ⟨hm, hne⟩
    · exact hp
    · obtain ⟨o, e, q⟩ := R.mem p hm
      exact ⟨o, x _ _ hne e, q⟩
  fresh := fun p hm => by
    rcases U.cases R.nodup p hm with e | ⟨hm, hne⟩
    · rw [e]; exact R.fresh (a, P) U.memOld
    · exact R.fresh p hm
  nodup := by rw [U.addrs]; exact R.nodup
  last := R.last
theorem Upd.same {S S' : Led} {a : Addr} {P P' : OP} (U : Upd S a P P' S') : P = P' → S' = S := by
  induction U with
  | head => intro e; rw [e]
  | tail _ ih => intro e; rw [ih e]
theorem Upd.self {S S' : Led} {a : Addr} {P : OP} (U : Upd S a P P S') : S' = S := U.same rfl
section
variable {prog : Program} {w : World} {base : Heap} {n : Nat} {S : Led} {env : Env} {L : Addr} {ls gs : List Str} {cs fs : List (Str × Addr)}
theorem ev_Lambda {params : Arguments} {body : Expr} {scope : Scope} {pos : Pos} {c P : Addr} {S' : Led} {Q : AV → Led → Prop} (hE : EnvOk env L ls cs fs gs) (hcode : env.code = .ref c) (T : LamOk base c P) (U : Upd S P (PTab pos) (PTab pos) S')
    (h : ∀ f, Q (.val (.ref f)) ((f, PFun) :: S')) (hd : defaultsOf params env = ([], []) := by rfl) (hcl : closureFor scope env = pure [] := by rfl) : WV prog w base n (eval (.Lambda params body scope pos) env) S Q := .mk fun A s hA R => by
  obtain ⟨mg, hg, hb⟩ := T.mg
  have hg' := Ns.keeps hg R.keep
  have hb' := BuiltinsAt.keeps hb R.keep
  have hC := T.code.keeps R.keep
  have hgP : mainGlobals ≠ P := fun q => by
    obtain ⟨o, es, ep, e, _⟩ := hg
    rw [q, R.gone U.memOld] at e; cases e
  obtain ⟨o, eo, hP⟩ := R.get U.memOld
  refine kla_eval hd ?_
  rcases hP with rfl | ⟨c', rfl⟩
  · refine kla_makeFunction (mg := mg) hcl hE.glob hg' hcode hC eo True.intro rfl hgP hb' fun c' ctv h' tk hx hge hlt hrec htb => ?_
    have R' := R.extUpd U hx ⟨_, htb, .inr ⟨c', by rfl⟩⟩
    exact ⟨_, _, _, rfl, R'.push (P := PFun) rfl, .val (.ref _), rfl, h _⟩
  · refine kla_makeFunctionHit (mg := mg) (cv := .ref c') hcl hE.glob hg' hcode hC eo (by simp [TriplesOk, rawInt]) (by simp [codeAmong, rawInt]) hb' fun ctv h' tk hk hsz => ?_
    have e := Upd.self U
    subst e
    exact ⟨_, _, _, rfl, (R.grow hk).push (P := PFun) rfl, .val (.ref _), rfl, h _⟩
/-- the pattern's sub upon one of the two texts -/
theorem IsRe.keeps {h h' : Heap} {p : Addr} (I : IsRe h p) (k : ∀ b o, h.get? b = some o → h'.get? b = some o) : IsRe h' p := by
  obtain ⟨c, ps, t1, i2, t2, t3, t4, vs, m, h1, h2, h3⟩ := I
  exact ⟨c, ps, t1, i2, t2, t3, t4, vs, m, k _ _ h1, k _ _ h2, h3⟩
theorem OnT.re {p : Addr} (I : IsRe base p) : OnT base S (.val (.ref p)) "re.Pattern" := by
  rintro v s rfl R
  obtain ⟨c, ps, t1, i2, t2, t3, t4, vs, m, h1, h2, h3⟩ := IsRe.keeps I R.keep
  exact ⟨⟨_, h1, rfl⟩, by rintro b ⟨⟩; exact ⟨_, h1, rfl⟩⟩
theorem c_resub {p f : Addr} {x : Str} {v1 v2 v3 : Value} {Q : AV → Led → Prop} (I : IsRe base p) (h1 : VR (.val (.ref p)) v1) (h2 : VR (.val (.ref f)) v2) (h3 : VR (.str x) v3) (hf : (f, PFun) ∈ S) (hx : x = "xs" ∨ x = "xt") (h : Q (.str x) S) :
    WV prog w base n (call (.builtin "re.Pattern.sub") [v1, v2, v3]) S Q := by
  obtain rfl : v1 = .ref p := h1
  obtain rfl : v2 = .ref f := h2
  obtain ⟨t, rfl⟩ := h3
  refine .mk fun A s hA R => ?_
  obtain ⟨fo, ef, hfc⟩ := R.get hf
  exact call_re_sub (IsRe.keeps I R.keep) ef hfc hx fun h' k v hk hv => ⟨S, h', k, rfl, R.grow hk, .str x, hv, h⟩
end
end
section
open PySem PySem.W PyProof.Rows PySem.Calls PySem.Spec
set_option linter.all false
set_option maxRecDepth 100000
set_option maxHeartbeats 1000000
/-! a text of pieces: its signs -/
theorem Str.cps_append (a b : Str) : (a ++ b).cps = a.cps ++ b.cps := rfl
theorem cat_mid (A : List Str) (x : Str) (B : List Str) : (catS (A ++ x :: B)).cps.toList = (catS A).cps.toList ++ (x.cps.toList ++ (catS B).cps.toList) := by
  rw [catS_append]
  show ((catS A).cps ++ (x.cps ++ (catS B).cps)).toList = _
  simp
theorem Str.len_toList (x : Str) : x.cps.toList.length = x.length := by simp [Str.length]
theorem cat_at {A : List Str} {x : Str} {B : List Str} {m : Nat} (hm : m < x.length) : (catS (A ++ x :: B)).cps[(catS A).length + m]? = x.cps[m]? := by
  have h := congrArg (fun l : List Nat => l[(catS A).length + m]?) (cat_mid A x B)
  simp only [Array.getElem?_toList] at h
  rw [h, List.getElem?_append_right (by rw [Str.len_toList]; lia), Str.len_toList, Nat.add_sub_cancel_left, List.getElem?_append_left (by rw [Str.len_toList]; exact hm), Array.getElem?_toList]
theorem cat_lt (A : List Str) (x : Str) (B : List Str) : (catS A).length + x.length ≤ (catS (A ++ x :: B)).length := by
  rw [catS_append, Str.length_append]
  show _ ≤ _ + (x ++ catS B).length
  rw [Str.length_append]; lia
theorem seq_in {k N : Nat} (h : k < N) : seqIndex? ((k : Nat) : Int) N = some k := by
  unfold seqIndex?
  have h0 : ¬ ((k : Int) < 0) := by lia
  simp only [h0, if_false]
  rw [if_pos (by simp; lia), Int.toNat_natCast]
theorem cat_chr {A : List Str} {x : Str} {B : List Str} {m c : Nat} (hc : x.cps[m]? = some c) : (seqIndex? (((catS A).length + m : Nat) : Int) (catS (A ++ x :: B)).length).bind ((catS (A ++ x :: B)).cps[·]?) = some c := by
  have hm : m < x.length := by
    obtain ⟨h, _⟩ := Array.getElem?_eq_some_iff.mp hc
    exact h
  have := cat_lt A x B
  rw [seq_in (by lia)]
  exact (cat_at hm).trans hc
theorem cat_slice {A : List Str} {B : List Str} {u v y z : Nat} : Txt.slice (catS (A ++ ⟨#[u, v, y, z]⟩ :: B)) (some (((catS A).length + 1 : Nat) : Int)) (some (((catS A).length + 3 : Nat) : Int)) = ⟨#[v, y]⟩ := by
  have hl := cat_lt A ⟨#[u, v, y, z]⟩ B
  have h4 : (⟨#[u, v, y, z]⟩ : Str).length = 4 := rfl
  have h := slice_closes (x := catS (A ++ ⟨#[u, v, y, z]⟩ :: B)) (i := (((catS A).length + 1 : Nat) : Int)) (j := (((catS A).length + 3 : Nat) : Int)) ⟨by lia, by lia, by rw [Str.len_toList]; lia⟩
  rw [eq_of_beq h]
  have e1 : ((((catS A).length + 1 : Nat) : Int)).toNat = (catS A).length + 1 := Int.toNat_natCast _
  have e2 : ((((catS A).length + 3 : Nat) : Int) - (((catS A).length + 1 : Nat) : Int)).toNat = 2 := by lia
  rw [e1, e2, cat_mid, List.drop_append]
  have e3 : (catS A).cps.toList.length = (catS A).length := Str.len_toList _
  rw [List.drop_eq_nil_of_le (by lia), e3, Nat.add_sub_cancel_left]
  rfl
/-! the pieces of a pattern -/
noncomputable def segOk (x : Str) : Prop := x = "?" ∨ (∃ c, (c = 100 ∨ c = 114 ∨ c = 119) ∧ x = ⟨#[c]⟩) ∨ ∃ t, (t = 115 ∨ t = 116) ∧ x = ⟨#[91, 120, t, 93]⟩
noncomputable def trP (x : Str) : Str := if x = "?" then "." else x
theorem segOk_len {x : Str} (h : segOk x) : x.length = 1 ∨ x.length = 4 := by
  rcases h with rfl | ⟨c, _, rfl⟩ | ⟨t, _, rfl⟩
  · exact .inl rfl
  · exact .inl rfl
  · exact .inr rfl
theorem trP_one (c : Nat) (h : c ≠ 63) : trP ⟨#[c]⟩ = ⟨#[c]⟩ := by
  unfold trP
  rw [if_neg]
  intro e
  have := congrArg Str.cps e
  have h2 : (#[c] : Array Nat) = #[63] := this
  simp at h2
  exact h h2
theorem trP_four (t : Nat) : trP ⟨#[91, 120, t, 93]⟩ = ⟨#[91, 120, t, 93]⟩ := by
  unfold trP
  rw [if_neg]
  intro e
  have := congrArg Str.length e
  simp [Str.length] at this
  exact absurd this (by decide)
theorem split_at {segs : List Str} {j : Nat} (h : j < segs.length) : ∃ x, segs = segs.take j ++ x :: segs.drop (j + 1) ∧ segs[j]? = some x := ⟨segs[j], by rw [List.getElem_cons_drop]; exact (List.take_append_drop j segs).symm, List.getElem?_eq_getElem h⟩
section
variable {prog : Program} {w : World} {base : Heap} {n : Nat} {S : Led} {gl : List (Str × AV)} {bl : List (Str × Value)} {a : Addr}
/-- what escape needs -/
structure EscOk (prog : Program) (w : World) (base : Heap) (gl : List (Str × AV)) (bl : List (Str × Value)) (esc tb : Addr) : Prop where
  F : FnIs base esc (fnScope 31) ["pattern"] (fnBody 31) []
  isi : (("isinstance" : Str), Value.builtin "isinstance") ∈ bl
  str : (("str" : Str), Value.type "str") ∈ bl
  map : (("_special_chars_map" : Str), AV.val (.ref tb)) ∈ gl
  sys : (tb == sysModules) = false
  lack : ∀ c, (c = 100 ∨ c = 114 ∨ c = 119) → Lacks prog w base tb c
theorem sig_esc : sigOk (fnScope 31) ["pattern"] ["pattern"] [] ["isinstance", "str", "_special_chars_map"] = true := by rfl
theorem c_escape {esc tb : Addr} (T : TopIs base gl bl) (X : EscOk prog w base gl bl esc tb) {c : Nat} (hc : c = 100 ∨ c = 114 ∨ c = 119) {v : Value} {Q : AV → Led → Prop} (hv : VR (.str ⟨#[c]⟩) v) (h : Q (.str ⟨#[c]⟩) S) : WV prog w base (n + 1) (call (.ref esc) [v]) S Q := by
  refine c_call X.F (das := []) rfl sig_esc (args := [.str ⟨#[c]⟩]) ⟨v, [], rfl, hv, rfl⟩ rfl fun env L ads hlen hE => ?_
  obtain rfl := List.eq_nil_of_length_eq_zero hlen
  show W prog w base n (execs (fnBody 31) env) ((L, PNs [("pattern", some (.str ⟨#[c]⟩))]) :: S) (RetS Q)
  refine x_cons <| x_If <| t_val <| ev_CallB <| ev_blt hE T (by tb_start) X.isi ⟨rfl, vs_cons <| ev_loc hE (by tb_start) (by tb_start) (by tb_start) <| vs_cons <| ev_blt hE T (by tb_start) X.str <| vs_nil fun vs hvs => ?_⟩
  refine vrs2 hvs fun v1 r1 v2 r2 => ?_
  refine c_isStr r1 r2 <| T1.bool ?_
  rw [if_pos rfl]
  refine x_cons <| x_Ret <| ev_Meth1 PySem.F.plainAttrs_str PySem.F.slot_str_translate PySem.F.type_str_translate <| ev_loc hE (by tb_start) (by tb_start) (by tb_start) ⟨.str, vs_cons <| ev_glob hE T (by tb_start) X.map <| vs_nil fun v vs hv hvs => ?_⟩
  refine vrs1 hvs fun v3 r3 => ?_
  exact c_transl hv r3 (by rcases hc with rfl | rfl | rfl <;> decide) X.sys (X.lack c hc) fun v hv => ret_end hv (by tb_start) h
end
end
section
open PySem PySem.W PyProof.Rows PySem.Calls PySem.Spec
set_option linter.all false
set_option maxRecDepth 100000
set_option maxHeartbeats 1000000

noncomputable abbrev lamPos : Pos := ⟨107, 39, 107, 76⟩
section
variable {prog : Program} {w : World} {base : Heap} {n : Nat} {S : Led} {gl : List (Str × AV)} {bl : List (Str × Value)} {a : Addr}
theorem sig_tr : sigOk (fnScope 33) ["pat", "STAR", "QUESTION_MARK"] ["pat", "STAR", "QUESTION_MARK", "res", "add", "i", "n", "c", "j", "stuff", "chunks", "k", "chunk"] [] ["len", "_twin_re_1", "escape"] = true := by rfl
theorem c_tr {esc re tb cc P : Addr} (F : FnIs base a (fnScope 33) ["pat", "STAR", "QUESTION_MARK"] (fnBody 33) []) (T : TopIs base gl bl) (hlen : (("len" : Str), Value.builtin "len") ∈ bl) (hre : (("_twin_re_1" : Str), AV.val (.ref re)) ∈ gl) (hesc : (("escape" : Str), AV.val (.ref esc)) ∈ gl)
    (X : EscOk prog w base gl bl esc tb) (IR : IsRe base re) (LM : LamOk base cc P) (hcd : ∀ o fd, base.get? a = some o → o.data = .func fd → fd.code = .ref cc)
    {segs : List Str} (hsg : ∀ x ∈ segs, segOk x) (hfew : segs.length ≤ 100) {star : AV} {v1 v2 v3 : Value} {Q : AV → Led → Prop} (h1 : VR (.str (catS segs)) v1) (h2 : VR star v2) (h3 : VR (.str ".") v3)
    (h : ∀ l, Q (.val (.ref l)) ((l, PList (aStrs (segs.map trP))) :: (P, PTab lamPos) :: S)) : WV prog w base (n + 2) (call (.ref a) [v1, v2, v3]) ((P, PTab lamPos) :: S) Q := by
  refine c_callG F (das := []) rfl sig_tr (args := [.str (catS segs), star, .str "."]) ⟨v1, _, rfl, h1, v2, _, rfl, h2, v3, [], rfl, h3, rfl⟩ rfl fun env L ads hlen' hE hcode' => ?_
  have hcode : env.code = .ref cc := by
    obtain ⟨o, fd, ho, hd, _⟩ := F.fn
    rw [hcode' o fd ho hd]; exact hcd o fd ho hd
  clear hcode'
  obtain rfl := List.eq_nil_of_length_eq_zero hlen'
  have hN : (catS segs).length ≤ 400 := by
    rw [catS_len]
    have := sum_le4 (ys := segs) (c := 4) fun y hy => by rcases segOk_len (hsg y hy) with e | e <;> lia
    lia
  generalize hpat : catS segs = pat at hN
  generalize hNN : pat.length = N at hN
  show W prog w base (n + 1) (execs (fnBody 33) env) ((L, PNs [("pat", some (.str pat)), ("STAR", some star), ("QUESTION_MARK", some (.str ".")), ("res", none), ("add", none), ("i", none), ("n", none), ("c", none), ("j", none), ("stuff", none), ("chunks", none), ("k", none), ("chunk", none)]) :: (P, PTab lamPos) :: S) (RetS Q)
  refine x_cons <| x_AssignName <| ev_List <| vs_nil ⟨by decide, fun rl v hv => ?_⟩
  refine st_loc hE (by tb_start) (by tb_start) (by tb_start) hv ?_
  refine x_cons <| x_AssignName <| ev_Append <| ev_loc hE (by tb_start) (by tb_start) (by tb_start) ⟨rl, [], rfl, by tb_start, fun b v hv => ?_⟩
  refine st_loc hE (by tb_start) (by tb_start) (by tb_start) hv ?_
  refine x_cons <| x_Pair hE (by tb_start) (by tb_start) (by rfl) (by intro _ _; exact ⟨(by intro q; cases q), (by intro q; cases q)⟩) (by rfl) (by rfl) ?_
  refine vs_cons <| ev_int <| vs_cons <| ev_CallB <| ev_blt hE T (by tb_start) hlen ⟨rfl, vs_cons <| ev_loc hE (by tb_start) (by tb_start) (by tb_start) <| vs_nil fun vs hvs => ?_⟩
  refine vrs1 hvs fun w1 r1 => ?_
  refine c_lenStr r1 (by lia) <| vs_nil ⟨_, _, rfl, fun t va vb ha hb => ?_⟩
  rw [hNN] at hb ⊢
  refine st_loc hE (by tb_start) (by tb_start) (by tb_start) hb ?_
  refine st_loc hE (by tb_start) (by tb_start) (by tb_start) ha ?_
  refine W.pk (S' := (L, PNs [("pat", some (.str pat)), ("STAR", some star), ("QUESTION_MARK", some (.str ".")), ("res", some (.val (.ref rl))), ("add", some (.val (.ref b))), ("i", some (.int 0)), ("n", some (.int ((N : Nat) : Int))), ("c", none), ("j", none), ("stuff", none), ("chunks", none), ("k", none), ("chunk", none)]) :: (rl, PList []) :: (b, PBnd rl) :: (P, PTab lamPos) :: S) ?_ (by tb_start)
  refine x_cons <| x_While <| wc_while (fun k S' => ∃ j, j ≤ segs.length ∧ k = segs.length - j ∧ S' = (L, PNs [("pat", some (.str pat)), ("STAR", some star), ("QUESTION_MARK", some (.str ".")), ("res", some (.val (.ref rl))), ("add", some (.val (.ref b))), ("i", some (.int (((catS (segs.take j)).length : Nat) : Int))), ("n", some (.int ((N : Nat) : Int))), ("c", none), ("j", none), ("stuff", none), ("chunks", none), ("k", none), ("chunk", none)]) :: (rl, PList (aStrs ((segs.take (j)).map trP))) :: (b, PBnd rl) :: (P, PTab lamPos) :: S) ?_ segs.length ⟨0, Nat.zero_le _, rfl, rfl⟩
  rintro k S' ⟨j, hj, rfl, rfl⟩
  refine t_Compare <| ev_loc hE (by tb_start) (by tb_start) (by tb_start) <| ev_loc hE (by tb_start) (by tb_start) (by tb_start) <| o_ltN <| T1.bool ?_
  by_cases hjl : j < segs.length
  · obtain ⟨x, hsp, hxj⟩ := split_at hjl
    have hok := hsg x (List.mem_of_getElem? hxj)
    have htk : segs.take (j + 1) = segs.take j ++ [x] := by rw [List.take_add_one, hxj]; rfl
    have hcat : catS (segs.take (j + 1)) = catS (segs.take j) ++ x := by rw [htk, catS_append]; show _ ++ (x ++ Str.empty) = _; rw [Str.append_emptyR]
    have hnext : (catS (segs.take (j + 1))).length = (catS (segs.take j)).length + x.length := by rw [hcat, Str.length_append]
    have happ : aStrs ((segs.take j).map trP) ++ [.str (trP x)] = aStrs ((segs.take (j + 1)).map trP) := by rw [htk]; simp [aStrs]
    have hll : (aStrs ((segs.take j).map trP)).length ≤ 1000 := by simp [aStrs]; lia
    have hroom := cat_lt (segs.take j) x (segs.drop (j + 1))
    rw [← hsp, hpat, hNN] at hroom
    have chr : ∀ (m c : Nat), x.cps[m]? = some c → (seqIndex? (((catS (segs.take j)).length + m : Nat) : Int) pat.length).bind (pat.cps[·]?) = some c := fun m c hc => by
      have := cat_chr (A := segs.take j) (B := segs.drop (j + 1)) hc
      rw [← hsp, hpat] at this
      exact this
    have sl : ∀ t, x = ⟨#[91, 120, t, 93]⟩ → Txt.slice pat (some (((catS (segs.take j)).length + 1 : Nat) : Int)) (some (((catS (segs.take j)).length + 3 : Nat) : Int)) = ⟨#[120, t]⟩ := fun t e => by
      have := cat_slice (A := segs.take j) (B := segs.drop (j + 1)) (u := 91) (v := 120) (y := t) (z := 93)
      rw [← e, ← hsp, hpat] at this
      exact this
    have fin : ∀ S₄, Wk ((L, PNs [("pat", some (.str pat)), ("STAR", some star), ("QUESTION_MARK", some (.str ".")), ("res", some (.val (.ref rl))), ("add", some (.val (.ref b))), ("i", some (.int (((catS (segs.take (j + 1))).length : Nat) : Int))), ("n", some (.int ((N : Nat) : Int))), ("c", none), ("j", none), ("stuff", none), ("chunks", none), ("k", none), ("chunk", none)]) :: (rl, PList (aStrs ((segs.take (j + 1)).map trP))) :: (b, PBnd rl) :: (P, PTab lamPos) :: S) S₄ → Les (fun m S₅ => ∃ j, j ≤ segs.length ∧ m = segs.length - j ∧ S₅ = (L, PNs [("pat", some (.str pat)), ("STAR", some star), ("QUESTION_MARK", some (.str ".")), ("res", some (.val (.ref rl))), ("add", some (.val (.ref b))), ("i", some (.int (((catS (segs.take j)).length : Nat) : Int))), ("n", some (.int ((N : Nat) : Int))), ("c", none), ("j", none), ("stuff", none), ("chunks", none), ("k", none), ("chunk", none)]) :: (rl, PList (aStrs ((segs.take (j)).map trP))) :: (b, PBnd rl) :: (P, PTab lamPos) :: S) (segs.length - j) S₄ :=
      fun S₄ hw => ⟨segs.length - (j + 1), by lia, _, hw, j + 1, by lia, rfl, rfl⟩
    rw [hnext] at fin
    rw [← happ] at fin
    generalize hp : (catS (segs.take j)).length = p at hroom chr sl fin ⊢
    have hx1 : 1 ≤ x.length := by rcases segOk_len hok with e | e <;> lia
    have hlt : decide (p < N) = true := decide_eq_true (by lia)
    rw [hlt, if_pos rfl]
    generalize hxs : aStrs ((segs.take j).map trP) = xs at hll fin ⊢
    clear happ hcat hnext htk
    have c0 : ∃ c, x.cps[0]? = some c := by
      rcases hok with rfl | ⟨c, _, rfl⟩ | ⟨t, _, rfl⟩
      · exact ⟨63, rfl⟩
      · exact ⟨c, rfl⟩
      · exact ⟨91, rfl⟩
    obtain ⟨c, c0⟩ := c0
    have g0 := chr 0 c c0
    rw [Nat.add_zero] at g0
    refine x_cons <| x_AssignName <| ev_Sub <| ev_loc hE (by tb_start) (by tb_start) (by tb_start) <| ev_loc hE (by tb_start) (by tb_start) (by tb_start) <| g_str (c := c) (by lia) (by lia) g0 fun v hv => ?_
    refine st_loc hE (by tb_start) (by tb_start) (by tb_start) hv ?_
    refine x_cons <| x_AssignName <| ev_BinOp <| ev_loc hE (by tb_start) (by tb_start) (by tb_start) <| ev_int <| o_addN (j := 1) fun v hv => ?_
    refine st_loc hE (by tb_start) (by tb_start) (by tb_start) hv ?_
    have star0 : c ≠ 42 := by
      rcases hok with rfl | ⟨c', hc', rfl⟩ | ⟨t, _, rfl⟩
      · cases c0; decide
      · cases c0; rcases hc' with rfl | rfl | rfl <;> decide
      · obtain rfl : c = 91 := by cases c0; rfl
        decide
    have ceqT : ∀ (c k : Nat), c ≠ k → ((⟨#[c]⟩ : Str) == ⟨#[k]⟩) = false := fun c k hk => by
      rw [beq_eq_false_iff_ne]
      intro e
      have e2 : (#[c] : Array Nat) = #[k] := congrArg Str.cps e
      simp at e2
      exact hk e2
    have ceq : ∀ (k : Nat), c ≠ k → ((⟨#[c]⟩ : Str) == ⟨#[k]⟩) = false := fun k hk => by
      rw [beq_eq_false_iff_ne]
      intro e
      have e2 : (#[c] : Array Nat) = #[k] := congrArg Str.cps e
      simp at e2
      exact hk e2
    refine x_cons <| x_If <| t_Compare <| ev_loc hE (by tb_start) (by tb_start) (by tb_start) <| ev_str <| o_seq <| T1.bool ?_
    rw [show ((⟨#[c]⟩ : Str) == Str.ofString "*") = false from ceq 42 star0, if_neg (by decide)]
    refine x_cons <| x_If <| t_Compare <| ev_loc hE (by tb_start) (by tb_start) (by tb_start) <| ev_str <| o_seq <| T1.bool ?_
    rcases hok with rfl | ⟨c', hc', rfl⟩ | ⟨t, ht, rfl⟩
    · obtain rfl : c = 63 := by cases c0; rfl
      rw [show ((⟨#[63]⟩ : Str) == Str.ofString "?") = true from rfl, if_pos rfl]
      refine x_cons <| x_Expr hE <| ev_CallBnd <| ev_loc hE (by tb_start) (by tb_start) (by tb_start) ⟨b, rl, rfl, ev_loc hE (by tb_start) (by tb_start) (by tb_start) ⟨xs, _, by tb_start, by tb_start, hll, ?_⟩⟩
      exact x_nil <| x_nil <| x_nil <| fin _ (show Wk ((L, PNs [("pat", some (.str pat)), ("STAR", some star), ("QUESTION_MARK", some (.str ".")), ("res", some (.val (.ref rl))), ("add", some (.val (.ref b))), ("i", some (.int ((p + 1 : Nat) : Int))), ("n", some (.int ((N : Nat) : Int))), ("c", none), ("j", none), ("stuff", none), ("chunks", none), ("k", none), ("chunk", none)]) :: (rl, PList (xs ++ [.str "."])) :: (b, PBnd rl) :: (P, PTab lamPos) :: S) _ from by tb_start)
    · obtain rfl : c = c' := by cases c0; rfl
      rw [show ((⟨#[c]⟩ : Str) == Str.ofString "?") = false from ceq 63 (by rcases hc' with rfl | rfl | rfl <;> decide), if_neg (by decide)]
      refine x_cons <| x_If <| t_Compare <| ev_loc hE (by tb_start) (by tb_start) (by tb_start) <| ev_str <| o_seq <| T1.bool ?_
      rw [show ((⟨#[c]⟩ : Str) == Str.ofString "[") = false from ceq 91 (by rcases hc' with rfl | rfl | rfl <;> decide), if_neg (by decide)]
      refine x_cons <| x_Expr hE <| ev_CallBnd <| ev_loc hE (by tb_start) (by tb_start) (by tb_start) ⟨b, rl, rfl, ev_CallDef X.F.isDef <| ev_glob hE T (by tb_start) hesc ⟨rfl, vs_cons <| ev_loc hE (by tb_start) (by tb_start) (by tb_start) <| vs_nil fun vs hvs => ?_⟩⟩
      refine vrs1 hvs fun w1 r1 => ?_
      rw [trP_one c (by rcases hc' with rfl | rfl | rfl <;> decide)] at fin
      refine c_escape T X hc' r1 ⟨xs, _, by tb_start, by tb_start, hll, ?_⟩
      exact x_nil <| x_nil <| x_nil <| x_nil <| fin _ (show Wk ((L, PNs [("pat", some (.str pat)), ("STAR", some star), ("QUESTION_MARK", some (.str ".")), ("res", some (.val (.ref rl))), ("add", some (.val (.ref b))), ("i", some (.int ((p + 1 : Nat) : Int))), ("n", some (.int ((N : Nat) : Int))), ("c", none), ("j", none), ("stuff", none), ("chunks", none), ("k", none), ("chunk", none)]) :: (rl, PList (xs ++ [.str ⟨#[c]⟩])) :: (b, PBnd rl) :: (P, PTab lamPos) :: S) _ from by tb_start)
    · obtain rfl : c = 91 := by cases c0; rfl
      rw [show ((⟨#[91]⟩ : Str) == Str.ofString "?") = false from rfl, if_neg (by decide)]
      refine x_cons <| x_If <| t_Compare <| ev_loc hE (by tb_start) (by tb_start) (by tb_start) <| ev_str <| o_seq <| T1.bool ?_
      rw [show ((⟨#[91]⟩ : Str) == Str.ofString "[") = true from rfl, if_pos rfl]
      rw [trP_four] at fin
      have hN4 : p + 4 ≤ N := hroom
      have g1 := chr 1 120 rfl
      have g2 := chr 2 t rfl
      have g3 := chr 3 93 rfl
      have s1 := sl t rfl
      have hb : Str.ofString "[" ++ (⟨#[120, t]⟩ : Str) ++ Str.ofString "]" = ⟨#[91, 120, t, 93]⟩ := by rcases ht with rfl | rfl <;> rfl
      have hy : (⟨#[120, t]⟩ : Str) = "xs" ∨ (⟨#[120, t]⟩ : Str) = "xt" := (by
        rcases ht with rfl | rfl
        · exact .inl rfl
        · exact .inr rfl)
      have ht2 : ((⟨#[t]⟩ : Str) == Str.ofString "]") = false := ceqT t 93 (by rcases ht with rfl | rfl <;> decide)
      generalize (⟨#[120, t]⟩ : Str) = y at s1 hb hy
      have y1 : (!inS (Str.ofString "-") y) = true := by rcases hy with rfl | rfl <;> decide +kernel
      have y2 : (Builtin.Str.occurrences y (Str.ofString "\\") 0 y.length (y.length + 1)).isEmpty = true := by rcases hy with rfl | rfl <;> decide +kernel
      have y3 : ((y.length : Int) != 0) = true := by rcases hy with rfl | rfl <;> rfl
      have y4 : (y == Str.ofString "!") = false := by rcases hy with rfl | rfl <;> rfl
      have y5 : (seqIndex? (0 : Int) y.length).bind (y.cps[·]?) = some 120 := by rcases hy with rfl | rfl <;> rfl
      have y6 : y.length = 2 := by rcases hy with rfl | rfl <;> rfl
      refine x_cons <| x_AssignName <| ev_loc hE (by tb_start) (by tb_start) (by tb_start) fun v hv => ?_
      refine st_loc hE (by tb_start) (by tb_start) (by tb_start) hv ?_
      refine x_cons <| x_If <| t_AndP (b₁ := true) (b₂ := false) (t_Compare <| ev_loc hE (by tb_start) (by tb_start) (by tb_start) <| ev_loc hE (by tb_start) (by tb_start) (by tb_start) <| o_ltN <| T1.bool ⟨rfl, decide_eq_true (by lia)⟩) (fun _ => t_Compare <| ev_Sub <| ev_loc hE (by tb_start) (by tb_start) (by tb_start) <| ev_loc hE (by tb_start) (by tb_start) (by tb_start) <| g_str (c := 120) (by lia) (by lia) g1 <| ev_str <| o_seq <| T1.bool ⟨rfl, rfl⟩) ?_
      rw [if_neg (by decide)]
      refine x_nil ?_
      refine x_cons <| x_If <| t_AndP (b₁ := true) (b₂ := false) (t_Compare <| ev_loc hE (by tb_start) (by tb_start) (by tb_start) <| ev_loc hE (by tb_start) (by tb_start) (by tb_start) <| o_ltN <| T1.bool ⟨rfl, decide_eq_true (by lia)⟩) (fun _ => t_Compare <| ev_Sub <| ev_loc hE (by tb_start) (by tb_start) (by tb_start) <| ev_loc hE (by tb_start) (by tb_start) (by tb_start) <| g_str (c := 120) (by lia) (by lia) g1 <| ev_str <| o_seq <| T1.bool ⟨rfl, rfl⟩) ?_
      rw [if_neg (by decide)]
      refine x_nil ?_
      refine x_cons <| x_While <| wc_while (fun k S' => ∃ q, p + 1 ≤ q ∧ q ≤ p + 3 ∧ k = p + 3 - q ∧ S' = (L, PNs [("pat", some (.str pat)), ("STAR", some star), ("QUESTION_MARK", some (.str ".")), ("res", some (.val (.ref rl))), ("add", some (.val (.ref b))), ("i", some (.int ((p + 1 : Nat) : Int))), ("n", some (.int ((N : Nat) : Int))), ("c", some (.str ⟨#[91]⟩)), ("j", some (.int ((q : Nat) : Int))), ("stuff", none), ("chunks", none), ("k", none), ("chunk", none)]) :: (rl, PList xs) :: (b, PBnd rl) :: (P, PTab lamPos) :: S) ?_ 2 ⟨p + 1, by lia, by lia, by lia, rfl⟩
      rintro k S' ⟨q, hq1, hq2, rfl, rfl⟩
      by_cases hq3 : q < p + 3
      · obtain ⟨c, hc, hg⟩ : ∃ c, c ≠ 93 ∧ (seqIndex? ((q : Nat) : Int) pat.length).bind (pat.cps[·]?) = some c := by
          have hq : q = p + 1 ∨ q = p + 2 := by lia
          rcases hq with rfl | rfl
          · exact ⟨120, by decide, g1⟩
          · exact ⟨t, by rcases ht with rfl | rfl <;> decide, g2⟩
        refine t_AndP (b₁ := true) (b₂ := true) (t_Compare <| ev_loc hE (by tb_start) (by tb_start) (by tb_start) <| ev_loc hE (by tb_start) (by tb_start) (by tb_start) <| o_ltN <| T1.bool ⟨rfl, decide_eq_true (by lia)⟩) (fun _ => t_Compare <| ev_Sub <| ev_loc hE (by tb_start) (by tb_start) (by tb_start) <| ev_loc hE (by tb_start) (by tb_start) (by tb_start) <| g_str (c := c) (by lia) (by lia) hg <| ev_str <| o_sne <| T1.bool ⟨rfl, by show (!((⟨#[c]⟩ : Str) == ⟨#[93]⟩)) = true; rw [ceqT c 93 hc]; rfl⟩) ?_
        rw [if_pos (by rfl)]
        refine x_cons <| x_AssignName <| ev_BinOp <| ev_loc hE (by tb_start) (by tb_start) (by tb_start) <| ev_int <| o_addN (j := 1) fun v hv => ?_
        refine st_loc hE (by tb_start) (by tb_start) (by tb_start) hv ?_
        exact x_nil ⟨p + 3 - (q + 1), by lia, _, Wk.refl _, q + 1, by lia, by lia, rfl, rfl⟩
      · obtain rfl : q = p + 3 := by lia
        refine t_AndP (b₁ := true) (b₂ := false) (t_Compare <| ev_loc hE (by tb_start) (by tb_start) (by tb_start) <| ev_loc hE (by tb_start) (by tb_start) (by tb_start) <| o_ltN <| T1.bool ⟨rfl, decide_eq_true (by lia)⟩) (fun _ => t_Compare <| ev_Sub <| ev_loc hE (by tb_start) (by tb_start) (by tb_start) <| ev_loc hE (by tb_start) (by tb_start) (by tb_start) <| g_str (c := 93) (by lia) (by lia) g3 <| ev_str <| o_sne <| T1.bool ⟨rfl, rfl⟩) ?_
        rw [if_neg (by decide)]
        refine x_nil ?_
        refine x_cons <| x_If <| t_Compare <| ev_loc hE (by tb_start) (by tb_start) (by tb_start) <| ev_loc hE (by tb_start) (by tb_start) (by tb_start) <| o_ge <| T1.bool ?_
        rw [show decide ((N : Int) ≤ ((p + 3 : Nat) : Int)) = false from decide_eq_false (by lia), if_neg (by decide)]
        refine x_cons <| x_AssignName <| ev_Sub <| ev_loc hE (by tb_start) (by tb_start) (by tb_start) <| ev_SlBoth <| ev_loc hE (by tb_start) (by tb_start) (by tb_start) ⟨_, rfl, ev_loc hE (by tb_start) (by tb_start) (by tb_start) ⟨_, rfl, fun sl => g_strSS (i := p + 1) (j := p + 3) (by tb_start) (by lia) ?_⟩⟩
        rw [s1]
        refine fun v hv => st_loc hE (by tb_start) (by tb_start) (by tb_start) hv ?_
        refine x_cons <| x_If <| t_Compare <| ev_str <| ev_loc hE (by tb_start) (by tb_start) (by tb_start) <| o_nin <| T1.bool ?_
        rw [y1, if_pos rfl]
        refine x_cons <| x_AssignName <| ev_Meth1 PySem.F.plainAttrs_str PySem.F.slot_str_replace PySem.F.type_str_replace <| ev_loc hE (by tb_start) (by tb_start) (by tb_start) ⟨.str, vs_cons <| ev_str <| vs_cons <| ev_str <| vs_nil fun v vs hv hvs => ?_⟩
        refine vrs2 hvs fun u1 r1 u2 r2 => ?_
        refine c_replNone hv r1 r2 y2 fun v hv => ?_
        refine st_loc hE (by tb_start) (by tb_start) (by tb_start) hv ?_
        refine x_nil ?_
        refine x_cons <| x_AssignName <| ev_Meth1 plainAttrs_re slot_re_sub type_re_sub <| ev_glob hE T (by tb_start) hre ⟨.re IR, ?_⟩
        refine vs_cons <| ev_Lambda hE hcode LM (by tb_start) fun f => ?_
        refine vs_cons <| ev_loc hE (by tb_start) (by tb_start) (by tb_start) <| vs_nil fun v vs hv hvs => ?_
        refine vrs2 hvs fun u1 r1 u2 r2 => ?_
        refine c_resub IR hv r1 r2 (by tb_start) hy fun v hv => ?_
        refine st_loc hE (by tb_start) (by tb_start) (by tb_start) hv ?_
        refine x_cons <| x_AssignName <| ev_BinOp <| ev_loc hE (by tb_start) (by tb_start) (by tb_start) <| ev_int <| o_addN (j := 1) fun v hv => ?_
        refine st_loc hE (by tb_start) (by tb_start) (by tb_start) hv ?_
        refine x_cons <| x_If <| t_Not <| t_val <| ev_loc hE (by tb_start) (by tb_start) (by tb_start) <| T1.str (by lia) ?_
        rw [y3, if_neg (by decide)]
        refine x_cons <| x_If <| t_Compare <| ev_loc hE (by tb_start) (by tb_start) (by tb_start) <| ev_str <| o_seq <| T1.bool ?_
        rw [y4, if_neg (by decide)]
        refine x_cons <| x_If <| t_Compare <| ev_Sub <| ev_loc hE (by tb_start) (by tb_start) (by tb_start) <| ev_int <| g_str (c := 120) (by lia) (by lia) y5 <| ev_str <| o_seq <| T1.bool ?_
        rw [show ((⟨#[120]⟩ : Str) == Str.ofString "!") = false from rfl, if_neg (by decide)]
        refine x_cons <| x_If <| t_Compare <| ev_Sub <| ev_loc hE (by tb_start) (by tb_start) (by tb_start) <| ev_int <| g_str (c := 120) (by lia) (by lia) y5 <| ev_Tuple <| vs_cons <| ev_str <| vs_cons <| ev_str <| vs_nil ⟨by show (2 : Nat) ≤ 1000; decide, fun tt => o_inStrs (ys := ["^", "["]) List.mem_cons_self <| T1.bool ?_⟩
        rw [show ((["^", "["] : List Str).any (· == (⟨#[120]⟩ : Str))) = false from rfl, if_neg (by decide)]
        refine x_nil <| x_nil ?_
        refine x_cons <| x_Expr hE <| ev_CallBnd <| ev_loc hE (by tb_start) (by tb_start) (by tb_start) ⟨b, rl, rfl, ev_FStr3 (by decide) <| ev_loc hE (by tb_start) (by tb_start) (by tb_start) ⟨y, rfl, by rw [y6]; decide, xs, _, by tb_start, by tb_start, hll, ?_⟩⟩
        rw [hb]
        exact x_nil <| x_nil <| x_nil <| x_nil <| x_nil <| x_nil <| x_nil <| fin _ (show Wk ((L, PNs [("pat", some (.str pat)), ("STAR", some star), ("QUESTION_MARK", some (.str ".")), ("res", some (.val (.ref rl))), ("add", some (.val (.ref b))), ("i", some (.int ((p + 3 + 1 : Nat) : Int))), ("n", some (.int ((N : Nat) : Int))), ("c", none), ("j", none), ("stuff", none), ("chunks", none), ("k", none), ("chunk", none)]) :: (rl, PList (xs ++ [.str ⟨#[91, 120, t, 93]⟩])) :: (b, PBnd rl) :: (P, PTab lamPos) :: S) _ from by tb_start)
  · obtain rfl : j = segs.length := by lia
    have hp : (catS (segs.take segs.length)).length = N := by rw [List.take_length, hpat]; exact hNN
    rw [hp, List.take_length]
    rw [show decide (N < N) = false from decide_eq_false (Nat.lt_irrefl _), if_neg (by decide)]
    refine x_nil <| x_cons <| x_Assert <| t_Compare <| ev_loc hE (by tb_start) (by tb_start) (by tb_start) <| ev_loc hE (by tb_start) (by tb_start) (by tb_start) <| o_eqN <| T1.bool ⟨by simp, ?_⟩
    exact x_cons <| x_Ret <| ev_loc hE (by tb_start) (by tb_start) (by tb_start) fun v hv => ret_end hv (by tb_start) (h rl)
end
end
section
open PySem PySem.W PyProof.Rows PySem.Calls PySem.Spec
set_option linter.all false
set_option maxRecDepth 100000
set_option maxHeartbeats 1000000

section
variable {prog : Program} {w : World} {base : Heap} {n : Nat} {S : Led} {gl : List (Str × AV)} {bl : List (Str × Value)} {a : Addr}
theorem o_iaddN {i j : Nat} {Q : AV → Led → Prop} (h : Q (.int ((i + j : Nat) : Int)) S) : L2 prog w base n (inplaceOp .Add) (.int (i : Int)) (.int (j : Int)) S Q :=
  o_iadd (by rw [show (i : Int) + (j : Int) = ((i + j : Nat) : Int) by lia]; exact h)
noncomputable def jtText (ps : List Str) : Str := "(?s:" ++ catS ps ++ ")\\Z"
theorem sig_jt : sigOk (fnScope 34) ["inp", "STAR"] ["inp", "STAR", "res", "add", "i", "n", "fixed"] [] ["len"] = true := by rfl
theorem c_jt (F : FnIs base a (fnScope 34) ["inp", "STAR"] (fnBody 34) []) (T : TopIs base gl bl) (hlen : (("len" : Str), Value.builtin "len") ∈ bl) {ps : List Str} (hfew : ps.length ≤ 100) (hch : ∀ y ∈ ps, y.length ≤ 4) {l o : Addr} {v1 v2 : Value} {Q : AV → Led → Prop}
    (h1 : VR (.val (.ref l)) v1) (h2 : VR (.val (.ref o)) v2) (hm : (l, PList (aStrs ps)) ∈ S) (h : Q (.str (jtText ps)) S) : WV prog w base (n + 1) (call (.ref a) [v1, v2]) S Q := by
  refine c_call F (das := []) rfl sig_jt (args := [.val (.ref l), .val (.ref o)]) ⟨v1, _, rfl, h1, v2, [], rfl, h2, rfl⟩ rfl fun env L ads hlen' hE => ?_
  obtain rfl := List.eq_nil_of_length_eq_zero hlen'
  show W prog w base n (execs (fnBody 34) env) ((L, PNs [("inp", some (.val (.ref l))), ("STAR", some (.val (.ref o))), ("res", none), ("add", none), ("i", none), ("n", none), ("fixed", none)]) :: S) (RetS Q)
  refine x_cons <| x_AssignName <| ev_List <| vs_nil ⟨by decide, fun rl v hv => ?_⟩
  refine st_loc hE (by tb_start) (by tb_start) (by tb_start) hv ?_
  refine x_cons <| x_AssignName <| ev_Append <| ev_loc hE (by tb_start) (by tb_start) (by tb_start) ⟨rl, [], rfl, by tb_start, fun b v hv => ?_⟩
  refine st_loc hE (by tb_start) (by tb_start) (by tb_start) hv ?_
  refine x_cons <| x_Pair hE (by tb_start) (by tb_start) (by rfl) (by intro _ _; exact ⟨(by intro q; cases q), (by intro q; cases q)⟩) (by rfl) (by rfl) ?_
  refine vs_cons <| ev_int <| vs_cons <| ev_CallB <| ev_blt hE T (by tb_start) hlen ⟨rfl, vs_cons <| ev_loc hE (by tb_start) (by tb_start) (by tb_start) <| vs_nil fun vs hvs => ?_⟩
  refine vrs1 hvs fun w1 r1 => ?_
  have hl1 : (aStrs ps).length = ps.length := by simp [aStrs]
  refine c_lenList r1 (xs := aStrs ps) (by tb_start) (by lia) <| vs_nil ⟨_, _, rfl, fun t va vb ha hb => ?_⟩
  rw [hl1] at hb ⊢
  refine st_loc hE (by tb_start) (by tb_start) (by tb_start) hb ?_
  refine st_loc hE (by tb_start) (by tb_start) (by tb_start) ha ?_
  refine W.pk (S' := (L, PNs [("inp", some (.val (.ref l))), ("STAR", some (.val (.ref o))), ("res", some (.val (.ref rl))), ("add", some (.val (.ref b))), ("i", some (.int 0)), ("n", some (.int ((ps.length : Nat) : Int))), ("fixed", none)]) :: (rl, PList []) :: (b, PBnd rl) :: S) ?_ (by tb_start)
  refine x_cons <| x_While <| wc_while (fun k S' => ∃ i, i ≤ ps.length ∧ k = ps.length - i ∧ S' = (L, PNs [("inp", some (.val (.ref l))), ("STAR", some (.val (.ref o))), ("res", some (.val (.ref rl))), ("add", some (.val (.ref b))), ("i", some (.int ((i : Nat) : Int))), ("n", some (.int ((ps.length : Nat) : Int))), ("fixed", none)]) :: (rl, PList (aStrs (ps.take (i)))) :: (b, PBnd rl) :: S) ?_ ps.length ⟨0, Nat.zero_le _, rfl, rfl⟩
  rintro k S' ⟨i, hi, rfl, rfl⟩
  by_cases hlt : i < ps.length
  · refine t_AndP (b₁ := true) (b₂ := true) (t_Compare <| ev_loc hE (by tb_start) (by tb_start) (by tb_start) <| ev_loc hE (by tb_start) (by tb_start) (by tb_start) <| o_ltN <| T1.bool ⟨rfl, decide_eq_true hlt⟩) (fun _ => t_Compare <| ev_Sub <| ev_loc hE (by tb_start) (by tb_start) (by tb_start) <| ev_loc hE (by tb_start) (by tb_start) (by tb_start) <| g_list (xs := aStrs ps) (by tb_start) (by lia) (by lia) (strs_at hlt) <| ev_loc hE (by tb_start) (by tb_start) (by tb_start) <| o_isNotSR <| T1.bool ⟨rfl, rfl⟩) ?_
    rw [if_pos (by rfl)]
    have ht : aStrs (ps.take i) ++ [.str (ps.getD i Str.empty)] = aStrs (ps.take (i + 1)) := by
      rw [List.take_add_one, List.getD_eq_getElem?_getD, List.getElem?_eq_getElem hlt, aStrs, aStrs, List.map_append]; rfl
    refine x_cons <| x_Expr hE <| ev_CallBnd <| ev_loc hE (by tb_start) (by tb_start) (by tb_start) ⟨b, rl, rfl, ev_Sub <| ev_loc hE (by tb_start) (by tb_start) (by tb_start) <| ev_loc hE (by tb_start) (by tb_start) (by tb_start) <| g_list (xs := aStrs ps) (by tb_start) (by lia) (by lia) (strs_at hlt) ⟨aStrs (ps.take i), _, by tb_start, by tb_start, by simp [aStrs]; lia, ?_⟩⟩
    rw [ht]
    refine x_cons <| x_AugName <| ld_loc hE (by tb_start) (by tb_start) (by tb_start) <| ev_int <| o_iaddN (j := 1) fun v hv => ?_
    refine st_loc hE (by tb_start) (by tb_start) (by tb_start) hv ?_
    exact x_nil ⟨ps.length - (i + 1), by lia, _, Wk.refl _, i + 1, by lia, rfl, rfl⟩
  · obtain rfl : i = ps.length := by lia
    refine t_AndP (b₁ := false) (b₂ := true) (t_Compare <| ev_loc hE (by tb_start) (by tb_start) (by tb_start) <| ev_loc hE (by tb_start) (by tb_start) (by tb_start) <| o_ltN <| T1.bool ⟨rfl, decide_eq_false hlt⟩) (fun q => absurd q (by decide)) ?_
    rw [if_neg (by decide), List.take_length]
    refine x_nil ?_
    refine x_cons <| x_While <| wc_while (fun k S' => S' = (L, PNs [("inp", some (.val (.ref l))), ("STAR", some (.val (.ref o))), ("res", some (.val (.ref rl))), ("add", some (.val (.ref b))), ("i", some (.int ((ps.length : Nat) : Int))), ("n", some (.int ((ps.length : Nat) : Int))), ("fixed", none)]) :: (rl, PList (aStrs (ps))) :: (b, PBnd rl) :: S) ?_ 0 rfl
    rintro k S' rfl
    refine t_Compare <| ev_loc hE (by tb_start) (by tb_start) (by tb_start) <| ev_loc hE (by tb_start) (by tb_start) (by tb_start) <| o_ltN <| T1.bool ?_
    rw [show decide (ps.length < ps.length) = false from decide_eq_false (Nat.lt_irrefl _), if_neg (by decide)]
    refine x_nil ?_
    refine x_cons <| x_Assert <| t_Compare <| ev_loc hE (by tb_start) (by tb_start) (by tb_start) <| ev_loc hE (by tb_start) (by tb_start) (by tb_start) <| o_eqN <| T1.bool ⟨by simp, ?_⟩
    refine x_cons <| x_AssignName <| ev_Meth1 PySem.F.plainAttrs_str PySem.F.slot_str_join PySem.F.type_str_join <| ev_str ⟨.str, vs_cons <| ev_loc hE (by tb_start) (by tb_start) (by tb_start) <| vs_nil fun v vs hv hvs => ?_⟩
    refine vrs1 hvs fun u1 r1 => ?_
    have hsum := sum_le4 hch
    refine m_joinC (ys := ps) hv r1 (by tb_start) (by lia) fun v hv => ?_
    refine st_loc hE (by tb_start) (by tb_start) (by tb_start) hv ?_
    refine x_cons <| x_Ret <| ev_FStr3 (by decide) <| ev_loc hE (by tb_start) (by tb_start) (by tb_start) ⟨catS ps, rfl, ?_, fun v hv => ret_end hv (by tb_start) h⟩
    rw [catS_len]
    have e1 : (Str.ofString "(?s:").length = 4 := rfl
    have e2 : (Str.ofString ")\\Z").length = 3 := rfl
    lia
theorem sig_trn : sigOk (fnScope 28) ["pat"] ["pat", "STAR", "parts"] [] ["object", "_translate", "_join_translated_parts"] = true := by rfl
theorem trP_len {x : Str} (h : segOk x) : (trP x).length ≤ 4 := by
  rcases h with rfl | ⟨c, _, rfl⟩ | ⟨t, _, rfl⟩
  · decide
  · unfold trP; split
    · decide
    · show 1 ≤ 4; decide
  · rw [trP_four]; show 4 ≤ 4; decide
theorem c_trn {tra jta esc re tb cc P : Addr} (F : FnIs base a (fnScope 28) ["pat"] (fnBody 28) []) (T : TopIs base gl bl) (hob : (("object" : Str), Value.type "object") ∈ bl) (htr : (("_translate" : Str), AV.val (.ref tra)) ∈ gl) (hjt : (("_join_translated_parts" : Str), AV.val (.ref jta)) ∈ gl)
    (FT : FnIs base tra (fnScope 33) ["pat", "STAR", "QUESTION_MARK"] (fnBody 33) []) (FJ : FnIs base jta (fnScope 34) ["inp", "STAR"] (fnBody 34) []) (hlen : (("len" : Str), Value.builtin "len") ∈ bl) (hre : (("_twin_re_1" : Str), AV.val (.ref re)) ∈ gl) (hesc : (("escape" : Str), AV.val (.ref esc)) ∈ gl)
    (X : EscOk prog w base gl bl esc tb) (IR : IsRe base re) (LM : LamOk base cc P) (hcd : ∀ o fd, base.get? tra = some o → o.data = .func fd → fd.code = .ref cc)
    {segs : List Str} (hsg : ∀ x ∈ segs, segOk x) (hfew : segs.length ≤ 100) {v1 : Value} {Q : AV → Led → Prop} (h1 : VR (.str (catS segs)) v1)
    (h : Q (.str (jtText (segs.map trP))) ((P, PTab lamPos) :: S)) : WV prog w base (n + 3) (call (.ref a) [v1]) ((P, PTab lamPos) :: S) Q := by
  refine c_call F (das := []) rfl sig_trn (args := [.str (catS segs)]) ⟨v1, [], rfl, h1, rfl⟩ rfl fun env L ads hlen' hE => ?_
  obtain rfl := List.eq_nil_of_length_eq_zero hlen'
  show W prog w base (n + 2) (execs (fnBody 28) env) ((L, PNs [("pat", some (.str (catS segs))), ("STAR", none), ("parts", none)]) :: (P, PTab lamPos) :: S) (RetS Q)
  refine x_cons <| x_AssignName <| ev_CallT0 <| ev_blt hE T (by tb_start) hob ⟨rfl, c_object fun o v hv => ?_⟩
  refine st_loc hE (by tb_start) (by tb_start) (by tb_start) hv ?_
  refine x_cons <| x_AssignName <| ev_CallDef FT.isDef <| ev_glob hE T (by tb_start) htr ⟨rfl, vs_cons <| ev_loc hE (by tb_start) (by tb_start) (by tb_start) <| vs_cons <| ev_loc hE (by tb_start) (by tb_start) (by tb_start) <| vs_cons <| ev_str <| vs_nil fun vs hvs => ?_⟩
  refine vrs3 hvs fun u1 r1 u2 r2 u3 r3 => ?_
  refine W.pk (S' := (P, PTab lamPos) :: (L, PNs [("pat", some (.str (catS segs))), ("STAR", some (.val (.ref o))), ("parts", none)]) :: S) ?_ (by tb_start)
  refine c_tr FT T hlen hre hesc X IR LM hcd hsg hfew r1 r2 r3 fun l v hv => ?_
  refine st_loc hE (by tb_start) (by tb_start) (by tb_start) hv ?_
  refine x_cons <| x_Ret <| ev_CallDef FJ.isDef <| ev_glob hE T (by tb_start) hjt ⟨rfl, vs_cons <| ev_loc hE (by tb_start) (by tb_start) (by tb_start) <| vs_cons <| ev_loc hE (by tb_start) (by tb_start) (by tb_start) <| vs_nil fun vs hvs => ?_⟩
  refine vrs2 hvs fun u1 r1 u2 r2 => ?_
  refine c_jt (n := n + 1) FJ T hlen (ps := segs.map trP) (by simpa using hfew) (fun y hy => by obtain ⟨x, hx, rfl⟩ := List.mem_map.mp hy; exact trP_len (hsg x hx)) r1 r2 (by tb_start) fun v hv => ?_
  exact ret_end hv (by tb_start) h
end
end
section
open PySem PySem.W PyProof.Rows PySem.Calls PySem.Spec
set_option linter.all false
set_option maxRecDepth 100000
set_option maxHeartbeats 1000000
/-! bits of small numbers -/
theorem bitAndN (a b : Nat) : Builtin.bitAnd (a : Int) (b : Int) = ((a &&& b : Nat) : Int) := rfl
theorem bitOrN (a b : Nat) : Builtin.bitOr (a : Int) (b : Int) = ((a ||| b : Nat) : Int) := by
  have h : ∀ x : Nat, decide ((0 : Int) ≤ Builtin.bitNot (x : Int)) = false := fun x => decide_eq_false (by rw [kbt_not]; lia)
  have h2 : ∀ x : Int, Builtin.bitNot (Builtin.bitNot x) = x := fun x => by rw [kbt_not, kbt_not]; lia
  show Builtin.bitNot (Builtin.bitAnd (Builtin.bitNot a) (Builtin.bitNot b)) = _
  unfold Builtin.bitAnd
  rw [h a, h b]
  show Builtin.bitNot (Builtin.bitNot _) = _
  rw [h2, h2, h2]
  simp
noncomputable def bN (r k : Nat) : Nat := r / 2 ^ k % 2
theorem bN_lt (r k : Nat) : bN r k < 2 := Nat.mod_lt _ (by decide)
theorem bN_01 (r k : Nat) : bN r k = 0 ∨ bN r k = 1 := by have := bN_lt r k; lia
theorem bitAt_N (r k : Nat) : bitAt (r : Int) k = (bN r k : Int) := by
  unfold bitAt bN
  have : ((2 : Int) ^ k) = ((2 ^ k : Nat) : Int) := by push_cast; rfl
  rw [this, Int.fdiv_eq_ediv_of_nonneg _ (Int.natCast_nonneg _), show ((r : Int) / ((2 ^ k : Nat) : Int)) = ((r / 2 ^ k : Nat) : Int) from rfl]
  exact fmodN (r / 2 ^ k) 2
theorem bitN_N (r k : Nat) : bitN (r : Int) k = bN r k := by unfold bitN; rw [bitAt_N]; rfl
/-- a mode: the kind's bit and the rights -/
theorem mode_bit {M r k : Nat} (hM : M = 16384 ∨ M = 32768) (hk : k < 12) : (M + r) &&& 2 ^ k = bN r k * 2 ^ k := by
  rw [kbt_nat]
  have hc : ∃ c, M = 2 ^ k * (2 * c) := by
    rcases hM with rfl | rfl
    · exact ⟨2 ^ (13 - k), by rw [← Nat.pow_succ', ← Nat.pow_add, show k + (13 - k + 1) = 14 by lia]⟩
    · exact ⟨2 ^ (14 - k), by rw [← Nat.pow_succ', ← Nat.pow_add, show k + (14 - k + 1) = 15 by lia]⟩
  obtain ⟨c, rfl⟩ := hc
  have h : (2 ^ k * (2 * c) + r) / 2 ^ k % 2 = r / 2 ^ k % 2 := by
    rw [Nat.mul_add_div (Nat.two_pow_pos k), Nat.mul_add_mod]
  rw [h]; rfl
theorem mode_kind {M r : Nat} (hM : M = 16384 ∨ M = 32768) (hr : r < 4096) : (M + r) &&& 61440 = M := by
  have e : (61440 : Nat) = 2 ^ 12 ||| (2 ^ 13 ||| (2 ^ 14 ||| 2 ^ 15)) := by decide
  rw [e, Nat.and_or_distrib_left, Nat.and_or_distrib_left, Nat.and_or_distrib_left, kbt_nat, kbt_nat, kbt_nat, kbt_nat]
  rcases hM with rfl | rfl
  · rw [show (16384 + r) / 2 ^ 12 % 2 = 0 by lia, show (16384 + r) / 2 ^ 13 % 2 = 0 by lia, show (16384 + r) / 2 ^ 14 % 2 = 1 by lia, show (16384 + r) / 2 ^ 15 % 2 = 0 by lia]; decide
  · rw [show (32768 + r) / 2 ^ 12 % 2 = 0 by lia, show (32768 + r) / 2 ^ 13 % 2 = 0 by lia, show (32768 + r) / 2 ^ 14 % 2 = 0 by lia, show (32768 + r) / 2 ^ 15 % 2 = 1 by lia]; decide
theorem mode_rights {M r : Nat} (hM : M = 16384 ∨ M = 32768) (hr : r < 4096) : (M + r) &&& 4095 = r := by
  rw [show (4095 : Nat) = 2 ^ 12 - 1 from rfl, Nat.and_two_pow_sub_one_eq_mod]
  rcases hM with rfl | rfl <;> lia
/-! the signs: row by row -/
noncomputable def fChP (idx : Nat) (mode : Int) : List (Int × Str) → Str
  | [] => if idx = 0 then "?" else "-"
  | p :: r => if fTest idx mode p.1 = true then p.2 else fChP idx mode r
theorem fCh_P (idx : Nat) (mode : Int) : ∀ ps : List (Addr × Int × Str), fCh idx mode ps = fChP idx mode (ps.map (·.2))
  | [] => rfl
  | p :: r => by
    rw [List.map_cons]
    unfold fCh fChP
    rw [fCh_P idx mode r]
noncomputable def rowsP : List (List (Int × Str)) := [[(40960, "l"), (49152, "s"), (32768, "-"), (24576, "b"), (16384, "d"), (8192, "c"), (4096, "p")], [(256, "r")], [(128, "w")], [(2112, "s"), (2048, "S"), (64, "x")], [(32, "r")], [(16, "w")], [(1032, "s"), (1024, "S"), (8, "x")], [(4, "r")], [(2, "w")], [(513, "t"), (512, "T"), (1, "x")]]
theorem fTest_one {M r k q : Nat} (hM : M = 16384 ∨ M = 32768) (hk : k < 12) (hq : q ≠ 0) (c : Nat) (hc : c = 2 ^ k) : fTest q ((M + r : Nat) : Int) (c : Int) = (bN r k == 1) := by
  unfold fTest
  rw [if_neg hq, bitAndN, hc, mode_bit hM hk]
  have hp : 0 < 2 ^ k := Nat.two_pow_pos k
  rcases bN_01 r k with h | h <;> rw [h]
  · rw [Nat.zero_mul, Bool.eq_iff_iff]
    simp only [beq_iff_eq]
    constructor
    · intro e; have : (0 : Nat) = 2 ^ k := by exact_mod_cast e
      lia
    · intro e; cases e
  · rw [Nat.one_mul]; simp
theorem fTest_two {M r k j q : Nat} (hM : M = 16384 ∨ M = 32768) (hk : k < 12) (hj : j < 12) (hq : q ≠ 0) (c : Nat) (hc : c = 2 ^ k ||| 2 ^ j) (h0 : (0 ||| 0) ≠ c) (h1 : (2 ^ k ||| 0) ≠ c) (h2 : (0 ||| 2 ^ j) ≠ c) : fTest q ((M + r : Nat) : Int) (c : Int) = (bN r k == 1 && bN r j == 1) := by
  unfold fTest
  rw [if_neg hq, bitAndN, hc, Nat.and_or_distrib_left, mode_bit hM hk, mode_bit hM hj]
  rw [hc] at h0 h1 h2
  have cast : ∀ a b : Nat, ((a : Int) == (b : Int)) = (a == b) := fun a b => by rw [Bool.eq_iff_iff]; simp only [beq_iff_eq]; exact Int.natCast_inj
  rw [cast]
  rcases bN_01 r k with h | h <;> rcases bN_01 r j with h' | h' <;> rw [h, h'] <;> simp only [Nat.zero_mul, Nat.one_mul]
  · simpa using h0
  · simpa using h2
  · simpa using h1
  · simp
theorem row_sign {M r q : Nat} (hM : M = 16384 ∨ M = 32768) (hq : q < 9) : fChP (q + 1) ((M + r : Nat) : Int) (rowsP.getD (q + 1) []) = lsCh (r : Int) q := by
  have e : q = 0 ∨ q = 1 ∨ q = 2 ∨ q = 3 ∨ q = 4 ∨ q = 5 ∨ q = 6 ∨ q = 7 ∨ q = 8 := by lia
  unfold lsCh
  rw [bitAt_N, bitN_N]
  rcases e with rfl | rfl | rfl | rfl | rfl | rfl | rfl | rfl | rfl
  · show (if fTest 1 ((M + r : Nat) : Int) ((256 : Nat) : Int) = true then (Str.ofString "r") else "-") = _
    rw [fTest_one hM (k := 8) (by decide) (by decide) 256 (by decide)]
    simp only [Nat.reduceSub]
    rcases bN_01 r 8 with h | h <;> rw [h] <;> rfl
  · show (if fTest 2 ((M + r : Nat) : Int) ((128 : Nat) : Int) = true then (Str.ofString "w") else "-") = _
    rw [fTest_one hM (k := 7) (by decide) (by decide) 128 (by decide)]
    simp only [Nat.reduceSub]
    rcases bN_01 r 7 with h | h <;> rw [h] <;> rfl
  · show (if fTest 3 ((M + r : Nat) : Int) ((2112 : Nat) : Int) = true then (Str.ofString "s") else if fTest 3 ((M + r : Nat) : Int) ((2048 : Nat) : Int) = true then (Str.ofString "S") else if fTest 3 ((M + r : Nat) : Int) ((64 : Nat) : Int) = true then (Str.ofString "x") else "-") = _
    rw [fTest_two hM (k := 6) (j := 11) (by decide) (by decide) (by decide) 2112 (by decide) (by decide) (by decide) (by decide), fTest_one hM (k := 11) (by decide) (by decide) 2048 (by decide), fTest_one hM (k := 6) (by decide) (by decide) 64 (by decide)]
    simp only [Nat.reduceSub, Nat.reduceDiv]
    rcases bN_01 r 6 with h | h <;> rcases bN_01 r 11 with h' | h' <;> rw [h, h'] <;> rfl
  · show (if fTest 4 ((M + r : Nat) : Int) ((32 : Nat) : Int) = true then (Str.ofString "r") else "-") = _
    rw [fTest_one hM (k := 5) (by decide) (by decide) 32 (by decide)]
    simp only [Nat.reduceSub]
    rcases bN_01 r 5 with h | h <;> rw [h] <;> rfl
  · show (if fTest 5 ((M + r : Nat) : Int) ((16 : Nat) : Int) = true then (Str.ofString "w") else "-") = _
    rw [fTest_one hM (k := 4) (by decide) (by decide) 16 (by decide)]
    simp only [Nat.reduceSub]
    rcases bN_01 r 4 with h | h <;> rw [h] <;> rfl
  · show (if fTest 6 ((M + r : Nat) : Int) ((1032 : Nat) : Int) = true then (Str.ofString "s") else if fTest 6 ((M + r : Nat) : Int) ((1024 : Nat) : Int) = true then (Str.ofString "S") else if fTest 6 ((M + r : Nat) : Int) ((8 : Nat) : Int) = true then (Str.ofString "x") else "-") = _
    rw [fTest_two hM (k := 3) (j := 10) (by decide) (by decide) (by decide) 1032 (by decide) (by decide) (by decide) (by decide), fTest_one hM (k := 10) (by decide) (by decide) 1024 (by decide), fTest_one hM (k := 3) (by decide) (by decide) 8 (by decide)]
    simp only [Nat.reduceSub, Nat.reduceDiv]
    rcases bN_01 r 3 with h | h <;> rcases bN_01 r 10 with h' | h' <;> rw [h, h'] <;> rfl
  · show (if fTest 7 ((M + r : Nat) : Int) ((4 : Nat) : Int) = true then (Str.ofString "r") else "-") = _
    rw [fTest_one hM (k := 2) (by decide) (by decide) 4 (by decide)]
    simp only [Nat.reduceSub]
    rcases bN_01 r 2 with h | h <;> rw [h] <;> rfl
  · show (if fTest 8 ((M + r : Nat) : Int) ((2 : Nat) : Int) = true then (Str.ofString "w") else "-") = _
    rw [fTest_one hM (k := 1) (by decide) (by decide) 2 (by decide)]
    simp only [Nat.reduceSub]
    rcases bN_01 r 1 with h | h <;> rw [h] <;> rfl
  · show (if fTest 9 ((M + r : Nat) : Int) ((513 : Nat) : Int) = true then (Str.ofString "t") else if fTest 9 ((M + r : Nat) : Int) ((512 : Nat) : Int) = true then (Str.ofString "T") else if fTest 9 ((M + r : Nat) : Int) ((1 : Nat) : Int) = true then (Str.ofString "x") else "-") = _
    rw [fTest_two hM (k := 0) (j := 9) (by decide) (by decide) (by decide) 513 (by decide) (by decide) (by decide) (by decide), fTest_one hM (k := 9) (by decide) (by decide) 512 (by decide), fTest_one hM (k := 0) (by decide) (by decide) 1 (by decide)]
    simp only [Nat.reduceSub, Nat.reduceDiv]
    rcases bN_01 r 0 with h | h <;> rcases bN_01 r 9 with h' | h' <;> rw [h, h'] <;> rfl
theorem row_kind {M r : Nat} (hM : M = 16384 ∨ M = 32768) (hr : r < 4096) : fChP 0 ((M + r : Nat) : Int) (rowsP.getD 0 []) = if M = 16384 then "d" else "-" := by
  have h : ∀ c : Int, fTest 0 ((M + r : Nat) : Int) c = ((M : Int) == c) := fun c => by
    unfold fTest
    rw [if_pos rfl, show (61440 : Int) = ((61440 : Nat) : Int) from rfl, bitAndN, mode_kind hM hr]
  show fChP 0 ((M + r : Nat) : Int) [(40960, "l"), (49152, "s"), (32768, "-"), (24576, "b"), (16384, "d"), (8192, "c"), (4096, "p")] = _
  simp only [fChP, h]
  rcases hM with rfl | rfl <;> rfl
end
section
open PySem PySem.W PyProof.Rows PySem.Calls PySem.Spec
set_option linter.all false
set_option maxRecDepth 100000
set_option maxHeartbeats 1000000
/-! the law's signs as a list of pieces -/
noncomputable def lsHead (b : Bool) : Str := if b then "d" else "-"
theorem lsText_cat (b : Bool) (r : Int) (i : Nat) : lsText b r i = catS (lsHead b :: (List.range i).map (lsCh r)) := by
  induction i with
  | zero => show (if b then Str.ofString "d" else Str.ofString "-") = lsHead b ++ Str.empty; rw [Str.append_emptyR]; cases b <;> rfl
  | succ i ih =>
    rw [lsText_succ, ih, List.range_succ, List.map_append, ← List.cons_append, catS_append]
    show _ = _ ++ (lsCh r i ++ Str.empty)
    rw [Str.append_emptyR]
theorem signs_eq {rows : List FRow} (hrows : rows.map (fun r => r.ps.map (·.2)) = rowsP) {M r : Nat} (hM : M = 16384 ∨ M = 32768) (hr : r < 4096) :
    Txt.join Str.empty (fmList rows ((M + r : Nat) : Int) rows.length) = lsText (M == 16384) (r : Int) 9 := by
  have hlen : rows.length = 10 := by have := congrArg List.length hrows; simpa [rowsP] using this
  have hch : ∀ i, i < 10 → fmCh rows ((M + r : Nat) : Int) i = fChP i ((M + r : Nat) : Int) (rowsP.getD i []) := fun i hi => by
    unfold fmCh
    rw [fCh_P, ← hrows, List.getD_eq_getElem?_getD, List.getD_eq_getElem?_getD, List.getElem?_map, List.getElem?_eq_getElem (by lia)]
    rfl
  rw [join_cat, lsText_cat, hlen]
  congr 1
  unfold fmList
  rw [show (10 : Nat) = 9 + 1 from rfl, List.range_succ_eq_map, List.map_cons, List.map_map]
  congr 1
  · rw [hch 0 (by decide), row_kind hM hr]
    rcases hM with rfl | rfl <;> rfl
  · refine List.map_congr_left fun q hq => ?_
    have hq := List.mem_range.mp hq
    exact (hch (q + 1) (by lia)).trans (row_sign hM hq)
/-! a number's parts -/
noncomputable def evenB (x : Int) : Bool := x.fmod 2 == 0
noncomputable def rOf (x : Int) : Nat := ((x.fdiv 2).fmod 4096).toNat
noncomputable def MOf (x : Int) : Nat := if evenB x then 16384 else 32768
theorem fmodPos (x : Int) (m : Nat) (hm : 0 < m) : 0 ≤ x.fmod (m : Int) ∧ x.fmod (m : Int) < (m : Int) := by
  rw [Int.fmod_eq_emod_of_nonneg _ (by lia)]
  exact ⟨Int.emod_nonneg _ (by lia), Int.emod_lt_of_pos _ (by lia)⟩
theorem rOf_lt (x : Int) : rOf x < 4096 := by
  have : 0 ≤ (x.fdiv 2).fmod 4096 ∧ (x.fdiv 2).fmod 4096 < 4096 := fmodPos (x.fdiv 2) 4096 (by decide)
  unfold rOf; lia
theorem rOf_eq (x : Int) : (x.fdiv 2).fmod 4096 = (rOf x : Int) := by
  have : 0 ≤ (x.fdiv 2).fmod 4096 ∧ (x.fdiv 2).fmod 4096 < 4096 := fmodPos (x.fdiv 2) 4096 (by decide)
  unfold rOf; lia
theorem MOf_or (x : Int) : MOf x = 16384 ∨ MOf x = 32768 := by unfold MOf; split <;> simp
theorem MOf_b (x : Int) : (MOf x == 16384) = evenB x := by unfold MOf; cases evenB x <;> rfl
noncomputable def modeOf (x : Int) : Int := ((MOf x + rOf x : Nat) : Int)
noncomputable def signOf (x : Int) : Str := lsText (evenB x) (rOf x : Int) 9
theorem mode_eq (x : Int) : (if (x.fmod 2 == 0) = true then (16384 : Int) else 32768) + (x.fdiv 2).fmod 4096 = modeOf x := by
  rw [rOf_eq]
  unfold modeOf MOf evenB
  split <;> rw [Int.natCast_add] <;> rfl
theorem sign_eq {rows : List FRow} (hrows : rows.map (fun r => r.ps.map (·.2)) = rowsP) (x : Int) : Txt.join Str.empty (fmList rows (modeOf x) rows.length) = signOf x := by
  unfold modeOf signOf
  rw [signs_eq hrows (MOf_or x) (rOf_lt x), MOf_b]
theorem isdir_eq (x : Int) : (Builtin.bitAnd (modeOf x) 61440 == 16384) = evenB x := by
  unfold modeOf
  rw [show (61440 : Int) = ((61440 : Nat) : Int) from rfl, bitAndN, mode_kind (MOf_or x) (rOf_lt x), ← MOf_b, Bool.eq_iff_iff]
  simp only [beq_iff_eq]
  constructor
  · intro h; exact_mod_cast h
  · intro h; rw [h]; rfl
theorem rights_eq (x : Int) : Builtin.bitAnd (modeOf x) 4095 = (rOf x : Int) := by
  unfold modeOf
  rw [show (4095 : Int) = ((4095 : Nat) : Int) from rfl, bitAndN, mode_rights (MOf_or x) (rOf_lt x)]
/-! a sign at a place -/
theorem catS_ones {ys : List Str} (h : ∀ y ∈ ys, y.length = 1) : (catS ys).length = ys.length := by rw [catS_len, sum_ones h]
theorem one_is {y : Str} (h : y.length = 1) : y = ⟨#[y.cps.getD 0 0]⟩ := by
  obtain ⟨⟨l⟩⟩ := y
  match l, h with
  | [c], _ => rfl
theorem chrAt_cat {ys : List Str} (h : ∀ y ∈ ys, y.length = 1) {i : Nat} {y : Str} (hy : ys[i]? = some y) : chrAt (catS ys) i = y := by
  obtain ⟨hi, rfl⟩ := List.getElem?_eq_some_iff.mp hy
  have hsp : ys = ys.take i ++ ys[i] :: ys.drop (i + 1) := by rw [List.getElem_cons_drop]; exact (List.take_append_drop i ys).symm
  have h1 : ys[i].length = 1 := h _ (List.getElem_mem _)
  have hA : (catS (ys.take i)).length = i := by rw [catS_ones fun y hy => h y (List.mem_of_mem_take hy), List.length_take]; lia
  have := cat_at (A := ys.take i) (x := ys[i]) (B := ys.drop (i + 1)) (m := 0) (by lia)
  rw [← hsp, hA, Nat.add_zero] at this
  conv => rhs; rw [one_is h1]
  unfold chrAt
  congr 1
  rw [Array.getD_eq_getD_getElem?, Array.getD_eq_getD_getElem?, this]
theorem sign_pieces_len (b : Bool) (r : Int) : ∀ y ∈ lsHead b :: (List.range 9).map (lsCh r), y.length = 1 := fun y hy => by
  rcases List.mem_cons.mp hy with rfl | hy
  · cases b <;> rfl
  · obtain ⟨q, _, rfl⟩ := List.mem_map.mp hy; exact lsCh_len r q
theorem sign_head (b : Bool) (r : Int) : chrAt (lsText b r 9) 0 = lsHead b := by rw [lsText_cat]; exact chrAt_cat (sign_pieces_len b r) rfl
theorem sign_at (b : Bool) (r : Int) {q : Nat} (hq : q < 9) : chrAt (lsText b r 9) (q + 1) = lsCh r q := by
  rw [lsText_cat]
  refine chrAt_cat (sign_pieces_len b r) ?_
  rw [List.getElem?_cons_succ, List.getElem?_map, List.getElem?_range hq]; rfl
/-! replace: one sign for another -/
theorem replace_map (x : Str) (c d : Nat) : (Txt.replace x ⟨#[c]⟩ ⟨#[d]⟩).cps.toList = x.cps.toList.map (fun k => if k = c then d else k) := by
  have free : ∀ l : List Nat, c ∉ l → l.map (fun k => if k = c then d else k) = l := fun l h => by
    conv => rhs; rw [← List.map_id l]
    refine List.map_congr_left fun k hk => ?_
    have hne : k ≠ c := fun e => h (by rw [← e]; exact hk)
    simp [hne]
  have key : ∀ parts : List Str, (∀ p ∈ parts, c ∉ p.cps.toList) → (PySem.Str.join ⟨#[c]⟩ parts).cps.toList.map (fun k => if k = c then d else k) = (PySem.Str.join ⟨#[d]⟩ parts).cps.toList := by
    intro parts
    induction parts with
    | nil => intro _; rfl
    | cons p r ih =>
      intro h
      cases r with
      | nil => exact free _ (h p (List.mem_singleton.mpr rfl))
      | cons q r =>
        have ih := ih fun a ha => h a (List.mem_cons_of_mem _ ha)
        show (p ++ ⟨#[c]⟩ ++ PySem.Str.join ⟨#[c]⟩ (q :: r)).cps.toList.map _ = (p ++ ⟨#[d]⟩ ++ PySem.Str.join ⟨#[d]⟩ (q :: r)).cps.toList
        simp only [Str.cps_append, Array.toList_append, List.map_append]
        rw [ih, free _ (h p (List.mem_cons_self ..))]
        simp
  rw [PySem.StrLaws.replace_one, ← key _ (PySem.StrLaws.split_free x c), PySem.StrLaws.join_split]
theorem Str.ext_toList {a b : Str} (h : a.cps.toList = b.cps.toList) : a = b := by
  cases a; cases b; congr 1; exact Array.toList_inj.mp h
theorem replace_pieces {segs : List Str} (h : ∀ x ∈ segs, segOk x) : Txt.replace (catS segs) "?" "." = catS (segs.map trP) := by
  refine Str.ext_toList ((replace_map (catS segs) 63 46).trans ?_)
  induction segs with
  | nil => rfl
  | cons x r ih =>
    show (x ++ catS r).cps.toList.map _ = (trP x ++ catS (r.map trP)).cps.toList
    simp only [Str.cps_append, Array.toList_append, List.map_append]
    rw [ih fun y hy => h y (.tail _ hy)]
    congr 1
    rcases h x (.head _) with rfl | ⟨c, hc, rfl⟩ | ⟨t, ht, rfl⟩
    · rfl
    · rw [trP_one c (by rcases hc with rfl | rfl | rfl <;> decide)]
      rcases hc with rfl | rfl | rfl <;> rfl
    · rw [trP_four]
      rcases ht with rfl | rfl <;> rfl
end
section
open PySem PySem.W PyProof.Rows PySem.Calls PySem.Spec
set_option linter.all false
set_option maxRecDepth 100000
set_option maxHeartbeats 1000000
/-! bits, by Nat.testBit -/
theorem bN_test (r k : Nat) : (bN r k == 1) = r.testBit k := by
  rw [Nat.testBit_eq_decide_div_mod_eq]
  unfold bN
  rw [Bool.eq_iff_iff]; simp
/-- all the wanted rights are there -/
noncomputable def allR (wn r : Nat) : Bool := (List.range 9).all fun q => !(wn.testBit (8 - q)) || r.testBit (8 - q)
theorem allR_iff (wn r : Nat) : allR wn r = true ↔ ∀ k, k < 9 → wn.testBit k = true → r.testBit k = true := by
  unfold allR
  rw [List.all_eq_true]
  constructor
  · intro h k hk hw
    have := h (8 - k) (List.mem_range.mpr (by lia))
    rw [show 8 - (8 - k) = k by lia, hw] at this
    simpa using this
  · intro h q hq
    have hq := List.mem_range.mp hq
    cases hw : wn.testBit (8 - q) with
    | false => rfl
    | true => rw [h (8 - q) (by lia) hw]; rfl
theorem and_all {wn r : Nat} (hw : wn < 512) : ((((r &&& wn : Nat) : Int)) == (wn : Int)) = allR wn r := by
  rw [Bool.eq_iff_iff, allR_iff, beq_iff_eq, Int.natCast_inj]
  constructor
  · intro h k hk hb
    have := congrArg (fun x => x.testBit k) h
    simp only [Nat.testBit_and, hb, Bool.and_true] at this
    exact this
  · intro h
    refine Nat.eq_of_testBit_eq fun i => ?_
    rw [Nat.testBit_and]
    by_cases hi : i < 9
    · cases hb : wn.testBit i with
      | false => simp
      | true => rw [h i hi hb]; rfl
    · have : wn.testBit i = false := Nat.testBit_lt_two_pow (Nat.lt_of_lt_of_le hw (by have := Nat.pow_le_pow_right (n := 2) (by decide) (show 9 ≤ i by lia); simpa using this))
      rw [this]; simp
theorem more_all {wn r b : Nat} (hb : b < 9) : allR (wn ||| 2 ^ b) r = (allR wn r && r.testBit b) := by
  rw [Bool.eq_iff_iff, Bool.and_eq_true, allR_iff, allR_iff]
  constructor
  · intro h
    refine ⟨fun k hk hw => h k hk (by rw [Nat.testBit_or, hw]; rfl), h b hb ?_⟩
    rw [Nat.testBit_or, Nat.testBit_two_pow_self]; simp
  · rintro ⟨h1, h2⟩ k hk hw
    rw [Nat.testBit_or, Bool.or_eq_true, Nat.testBit_two_pow] at hw
    rcases hw with hw | hw
    · exact h1 k hk hw
    · have : b = k := by simpa using hw
      rw [← this]; exact h2
/-! fitting -/
theorem lpParts_seg (folder : Bool) (wn : Nat) : ∀ x ∈ lpParts folder (wn : Int), segOk x := fun x hx => by
  rcases List.mem_cons.mp hx with rfl | hx
  · cases folder
    · exact .inl rfl
    · exact .inr (.inl ⟨100, .inl rfl, rfl⟩)
  · obtain ⟨q, hq, rfl⟩ := List.mem_map.mp hx
    have hq := List.mem_range.mp hq
    have e : q = 0 ∨ q = 1 ∨ q = 2 ∨ q = 3 ∨ q = 4 ∨ q = 5 ∨ q = 6 ∨ q = 7 ∨ q = 8 := by lia
    unfold lpPiece
    split
    · rcases e with rfl | rfl | rfl | rfl | rfl | rfl | rfl | rfl | rfl
      · exact .inr (.inl ⟨114, .inr (.inl rfl), rfl⟩)
      · exact .inr (.inl ⟨119, .inr (.inr rfl), rfl⟩)
      · exact .inr (.inr ⟨115, .inl rfl, rfl⟩)
      · exact .inr (.inl ⟨114, .inr (.inl rfl), rfl⟩)
      · exact .inr (.inl ⟨119, .inr (.inr rfl), rfl⟩)
      · exact .inr (.inr ⟨115, .inl rfl, rfl⟩)
      · exact .inr (.inl ⟨114, .inr (.inl rfl), rfl⟩)
      · exact .inr (.inl ⟨119, .inr (.inr rfl), rfl⟩)
      · exact .inr (.inr ⟨116, .inr rfl, rfl⟩)
    · exact .inl rfl
noncomputable def piecesOf (folder : Bool) (wn : Nat) : List Str := (lpParts folder (wn : Int)).map trP
theorem pieces_len (folder : Bool) (wn : Nat) : (piecesOf folder wn).length = 10 := by simp [piecesOf, lpParts]
theorem pieces_head (folder : Bool) (wn : Nat) : (piecesOf folder wn).getD 0 Str.empty = if folder then "d" else "." := by cases folder <;> rfl
theorem pieces_at (folder : Bool) (wn : Nat) {q : Nat} (hq : q < 9) : (piecesOf folder wn).getD (q + 1) Str.empty = trP (lpPiece (wn : Int) q) := by
  unfold piecesOf lpParts
  rw [List.map_cons, List.getD_eq_getElem?_getD, List.getElem?_cons_succ, List.map_map, List.getElem?_map, List.getElem?_range hq]; rfl
theorem bad_head (folder b : Bool) (wn r : Nat) : badAt (piecesOf folder wn) (lsText b (r : Int) 9) 0 = (folder && !b) := by
  unfold badAt
  rw [pieces_head, sign_head]
  cases folder <;> cases b <;> decide +kernel
theorem bad_at (folder b : Bool) (wn r : Nat) {q : Nat} (hq : q < 9) : badAt (piecesOf folder wn) (lsText b (r : Int) 9) (q + 1) = !(!(wn.testBit (8 - q)) || r.testBit (8 - q)) := by
  unfold badAt
  rw [pieces_at folder wn hq, sign_at b _ hq, ← bN_test, ← bN_test]
  unfold lpPiece lsCh
  rw [bitAt_N, bitAt_N, bitN_N]
  have e : q = 0 ∨ q = 1 ∨ q = 2 ∨ q = 3 ∨ q = 4 ∨ q = 5 ∨ q = 6 ∨ q = 7 ∨ q = 8 := by lia
  have cast : ∀ z x y : Nat, (z = 0 ∨ z = 1) → (x = 0 ∨ x = 1) → (y = 0 ∨ y = 1) →
      ((trP (if (((z : Nat) : Int) == 1) = true then (if q % 3 < 2 then chrAt "rw" (q % 3) else (["[xs]", "[xs]", "[xt]"] : List Str).getD (q / 3) Str.empty) else "?") != ".") &&
        !inS (if (q % 3 == 2 && (((y : Nat) : Int) == 1)) = true then chrAt ((["Ss", "Ss", "Tt"] : List Str).getD (q / 3) Str.empty) x else chrAt "-rwx" ((q % 3 + 1) * x)) (trP (if (((z : Nat) : Int) == 1) = true then (if q % 3 < 2 then chrAt "rw" (q % 3) else (["[xs]", "[xs]", "[xt]"] : List Str).getD (q / 3) Str.empty) else "?"))) = !(!(z == 1) || x == 1) := by
    rintro z x y (rfl | rfl) (rfl | rfl) (rfl | rfl) <;> rcases e with rfl | rfl | rfl | rfl | rfl | rfl | rfl | rfl | rfl <;> decide +kernel
  exact cast _ _ _ (bN_01 wn _) (bN_01 r _) (bN_01 r _)
theorem fit_eq (folder b : Bool) (wn r : Nat) : fitB (piecesOf folder wn) (lsText b (r : Int) 9) = (allR wn r && (!folder || b)) := by
  have h : fitB (piecesOf folder wn) (lsText b (r : Int) 9) = (List.range 10).all fun k => !badAt (piecesOf folder wn) (lsText b (r : Int) 9) k := by
    unfold fitB
    rw [Bool.eq_iff_iff, List.isEmpty_iff, List.filter_eq_nil_iff, List.all_eq_true]
    constructor
    · intro h k hk; have := h k hk; simpa using this
    · intro h k hk; have := h k hk; simpa using this
  rw [h, show (10 : Nat) = 9 + 1 from rfl, List.range_succ_eq_map, List.all_cons, bad_head, List.all_map]
  have h2 : ((List.range 9).all ((fun k => !badAt (piecesOf folder wn) (lsText b (r : Int) 9) k) ∘ Nat.succ)) = allR wn r := by
    unfold allR
    rw [Bool.eq_iff_iff, List.all_eq_true, List.all_eq_true]
    constructor
    · intro h q hq; have := h q hq; rw [Function.comp, bad_at folder b wn r (List.mem_range.mp hq)] at this; simpa using this
    · intro h q hq; rw [Function.comp, bad_at folder b wn r (List.mem_range.mp hq)]; have := h q hq; simpa using this
  rw [h2]
  cases folder <;> cases b <;> cases allR wn r <;> rfl
/-! counting -/
theorem cnt_N (r : Nat) : cnt (r : Int) = (((List.range 9).map fun k => bN r k).sum : Nat) := by
  unfold cnt
  rw [show ((List.range 9).map fun k => bitAt (r : Int) k) = ((List.range 9).map fun k => bN r k).map (fun (n : Nat) => (n : Int)) by rw [List.map_map]; exact List.map_congr_left fun k _ => bitAt_N r k]
  generalize (List.range 9).map (fun k => bN r k) = l
  induction l with
  | nil => rfl
  | cons x t ih => simp only [List.map_cons, List.sum_cons, ih]; push_cast; rfl
theorem in_rwxst {r q : Nat} (hq : q < 9) : inS (lsCh (r : Int) q) "rwxst" = (bN r (8 - q) == 1) := by
  unfold lsCh
  rw [bitAt_N, bitN_N]
  have e : q = 0 ∨ q = 1 ∨ q = 2 ∨ q = 3 ∨ q = 4 ∨ q = 5 ∨ q = 6 ∨ q = 7 ∨ q = 8 := by lia
  have cast : ∀ x y : Nat, (x = 0 ∨ x = 1) → (y = 0 ∨ y = 1) →
      inS (if (q % 3 == 2 && (((y : Nat) : Int) == 1)) = true then chrAt ((["Ss", "Ss", "Tt"] : List Str).getD (q / 3) Str.empty) x else chrAt "-rwx" ((q % 3 + 1) * x)) "rwxst" = (x == 1) := by
    rintro x y (rfl | rfl) (rfl | rfl) <;> rcases e with rfl | rfl | rfl | rfl | rfl | rfl | rfl | rfl | rfl <;> decide +kernel
  exact cast _ _ (bN_01 r _) (bN_01 r _)
theorem filt_sum (g : Nat → Nat) (hg : ∀ k, g k = 0 ∨ g k = 1) : ∀ l : List Nat, (l.filter fun q => g q == 1).length = (l.map g).sum
  | [] => rfl
  | q :: l => by
    rw [List.map_cons, List.sum_cons, ← filt_sum g hg l]
    rcases hg q with h | h
    · rw [List.filter_cons_of_neg (by rw [h]; decide), h, Nat.zero_add]
    · rw [List.filter_cons_of_pos (by rw [h]; decide), h, List.length_cons, Nat.add_comm]
theorem count_eq (r : Nat) : ((((List.range 9).map (lsCh (r : Int))).filter fun y => inS y "rwxst").length : Int) = cnt (r : Int) := by
  rw [cnt_N, List.filter_map, List.length_map]
  have h : (List.range 9).filter ((fun y => inS y "rwxst") ∘ lsCh (r : Int)) = (List.range 9).filter fun q => bN r (8 - q) == 1 :=
    List.filter_congr fun q hq => in_rwxst (List.mem_range.mp hq)
  rw [h, filt_sum (fun q => bN r (8 - q)) (fun q => bN_01 r _)]
  have e : (List.range 9).map (fun q => bN r (8 - q)) = ((List.range 9).map (bN r)).reverse := rfl
  rw [e, List.sum_reverse]
end
section
open PySem PySem.W PyProof.Rows PySem.Calls PySem.Spec
set_option linter.all false
set_option maxRecDepth 100000
set_option maxHeartbeats 1000000
/-! taking all off a heap -/
section
variable {α : Type} {r : α → Int} {d : α}
/-- what heappop leaves -/
noncomputable def popRest (r : α → Int) (d : α) (zs : List α) : List α := match zs.dropLast with
  | [] => []
  | _ :: t => suF (ltR r) (zs.getLastD d) (zs.getLastD d :: t) 0
theorem popRest_snoc (ys : List α) (x : α) : popRest r d (ys ++ [x]) = match ys with | [] => [] | _ :: t => suF (ltR r) x (x :: t) 0 := by
  unfold popRest
  rw [List.dropLast_concat]
  cases ys with
  | nil => rfl
  | cons y t =>
    have : ((y :: t) ++ [x]).getLastD d = x := by
      rw [List.getLastD_eq_getLast?, List.getLast?_append]; rfl
    rw [this]
theorem gR_cons (y : α) (t : List α) (i : Nat) : gR r d (y :: t) (i + 1) = gR r d t i := by unfold gR; simp
theorem pop_step {ys : List α} {x : α} (h : HeapFrom r d 0 (ys ++ [x])) : HeapFrom r d 0 (popRest r d (ys ++ [x])) ∧ ((ys ++ [x]).headD d :: popRest r d (ys ++ [x])).Perm (ys ++ [x]) ∧ ∀ z ∈ popRest r d (ys ++ [x]), r ((ys ++ [x]).headD d) ≤ r z := by
  rw [popRest_snoc]
  cases ys with
  | nil => exact ⟨fun i h1 h2 => by simp at h2, .refl _, fun z hz => nomatch hz⟩
  | cons y t =>
    have hl : (x :: t).length = t.length + 1 := rfl
    have hL : ((y :: t) ++ [x]).length = t.length + 2 := by simp
    have same : ∀ i, 0 < i → i < t.length + 1 → gR r d (x :: t) i = gR r d ((y :: t) ++ [x]) i := fun i h0 hi => by
      obtain ⟨j, rfl⟩ : ∃ j, i = j + 1 := ⟨i - 1, by lia⟩
      show gR r d (x :: t) (j + 1) = gR r d (y :: (t ++ [x])) (j + 1)
      rw [gR_cons, gR_cons]
      unfold gR
      rw [List.getD_eq_getElem?_getD, List.getD_eq_getElem?_getD, List.getElem?_append_left (by lia)]
    have h1 : HeapFrom r d (0 + 1) (x :: t) := fun i h0 hi hp => by
      have hi' : i < t.length + 1 := hi
      rw [same i h0 hi', same ((i - 1) / 2) (by lia) (by lia)]
      exact h i h0 (by lia) (Nat.zero_le _)
    have pm : (suF (ltR r) x (x :: t) 0).Perm (x :: t) := suF_perm (by simp)
    have perm : (y :: suF (ltR r) x (x :: t) 0).Perm ((y :: t) ++ [x]) := by
      refine (pm.cons y).trans ?_
      exact (List.Perm.cons y (List.perm_append_singleton x t).symm)
    refine ⟨suF_heap (by simp) h1, perm, fun z hz => ?_⟩
    have hz2 : z ∈ (y :: t) ++ [x] := perm.subset (.tail _ hz)
    obtain ⟨i, hi, rfl⟩ := List.mem_iff_getElem.mp hz2
    have := heap_min h i hi
    unfold gR at this
    rw [List.getD_eq_getElem?_getD, List.getD_eq_getElem?_getD, List.getElem?_eq_getElem hi] at this
    exact this
/-- the first n that come off -/
noncomputable def popsF (r : α → Int) (d : α) : Nat → List α → List α
  | 0, _ => []
  | n + 1, zs => zs.headD d :: popsF r d n (popRest r d zs)
noncomputable def heapAt (r : α → Int) (d : α) : Nat → List α → List α
  | 0, zs => zs
  | n + 1, zs => heapAt r d n (popRest r d zs)
theorem heapAt_succ : ∀ (n : Nat) (zs : List α), heapAt r d (n + 1) zs = popRest r d (heapAt r d n zs)
  | 0, _ => rfl
  | n + 1, zs => heapAt_succ n (popRest r d zs)
theorem popsF_succ : ∀ (n : Nat) (zs : List α), popsF r d (n + 1) zs = popsF r d n zs ++ [(heapAt r d n zs).headD d]
  | 0, _ => rfl
  | n + 1, zs => by
    show zs.headD d :: popsF r d (n + 1) (popRest r d zs) = zs.headD d :: popsF r d n (popRest r d zs) ++ [(heapAt r d n (popRest r d zs)).headD d]
    rw [popsF_succ n]; rfl
theorem popRest_len (zs : List α) : (popRest r d zs).length = zs.length - 1 := by
  rcases List.eq_nil_or_concat zs with rfl | ⟨ys, x, rfl⟩
  · rfl
  · rw [List.concat_eq_append, popRest_snoc]
    cases ys with
    | nil => rfl
    | cons y t => rw [suF_len]; simp
theorem heapAt_len : ∀ (n : Nat) (zs : List α), (heapAt r d n zs).length = zs.length - n
  | 0, _ => rfl
  | n + 1, zs => by rw [heapAt, heapAt_len n, popRest_len]; lia
theorem popsF_len : ∀ (n : Nat) (zs : List α), (popsF r d n zs).length = n
  | 0, _ => rfl
  | n + 1, zs => by simp [popsF, popsF_len n]
theorem pops_all : ∀ (n : Nat) (zs : List α), zs.length = n → HeapFrom r d 0 zs → (popsF r d n zs).Perm zs ∧ ((popsF r d n zs).map r).Pairwise (· ≤ ·)
  | 0, zs, h, _ => by obtain rfl := List.eq_nil_of_length_eq_zero h; exact ⟨.refl _, .nil⟩
  | n + 1, zs, h, hh => by
    rcases List.eq_nil_or_concat zs with rfl | ⟨ys, x, rfl⟩
    · simp at h
    · rw [List.concat_eq_append] at h hh ⊢
      obtain ⟨h1, h2, h3⟩ := pop_step hh
      obtain ⟨p1, p2⟩ := pops_all n (popRest r d (ys ++ [x])) (by rw [popRest_len]; lia) h1
      refine ⟨(p1.cons _).trans h2, ?_⟩
      rw [popsF, List.map_cons, List.pairwise_cons]
      refine ⟨fun b hb => ?_, p2⟩
      obtain ⟨z, hz, rfl⟩ := List.mem_map.mp hb
      exact h3 z (p1.subset hz)
theorem strict_of {l : List α} (h : (l.map r).Pairwise (· ≤ ·)) (hn : (l.map r).Nodup) : (l.map r).Pairwise (· < ·) :=
  (h.and hn).imp fun ⟨a, b⟩ => by lia
theorem sorted_exists (zs : List α) (hn : (zs.map r).Nodup) : ∃ so : List α, so.Perm zs ∧ (so.map r).Pairwise (· < ·) := by
  refine ⟨zs.mergeSort (fun x y => decide (r x ≤ r y)), List.mergeSort_perm _ _, ?_⟩
  have hs := List.pairwise_mergeSort (le := fun x y => decide (r x ≤ r y)) (fun a b c h1 h2 => by simp at *; lia) (fun a b => by simp; lia) zs
  refine strict_of ?_ ((List.mergeSort_perm zs _).map r |>.nodup_iff.mpr hn)
  rw [List.pairwise_map]
  exact hs.imp fun h => by simpa using h
end
/-! items and their data -/
noncomputable def ckOf (x : It) : Int × Int := (x.c, x.k)
noncomputable def rank (p : Int × Int) : Int := 16 * p.1 + p.2
theorem rank_ck (x : It) : rank (ckOf x) = rIt x := rfl
theorem same_data {a b za zb : List It} (h : za.map ckOf = zb.map ckOf) (pa : a.Perm za) (pb : b.Perm zb) (sa : (a.map rIt).Pairwise (· < ·)) (sb : (b.map rIt).Pairwise (· < ·)) : a.map ckOf = b.map ckOf := by
  refine sorted_uniq (r := rank) ((pa.map _).trans (h ▸ (pb.map ckOf).symm)) ?_ ?_
  · rw [List.map_map]; exact sa
  · rw [List.map_map]; exact sb
noncomputable def itD (p : Int × Int) : PyData := .list [.int p.1, .int p.2]
theorem itD_ok (p : Int × Int) : (itD p).canLay0 = true ∧ (itD p).depth = 1 := by
  unfold itD
  exact ⟨by simp [PyData.canLay0, PyData.canLayAll0], by simp [PyData.depth, PyData.depthAll]⟩
theorem items_lay (ps : List (Int × Int)) : PyData.canLayAll0 (ps.map itD) = true ∧ PyData.depthAll (ps.map itD) ≤ 1 := by
  induction ps with
  | nil => exact ⟨by simp [PyData.canLayAll0], by simp [PyData.depthAll]⟩
  | cons p r ih =>
    have := itD_ok p
    exact ⟨by simp [PyData.canLayAll0, this.1, ih.1], by simp only [List.map_cons, PyData.depthAll, this.2]; lia⟩
theorem shaped_items (ps : List (Int × Int)) : SeqAt.shaped (.list (ps.map itD)) = true := by
  have := items_lay ps
  unfold SeqAt.shaped
  have h2 : PyData.depth (.list (ps.map itD)) ≤ 64 := by
    have e : PyData.depth (.list (ps.map itD)) = PyData.depthAll (ps.map itD) + 1 := by simp [PyData.depth]
    lia
  have h1 : PyData.canLay0 (.list (ps.map itD)) = true := by simp [PyData.canLay0, this.1]
  rw [h1, decide_eq_true h2]; rfl
theorem DR.it {S : Led} {x : It} (h : ElI S x) : DR S (eIt x) (itD (ckOf x)) := DR.aInts (ns := [x.c, x.k]) h.1
theorem DR.items {S : Led} {l : Addr} {zs : List It} (hm : (l, PList (zs.map eIt)) ∈ S) (h : ∀ x ∈ zs, ElI S x) : DR S (.val (.ref l)) (.list ((zs.map ckOf).map itD)) :=
  .list hm (by simp) fun i a d e1 e2 => by
    rw [List.map_map, List.getElem?_map] at e2
    rw [List.getElem?_map] at e1
    obtain ⟨x, ex, rfl⟩ := Option.map_eq_some_iff.mp e1
    rw [ex] at e2
    cases e2
    exact .it (h x (List.mem_of_getElem? ex))
end
section
open PySem PySem.W PyProof.Rows PySem.Calls PySem.Spec
set_option linter.all false
set_option maxRecDepth 100000
set_option maxHeartbeats 1000000
theorem pos_after_const {M : Model} {A : Around} {x : Str} {k : Nat} {cp apos pos : Pos} {name : Str} {args : List Expr} {env : Env} {Q : Value → Shared → Prop} {E : Value → Shared → Prop} {s : Shared}
    (h : wpAny M A (eval (.Call (.Attribute (.Constant (.str x) k cp) name apos) args [] pos) env) Q E s) :
    wpAny M A (eval (.Call (.Attribute (.Constant (.str x) k cp) name apos) args [] pos) env) (fun v s' => 1 ≤ s'.toks ∧ Q v s') (fun e s' => 1 ≤ s'.toks ∧ E e s') s := by
  intro Γ p hΓ
  have h := h Γ p hΓ
  exact wp_toks (p := p) (s := { s with toks := s.toks + 1 }) (m := 1)
    (do standAt apos.atName
        methodCall (.Constant (.str x) k cp) name apos pos env (.str x s.toks) (args.length + ([] : List Keyword).length) (backTo pos (starEach args env)) (backToKw pos (keywordEach [] env)))
    (Nat.le_add_left 1 s.toks) h
section
variable {prog : Program} {w : World} {base : Heap} {n : Nat} {S : Led} {env : Env}
/-- from a state in which some value was made -/
noncomputable def WVP (prog : Program) (w : World) (base : Heap) (n : Nat) (t : Sem Value) (S : Led) (Q : AV → Led → Prop) : Prop :=
  ∀ A s, AOk A n → Rep base S s.heap → 1 ≤ s.toks → wpAny (model prog w) A t (Post base (Hid Q) s) NoE s
theorem t_CompareP {x : Str} {k : Nat} {cp apos cpos pos : Pos} {name : Str} {args : List Expr} {r : Expr} {op : CmpOp} {Q : Bool → Led → Prop}
    (h : WV prog w base n (eval (.Call (.Attribute (.Constant (.str x) k cp) name apos) args [] cpos) env) S (fun a S₁ => WVP prog w base n (eval r env) S₁ (fun b S₂ => L2 prog w base n (compareOp op) a b S₂ (fun c S₃ => T1 prog w base n c S₃ Q))))
    (hm : behindInMarks op r = false := by with_unfolding_all rfl) : WT prog w base n (.Compare (.Call (.Attribute (.Constant (.str x) k cp) name apos) args [] cpos) [op] [r] pos) env S Q := .mk fun A s hA R =>
  wpAny_isTrue_Compare1 (wpAny_mono (pos_after_const (h.run A s hA R)) (fun va s₁ p => by
    obtain ⟨hpos, S₁, h₁, k₁, rfl, R₁, a, ra, q⟩ := p
    refine wpAny_mono (q A _ hA R₁ hpos) (fun vb s₂ p => ?_) fun _ _ x => x
    obtain ⟨S₂, h₂, k₂, rfl, R₂, b, rb, q⟩ := p
    refine wpAny_mono ((q va vb ra rb).run A _ hA R₂) (fun vc s₃ p => ?_) fun _ _ x => x
    obtain ⟨S₃, h₃, k₃, rfl, R₃, c, rc, q⟩ := p
    exact wpAny_mono ((q vc rc).run A _ hA R₃) (fun v s₄ ⟨S₄, h₄, k₄, e, R₄, q₄⟩ => ⟨S₄, h₄, k₄, by rw [e], R₄, q₄⟩) fun _ _ x => x) fun _ _ x => x.2) hm
theorem ev_replP {nm y z : Str} {np apos p1 p2 pos : Pos} {k1 k2 : Nat} {x : Str} {Q : AV → Led → Prop} (hyz : (y == z) = false) (hz : z.length ≤ 1)
    (h : WV prog w base n (eval (.Name nm np) env) S (fun a S₁ => a = .str x ∧ x.length ≤ 1000 ∧ Q (.str (Txt.replace x y z)) S₁))
    (hbase : attributeBase (.Name nm np) "replace" env (eval (.Name nm np) env) = eval (.Name nm np) env := by rfl)
    (hfew : ((backTo pos (starEach [.Constant (.str y) k1 p1, .Constant (.str z) k2 p2] env)).all (fun x => !x.1) && (backToKw pos (keywordEach [] env)).all (fun x => x.1.isSome)
      && decide (([.Constant (.str y) k1 p1, .Constant (.str z) k2 p2] : List Expr).length + ([] : List Keyword).length + (if ([] : List Keyword).isEmpty then 0 else 1) < 30)) = true := by rfl)
    (hline : (apos.endLine == pos.line) = true := by rfl) (hp : (backTo pos (starEach [.Constant (.str y) k1 p1, .Constant (.str z) k2 p2] env)).any (·.1) = false := by rfl) :
    WVP prog w base n (eval (.Call (.Attribute (.Name nm np) "replace" apos) [.Constant (.str y) k1 p1, .Constant (.str z) k2 p2] [] pos) env) S Q := fun A s hA R hpos => by
  refine wpAny_Call_method hbase hfew hline PySem.F.plainAttrs_str PySem.F.slot_str_replace PySem.F.type_str_replace (wpAny_mono (wpAny_toks hpos (h.run A s hA R)) (fun v s₁ p => ?_) fun _ _ x => x.2)
  obtain ⟨hpos, S₁, h₁, k₁, rfl, R₁, a, ra, rfl, hl, q⟩ := p
  obtain ⟨t, rfl⟩ := ra
  refine ⟨rfl, (by rintro b ⟨⟩), callWith_builtin hp ?_⟩
  show wpAny (model prog w) A (evalArgs _ true ((false, eval (.Constant (.str y) k1 p1) env) :: (false, eval (.Constant (.str z) k2 p2) env) :: []) []) _ _ _
  refine evalArgs_plain ?_
  unfold spliced
  refine wpAny_bind (wpAny_Constant_str ?_)
  refine wpAny_bind (wpAny_pure ?_)
  refine wpAny_bind (wpAny_holding ?_)
  unfold spliced
  refine wpAny_bind (wpAny_Constant_str ?_)
  refine wpAny_bind (wpAny_pure ?_)
  refine wpAny_bind (wpAny_holding ?_)
  unfold spliced
  refine wpAny_pure ?_
  refine wpAny_pure ?_
  refine wpAny_pure ?_
  have hpos' : 1 ≤ k₁ := hpos
  refine PySem.SC.replace (by show k₁ ≠ 0; lia) (by show k₁ + 1 ≠ 0; lia) (by show k₁ ≠ k₁ + 1; lia) hyz ?_ fun t' k => ?_
  · have : (x.length + 1) * z.length ≤ (x.length + 1) * 1 := Nat.mul_le_mul_left _ hz
    lia
  · exact ⟨S₁, h₁, k, rfl, R₁, .str _, ⟨_, rfl⟩, q⟩
end
end
section
open PySem PySem.W PyProof.Rows PySem.Calls PySem.Spec
set_option linter.all false
set_option maxRecDepth 100000
set_option maxHeartbeats 1000000

noncomputable def PSIter (x : Str) (i : Nat) : OP := fun o => o.cls = .type "str_ascii_iterator" ∧ ∃ t, o.data = .fields #[.str x t, .int i 0]
section
variable {prog : Program} {w : World} {base : Heap} {n : Nat} {S : Led} {env : Env} {gl : List (Str × AV)} {bl : List (Str × Value)} {a : Addr}
theorem g_strSN {value e : Expr} {p : Pos} {x : Str} {sl : Addr} {i : Int} {Q : AV → Led → Prop} (hs : (sl, PSlice (some i) none) ∈ S) (hl : x.length ≤ 1000) (h : Q (.str (Txt.slice x (some i) none)) S) :
    L2 prog w base n (subscriptTail value (.Slice (some e) none none p)) (.str x) (.val (.ref sl)) S Q := by
  rintro va vb ⟨t, rfl⟩ r2
  rw [show vb = .ref sl from r2]
  refine .mk fun A s hA R => ?_
  obtain ⟨o, eo, hc, vl, vu, hd, ⟨t1, rfl⟩, hvu⟩ := R.get hs
  obtain rfl : vu = .none := hvu
  refine tail_any (typeIs_str s x t) typeLookup_str_item (wpAny_getItem_str_slice (l := some (i, t1)) (u := none) (st := none) ⟨o, eo, hc, hd⟩ rfl ?_) rfl
  exact post_val_or_str ⟨Nat.le_trans (Txt.slice_le x _ _) (by rw [sizeLine_eq]; lia), fun t' k => Post.tok R ⟨.str _, ⟨_, rfl⟩, h⟩⟩
theorem it_str {x : Str} {Q : AV → Led → Prop} (ha : x.cps.all (· < 128) = true) (h : ∀ it, Q (.val (.ref it)) ((it, PSIter x 0) :: S)) : L1 prog w base n pyIter (.str x) S Q := by
  rintro va ⟨t, rfl⟩
  exact .mk fun A s hA R => wpAny_pyIter_ascii ha ⟨_, _, s.toks, rfl, R.push (P := PSIter x 0) ⟨rfl, t, rfl⟩, .val (.ref _), rfl, h _⟩
theorem it_striter {it : Addr} {x : Str} {i : Nat} {Q : AV → Led → Prop} (hm : (it, PSIter x i) ∈ S) (h : Q (.val (.ref it)) S) : L1 prog w base n pyIter (.val (.ref it)) S Q := l1_ref <| .mk fun A s hA R => by
  obtain ⟨o, e, h1, t, h2⟩ := R.get hm
  exact wpAny_pyIter_striter_ascii ⟨o, e, h1, h2⟩ (Post.self R ⟨.val (.ref it), rfl, h⟩)
theorem nx_str {it : Addr} {x : Str} {i c : Nat} {S' : Led} {Q : Option Value → Led → Prop} (U : Upd S it (PSIter x i) (PSIter x (i + 1)) S') (hx : x.cps[i]? = some c) (h : ∀ v, VR (.str ⟨#[c]⟩) v → Q (some v) S') :
    W prog w base n (pyNext (.ref it)) S Q := .mk fun A s hA R => by
  obtain ⟨o, e, h1, t, h2⟩ := R.get U.memOld
  refine wpAny_pyNext_ascii_item ⟨o, e, h1, h2⟩ hx fun h' hi hs => ?_
  obtain ⟨o', e', h1', h2'⟩ := hi
  exact ⟨S', h', _, rfl, R.update U hs ⟨o', e', h1', t, h2'⟩, h _ ⟨_, rfl⟩⟩
theorem nx_str_end {it : Addr} {x : Str} {i : Nat} {S' : Led} {Q : Option Value → Led → Prop} (D : Del S it (PSIter x i) S') (hx : x.cps.size ≤ i) (h : Q none S') :
    W prog w base n (pyNext (.ref it)) S Q := .mk fun A s hA R => by
  obtain ⟨o, e, h1, t, h2⟩ := R.get D.mem
  exact wpAny_pyNext_ascii_end hA.handled ⟨o, e, h1, h2⟩ (by simp; lia) fun h' x => ⟨S', h', s.toks, rfl, R.del D x, h⟩
theorem wc_compStr {elt iter : Expr} {x : Str} {px : Pos} {ifs : List Expr} {scope : Scope} {pos : Pos} {I acc C : Addr} {tx : Str} {Q : FQ} {m0 : NM} (ys : Nat → List AV) (St : Led) (hy0 : ys 0 = []) (hyl : ∀ i, i ≤ tx.cps.size → (ys i).length ≤ 1000)
    (turn : ∀ (i c : Nat), tx.cps[i]? = some c → ∀ v, VR (.str ⟨#[c]⟩) v → W prog w base n (storeName env x v) ((C, PNs m0) :: (acc, PList (ys i)) :: (I, PSIter tx (i + 1)) :: St) (fun _ S₂ => WIfs prog w base n ifs env S₂ (fun ok S₃ =>
          if ok = true then WV prog w base n (eval elt env) S₃ (fun b S₄ => ys (i + 1) = ys i ++ [b] ∧ Wk ((C, PNs m0) :: (acc, PList (ys i)) :: (I, PSIter tx (i + 1)) :: St) S₄)
          else ys (i + 1) = ys i ∧ Wk ((C, PNs m0) :: (acc, PList (ys i)) :: (I, PSIter tx (i + 1)) :: St) S₃)))
    (done : Q .next ((C, PNs m0) :: (acc, PList (ys tx.cps.size)) :: St)) :
    WC prog w base n (.compLoop (.ListComp elt [⟨.Name x px, iter, ifs, 0⟩] scope pos) 0 (.ref I) (.ref acc) env) ((C, PNs m0) :: (acc, PList []) :: (I, PSIter tx 0) :: St) Q := by
  refine wc_comp (fun k S' => ∃ i, i ≤ tx.cps.size ∧ k = tx.cps.size - i ∧ S' = (C, PNs m0) :: (acc, PList (ys i)) :: (I, PSIter tx i) :: St) ?_ tx.cps.size ⟨0, Nat.zero_le _, rfl, by rw [hy0]⟩
  rintro k S' ⟨i, hi, rfl, rfl⟩
  by_cases hlt : i < tx.cps.size
  · refine nx_str (.tail (.tail .head)) (Array.getElem?_eq_getElem hlt) fun v hv => ?_
    refine (turn i _ (Array.getElem?_eq_getElem hlt) v hv).mono fun _ S₂ q => W.mono q fun ok S₃ q => ?_
    cases ok with
    | false =>
      rw [if_neg (by decide)] at q ⊢
      exact ⟨tx.cps.size - (i + 1), by lia, _, q.2, i + 1, by lia, rfl, by rw [q.1]⟩
    | true =>
      rw [if_pos rfl] at q ⊢
      refine q.mono fun b S₄ q va hb => ?_
      refine WV.wk ?_ q.2
      refine m_append hb (.tail .head) (hyl i hi) ⟨tx.cps.size - (i + 1), by lia, _, Wk.refl _, i + 1, by lia, rfl, by rw [q.1]⟩
  · obtain rfl : i = tx.cps.size := by lia
    exact nx_str_end (.tail (.tail .head)) (Nat.le_refl _) done
theorem sig_isdir : sigOk (fnScope 11) ["mode"] ["mode"] [] ["S_IFMT", "S_IFDIR"] = true := by rfl
theorem c_isdir {iff : Addr} (F : FnIs base a (fnScope 11) ["mode"] (fnBody 11) []) (T : TopIs base gl bl) (hif : (("S_IFMT" : Str), AV.val (.ref iff)) ∈ gl) (hdir : (("S_IFDIR" : Str), AV.int 16384) ∈ gl) (FI : FnIs base iff (fnScope 3) ["mode"] (fnBody 3) [])
    {x : Int} {v : Value} {Q : AV → Led → Prop} (hv : VR (.int x) v) (h : Q (.val (.bool (Builtin.bitAnd x 61440 == 16384))) S) : WV prog w base (n + 2) (call (.ref a) [v]) S Q := by
  refine c_call F (das := []) rfl sig_isdir (args := [.int x]) ⟨v, [], rfl, hv, rfl⟩ rfl fun env L ads hlen hE => ?_
  obtain rfl := List.eq_nil_of_length_eq_zero hlen
  show W prog w base (n + 1) (execs (fnBody 11) env) ((L, PNs [("mode", some (.int x))]) :: S) (RetS Q)
  refine x_cons <| x_Ret <| ev_Compare <| ev_CallDef FI.isDef <| ev_glob hE T (by tb_start) hif ⟨rfl, vs_cons <| ev_loc hE (by tb_start) (by tb_start) (by tb_start) <| vs_nil fun vs hvs => ?_⟩
  refine vrs1 hvs fun v1 r1 => ?_
  exact c_ifmt FI r1 <| ev_glob hE T (by tb_start) hdir <| o_eq fun v hv => ret_end hv (by tb_start) h
end
/-! the signs behind the first -/
noncomputable def tailOf (r : Nat) : Str := catS ((List.range 9).map (lsCh (r : Int)))
theorem tailOf_len (r : Nat) : (tailOf r).length = 9 := by
  unfold tailOf
  rw [catS_ones fun y hy => by obtain ⟨q, _, rfl⟩ := List.mem_map.mp hy; exact lsCh_len _ q]; simp
theorem sign_tail (b : Bool) (r : Nat) : Txt.slice (lsText b (r : Int) 9) (some 1) none = tailOf r := by
  have hl : (lsText b (r : Int) 9).length = 10 := lsText_len _ _ _
  rw [slice_from_eq (b := 10) (by decide) (by lia) (by lia)]
  refine Str.ext_toList ?_
  show (((lsText b (r : Int) 9).cps.toList.drop 1).take 9).toArray.toList = _
  rw [lsText_cat]
  show (((lsHead b ++ catS ((List.range 9).map (lsCh (r : Int)))).cps.toList.drop 1).take 9).toArray.toList = (tailOf r).cps.toList
  rw [Str.cps_append, Array.toList_append]
  have h9 : (tailOf r).cps.toList.length = 9 := by rw [Str.len_toList, tailOf_len]
  show ((((lsHead b).cps.toList ++ (tailOf r).cps.toList).drop 1).take 9).toArray.toList = _
  rw [List.drop_append]
  have e1 : (lsHead b).cps.toList.length = 1 := by cases b <;> rfl
  rw [List.drop_eq_nil_of_le (by lia), e1, Nat.sub_self, List.drop_zero, List.nil_append, List.take_of_length_le (by lia)]
theorem tail_pieces (r : Nat) : ∀ y ∈ (List.range 9).map (lsCh (r : Int)), y.length = 1 := fun y hy => by obtain ⟨q, _, rfl⟩ := List.mem_map.mp hy; exact lsCh_len _ q
theorem chrAt_of {x : Str} {i c : Nat} (h : x.cps[i]? = some c) : chrAt x i = ⟨#[c]⟩ := by
  have e : x.cps.getD i 0 = c := by rw [Array.getD_eq_getD_getElem?, h]; rfl
  unfold chrAt
  rw [e]
theorem tail_at (r : Nat) {i c : Nat} (h : (tailOf r).cps[i]? = some c) : i < 9 ∧ (⟨#[c]⟩ : Str) = lsCh (r : Int) i := by
  have h9 : (tailOf r).cps.size = 9 := tailOf_len r
  have hi : i < 9 := by
    have := (Array.getElem?_eq_some_iff.mp h).1
    lia
  refine ⟨hi, ?_⟩
  have hy : ((List.range 9).map (lsCh (r : Int)))[i]? = some (lsCh (r : Int) i) := by rw [List.getElem?_map, List.getElem?_range hi, Option.map_some]
  have e1 := chrAt_cat (tail_pieces r) hy
  have e2 : chrAt (tailOf r) i = ⟨#[c]⟩ := chrAt_of h
  exact e2.symm.trans e1
theorem tail_ascii (r : Nat) : (tailOf r).cps.all (· < 128) = true := by
  rw [Array.all_eq_true]
  intro i hi
  obtain ⟨h9, e⟩ := tail_at r (Array.getElem?_eq_getElem hi)
  have key : ∀ q, q < 9 → ∀ x y : Nat, (x = 0 ∨ x = 1) → (y = 0 ∨ y = 1) → ∀ c, (⟨#[c]⟩ : Str) = (if (q % 3 == 2 && (((y : Nat) : Int) == 1)) = true then chrAt ((["Ss", "Ss", "Tt"] : List Str).getD (q / 3) Str.empty) x else chrAt "-rwx" ((q % 3 + 1) * x)) → c < 128 := by
    intro q hq x y hx hy c e
    have hc : c = (if (q % 3 == 2 && (((y : Nat) : Int) == 1)) = true then chrAt ((["Ss", "Ss", "Tt"] : List Str).getD (q / 3) Str.empty) x else chrAt "-rwx" ((q % 3 + 1) * x)).cps.getD 0 0 := by rw [← e]; rfl
    rw [hc]
    have e9 : q = 0 ∨ q = 1 ∨ q = 2 ∨ q = 3 ∨ q = 4 ∨ q = 5 ∨ q = 6 ∨ q = 7 ∨ q = 8 := by lia
    rcases hx with rfl | rfl <;> rcases hy with rfl | rfl <;> rcases e9 with rfl | rfl | rfl | rfl | rfl | rfl | rfl | rfl | rfl <;> decide +kernel
  unfold lsCh at e
  rw [bitAt_N, bitN_N] at e
  exact decide_eq_true (key i h9 _ _ (bN_01 r _) (bN_01 r _) _ e)
end
section
open PySem PySem.W PyProof.Rows PySem.Calls PySem.Spec
set_option linter.all false
set_option maxRecDepth 100000
set_option maxHeartbeats 1000000
set_option genInjectivity false in
set_option genSizeOfSpec false in
/-- all that the law asks of the top -/
structure LawTop (prog : Program) (w : World) (base : Heap) (gl : List (Str × AV)) (bl : List (Str × Value)) where
  (imode ifmt isdir fmode trn tra jta hpop hrep hify hrepm hifym sd su sdm sum nsm nlg lsg lpt lft lct esc ftb re sc cc P : Addr)
  rows : List FRow
  T : TopIs base gl bl
  b_sum : (("sum" : Str), Value.builtin "sum") ∈ bl
  b_range : (("range" : Str), Value.type "range") ∈ bl
  b_len : (("len" : Str), Value.builtin "len") ∈ bl
  b_sorted : (("sorted" : Str), Value.builtin "sorted") ∈ bl
  b_enumerate : (("enumerate" : Str), Value.type "enumerate") ∈ bl
  b_object : (("object" : Str), Value.type "object") ∈ bl
  b_iter : (("iter" : Str), Value.builtin "iter") ∈ bl
  b_zip : (("zip" : Str), Value.type "zip") ∈ bl
  b_reversed : (("reversed" : Str), Value.type "reversed") ∈ bl
  g_imode : (("S_IMODE" : Str), AV.val (.ref imode)) ∈ gl
  F_imode : FnIs base imode (fnScope 2) ["mode"] (fnBody 2) []
  g_ifmt : (("S_IFMT" : Str), AV.val (.ref ifmt)) ∈ gl
  F_ifmt : FnIs base ifmt (fnScope 3) ["mode"] (fnBody 3) []
  g_isdir : (("S_ISDIR" : Str), AV.val (.ref isdir)) ∈ gl
  F_isdir : FnIs base isdir (fnScope 11) ["mode"] (fnBody 11) []
  g_fmode : (("filemode" : Str), AV.val (.ref fmode)) ∈ gl
  F_fmode : FnIs base fmode (fnScope 25) ["mode"] (fnBody 25) []
  g_trn : (("translate" : Str), AV.val (.ref trn)) ∈ gl
  F_trn : FnIs base trn (fnScope 28) ["pat"] (fnBody 28) []
  g_tra : (("_translate" : Str), AV.val (.ref tra)) ∈ gl
  F_tra : FnIs base tra (fnScope 33) ["pat", "STAR", "QUESTION_MARK"] (fnBody 33) []
  g_jta : (("_join_translated_parts" : Str), AV.val (.ref jta)) ∈ gl
  F_jta : FnIs base jta (fnScope 34) ["inp", "STAR"] (fnBody 34) []
  g_hpop : (("heappop" : Str), AV.val (.ref hpop)) ∈ gl
  F_hpop : FnIs base hpop (fnScope 36) ["heap"] (fnBody 36) []
  g_hrep : (("heapreplace" : Str), AV.val (.ref hrep)) ∈ gl
  F_hrep : FnIs base hrep (fnScope 37) ["heap", "item"] (fnBody 37) []
  g_hify : (("heapify" : Str), AV.val (.ref hify)) ∈ gl
  F_hify : FnIs base hify (fnScope 38) ["x"] (fnBody 38) []
  g_hrepm : (("_heapreplace_max" : Str), AV.val (.ref hrepm)) ∈ gl
  F_hrepm : FnIs base hrepm (fnScope 39) ["heap", "item"] (fnBody 39) []
  g_hifym : (("_heapify_max" : Str), AV.val (.ref hifym)) ∈ gl
  F_hifym : FnIs base hifym (fnScope 40) ["x"] (fnBody 40) []
  g_sd : (("_siftdown" : Str), AV.val (.ref sd)) ∈ gl
  F_sd : FnIs base sd (fnScope 41) ["heap", "startpos", "pos"] (fnBody 41) []
  g_su : (("_siftup" : Str), AV.val (.ref su)) ∈ gl
  F_su : FnIs base su (fnScope 42) ["heap", "pos"] (fnBody 42) []
  g_sdm : (("_siftdown_max" : Str), AV.val (.ref sdm)) ∈ gl
  F_sdm : FnIs base sdm (fnScope 43) ["heap", "startpos", "pos"] (fnBody 43) []
  g_sum : (("_siftup_max" : Str), AV.val (.ref sum)) ∈ gl
  F_sum : FnIs base sum (fnScope 44) ["heap", "pos"] (fnBody 44) []
  g_nsm : (("nsmallest" : Str), AV.val (.ref nsm)) ∈ gl
  F_nsm : FnIs base nsm (fnScope 45) ["n", "iterable", "key"] (fnBody 45) [.none]
  g_nlg : (("nlargest" : Str), AV.val (.ref nlg)) ∈ gl
  F_nlg : FnIs base nlg (fnScope 46) ["n", "iterable", "key"] (fnBody 46) [.none]
  g_lsg : (("_law_signs" : Str), AV.val (.ref lsg)) ∈ gl
  F_lsg : FnIs base lsg (fnScope 48) ["folder", "rights"] (fnBody 48) []
  g_lpt : (("_law_pattern" : Str), AV.val (.ref lpt)) ∈ gl
  F_lpt : FnIs base lpt (fnScope 49) ["folder", "wanted"] (fnBody 49) []
  g_lft : (("_law_fits" : Str), AV.val (.ref lft)) ∈ gl
  F_lft : FnIs base lft (fnScope 50) ["pieces", "signs"] (fnBody 50) []
  g_lct : (("_law_count" : Str), AV.val (.ref lct)) ∈ gl
  F_lct : FnIs base lct (fnScope 51) ["number"] (fnBody 51) []
  g_esc : (("escape" : Str), AV.val (.ref esc)) ∈ gl
  g_dir : (("S_IFDIR" : Str), AV.int 16384) ∈ gl
  g_ftb : (("_filemode_table" : Str), AV.val (.ref ftb)) ∈ gl
  g_re : (("_twin_re_1" : Str), AV.val (.ref re)) ∈ gl
  B : FTab base ftb rows
  hrows : rows.map (fun r => r.ps.map (·.2)) = rowsP
  X : EscOk prog w base gl bl esc sc
  IR : IsRe base re
  LM : LamOk base cc P
  hcd : ∀ o fd, base.get? tra = some o → o.data = .func fd → fd.code = .ref cc

/-- what the law ends with: True, and the table of the codes as it was -/
noncomputable def LawQ (P : Addr) : AV → Led → Prop := fun b S' => b = .val (.bool true) ∧ (P, PTab lamPos) ∈ S'
theorem nums_get {ns : List Int} {i : Nat} {a : AV} (h : (aInts ns)[i]? = some a) : ∃ x, ns[i]? = some x ∧ a = .int x := by
  rw [aInts, List.getElem?_map] at h
  obtain ⟨x, e, rfl⟩ := Option.map_eq_some_iff.mp h
  exact ⟨x, e, rfl⟩
theorem nats_get {ns : List Nat} {i : Nat} {a : AV} (h : (nats ns)[i]? = some a) : ∃ k, ns[i]? = some k ∧ a = .int ((k : Nat) : Int) := by
  rw [nats, List.getElem?_map] at h
  obtain ⟨x, e, rfl⟩ := Option.map_eq_some_iff.mp h
  exact ⟨x, e, rfl⟩
theorem take_map_succ {α β : Type} {ns : List α} {f : α → β} {i : Nat} {x : α} (h : ns[i]? = some x) : (ns.take (i + 1)).map f = (ns.take i).map f ++ [f x] := by
  rw [List.take_add_one, h]; simp
theorem aInts_len (ns : List Int) : (aInts ns).length = ns.length := by simp [aInts]
theorem nats_len (ns : List Nat) : (nats ns).length = ns.length := by simp [nats]
theorem aStrs_len (ns : List Str) : (aStrs ns).length = ns.length := by simp [aStrs]
theorem aInts_snoc (ns : List Int) (x : Int) : aInts (ns ++ [x]) = aInts ns ++ [.int x] := by simp [aInts]
theorem aStrs_snoc (ns : List Str) (x : Str) : aStrs (ns ++ [x]) = aStrs ns ++ [.str x] := by simp [aStrs]
theorem nats_snoc (ns : List Nat) (k : Nat) : nats (ns ++ [k]) = nats ns ++ [.int ((k : Nat) : Int)] := by simp [nats]
theorem aInts_at {ns : List Int} {k : Nat} {x : Int} (h : ns[k]? = some x) : (aInts ns)[((k : Nat) : Int).toNat]? = some (.int x) := by
  rw [Int.toNat_natCast, aInts, List.getElem?_map, h]; rfl
theorem aStrs_at {ns : List Str} {k : Nat} {x : Str} (h : ns[k]? = some x) : (aStrs ns)[((k : Nat) : Int).toNat]? = some (.str x) := by
  rw [Int.toNat_natCast, aStrs, List.getElem?_map, h]; rfl
/-! items, made turn by turn -/
noncomputable def itLed (zs : List It) : Led := zs.reverse.map fun x => (x.a, PList [.int x.c, .int x.k])
theorem itLed_snoc (zs : List It) (x : It) : itLed (zs ++ [x]) = (x.a, PList [.int x.c, .int x.k]) :: itLed zs := by simp [itLed]
theorem itLed_mem {zs : List It} {x : It} (h : x ∈ zs) : (x.a, PList [.int x.c, .int x.k]) ∈ itLed zs := by
  unfold itLed
  exact List.mem_map.mpr ⟨x, List.mem_reverse.mpr h, rfl⟩
section
variable {prog : Program} {w : World} {base : Heap} {n : Nat} {S : Led} {env : Env}
theorem wc_compItems {elt iter : Expr} {x : Str} {px : Pos} {ifs : List Expr} {scope : Scope} {pos : Pos} {I acc C l : Addr} {xs : List AV} {Q : FQ} {m0 : NM} (ck : Nat → Int × Int) (St : Led) (hm : (l, PList xs) ∈ St) (hlen : xs.length ≤ 1000)
    (turn : ∀ (i : Nat) (a : AV), xs[i]? = some a → ∀ v, VR a v → ∀ (R : Led), (∀ p ∈ St, p ∈ R) → W prog w base n (storeName env x v) ((C, PNs m0) :: R) (fun _ S₂ => WIfs prog w base n ifs env S₂ (fun ok S₃ =>
          ok = true ∧ WV prog w base n (eval elt env) S₃ (fun b S₄ => ∃ p, b = .val (.ref p) ∧ Wk ((p, PList [.int (ck i).1, .int (ck i).2]) :: (C, PNs m0) :: R) S₄))))
    (done : ∀ zs : List It, zs.length = xs.length → zs.map ckOf = (List.range xs.length).map ck → Q .next ((C, PNs m0) :: (acc, PList (zs.map eIt)) :: (itLed zs ++ St))) :
    WC prog w base n (.compLoop (.ListComp elt [⟨.Name x px, iter, ifs, 0⟩] scope pos) 0 (.ref I) (.ref acc) env) ((C, PNs m0) :: (acc, PList []) :: (I, PLIter l 0) :: St) Q := by
  refine wc_comp (fun k S' => ∃ i zs, i ≤ xs.length ∧ k = xs.length - i ∧ zs.map ckOf = (List.range i).map ck ∧ S' = (C, PNs m0) :: (acc, PList (zs.map eIt)) :: (I, PLIter l i) :: (itLed zs ++ St)) ?_ xs.length ⟨0, [], Nat.zero_le _, rfl, rfl, rfl⟩
  rintro k S' ⟨i, zs, hi, rfl, hz, rfl⟩
  have hzl : zs.length = i := by have := congrArg List.length hz; simpa using this
  by_cases hlt : i < xs.length
  · refine nx_list (.tail (.tail .head)) (List.mem_cons_of_mem _ (List.mem_cons_of_mem _ (List.mem_cons_of_mem _ (List.mem_append_right _ hm)))) (List.getElem?_eq_getElem hlt) fun v hv => ?_
    refine (turn i _ (List.getElem?_eq_getElem hlt) v hv ((acc, PList (zs.map eIt)) :: (I, PLIter l (i + 1)) :: (itLed zs ++ St)) fun p hp => List.mem_cons_of_mem _ (List.mem_cons_of_mem _ (List.mem_append_right _ hp))).mono fun _ S₂ q => W.mono q fun ok S₃ q => ?_
    obtain ⟨rfl, q⟩ := q
    rw [if_pos rfl]
    refine q.mono fun b S₄ q va hb => ?_
    obtain ⟨p, rfl, hw⟩ := q
    refine WV.wk ?_ hw
    have ap : WV prog w base n (call (.builtin "list.append") [.ref acc, va]) ((p, PList [.int (ck i).1, .int (ck i).2]) :: (C, PNs m0) :: (acc, PList (zs.map eIt)) :: (I, PLIter l (i + 1)) :: (itLed zs ++ St)) (fun _ S' => S' = (p, PList [.int (ck i).1, .int (ck i).2]) :: (C, PNs m0) :: (acc, PList (zs.map eIt ++ [.val (.ref p)])) :: (I, PLIter l (i + 1)) :: (itLed zs ++ St)) :=
      m_append (xs := zs.map eIt) (a := .val (.ref p)) hb (.tail (.tail .head)) (by rw [List.length_map]; lia) rfl
    refine W.post ap ?_
    rintro v S₅ ⟨a, ra, rfl⟩
    refine ⟨(C, PNs m0) :: (acc, PList (zs.map eIt ++ [.val (.ref p)])) :: (I, PLIter l (i + 1)) :: (p, PList [.int (ck i).1, .int (ck i).2]) :: (itLed zs ++ St), ?_, a, ra, xs.length - (i + 1), by lia, _, Wk.refl _, i + 1, zs ++ [⟨p, (ck i).1, (ck i).2⟩], by lia, rfl, ?_, ?_⟩
    · exact .cons (.tail .head) (.cons (.tail .head) (.cons (.tail .head) (.refl _)))
    · rw [List.map_append, hz, List.range_succ, List.map_append]; rfl
    · rw [itLed_snoc, List.map_append]; rfl
  · obtain rfl : i = xs.length := by lia
    exact nx_list_end (.tail (.tail .head)) (List.mem_cons_of_mem _ (List.mem_cons_of_mem _ (List.mem_cons_of_mem _ (List.mem_append_right _ hm)))) (Nat.le_refl _) (done zs hzl hz)
end
end
section
open PySem PySem.W PyProof.Rows PySem.Calls PySem.Spec
set_option linter.all false
set_option maxRecDepth 100000
set_option maxHeartbeats 1000000
/-! what the law builds, as plain lists -/
noncomputable def numsOf (ns : List Int) : List Int := ns.take 8 ++ [986, 1002, 843, 7101, 512, 840, 4090]
theorem numsOf_len (ns : List Int) : 7 ≤ (numsOf ns).length ∧ (numsOf ns).length ≤ 15 := by
  unfold numsOf
  rw [List.length_append, List.length_take]
  show 7 ≤ min 8 ns.length + 7 ∧ min 8 ns.length + 7 ≤ 15
  lia
noncomputable def folOf (ns : List Int) : Bool := ns.sum.fmod 2 == 1
noncomputable def e1Of (ns : List Int) : Nat := ((ns.sum + 62).fmod 9).toNat
noncomputable def e2Of (ns : List Int) : Nat := (((ns.sum + 62).fdiv 9).fmod 9).toNat
theorem e1_eq (ns : List Int) : (ns.sum + 62).fmod 9 = (e1Of ns : Int) ∧ e1Of ns < 9 := by
  have : 0 ≤ (ns.sum + 62).fmod 9 ∧ (ns.sum + 62).fmod 9 < 9 := fmodPos _ 9 (by decide)
  unfold e1Of; lia
theorem e2_eq (ns : List Int) : ((ns.sum + 62).fdiv 9).fmod 9 = (e2Of ns : Int) ∧ e2Of ns < 9 := by
  have : 0 ≤ ((ns.sum + 62).fdiv 9).fmod 9 ∧ ((ns.sum + 62).fdiv 9).fmod 9 < 9 := fmodPos _ 9 (by decide)
  unfold e2Of; lia
noncomputable def wnOf (ns : List Int) : Nat := 2 ^ e1Of ns ||| 2 ^ e2Of ns
theorem pow_lt512 {k : Nat} (h : k < 9) : 2 ^ k < 2 ^ 9 := Nat.pow_lt_pow_right (by decide) h
theorem wn_lt (ns : List Int) : wnOf ns < 512 := Nat.or_lt_two_pow (n := 9) (pow_lt512 (e1_eq ns).2) (pow_lt512 (e2_eq ns).2)
theorem powNI (k : Nat) : (2 : Int) ^ k = ((2 ^ k : Nat) : Int) := by push_cast; rfl
theorem wn_eq (ns : List Int) : Builtin.bitOr (2 ^ e1Of ns) (2 ^ e2Of ns) = ((wnOf ns : Nat) : Int) := by rw [powNI, powNI, bitOrN]; rfl
theorem more_eq (wn k : Nat) : Builtin.bitOr ((wn : Nat) : Int) (2 ^ k) = ((wn ||| 2 ^ k : Nat) : Int) := by rw [powNI, bitOrN]
noncomputable def xAt (ns : List Int) (k : Nat) : Int := (numsOf ns).getD k 0
theorem xAt_get {ns : List Int} {k : Nat} (h : k < (numsOf ns).length) : (numsOf ns)[k]? = some (xAt ns k) := by
  unfold xAt; rw [List.getD_eq_getElem?_getD, List.getElem?_eq_getElem h]; rfl
theorem mode_get {ns : List Int} {k : Nat} (h : k < (numsOf ns).length) : ((numsOf ns).map modeOf)[k]? = some (modeOf (xAt ns k)) := by rw [List.getElem?_map, xAt_get h]; rfl
theorem sign_get {ns : List Int} {k : Nat} (h : k < (numsOf ns).length) : ((numsOf ns).map signOf)[k]? = some (signOf (xAt ns k)) := by rw [List.getElem?_map, xAt_get h]; rfl
noncomputable def fitP (ns : List Int) (k : Nat) : Bool := allR (wnOf ns) (rOf (xAt ns k)) && (!folOf ns || evenB (xAt ns k))
noncomputable def fitL (ns : List Int) : List Nat := (List.range (numsOf ns).length).filter (fitP ns)
theorem fitL_len (ns : List Int) : (fitL ns).length ≤ 15 := by
  have := List.length_filter_le (fitP ns) (List.range (numsOf ns).length)
  rw [List.length_range] at this
  have := numsOf_len ns
  unfold fitL; lia
theorem fitL_mem {ns : List Int} {k : Nat} (h : k ∈ fitL ns) : k < (numsOf ns).length ∧ fitP ns k = true := by
  have := List.mem_filter.mp h
  exact ⟨List.mem_range.mp this.1, this.2⟩
theorem fit_is (ns : List Int) (k : Nat) : fitB (piecesOf (folOf ns) (wnOf ns)) (signOf (xAt ns k)) = fitP ns k := fit_eq _ _ _ _
theorem fit_more {ns : List Int} {b : Nat} (hb : b < 9) (k : Nat) : fitB (piecesOf (folOf ns) (wnOf ns ||| 2 ^ b)) (signOf (xAt ns k)) = (fitP ns k && (rOf (xAt ns k)).testBit b) := by
  rw [signOf, fit_eq, more_all hb]
  unfold fitP
  cases allR (wnOf ns) (rOf (xAt ns k)) <;> cases (rOf (xAt ns k)).testBit b <;> cases (!folOf ns || evenB (xAt ns k)) <;> rfl
theorem signOf_len (x : Int) : (signOf x).length = 10 := lsText_len _ _ _
theorem catS_all {p : Nat → Bool} : ∀ {ys : List Str}, (∀ y ∈ ys, y.cps.all p = true) → (catS ys).cps.all p = true
  | [], _ => by show (#[] : Array Nat).all p = true; simp
  | y :: r, h => by
    show (y.cps ++ (catS r).cps).all p = true
    rw [Array.all_append, h y (.head _), catS_all fun z hz => h z (.tail _ hz)]; rfl
theorem lsCh_ok (r : Nat) {q : Nat} (hq : q < 9) : (lsCh (r : Int) q).cps.all (· < 0x110000) = true := by
  have key : ∀ x y : Nat, (x = 0 ∨ x = 1) → (y = 0 ∨ y = 1) → (if (q % 3 == 2 && (((y : Nat) : Int) == 1)) = true then chrAt ((["Ss", "Ss", "Tt"] : List Str).getD (q / 3) Str.empty) x else chrAt "-rwx" ((q % 3 + 1) * x)).cps.all (· < 0x110000) = true := by
    intro x y hx hy
    have e9 : q = 0 ∨ q = 1 ∨ q = 2 ∨ q = 3 ∨ q = 4 ∨ q = 5 ∨ q = 6 ∨ q = 7 ∨ q = 8 := by lia
    rcases hx with rfl | rfl <;> rcases hy with rfl | rfl <;> rcases e9 with rfl | rfl | rfl | rfl | rfl | rfl | rfl | rfl | rfl <;> decide +kernel
  unfold lsCh
  rw [bitAt_N, bitN_N]
  exact key _ _ (bN_01 r _) (bN_01 r _)
theorem signOf_ok (x : Int) : PyData.strOk (signOf x) = true := by
  unfold PyData.strOk signOf
  rw [lsText_cat]
  refine catS_all fun y hy => ?_
  rcases List.mem_cons.mp hy with rfl | hy
  · cases evenB x <;> decide +kernel
  · obtain ⟨q, hq, rfl⟩ := List.mem_map.mp hy
    exact lsCh_ok _ (List.mem_range.mp hq)
theorem signs_ok (ns : List Int) : ∀ y ∈ (numsOf ns).map signOf, PyData.strOk y = true := fun y hy => by
  obtain ⟨x, _, rfl⟩ := List.mem_map.mp hy; exact signOf_ok x
end
section
open PySem PySem.W PyProof.Rows PySem.Calls PySem.Spec
set_option linter.all false
set_option maxRecDepth 100000
set_option maxHeartbeats 1000000

section
variable {prog : Program} {w : World} {base : Heap} {n : Nat} {S : Led} {env : Env} {gl : List (Str × AV)} {bl : List (Str × Value)} {L kMore kBit kHeap kPie kWan kFol kSig kMod kNum : Addr}
theorem law6 (Z : LawTop prog w base gl bl) (hE : EnvOk env L ["script", "total", "pattern", "fit", "due"] [("more", kMore), ("bit", kBit), ("heap", kHeap), ("pieces", kPie), ("wanted", kWan), ("folder", kFol), ("signs", kSig), ("modes", kMod), ("numbers", kNum)] [] ["sum", "_law_pattern", "_translate", "translate", "len", "range", "sorted", "nsmallest", "nlargest", "heapify"]) (ns : List Int) {lF lS lM : Addr} :
    W prog w base (n + 7) (execs ((fnBody 52).drop 16) env) ((L, PNs [("script", none), ("total", none), ("pattern", none), ("fit", some (.val (.ref lF))), ("due", none)]) :: (kMore, PCell none) :: (kBit, PCell none) :: (kHeap, PCell none) :: (kPie, PCell none) :: (kWan, PCell (some (.int ((wnOf ns : Nat) : Int)))) :: (kFol, PCell (some (.val (.bool (folOf ns))))) :: (kSig, PCell (some (.val (.ref lS)))) :: (kMod, PCell (some (.val (.ref lM)))) :: (kNum, PCell none) :: (lF, PList (nats (fitL ns))) :: (lS, PList (aStrs ((numsOf ns).map signOf))) :: (lM, PList (aInts ((numsOf ns).map modeOf))) :: (Z.P, PTab lamPos) :: S) (RetS (LawQ Z.P)) := by
  have hN := numsOf_len ns
  have hF := fitL_len ns
  refine x_cons <| x_For <| ev_CallT <| ev_blt hE Z.T (by tb_start) Z.b_range ⟨rfl, vs_cons <| ev_int <| vs_nil fun vs hvs => ?_⟩
  refine vrs1 hvs fun v9 h9 => ?_
  refine c_range1 h9 fun l => it_rangeN (N := 9) List.mem_cons_self (by decide) fun it vi hvi => ?_
  obtain rfl : vi = .ref it := hvi
  refine wc_forRange (N := 9) (fun _ => (l, PRange 0 9 1) :: (L, PNs [("script", none), ("total", none), ("pattern", none), ("fit", some (.val (.ref lF))), ("due", none)]) :: (kMore, PCell none) :: (kBit, PCell none) :: (kHeap, PCell none) :: (kPie, PCell none) :: (kWan, PCell (some (.int ((wnOf ns : Nat) : Int)))) :: (kFol, PCell (some (.val (.bool (folOf ns))))) :: (kSig, PCell (some (.val (.ref lS)))) :: (kMod, PCell (some (.val (.ref lM)))) :: (kNum, PCell none) :: (lF, PList (nats (fitL ns))) :: (lS, PList (aStrs ((numsOf ns).map signOf))) :: (lM, PList (aInts ((numsOf ns).map modeOf))) :: (Z.P, PTab lamPos) :: S) (fun i hi v hv => ?_) ?_
  · refine st_cell hE (by tb_start) (by tb_start) hv ?_
    refine x_cons <| x_AssignName <| ev_CallDef Z.F_tra.isDef <| ev_glob hE Z.T (by tb_start) Z.g_tra ⟨rfl, vs_cons <| ev_CallDef Z.F_lpt.isDef <| ev_glob hE Z.T (by tb_start) Z.g_lpt ⟨rfl, vs_cons <| ev_cell hE (by tb_start) (by tb_start) <| vs_cons <| ev_BinOp <| ev_cell hE (by tb_start) (by tb_start) <| ev_BinOp <| ev_int <| ev_cell hE (by tb_start) (by tb_start) <| o_pow2 (by lia) <| o_or <| vs_nil fun vs hvs => ?_⟩⟩
    refine vrs2 hvs fun u1 r1 u2 r2 => ?_
    rw [more_eq] at r2
    refine c_lpattern Z.F_lpt Z.T Z.b_range r1 r2 <| vs_cons <| ev_none <| vs_cons <| ev_str <| vs_nil fun vs hvs => ?_
    refine vrs3 hvs fun u1 r1 u2 r2 u3 r3 => ?_
    refine W.pk (S' := (Z.P, PTab lamPos) :: (it, PRIter ((i : Int) + 1) ((9 : Nat) - (i : Int) - 1) 1) :: (l, PRange 0 9 1) :: (L, PNs [("script", none), ("total", none), ("pattern", none), ("fit", some (.val (.ref lF))), ("due", none)]) :: (kMore, PCell none) :: (kBit, PCell (some (.int ((i : Nat) : Int)))) :: (kHeap, PCell none) :: (kPie, PCell none) :: (kWan, PCell (some (.int ((wnOf ns : Nat) : Int)))) :: (kFol, PCell (some (.val (.bool (folOf ns))))) :: (kSig, PCell (some (.val (.ref lS)))) :: (kMod, PCell (some (.val (.ref lM)))) :: (kNum, PCell none) :: (lF, PList (nats (fitL ns))) :: (lS, PList (aStrs ((numsOf ns).map signOf))) :: (lM, PList (aInts ((numsOf ns).map modeOf))) :: S) ?_ (by tb_start)
    refine c_tr Z.F_tra Z.T Z.b_len Z.g_re Z.g_esc Z.X Z.IR Z.LM Z.hcd (lpParts_seg (folOf ns) (wnOf ns ||| 2 ^ i)) (by simp [lpParts]) r1 r2 r3 fun lT v hv => ?_
    rw [show (lpParts (folOf ns) ((wnOf ns ||| 2 ^ i : Nat) : Int)).map trP = piecesOf (folOf ns) (wnOf ns ||| 2 ^ i) from rfl]
    refine st_cell hE (by tb_start) (by tb_start) hv ?_
    refine W.pk (S' := (lT, PList (aStrs (piecesOf (folOf ns) (wnOf ns ||| 2 ^ i)))) :: (it, PRIter ((i : Int) + 1) ((9 : Nat) - (i : Int) - 1) 1) :: (l, PRange 0 9 1) :: (L, PNs [("script", none), ("total", none), ("pattern", none), ("fit", some (.val (.ref lF))), ("due", none)]) :: (kMore, PCell (some (.val (.ref lT)))) :: (kBit, PCell (some (.int ((i : Nat) : Int)))) :: (kHeap, PCell none) :: (kPie, PCell none) :: (kWan, PCell (some (.int ((wnOf ns : Nat) : Int)))) :: (kFol, PCell (some (.val (.bool (folOf ns))))) :: (kSig, PCell (some (.val (.ref lS)))) :: (kMod, PCell (some (.val (.ref lM)))) :: (kNum, PCell none) :: (lF, PList (nats (fitL ns))) :: (lS, PList (aStrs ((numsOf ns).map signOf))) :: (lM, PList (aInts ((numsOf ns).map modeOf))) :: (Z.P, PTab lamPos) :: S) ?_ (by tb_start)
    refine x_cons <| x_If <| t_Compare <| ev_ListComp (lsC := ["k"]) (gsC := ["_law_fits"]) (frs := [("more", kMore), ("signs", kSig)]) hE (by rfl) (by simp) ?_
    refine ev_CallT <| ev_blt hE Z.T (by tb_start) Z.b_range ⟨rfl, vs_cons <| ev_CallB <| ev_blt hE Z.T (by tb_start) Z.b_len ⟨rfl, vs_cons <| ev_cell hE (by tb_start) (by tb_start) <| vs_nil fun vs hvs => ?_⟩⟩
    refine vrs1 hvs fun u1 r1 => ?_
    have hlM : (aInts ((numsOf ns).map modeOf)).length = (numsOf ns).length := by rw [aInts_len, List.length_map]
    refine c_lenList r1 (xs := aInts ((numsOf ns).map modeOf)) (by tb_start) (by lia) <| vs_nil fun vs hvs => ?_
    refine vrs1 hvs fun u1 r1 => ?_
    rw [hlM] at r1
    refine c_range1 r1 fun lr => it_rangeN (N := (numsOf ns).length) List.mem_cons_self (by lia) fun I => ⟨I, rfl, fun S' Q' hs hq => it_riter (hs _ List.mem_cons_self) hq, fun acc C cenv hE' => ?_⟩
    refine wc_compRange (N := (numsOf ns).length) (m0 := [("k", none)]) (fun j => nats ((List.range j).filter fun k => fitP ns k && (rOf (xAt ns k)).testBit i)) (fun _ => _) rfl (fun j hj => by
      rw [nats_len]; have := List.length_filter_le (fun k => fitP ns k && (rOf (xAt ns k)).testBit i) (List.range j); rw [List.length_range] at this; lia) (fun j hj v hv => ?_) ?_
    · refine st_loc hE' (by tb_start) (by tb_start) (by tb_start) hv ?_
      have step : ∀ b : Bool, fitB (piecesOf (folOf ns) (wnOf ns ||| 2 ^ i)) (signOf (xAt ns j)) = b → nats ((List.range (j + 1)).filter fun k => fitP ns k && (rOf (xAt ns k)).testBit i) = nats ((List.range j).filter fun k => fitP ns k && (rOf (xAt ns k)).testBit i) ++ (if b then [.int ((j : Nat) : Int)] else []) := fun b hb => by
        rw [fit_more hi] at hb
        rw [List.range_succ, List.filter_append, nats, nats, List.map_append, List.filter_cons, hb]
        cases b <;> rfl
      refine ifs_one <| t_val <| ev_CallDef Z.F_lft.isDef <| ev_glob hE' Z.T (by tb_start) Z.g_lft ⟨rfl, vs_cons <| ev_cell hE' (by tb_start) (by tb_start) <| vs_cons <| ev_Sub <| ev_cell hE' (by tb_start) (by tb_start) <| ev_loc hE' (by tb_start) (by tb_start) (by tb_start) <| g_list (xs := aStrs ((numsOf ns).map signOf)) (by tb_start) (by lia) (by lia) (aStrs_at (sign_get hj)) <| vs_nil fun vs hvs => ?_⟩
      refine vrs2 hvs fun u1 r1 u2 r2 => ?_
      refine c_fits Z.F_lft Z.T Z.b_range (ps := piecesOf (folOf ns) (wnOf ns ||| 2 ^ i)) r1 r2 (by tb_start) (pieces_len _ _) (signOf_len _) <| T1.bool ?_
      split
      · rename_i hb
        exact ev_loc hE' (by tb_start) (by tb_start) (by tb_start) ⟨step true hb, by tb_start⟩
      · rename_i hb
        exact ⟨(step false (by simpa using hb)).trans (by simp), by tb_start⟩
    · refine ⟨_, _, rfl, ?_⟩
      refine ev_ListComp (lsC := ["k"]) (gsC := ["S_IMODE"]) (frs := [("bit", kBit), ("modes", kMod)]) hE (by rfl) (by simp) ?_
      refine ev_loc hE (by tb_start) (by tb_start) (by tb_start) <| it_list (xs := nats (fitL ns)) (by tb_start) fun I => ⟨I, rfl, fun S' Q' hs hq => it_liter (hs _ List.mem_cons_self) hq, fun acc2 C cenv hE' => ?_⟩
      refine wc_compList (l := lF) (xs := nats (fitL ns)) (m0 := [("k", none)]) (fun j => nats (((fitL ns).take j).filter fun k => (rOf (xAt ns k)).testBit i)) (fun _ => _) (fun _ _ => by tb_start) rfl (fun j hj => by
        rw [nats_len]; have := List.length_filter_le (fun k => (rOf (xAt ns k)).testBit i) ((fitL ns).take j); rw [List.length_take] at this; lia) (fun j a ha v hv => ?_) ?_
      · obtain ⟨k, hk, rfl⟩ := nats_get ha
        have hkm := (fitL_mem (List.mem_of_getElem? hk)).1
        refine st_loc hE' (by tb_start) (by tb_start) (by tb_start) hv ?_
        have step : ∀ b : Bool, (rOf (xAt ns k)).testBit i = b → nats (((fitL ns).take (j + 1)).filter fun k => (rOf (xAt ns k)).testBit i) = nats (((fitL ns).take j).filter fun k => (rOf (xAt ns k)).testBit i) ++ (if b then [.int ((k : Nat) : Int)] else []) := fun b hb => by
          rw [List.take_add_one, hk, List.filter_append, nats, nats, List.map_append]
          show _ ++ (([k].filter fun k => (rOf (xAt ns k)).testBit i).map _) = _
          rw [List.filter_cons, hb]
          cases b <;> rfl
        refine ifs_one <| t_Compare <| ev_BinOp <| ev_BinOp <| ev_CallDef Z.F_imode.isDef <| ev_glob hE' Z.T (by tb_start) Z.g_imode ⟨rfl, vs_cons <| ev_Sub <| ev_cell hE' (by tb_start) (by tb_start) <| ev_loc hE' (by tb_start) (by tb_start) (by tb_start) <| g_list (xs := aInts ((numsOf ns).map modeOf)) (by tb_start) (by lia) (by lia) (aInts_at (mode_get hkm)) <| vs_nil fun vs hvs => ?_⟩
        refine vrs1 hvs fun u1 r1 => ?_
        refine c_imode Z.F_imode r1 ?_
        rw [rights_eq]
        refine ev_BinOp <| ev_int <| ev_cell hE' (by tb_start) (by tb_start) <| o_pow2 (by lia) <| o_div2 (by lia) <| ev_int <| o_mod (ev_int <| o_eq <| T1.bool ?_) (by decide)
        have hbit : ((((rOf (xAt ns k) : Nat) : Int).fdiv (2 ^ i)).fmod 2 == 1) = (rOf (xAt ns k)).testBit i := by
          rw [← bN_test, show (((rOf (xAt ns k) : Nat) : Int).fdiv (2 ^ i)).fmod 2 = (bN (rOf (xAt ns k)) i : Int) from bitAt_N _ _, Bool.eq_iff_iff]
          simp only [beq_iff_eq]
          exact ⟨fun h => by exact_mod_cast h, fun h => by rw [h]; rfl⟩
        rw [hbit]
        split
        · rename_i hb
          exact ev_loc hE' (by tb_start) (by tb_start) (by tb_start) ⟨step true hb, by tb_start⟩
        · rename_i hb
          exact ⟨(step false (by simpa using hb)).trans (by simp), by tb_start⟩
      · refine ⟨_, _, rfl, ?_⟩
        rw [nats_len, List.take_length]
        have hsame : (List.range (numsOf ns).length).filter (fun k => fitP ns k && (rOf (xAt ns k)).testBit i) = (fitL ns).filter fun k => (rOf (xAt ns k)).testBit i := by
          unfold fitL
          rw [List.filter_filter]
          exact List.filter_congr fun k _ => Bool.and_comm _ _
        rw [hsame]
        refine o_neSame (DR.nats (ns := (fitL ns).filter fun k => (rOf (xAt ns k)).testBit i) (by tb_start)) (DR.nats (ns := (fitL ns).filter fun k => (rOf (xAt ns k)).testBit i) (by tb_start)) (shaped_nats _) <| T1.bool ?_
        rw [if_neg (by decide)]
        exact x_nil <| x_nil (by tb_start)
  · exact x_nil <| x_cons <| x_Ret <| ev_bool fun v hv => ret_end hv (S' := [(Z.P, PTab lamPos)]) (by tb_start) ⟨rfl, .head _⟩
end
end
section
open PySem PySem.W PyProof.Rows PySem.Calls PySem.Spec
set_option linter.all false
set_option maxRecDepth 100000
set_option maxHeartbeats 1000000

theorem same_data2 {a b za : List It} (pa : a.Perm za) (hp : (b.map ckOf).Perm (za.map ckOf)) (sa : (a.map rIt).Pairwise (· < ·)) (sb : (b.map rIt).Pairwise (· < ·)) : a.map ckOf = b.map ckOf := by
  refine sorted_uniq (r := rank) ((pa.map _).trans hp.symm) ?_ ?_
  · rw [List.map_map]; exact sa
  · rw [List.map_map]; exact sb
theorem heapAt_sub {α : Type} {r : α → Int} {d : α} : ∀ {n : Nat} {zs : List α} {x : α}, HeapFrom r d 0 zs → x ∈ heapAt r d n zs → x ∈ zs
  | 0, _, _, _, h => h
  | n + 1, zs, x, hh, h => by
    rcases List.eq_nil_or_concat zs with rfl | ⟨ys, y, rfl⟩
    · have : heapAt r d (n + 1) ([] : List α) = [] := List.eq_nil_of_length_eq_zero (by rw [heapAt_len]; simp)
      rw [this] at h; exact h
    · rw [List.concat_eq_append] at hh h ⊢
      obtain ⟨h1, h2, _⟩ := pop_step hh
      exact h2.subset (.tail _ (heapAt_sub h1 h))
section
variable {prog : Program} {w : World} {base : Heap} {n : Nat} {S : Led} {env : Env} {gl : List (Str × AV)} {bl : List (Str × Value)} {L kMore kBit kHeap kPie kWan kFol kSig kMod kNum : Addr}
theorem law5 (Z : LawTop prog w base gl bl) (hE : EnvOk env L ["script", "total", "pattern", "fit", "due"] [("more", kMore), ("bit", kBit), ("heap", kHeap), ("pieces", kPie), ("wanted", kWan), ("folder", kFol), ("signs", kSig), ("modes", kMod), ("numbers", kNum)] [] ["sum", "_law_pattern", "_translate", "translate", "len", "range", "sorted", "nsmallest", "nlargest", "heapify"]) (ns : List Int) {lF lS lM lD lH : Addr} {zs out : List It} (hz : ∀ x ∈ zs, ElI S x) (ho : ∀ x ∈ out, ElI S x) (hzl : zs.length = (fitL ns).length)
    (hnd : (zs.map rIt).Nodup) (hpm : (out.map ckOf).Perm (zs.map ckOf)) (hos : (out.map rIt).Pairwise (· < ·)) :
    W prog w base (n + 7) (execs ((fnBody 52).drop 14) env) ((L, PNs [("script", none), ("total", none), ("pattern", none), ("fit", some (.val (.ref lF))), ("due", some (.val (.ref lD)))]) :: (kMore, PCell none) :: (kBit, PCell none) :: (kHeap, PCell (some (.val (.ref lH)))) :: (kPie, PCell none) :: (kWan, PCell (some (.int ((wnOf ns : Nat) : Int)))) :: (kFol, PCell (some (.val (.bool (folOf ns))))) :: (kSig, PCell (some (.val (.ref lS)))) :: (kMod, PCell (some (.val (.ref lM)))) :: (kNum, PCell none) :: (lF, PList (nats (fitL ns))) :: (lS, PList (aStrs ((numsOf ns).map signOf))) :: (lM, PList (aInts ((numsOf ns).map modeOf))) :: (lD, PList (out.map eIt)) :: (lH, PList (zs.map eIt)) :: (Z.P, PTab lamPos) :: S) (RetS (LawQ Z.P)) := by
  have hF := fitL_len ns
  have hol : out.length = zs.length := by have := hpm.length_eq; simpa using this
  refine x_cons <| x_Expr hE <| ev_CallDef Z.F_hify.isDef <| ev_glob hE Z.T (by tb_start) Z.g_hify ⟨rfl, vs_cons <| ev_cell hE (by tb_start) (by tb_start) <| vs_nil fun vs hvs => ?_⟩
  refine vrs1 hvs fun u1 r1 => ?_
  refine W.pk (S' := (lH, PList (zs.map eIt)) :: (L, PNs [("script", none), ("total", none), ("pattern", none), ("fit", some (.val (.ref lF))), ("due", some (.val (.ref lD)))]) :: (kMore, PCell none) :: (kBit, PCell none) :: (kHeap, PCell (some (.val (.ref lH)))) :: (kPie, PCell none) :: (kWan, PCell (some (.int ((wnOf ns : Nat) : Int)))) :: (kFol, PCell (some (.val (.bool (folOf ns))))) :: (kSig, PCell (some (.val (.ref lS)))) :: (kMod, PCell (some (.val (.ref lM)))) :: (kNum, PCell none) :: (lF, PList (nats (fitL ns))) :: (lS, PList (aStrs ((numsOf ns).map signOf))) :: (lM, PList (aInts ((numsOf ns).map modeOf))) :: (lD, PList (out.map eIt)) :: (Z.P, PTab lamPos) :: S) ?_ (by tb_start)
  refine c_heapify (Sf := fun xs => (lH, PList xs) :: (L, PNs [("script", none), ("total", none), ("pattern", none), ("fit", some (.val (.ref lF))), ("due", some (.val (.ref lD)))]) :: (kMore, PCell none) :: (kBit, PCell none) :: (kHeap, PCell (some (.val (.ref lH)))) :: (kPie, PCell none) :: (kWan, PCell (some (.int ((wnOf ns : Nat) : Int)))) :: (kFol, PCell (some (.val (.bool (folOf ns))))) :: (kSig, PCell (some (.val (.ref lS)))) :: (kMod, PCell (some (.val (.ref lM)))) :: (kNum, PCell none) :: (lF, PList (nats (fitL ns))) :: (lS, PList (aStrs ((numsOf ns).map signOf))) :: (lM, PList (aInts ((numsOf ns).map modeOf))) :: (lD, PList (out.map eIt)) :: (Z.P, PTab lamPos) :: S) (e := eIt) (El := fun x => x ∈ zs) (lt := ltR rIt) ⟨fun _ _ => .head⟩ (ltOk_it fun x xs hx => (hz x hx).imp (fun q => by tb_start) id) Z.F_hify Z.T Z.b_len Z.b_reversed Z.b_range Z.g_sd Z.g_su Z.F_su Z.F_sd ⟨0, 0, 0⟩ r1 (by lia) (fun z hz => hz) ?_
  obtain ⟨hh, hperm⟩ := heapify_ok (r := rIt) (d := (⟨0, 0, 0⟩ : It)) (d' := (⟨0, 0, 0⟩ : It)) zs
  generalize hfF (ltR rIt) (⟨0, 0, 0⟩ : It) (zs.length / 2) zs = h0 at hh hperm
  have hl0 : h0.length = zs.length := hperm.length_eq
  refine x_cons <| x_If <| t_Or <| w_Or_cons <| t_Compare <| ev_ListComp (lsC := ["k"]) (gsC := ["heappop"]) (frs := [("heap", kHeap)]) hE (by rfl) (by simp) ?_
  refine ev_loc hE (by tb_start) (by tb_start) (by tb_start) <| it_list (xs := nats (fitL ns)) (by tb_start) fun I => ⟨I, rfl, fun S' Q' hs hq => it_liter (hs _ List.mem_cons_self) hq, fun acc C cenv hE' => ?_⟩
  refine wc_compList (l := lF) (xs := nats (fitL ns)) (m0 := [("k", none)]) (fun j => (popsF rIt ⟨0, 0, 0⟩ j h0).map eIt) (fun j => (lH, PList ((heapAt rIt ⟨0, 0, 0⟩ j h0).map eIt)) :: (L, PNs [("script", none), ("total", none), ("pattern", none), ("fit", some (.val (.ref lF))), ("due", some (.val (.ref lD)))]) :: (kMore, PCell none) :: (kBit, PCell none) :: (kHeap, PCell (some (.val (.ref lH)))) :: (kPie, PCell none) :: (kWan, PCell (some (.int ((wnOf ns : Nat) : Int)))) :: (kFol, PCell (some (.val (.bool (folOf ns))))) :: (kSig, PCell (some (.val (.ref lS)))) :: (kMod, PCell (some (.val (.ref lM)))) :: (kNum, PCell none) :: (lF, PList (nats (fitL ns))) :: (lS, PList (aStrs ((numsOf ns).map signOf))) :: (lM, PList (aInts ((numsOf ns).map modeOf))) :: (lD, PList (out.map eIt)) :: (Z.P, PTab lamPos) :: S) (fun _ _ => by tb_start) rfl (fun j hj => by rw [List.length_map, popsF_len]; rw [nats_len] at hj; lia) (fun j a ha v hv => ?_) ?_
  · obtain ⟨k, hk, rfl⟩ := nats_get ha
    have hj : j < (fitL ns).length := (List.getElem?_eq_some_iff.mp hk).1
    refine st_loc hE' (by tb_start) (by tb_start) (by tb_start) hv (ifs_nil ?_)
    rw [if_pos rfl]
    have hsub : ∀ x ∈ heapAt rIt ⟨0, 0, 0⟩ j h0, x ∈ zs := fun x hx => hperm.subset (heapAt_sub hh hx)
    have hll := heapAt_len (r := rIt) (d := (⟨0, 0, 0⟩ : It)) j h0
    have hsucc := heapAt_succ (r := rIt) (d := (⟨0, 0, 0⟩ : It)) j h0
    have hpops := popsF_succ (r := rIt) (d := (⟨0, 0, 0⟩ : It)) j h0
    rw [hsucc, hpops]
    generalize heapAt rIt (⟨0, 0, 0⟩ : It) j h0 = hp at hsub hll ⊢
    rcases List.eq_nil_or_concat hp with rfl | ⟨ys, x, rfl⟩
    · simp at hll; lia
    · rw [List.concat_eq_append] at hsub hll ⊢
      rw [popRest_snoc]
      refine ev_CallDef Z.F_hpop.isDef <| ev_glob hE' Z.T (by tb_start) Z.g_hpop ⟨rfl, vs_cons <| ev_cell hE' (by tb_start) (by tb_start) <| vs_nil fun vs hvs => ?_⟩
      refine vrs1 hvs fun u1 r1 => ?_
      rw [List.length_append, List.length_singleton] at hll
      refine c_heappop (Sf := fun xs => _ :: _ :: _ :: (lH, PList xs) :: _) (e := eIt) (El := fun x => x ∈ zs) (lt := ltR rIt) ⟨fun _ _ => .tail (.tail (.tail .head))⟩ (ltOk_it fun x xs hx => (hz x hx).imp (fun q => by tb_start) id) Z.F_hpop Z.T Z.b_len Z.g_sd Z.g_su Z.F_su Z.F_sd r1 (by lia) hsub ?_
      cases ys with
      | nil => exact ⟨by rw [List.map_append]; rfl, by dsimp only; rw [show List.map eIt ([] : List It) = [] from rfl]; tb_start⟩
      | cons y t => exact ⟨by rw [List.map_append]; rfl, by dsimp only; tb_start⟩
  · refine ⟨_, _, rfl, ?_⟩
    rw [nats_len, ← hzl, ← hl0]
    obtain ⟨hp1, hp2⟩ := pops_all h0.length h0 rfl hh
    have hpz : (popsF rIt ⟨0, 0, 0⟩ h0.length h0).Perm zs := hp1.trans hperm
    have hdata : (popsF rIt ⟨0, 0, 0⟩ h0.length h0).map ckOf = out.map ckOf := same_data2 hpz hpm (strict_of hp2 ((hpz.map rIt).nodup_iff.mpr hnd)) hos
    have hnil : heapAt rIt (⟨0, 0, 0⟩ : It) h0.length h0 = [] := List.eq_nil_of_length_eq_zero (by rw [heapAt_len]; lia)
    rw [hnil, show List.map eIt ([] : List It) = [] from rfl]
    have hpin : ∀ x ∈ popsF rIt ⟨0, 0, 0⟩ h0.length h0, ElI S x := fun x hx => hz x (hpz.subset hx)
    generalize popsF rIt ⟨0, 0, 0⟩ h0.length h0 = ps at hdata hpin
    refine ev_loc hE (by tb_start) (by tb_start) (by tb_start) <| o_neSame (d := .list ((out.map ckOf).map itD)) (hdata ▸ DR.items (zs := ps) (by tb_start) fun x hx => (hpin x hx).imp (fun q => by tb_start) id) (DR.items (zs := out) (by tb_start) fun x hx => (ho x hx).imp (fun q => by tb_start) id) (shaped_items _) <| T1.bool ?_
    rw [if_neg (by decide)]
    refine w_Or_cons <| t_Compare <| ev_cell hE (by tb_start) (by tb_start) <| ev_List <| vs_nil ⟨by decide, fun l2 => ?_⟩
    refine o_neSame (d := .list (([] : List Int).map PyData.int)) (DR.aInts (ns := []) (show (lH, PList []) ∈ _ from by tb_start)) (DR.aInts (ns := []) (show (l2, PList []) ∈ _ from by tb_start)) (shaped_aInts []) <| T1.bool ?_
    rw [if_neg (by decide)]
    refine w_Or_nil ?_
    rw [if_neg (by decide)]
    refine x_nil ?_
    refine W.pk (S' := (L, PNs [("script", none), ("total", none), ("pattern", none), ("fit", some (.val (.ref lF))), ("due", some (.val (.ref lD)))]) :: (kMore, PCell none) :: (kBit, PCell none) :: (kHeap, PCell (some (.val (.ref lH)))) :: (kPie, PCell none) :: (kWan, PCell (some (.int ((wnOf ns : Nat) : Int)))) :: (kFol, PCell (some (.val (.bool (folOf ns))))) :: (kSig, PCell (some (.val (.ref lS)))) :: (kMod, PCell (some (.val (.ref lM)))) :: (kNum, PCell none) :: (lF, PList (nats (fitL ns))) :: (lS, PList (aStrs ((numsOf ns).map signOf))) :: (lM, PList (aInts ((numsOf ns).map modeOf))) :: (lD, PList (out.map eIt)) :: (Z.P, PTab lamPos) :: S) ?_ (by tb_start)
    refine W.wk (S' := (L, PNs [("script", none), ("total", none), ("pattern", none), ("fit", some (.val (.ref lF))), ("due", none)]) :: (kMore, PCell none) :: (kBit, PCell none) :: (kHeap, PCell none) :: (kPie, PCell none) :: (kWan, PCell (some (.int ((wnOf ns : Nat) : Int)))) :: (kFol, PCell (some (.val (.bool (folOf ns))))) :: (kSig, PCell (some (.val (.ref lS)))) :: (kMod, PCell (some (.val (.ref lM)))) :: (kNum, PCell none) :: (lF, PList (nats (fitL ns))) :: (lS, PList (aStrs ((numsOf ns).map signOf))) :: (lM, PList (aInts ((numsOf ns).map modeOf))) :: (lD, PList (out.map eIt)) :: (Z.P, PTab lamPos) :: S) ?_ (by tb_start)
    refine W.pk (S' := (L, PNs [("script", none), ("total", none), ("pattern", none), ("fit", some (.val (.ref lF))), ("due", none)]) :: (kMore, PCell none) :: (kBit, PCell none) :: (kHeap, PCell none) :: (kPie, PCell none) :: (kWan, PCell (some (.int ((wnOf ns : Nat) : Int)))) :: (kFol, PCell (some (.val (.bool (folOf ns))))) :: (kSig, PCell (some (.val (.ref lS)))) :: (kMod, PCell (some (.val (.ref lM)))) :: (kNum, PCell none) :: (lF, PList (nats (fitL ns))) :: (lS, PList (aStrs ((numsOf ns).map signOf))) :: (lM, PList (aInts ((numsOf ns).map modeOf))) :: (Z.P, PTab lamPos) :: S) ?_ (by tb_start)
    exact law6 Z hE ns
end
end
section
open PySem PySem.W PyProof.Rows PySem.Calls PySem.Spec
set_option linter.all false
set_option maxRecDepth 100000
set_option maxHeartbeats 1000000

/-! the items' numbers -/
noncomputable def ckN (ns : List Int) (k : Nat) : Int × Int := (cnt (rOf (xAt ns k) : Int) - cnt (wnOf ns : Int), (k : Int))
theorem range_getD {α : Type} (f : Nat → α) (l : List Nat) : (List.range l.length).map (fun i => f (l.getD i 0)) = l.map f := by
  refine List.ext_getElem (by simp) fun i h1 h2 => ?_
  have hi : i < l.length := by simpa using h1
  rw [List.getElem_map, List.getElem_map, List.getElem_range, List.getD_eq_getElem?_getD, List.getElem?_eq_getElem hi]; rfl
theorem fitL_nodup (ns : List Int) : (fitL ns).Nodup := List.nodup_range.filter _
theorem rank_nodup (ns : List Int) : ((fitL ns).map fun k => rank (ckN ns k)).Nodup := by
  rw [List.Nodup, List.pairwise_map]
  have h := fitL_nodup ns
  refine List.Pairwise.imp_of_mem (fun {a b} ha hb hne => ?_) h
  have h1 := (fitL_mem ha).1
  have h2 := (fitL_mem hb).1
  have := numsOf_len ns
  unfold rank ckN
  intro e
  dsimp only at e
  lia
theorem items_facts {ns : List Int} {zs : List It} (h : zs.map ckOf = (fitL ns).map (ckN ns)) : (zs.map rIt).Nodup ∧ zs.length = (fitL ns).length ∧ ∀ x ∈ zs, 0 ≤ x.k ∧ x.k < 16 := by
  refine ⟨?_, by have := congrArg List.length h; simpa using this, fun x hx => ?_⟩
  · have e : zs.map rIt = (fitL ns).map fun k => rank (ckN ns k) := by
      have := congrArg (List.map rank) h
      rw [List.map_map, List.map_map] at this
      exact this
    rw [e]; exact rank_nodup ns
  · have hm : ckOf x ∈ zs.map ckOf := List.mem_map_of_mem hx
    rw [h] at hm
    obtain ⟨k, hk, e⟩ := List.mem_map.mp hm
    have hk2 := (fitL_mem hk).1
    have := numsOf_len ns
    have e2 : x.k = (k : Int) := (congrArg Prod.snd e).symm
    lia
theorem sorted_args (x : Value) : argsOk "sorted" ⟨[x], []⟩ := by unfold argsOk; kernel_rfl
theorem lsort_args (x : Value) : argsOk "list.sort" ⟨[x], []⟩ := by unfold argsOk; kernel_rfl
theorem led_swap (X A T : Led) : (X ++ (A ++ T)).Perm (A ++ (X ++ T)) := by
  rw [← List.append_assoc, ← List.append_assoc]
  exact List.perm_append_comm.append_right T
section
variable {prog : Program} {w : World} {base : Heap} {n : Nat} {S : Led} {env : Env} {gl : List (Str × AV)} {bl : List (Str × Value)} {L kMore kBit kHeap kPie kWan kFol kSig kMod kNum : Addr}
theorem law4c (Z : LawTop prog w base gl bl) (hE : EnvOk env L ["script", "total", "pattern", "fit", "due"] [("more", kMore), ("bit", kBit), ("heap", kHeap), ("pieces", kPie), ("wanted", kWan), ("folder", kFol), ("signs", kSig), ("modes", kMod), ("numbers", kNum)] [] ["sum", "_law_pattern", "_translate", "translate", "len", "range", "sorted", "nsmallest", "nlargest", "heapify"]) (ns : List Int) {lF lS lM lD lH : Addr} {zs out : List It} (hz : ∀ x ∈ zs, ElI S x) (ho : ∀ x ∈ out, ElI S x) (hzl : zs.length = (fitL ns).length)
    (hnd : (zs.map rIt).Nodup) (hpm : (out.map ckOf).Perm (zs.map ckOf)) (hos : (out.map rIt).Pairwise (· < ·)) :
    W prog w base (n + 7) (execs ((fnBody 52).drop 13) env) ((L, PNs [("script", none), ("total", none), ("pattern", none), ("fit", some (.val (.ref lF))), ("due", some (.val (.ref lD)))]) :: (kMore, PCell none) :: (kBit, PCell none) :: (kHeap, PCell (some (.val (.ref lH)))) :: (kPie, PCell none) :: (kWan, PCell (some (.int ((wnOf ns : Nat) : Int)))) :: (kFol, PCell (some (.val (.bool (folOf ns))))) :: (kSig, PCell (some (.val (.ref lS)))) :: (kMod, PCell (some (.val (.ref lM)))) :: (kNum, PCell none) :: (lF, PList (nats (fitL ns))) :: (lS, PList (aStrs ((numsOf ns).map signOf))) :: (lM, PList (aInts ((numsOf ns).map modeOf))) :: (lD, PList (out.map eIt)) :: (lH, PList (zs.map eIt)) :: (Z.P, PTab lamPos) :: S) (RetS (LawQ Z.P)) := by
  have hF := fitL_len ns
  have hN := numsOf_len ns
  have hol : out.length = zs.length := by have := hpm.length_eq; simpa using this
  obtain ⟨so, hsp, hss⟩ := sorted_exists (r := rIt) zs hnd
  have hd : so.map ckOf = out.map ckOf := same_data2 hsp hpm hss hos
  have hsl : so.length = zs.length := hsp.length_eq
  have hsm : ∀ x ∈ so, ElI S x := fun x hx => hz x (hsp.subset hx)
  have hd2 : (so.take 2).map ckOf = (out.take 2).map ckOf := by rw [List.map_take, List.map_take, hd]
  have hd3 : (so.reverse.take 2).map ckOf = (out.reverse.take 2).map ckOf := by rw [List.map_take, List.map_take, List.map_reverse, List.map_reverse, hd]
  have hneg : (so.reverse.map fun x => - rIt x).Pairwise (· < ·) := by
    rw [List.pairwise_map, List.pairwise_reverse]
    rw [List.pairwise_map] at hss
    exact hss.imp fun h => by lia
  refine x_cons <| x_If <| t_Or <| w_Or_cons <| t_Compare <| ev_CallDef Z.F_nsm.isDef <| ev_glob hE Z.T (by tb_start) Z.g_nsm ⟨rfl, vs_cons <| ev_int <| vs_cons <| ev_cell hE (by tb_start) (by tb_start) <| vs_nil fun vs hvs => ?_⟩
  refine vrs2 hvs fun u1 r1 u2 r2 => ?_
  refine c_nsm (n := n + 1) Z.F_nsm Z.T Z.b_iter Z.b_len Z.b_sorted Z.b_zip Z.b_range Z.b_reversed Z.g_sdm Z.g_sum Z.g_hifym Z.g_hrepm Z.F_sum Z.F_sdm Z.F_hifym Z.F_hrepm (zs := zs) (so := so) (by tb_start) (fun x hx => (hz x hx).imp (fun q => by tb_start) id) (by lia) hnd hsp hss r1 r2 fun D => ?_
  refine ev_upto <| ev_loc hE (by tb_start) (by tb_start) (by tb_start) <| ev_int ⟨lD, out.map eIt, 2, rfl, rfl, .own (by tb_start), by rw [List.length_map]; lia, fun l' => ?_⟩
  rw [← List.map_take]
  refine o_neSame (d := .list (((out.take 2).map ckOf).map itD)) (hd2 ▸ DR.items (zs := so.take 2) (by tb_start) fun x hx => (hsm x (List.mem_of_mem_take hx)).imp (fun q => by tb_start) id) (DR.items (zs := out.take 2) (by tb_start) fun x hx => (ho x (List.mem_of_mem_take hx)).imp (fun q => by tb_start) id) (shaped_items _) <| T1.bool ?_
  rw [if_neg (by decide)]
  refine w_Or_cons <| t_Compare <| ev_CallDef Z.F_nlg.isDef <| ev_glob hE Z.T (by tb_start) Z.g_nlg ⟨rfl, vs_cons <| ev_int <| vs_cons <| ev_cell hE (by tb_start) (by tb_start) <| vs_nil fun vs hvs => ?_⟩
  refine vrs2 hvs fun u1 r1 u2 r2 => ?_
  refine c_nlg (n := n + 1) Z.F_nlg Z.T Z.b_iter Z.b_len Z.b_sorted Z.b_zip Z.b_range Z.b_reversed Z.g_sd Z.g_su Z.g_hify Z.g_hrep Z.F_su Z.F_sd Z.F_hify Z.F_hrep (zs := zs) (so := so.reverse) (by tb_start) (fun x hx => (hz x hx).imp (fun q => by tb_start) id) (by lia) hnd ((List.reverse_perm so).trans hsp) hneg r1 r2 fun D2 => ?_
  refine ev_Sub <| ev_rev <| ev_loc hE (by tb_start) (by tb_start) (by tb_start) <| ev_Unary <| ev_int <| o_neg ⟨lD, out.map eIt, rfl, rfl, .own (by tb_start), by rw [List.length_map]; lia, fun l2 => ?_⟩
  rw [← List.map_reverse]
  refine ev_SlUp <| ev_int ⟨2, rfl, fun sl => g_slUp (k := 2) (xs := out.reverse.map eIt) (.own (by tb_start)) List.mem_cons_self (by rw [List.length_map, List.length_reverse]; lia) fun l3 => ?_⟩
  rw [← List.map_take]
  refine o_neSame (d := .list (((out.reverse.take 2).map ckOf).map itD)) (hd3 ▸ DR.items (zs := so.reverse.take 2) (by tb_start) fun x hx => (hsm x (List.mem_reverse.mp (List.mem_of_mem_take hx))).imp (fun q => by tb_start) id) (DR.items (zs := out.reverse.take 2) (by tb_start) fun x hx => (ho x (List.mem_reverse.mp (List.mem_of_mem_take hx))).imp (fun q => by tb_start) id) (shaped_items _) <| T1.bool ?_
  rw [if_neg (by decide)]
  refine w_Or_nil ?_
  rw [if_neg (by decide)]
  refine x_nil ?_
  refine W.pk (S' := (L, PNs [("script", none), ("total", none), ("pattern", none), ("fit", some (.val (.ref lF))), ("due", some (.val (.ref lD)))]) :: (kMore, PCell none) :: (kBit, PCell none) :: (kHeap, PCell (some (.val (.ref lH)))) :: (kPie, PCell none) :: (kWan, PCell (some (.int ((wnOf ns : Nat) : Int)))) :: (kFol, PCell (some (.val (.bool (folOf ns))))) :: (kSig, PCell (some (.val (.ref lS)))) :: (kMod, PCell (some (.val (.ref lM)))) :: (kNum, PCell none) :: (lF, PList (nats (fitL ns))) :: (lS, PList (aStrs ((numsOf ns).map signOf))) :: (lM, PList (aInts ((numsOf ns).map modeOf))) :: (lD, PList (out.map eIt)) :: (lH, PList (zs.map eIt)) :: (Z.P, PTab lamPos) :: S) ?_ (by tb_start)
  exact law5 Z hE ns hz ho hzl hnd hpm hos
theorem law4b (Z : LawTop prog w base gl bl) (hE : EnvOk env L ["script", "total", "pattern", "fit", "due"] [("more", kMore), ("bit", kBit), ("heap", kHeap), ("pieces", kPie), ("wanted", kWan), ("folder", kFol), ("signs", kSig), ("modes", kMod), ("numbers", kNum)] [] ["sum", "_law_pattern", "_translate", "translate", "len", "range", "sorted", "nsmallest", "nlargest", "heapify"]) (ns : List Int) {lF lS lM lH : Addr} {zs : List It} (hz : ∀ x ∈ zs, ElI S x) (hck : zs.map ckOf = (fitL ns).map (ckN ns)) :
    W prog w base (n + 7) (execs ((fnBody 52).drop 12) env) ((L, PNs [("script", none), ("total", none), ("pattern", none), ("fit", some (.val (.ref lF))), ("due", none)]) :: (kMore, PCell none) :: (kBit, PCell none) :: (kHeap, PCell (some (.val (.ref lH)))) :: (kPie, PCell none) :: (kWan, PCell (some (.int ((wnOf ns : Nat) : Int)))) :: (kFol, PCell (some (.val (.bool (folOf ns))))) :: (kSig, PCell (some (.val (.ref lS)))) :: (kMod, PCell (some (.val (.ref lM)))) :: (kNum, PCell none) :: (lF, PList (nats (fitL ns))) :: (lS, PList (aStrs ((numsOf ns).map signOf))) :: (lM, PList (aInts ((numsOf ns).map modeOf))) :: (lH, PList (zs.map eIt)) :: (Z.P, PTab lamPos) :: S) (RetS (LawQ Z.P)) := by
  have hF := fitL_len ns
  have hN := numsOf_len ns
  obtain ⟨hnd, hzl, _⟩ := items_facts hck
  refine x_cons <| x_AssignName <| ev_CallB <| ev_blt hE Z.T (by tb_start) Z.b_sorted ⟨rfl, vs_cons <| ev_ListComp (lsC := ["k"]) (gsC := ["_law_count", "S_IMODE"]) (frs := [("modes", kMod), ("wanted", kWan)]) hE (by rfl) (by simp) ?_⟩
  refine ev_loc hE (by tb_start) (by tb_start) (by tb_start) <| it_list (xs := nats (fitL ns)) (by tb_start) fun I => ⟨I, rfl, fun S' Q' hs hq => it_liter (hs _ List.mem_cons_self) hq, fun acc C cenv hE' => ?_⟩
  refine wc_compItems (l := lF) (xs := nats (fitL ns)) (m0 := [("k", none)]) (fun i => ckN ns ((fitL ns).getD i 0)) ((L, PNs [("script", none), ("total", none), ("pattern", none), ("fit", some (.val (.ref lF))), ("due", none)]) :: (kMore, PCell none) :: (kBit, PCell none) :: (kHeap, PCell (some (.val (.ref lH)))) :: (kPie, PCell none) :: (kWan, PCell (some (.int ((wnOf ns : Nat) : Int)))) :: (kFol, PCell (some (.val (.bool (folOf ns))))) :: (kSig, PCell (some (.val (.ref lS)))) :: (kMod, PCell (some (.val (.ref lM)))) :: (kNum, PCell none) :: (lF, PList (nats (fitL ns))) :: (lS, PList (aStrs ((numsOf ns).map signOf))) :: (lM, PList (aInts ((numsOf ns).map modeOf))) :: (lH, PList (zs.map eIt)) :: (Z.P, PTab lamPos) :: S) (by tb_start) (by rw [nats_len]; lia) (fun i a ha v hv R hR => ?_) fun zs2 hl2 hck2 => ?_
  · obtain ⟨k, hk, rfl⟩ := nats_get ha
    have hkm := (fitL_mem (List.mem_of_getElem? hk)).1
    have hgk : ckN ns ((fitL ns).getD i 0) = (cnt (rOf (xAt ns k) : Int) - cnt (wnOf ns : Int), (k : Int)) := by rw [List.getD_eq_getElem?_getD, hk]; rfl
    have m1 := hR (kMod, PCell (some (.val (.ref lM)))) (by tb_start)
    have m2 := hR (kWan, PCell (some (.int ((wnOf ns : Nat) : Int)))) (by tb_start)
    have m3 := hR (lM, PList (aInts ((numsOf ns).map modeOf))) (by tb_start)
    refine st_loc hE' (by tb_start) (by tb_start) (by tb_start) hv (ifs_nil ⟨rfl, ?_⟩)
    refine ev_List <| vs_cons <| ev_BinOp <| ev_CallDef Z.F_lct.isDef <| ev_glob hE' Z.T (by tb_start) Z.g_lct ⟨rfl, vs_cons <| ev_CallDef Z.F_imode.isDef <| ev_glob hE' Z.T (by tb_start) Z.g_imode ⟨rfl, vs_cons <| ev_Sub <| ev_cell hE' (by tb_start) (by tb_start) <| ev_loc hE' (by tb_start) (by tb_start) (by tb_start) <| g_list (xs := aInts ((numsOf ns).map modeOf)) (by tb_start) (by lia) (by lia) (aInts_at (mode_get hkm)) <| vs_nil fun vs hvs => ?_⟩⟩
    refine vrs1 hvs fun u1 r1 => ?_
    refine c_imode Z.F_imode r1 ?_
    rw [rights_eq]
    refine vs_nil fun vs hvs => ?_
    refine vrs1 hvs fun u1 r1 => ?_
    refine c_count Z.F_lct Z.T Z.b_sum Z.b_range r1 <| ev_CallDef Z.F_lct.isDef <| ev_glob hE' Z.T (by tb_start) Z.g_lct ⟨rfl, vs_cons <| ev_cell hE' (by tb_start) (by tb_start) <| vs_nil fun vs hvs => ?_⟩
    refine vrs1 hvs fun u1 r1 => ?_
    refine c_count Z.F_lct Z.T Z.b_sum Z.b_range r1 <| o_sub <| vs_cons <| ev_loc hE' (by tb_start) (by tb_start) (by tb_start) <| vs_nil ⟨by show (2 : Nat) ≤ 1000; decide, fun p => ⟨p, rfl, ?_⟩⟩
    rw [hgk]
    exact (by tb_start)
  · refine ⟨_, _, rfl, vs_nil fun vs hvs => ?_⟩
    refine vrs1 hvs fun u1 r1 => ?_
    rw [nats_len, range_getD] at hck2
    obtain ⟨hnd2, hzl2, hk2⟩ := items_facts hck2
    refine W.perm (S' := (acc, PList (zs2.map eIt)) :: (L, PNs [("script", none), ("total", none), ("pattern", none), ("fit", some (.val (.ref lF))), ("due", none)]) :: (kMore, PCell none) :: (kBit, PCell none) :: (kHeap, PCell (some (.val (.ref lH)))) :: (kPie, PCell none) :: (kWan, PCell (some (.int ((wnOf ns : Nat) : Int)))) :: (kFol, PCell (some (.val (.bool (folOf ns))))) :: (kSig, PCell (some (.val (.ref lS)))) :: (kMod, PCell (some (.val (.ref lM)))) :: (kNum, PCell none) :: (lF, PList (nats (fitL ns))) :: (lS, PList (aStrs ((numsOf ns).map signOf))) :: (lM, PList (aInts ((numsOf ns).map modeOf))) :: (lH, PList (zs.map eIt)) :: (Z.P, PTab lamPos) :: (itLed zs2 ++ S)) ?_ ((led_swap (itLed zs2) [(L, PNs [("script", none), ("total", none), ("pattern", none), ("fit", some (.val (.ref lF))), ("due", none)]), (kMore, PCell none), (kBit, PCell none), (kHeap, PCell (some (.val (.ref lH)))), (kPie, PCell none), (kWan, PCell (some (.int ((wnOf ns : Nat) : Int)))), (kFol, PCell (some (.val (.bool (folOf ns))))), (kSig, PCell (some (.val (.ref lS)))), (kMod, PCell (some (.val (.ref lM)))), (kNum, PCell none), (lF, PList (nats (fitL ns))), (lS, PList (aStrs ((numsOf ns).map signOf))), (lM, PList (aInts ((numsOf ns).map modeOf))), (lH, PList (zs.map eIt)), (Z.P, PTab lamPos)] S).symm.cons _)
    have hel2 : ∀ x ∈ zs2, ElI (itLed zs2 ++ S) x := fun x hx => ⟨List.mem_append_left _ (itLed_mem hx), hk2 x hx⟩
    have hel1 : ∀ x ∈ zs, ElI (itLed zs2 ++ S) x := fun x hx => (hz x hx).imp (List.mem_append_right _) id
    refine c_sorted (kw := []) (b := false) (zs := zs2) r1 (.own List.mem_cons_self) (fun x hx => (hel2 x hx).imp (fun q => List.mem_cons_of_mem _ (by tb_start)) id) (by lia) (fun d i j hi hj hne e => ?_) (fun _ => sorted_args _) (fun _ => lsort_args _) srt_0 fun D out hop hos v hv => ?_
    · have hn := List.pairwise_iff_getElem.mp hnd2
      have ei : rIt (zs2.getD i d) = (zs2.map rIt)[i]'(by rw [List.length_map]; exact hi) := by rw [List.getElem_map, List.getD_eq_getElem?_getD, List.getElem?_eq_getElem hi]; rfl
      have ej : rIt (zs2.getD j d) = (zs2.map rIt)[j]'(by rw [List.length_map]; exact hj) := by rw [List.getElem_map, List.getD_eq_getElem?_getD, List.getElem?_eq_getElem hj]; rfl
      rw [ei, ej] at e
      rcases Nat.lt_or_gt_of_ne hne with h | h
      · exact hn i j _ _ h e
      · exact hn j i _ _ h e.symm
    · refine st_loc hE (by tb_start) (by tb_start) (by tb_start) hv ?_
      refine W.pk (S' := (L, PNs [("script", none), ("total", none), ("pattern", none), ("fit", some (.val (.ref lF))), ("due", some (.val (.ref D)))]) :: (kMore, PCell none) :: (kBit, PCell none) :: (kHeap, PCell (some (.val (.ref lH)))) :: (kPie, PCell none) :: (kWan, PCell (some (.int ((wnOf ns : Nat) : Int)))) :: (kFol, PCell (some (.val (.bool (folOf ns))))) :: (kSig, PCell (some (.val (.ref lS)))) :: (kMod, PCell (some (.val (.ref lM)))) :: (kNum, PCell none) :: (lF, PList (nats (fitL ns))) :: (lS, PList (aStrs ((numsOf ns).map signOf))) :: (lM, PList (aInts ((numsOf ns).map modeOf))) :: (D, PList (out.map eIt)) :: (lH, PList (zs.map eIt)) :: (Z.P, PTab lamPos) :: (itLed zs2 ++ S)) ?_ (by tb_start)
      refine law4c Z hE ns hel1 (fun x hx => hel2 x (hop.subset hx)) hzl hnd ((hop.map ckOf).trans ?_) (by simpa using hos)
      rw [hck, hck2]
theorem law4a (Z : LawTop prog w base gl bl) (hE : EnvOk env L ["script", "total", "pattern", "fit", "due"] [("more", kMore), ("bit", kBit), ("heap", kHeap), ("pieces", kPie), ("wanted", kWan), ("folder", kFol), ("signs", kSig), ("modes", kMod), ("numbers", kNum)] [] ["sum", "_law_pattern", "_translate", "translate", "len", "range", "sorted", "nsmallest", "nlargest", "heapify"]) (ns : List Int) {lF lS lM : Addr} :
    W prog w base (n + 7) (execs ((fnBody 52).drop 11) env) ((L, PNs [("script", none), ("total", none), ("pattern", none), ("fit", some (.val (.ref lF))), ("due", none)]) :: (kMore, PCell none) :: (kBit, PCell none) :: (kHeap, PCell none) :: (kPie, PCell none) :: (kWan, PCell (some (.int ((wnOf ns : Nat) : Int)))) :: (kFol, PCell (some (.val (.bool (folOf ns))))) :: (kSig, PCell (some (.val (.ref lS)))) :: (kMod, PCell (some (.val (.ref lM)))) :: (kNum, PCell none) :: (lF, PList (nats (fitL ns))) :: (lS, PList (aStrs ((numsOf ns).map signOf))) :: (lM, PList (aInts ((numsOf ns).map modeOf))) :: (Z.P, PTab lamPos) :: S) (RetS (LawQ Z.P)) := by
  have hF := fitL_len ns
  have hN := numsOf_len ns
  refine x_cons <| x_AssignCell hE (by tb_start) <| ev_ListComp (lsC := ["k"]) (gsC := ["len", "_law_count"]) (frs := [("signs", kSig), ("wanted", kWan)]) hE (by rfl) (by simp) ?_
  refine ev_loc hE (by tb_start) (by tb_start) (by tb_start) <| it_list (xs := nats (fitL ns)) (by tb_start) fun I => ⟨I, rfl, fun S' Q' hs hq => it_liter (hs _ List.mem_cons_self) hq, fun acc C cenv hE' => ?_⟩
  refine wc_compItems (l := lF) (xs := nats (fitL ns)) (m0 := [("k", none)]) (fun i => ckN ns ((fitL ns).getD i 0)) ((L, PNs [("script", none), ("total", none), ("pattern", none), ("fit", some (.val (.ref lF))), ("due", none)]) :: (kMore, PCell none) :: (kBit, PCell none) :: (kHeap, PCell none) :: (kPie, PCell none) :: (kWan, PCell (some (.int ((wnOf ns : Nat) : Int)))) :: (kFol, PCell (some (.val (.bool (folOf ns))))) :: (kSig, PCell (some (.val (.ref lS)))) :: (kMod, PCell (some (.val (.ref lM)))) :: (kNum, PCell none) :: (lF, PList (nats (fitL ns))) :: (lS, PList (aStrs ((numsOf ns).map signOf))) :: (lM, PList (aInts ((numsOf ns).map modeOf))) :: (Z.P, PTab lamPos) :: S) (by tb_start) (by rw [nats_len]; lia) (fun i a ha v hv R hR => ?_) fun zs hl2 hck => ?_
  · obtain ⟨k, hk, rfl⟩ := nats_get ha
    have hkm := (fitL_mem (List.mem_of_getElem? hk)).1
    have hgk : ckN ns ((fitL ns).getD i 0) = (cnt (rOf (xAt ns k) : Int) - cnt (wnOf ns : Int), (k : Int)) := by rw [List.getD_eq_getElem?_getD, hk]; rfl
    have m1 := hR (kSig, PCell (some (.val (.ref lS)))) (by tb_start)
    have m2 := hR (kWan, PCell (some (.int ((wnOf ns : Nat) : Int)))) (by tb_start)
    have m3 := hR (lS, PList (aStrs ((numsOf ns).map signOf))) (by tb_start)
    refine st_loc hE' (by tb_start) (by tb_start) (by tb_start) hv (ifs_nil ⟨rfl, ?_⟩)
    refine ev_List <| vs_cons <| ev_BinOp <| ev_CallB <| ev_blt hE' Z.T (by tb_start) Z.b_len ⟨rfl, vs_cons <| ev_ListComp (lsC := ["sign"]) (gsC := []) (frs := []) hE' (by rfl) (by simp) ?_⟩
    refine ev_Sub <| ev_Sub <| ev_cell hE' (by tb_start) (by tb_start) <| ev_loc hE' (by tb_start) (by tb_start) (by tb_start) <| g_list (xs := aStrs ((numsOf ns).map signOf)) (by tb_start) (by lia) (by lia) (aStrs_at (sign_get hkm)) <| ev_SlFrom <| ev_int ⟨1, rfl, fun sl => g_strSN List.mem_cons_self (by rw [signOf_len]; decide) ?_⟩
    rw [signOf, sign_tail]
    refine it_str (tail_ascii _) fun I2 => ⟨I2, rfl, fun S' Q' hs hq => it_striter (hs _ List.mem_cons_self) hq, fun acc2 C2 cenv2 hE2 => ?_⟩
    have hsz : (tailOf (rOf (xAt ns k))).cps.size = 9 := tailOf_len _
    refine wc_compStr (tx := tailOf (rOf (xAt ns k))) (m0 := [("sign", none)]) (fun j => aStrs (((List.range j).map (lsCh (rOf (xAt ns k) : Int))).filter fun y => inS y "rwxst")) _ rfl (fun j hj => by
      rw [aStrs_len]; have := List.length_filter_le (fun y => inS y "rwxst") ((List.range j).map (lsCh (rOf (xAt ns k) : Int))); rw [List.length_map, List.length_range] at this; lia) (fun j c hc v hv => ?_) ?_
    · obtain ⟨h9, hce⟩ := tail_at _ hc
      refine st_loc hE2 (by tb_start) (by tb_start) (by tb_start) hv ?_
      have step : ∀ b : Bool, inS (⟨#[c]⟩ : Str) "rwxst" = b → aStrs (((List.range (j + 1)).map (lsCh (rOf (xAt ns k) : Int))).filter fun y => inS y "rwxst") = aStrs (((List.range j).map (lsCh (rOf (xAt ns k) : Int))).filter fun y => inS y "rwxst") ++ (if b then [.str ⟨#[c]⟩] else []) := fun b hb => by
        rw [List.range_succ, List.map_append, List.filter_append, aStrs, aStrs, List.map_append]
        show _ ++ (([lsCh (rOf (xAt ns k) : Int) j].filter fun y => inS y "rwxst").map _) = _
        rw [← hce, List.filter_cons, hb]
        cases b <;> rfl
      refine ifs_one <| t_Compare <| ev_loc hE2 (by tb_start) (by tb_start) (by tb_start) <| ev_str <| o_in <| T1.bool ?_
      split
      · rename_i hb
        exact ev_loc hE2 (by tb_start) (by tb_start) (by tb_start) ⟨step true hb, by tb_start⟩
      · rename_i hb
        exact ⟨(step false (by simpa using hb)).trans (by simp), by tb_start⟩
    · refine ⟨_, _, rfl, vs_nil fun vs hvs => ?_⟩
      refine vrs1 hvs fun u1 r1 => ?_
      rw [hsz]
      refine c_lenList r1 (xs := aStrs (((List.range 9).map (lsCh (rOf (xAt ns k) : Int))).filter fun y => inS y "rwxst")) List.mem_cons_self (by
        rw [aStrs_len]; have := List.length_filter_le (fun y => inS y "rwxst") ((List.range 9).map (lsCh (rOf (xAt ns k) : Int))); rw [List.length_map, List.length_range] at this; lia) ?_
      rw [aStrs_len, count_eq]
      refine ev_CallDef Z.F_lct.isDef <| ev_glob hE' Z.T (by tb_start) Z.g_lct ⟨rfl, vs_cons <| ev_cell hE' (by tb_start) (by tb_start) <| vs_nil fun vs hvs => ?_⟩
      refine vrs1 hvs fun u1 r1 => ?_
      refine c_count Z.F_lct Z.T Z.b_sum Z.b_range r1 <| o_sub <| vs_cons <| ev_loc hE' (by tb_start) (by tb_start) (by tb_start) <| vs_nil ⟨by show (2 : Nat) ≤ 1000; decide, fun p => ⟨p, rfl, ?_⟩⟩
      rw [hgk]
      exact (by tb_start)
  · refine ⟨_, _, rfl, fun v hv => ?_⟩
    rw [nats_len, range_getD] at hck
    obtain ⟨hnd, hzl, hk2⟩ := items_facts hck
    refine W.perm (S' := (acc, PList (zs.map eIt)) :: (L, PNs [("script", none), ("total", none), ("pattern", none), ("fit", some (.val (.ref lF))), ("due", none)]) :: (kMore, PCell none) :: (kBit, PCell none) :: (kHeap, PCell none) :: (kPie, PCell none) :: (kWan, PCell (some (.int ((wnOf ns : Nat) : Int)))) :: (kFol, PCell (some (.val (.bool (folOf ns))))) :: (kSig, PCell (some (.val (.ref lS)))) :: (kMod, PCell (some (.val (.ref lM)))) :: (kNum, PCell none) :: (lF, PList (nats (fitL ns))) :: (lS, PList (aStrs ((numsOf ns).map signOf))) :: (lM, PList (aInts ((numsOf ns).map modeOf))) :: (Z.P, PTab lamPos) :: (itLed zs ++ S)) ?_ ((led_swap (itLed zs) [(L, PNs [("script", none), ("total", none), ("pattern", none), ("fit", some (.val (.ref lF))), ("due", none)]), (kMore, PCell none), (kBit, PCell none), (kHeap, PCell none), (kPie, PCell none), (kWan, PCell (some (.int ((wnOf ns : Nat) : Int)))), (kFol, PCell (some (.val (.bool (folOf ns))))), (kSig, PCell (some (.val (.ref lS)))), (kMod, PCell (some (.val (.ref lM)))), (kNum, PCell none), (lF, PList (nats (fitL ns))), (lS, PList (aStrs ((numsOf ns).map signOf))), (lM, PList (aInts ((numsOf ns).map modeOf))), (Z.P, PTab lamPos)] S).symm.cons _)
    refine st_cell hE (by tb_start) (by tb_start) hv ?_
    refine W.pk (S' := (L, PNs [("script", none), ("total", none), ("pattern", none), ("fit", some (.val (.ref lF))), ("due", none)]) :: (kMore, PCell none) :: (kBit, PCell none) :: (kHeap, PCell (some (.val (.ref acc)))) :: (kPie, PCell none) :: (kWan, PCell (some (.int ((wnOf ns : Nat) : Int)))) :: (kFol, PCell (some (.val (.bool (folOf ns))))) :: (kSig, PCell (some (.val (.ref lS)))) :: (kMod, PCell (some (.val (.ref lM)))) :: (kNum, PCell none) :: (lF, PList (nats (fitL ns))) :: (lS, PList (aStrs ((numsOf ns).map signOf))) :: (lM, PList (aInts ((numsOf ns).map modeOf))) :: (acc, PList (zs.map eIt)) :: (Z.P, PTab lamPos) :: (itLed zs ++ S)) ?_ (by tb_start)
    exact law4b Z hE ns (fun x hx => ⟨List.mem_append_left _ (itLed_mem hx), hk2 x hx⟩) hck
end
end
section
open PySem PySem.W PyProof.Rows PySem.Calls PySem.Spec
set_option linter.all false
set_option maxRecDepth 100000
set_option maxHeartbeats 1000000

section
variable {prog : Program} {w : World} {base : Heap} {n : Nat} {S : Led} {env : Env} {gl : List (Str × AV)} {bl : List (Str × Value)} {L kMore kBit kHeap kPie kWan kFol kSig kMod kNum : Addr}
theorem law3 (Z : LawTop prog w base gl bl) (hE : EnvOk env L ["script", "total", "pattern", "fit", "due"] [("more", kMore), ("bit", kBit), ("heap", kHeap), ("pieces", kPie), ("wanted", kWan), ("folder", kFol), ("signs", kSig), ("modes", kMod), ("numbers", kNum)] [] ["sum", "_law_pattern", "_translate", "translate", "len", "range", "sorted", "nsmallest", "nlargest", "heapify"]) (ns : List Int) {lN lM lS lP : Addr} :
    W prog w base (n + 7) (execs ((fnBody 52).drop 9) env) ((L, PNs [("script", none), ("total", none), ("pattern", none), ("fit", none), ("due", none)]) :: (kMore, PCell none) :: (kBit, PCell none) :: (kHeap, PCell none) :: (kPie, PCell (some (.val (.ref lP)))) :: (kWan, PCell (some (.int ((wnOf ns : Nat) : Int)))) :: (kFol, PCell (some (.val (.bool (folOf ns))))) :: (kSig, PCell (some (.val (.ref lS)))) :: (kMod, PCell (some (.val (.ref lM)))) :: (kNum, PCell (some (.val (.ref lN)))) :: (lN, PList (aInts (numsOf ns))) :: (lM, PList (aInts ((numsOf ns).map modeOf))) :: (lS, PList (aStrs ((numsOf ns).map signOf))) :: (lP, PList (aStrs (piecesOf (folOf ns) (wnOf ns)))) :: (Z.P, PTab lamPos) :: S) (RetS (LawQ Z.P)) := by
  have hN := numsOf_len ns
  have hF := fitL_len ns
  have hlM : (aInts ((numsOf ns).map modeOf)).length = (numsOf ns).length := by rw [aInts_len, List.length_map]
  refine x_cons <| x_AssignComp (lsC := ["k"]) (gsC := ["_law_fits"]) (frs := [("pieces", kPie), ("signs", kSig)]) hE (by tb_start) (by rfl) (by rfl) (by simp) ?_
  refine ev_CallT <| ev_blt hE Z.T (by tb_start) Z.b_range ⟨rfl, vs_cons <| ev_CallB <| ev_blt hE Z.T (by tb_start) Z.b_len ⟨rfl, vs_cons <| ev_cell hE (by tb_start) (by tb_start) <| vs_nil fun vs hvs => ?_⟩⟩
  refine vrs1 hvs fun u1 r1 => ?_
  refine c_lenList r1 (xs := aInts ((numsOf ns).map modeOf)) (by tb_start) (by lia) <| vs_nil fun vs hvs => ?_
  refine vrs1 hvs fun u1 r1 => ?_
  rw [hlM] at r1
  refine c_range1 r1 fun lr => it_rangeN (N := (numsOf ns).length) List.mem_cons_self (by lia) fun I => ⟨I, rfl, fun S' Q' hs hq => it_riter (hs _ List.mem_cons_self) hq, fun acc C cenv hE' => ?_⟩
  have hfl : ∀ j, j ≤ (numsOf ns).length → (nats ((List.range j).filter (fitP ns))).length ≤ 1000 := fun j hj => by
    rw [nats_len]; have := List.length_filter_le (fitP ns) (List.range j); rw [List.length_range] at this; lia
  have step : ∀ (j : Nat) (b : Bool), fitP ns j = b → nats ((List.range (j + 1)).filter (fitP ns)) = nats ((List.range j).filter (fitP ns)) ++ (if b then [.int ((j : Nat) : Int)] else []) := fun j b hb => by
    rw [List.range_succ, List.filter_append, nats, nats, List.map_append, List.filter_cons, hb]
    cases b <;> rfl
  refine wc_compRange (N := (numsOf ns).length) (m0 := [("k", none)]) (fun j => nats ((List.range j).filter (fitP ns))) (fun _ => _) rfl hfl (fun j hj v hv => ?_) ?_
  · refine st_loc hE' (by tb_start) (by tb_start) (by tb_start) hv ?_
    refine ifs_one <| t_val <| ev_CallDef Z.F_lft.isDef <| ev_glob hE' Z.T (by tb_start) Z.g_lft ⟨rfl, vs_cons <| ev_cell hE' (by tb_start) (by tb_start) <| vs_cons <| ev_Sub <| ev_cell hE' (by tb_start) (by tb_start) <| ev_loc hE' (by tb_start) (by tb_start) (by tb_start) <| g_list (xs := aStrs ((numsOf ns).map signOf)) (by tb_start) (by lia) (by lia) (aStrs_at (sign_get hj)) <| vs_nil fun vs hvs => ?_⟩
    refine vrs2 hvs fun u1 r1 u2 r2 => ?_
    refine c_fits Z.F_lft Z.T Z.b_range (ps := piecesOf (folOf ns) (wnOf ns)) r1 r2 (by tb_start) (pieces_len _ _) (signOf_len _) <| T1.bool ?_
    rw [fit_is]
    split
    · rename_i hb
      exact ev_loc hE' (by tb_start) (by tb_start) (by tb_start) ⟨step j true hb, by tb_start⟩
    · rename_i hb
      exact ⟨(step j false (by simpa using hb)).trans (by simp), by tb_start⟩
  · refine ⟨⟨_, _, rfl⟩, ?_⟩
    rw [show (List.range (numsOf ns).length).filter (fitP ns) = fitL ns from rfl]
    refine st_loc hE (by tb_start) (by tb_start) (by tb_start) (a := .val (.ref acc)) rfl ⟨_, _, rfl, ?_⟩
    refine W.pk (S' := (L, PNs [("script", none), ("total", none), ("pattern", none), ("fit", some (.val (.ref acc))), ("due", none)]) :: (kMore, PCell none) :: (kBit, PCell none) :: (kHeap, PCell none) :: (kPie, PCell (some (.val (.ref lP)))) :: (kWan, PCell (some (.int ((wnOf ns : Nat) : Int)))) :: (kFol, PCell (some (.val (.bool (folOf ns))))) :: (kSig, PCell (some (.val (.ref lS)))) :: (kMod, PCell (some (.val (.ref lM)))) :: (kNum, PCell (some (.val (.ref lN)))) :: (acc, PList (nats (fitL ns))) :: (lN, PList (aInts (numsOf ns))) :: (lM, PList (aInts ((numsOf ns).map modeOf))) :: (lS, PList (aStrs ((numsOf ns).map signOf))) :: (lP, PList (aStrs (piecesOf (folOf ns) (wnOf ns)))) :: (Z.P, PTab lamPos) :: S) ?_ (by tb_start)
    refine x_cons <| x_If <| t_Compare <| ev_loc hE (by tb_start) (by tb_start) (by tb_start) <| ev_ListComp (lsC := ["k"]) (gsC := ["S_IMODE"]) (frs := [("folder", kFol), ("modes", kMod), ("numbers", kNum), ("wanted", kWan)]) hE (by rfl) (by simp) ?_
    refine ev_CallT <| ev_blt hE Z.T (by tb_start) Z.b_range ⟨rfl, vs_cons <| ev_CallB <| ev_blt hE Z.T (by tb_start) Z.b_len ⟨rfl, vs_cons <| ev_cell hE (by tb_start) (by tb_start) <| vs_nil fun vs hvs => ?_⟩⟩
    refine vrs1 hvs fun u1 r1 => ?_
    refine c_lenList r1 (xs := aInts ((numsOf ns).map modeOf)) (by tb_start) (by lia) <| vs_nil fun vs hvs => ?_
    refine vrs1 hvs fun u1 r1 => ?_
    rw [hlM] at r1
    refine c_range1 r1 fun lr2 => it_rangeN (N := (numsOf ns).length) List.mem_cons_self (by lia) fun I2 => ⟨I2, rfl, fun S' Q' hs hq => it_riter (hs _ List.mem_cons_self) hq, fun acc2 C2 cenv2 hE' => ?_⟩
    refine wc_compRange (N := (numsOf ns).length) (m0 := [("k", none)]) (fun j => nats ((List.range j).filter (fitP ns))) (fun _ => _) rfl hfl (fun j hj v hv => ?_) ?_
    · refine st_loc hE' (by tb_start) (by tb_start) (by tb_start) hv ?_
      refine ifs_one <| t_AndP (b₁ := allR (wnOf ns) (rOf (xAt ns j))) (b₂ := !folOf ns || evenB (xAt ns j)) ?_ (fun _ => ?_) ?_
      · refine t_Compare <| ev_BinOp <| ev_CallDef Z.F_imode.isDef <| ev_glob hE' Z.T (by tb_start) Z.g_imode ⟨rfl, vs_cons <| ev_Sub <| ev_cell hE' (by tb_start) (by tb_start) <| ev_loc hE' (by tb_start) (by tb_start) (by tb_start) <| g_list (xs := aInts ((numsOf ns).map modeOf)) (by tb_start) (by lia) (by lia) (aInts_at (mode_get hj)) <| vs_nil fun vs hvs => ?_⟩
        refine vrs1 hvs fun u1 r1 => ?_
        refine c_imode Z.F_imode r1 ?_
        rw [rights_eq]
        refine ev_cell hE' (by tb_start) (by tb_start) <| o_and <| ev_cell hE' (by tb_start) (by tb_start) <| o_eq <| T1.bool ⟨rfl, ?_⟩
        rw [bitAndN]
        exact and_all (wn_lt ns)
      · refine t_Or <| w_Or_cons <| t_Not <| t_val <| ev_cell hE' (by tb_start) (by tb_start) <| T1.bool ?_
        cases hf : folOf ns with
        | false => exact ⟨rfl, rfl⟩
        | true =>
          rw [if_neg (by decide)]
          refine w_Or_cons <| t_Compare <| ev_BinOp <| ev_Sub <| ev_cell hE' (by tb_start) (by tb_start) <| ev_loc hE' (by tb_start) (by tb_start) (by tb_start) <| g_list (xs := aInts (numsOf ns)) (by tb_start) (by lia) (by lia) (aInts_at (xAt_get hj)) <| ev_int <| o_mod (ev_int <| o_eq <| T1.bool ?_) (by decide)
          split
          · rename_i hb
            exact ⟨rfl, hb.symm⟩
          · rename_i hb
            have hb2 : evenB (xAt ns j) = false := by simpa [evenB] using hb
            exact w_Or_nil ⟨rfl, by rw [hb2]; rfl⟩
      · show if fitP ns j = true then _ else _
        split
        · rename_i hb
          exact ev_loc hE' (by tb_start) (by tb_start) (by tb_start) ⟨step j true hb, by tb_start⟩
        · rename_i hb
          exact ⟨(step j false (by simpa using hb)).trans (by simp), by tb_start⟩
    · refine ⟨_, _, rfl, ?_⟩
      rw [show (List.range (numsOf ns).length).filter (fitP ns) = fitL ns from rfl]
      refine o_neSame (DR.nats (ns := fitL ns) (by tb_start)) (DR.nats (ns := fitL ns) (by tb_start)) (shaped_nats _) <| T1.bool ?_
      rw [if_neg (by decide)]
      refine x_nil ?_
      refine W.pk (S' := (L, PNs [("script", none), ("total", none), ("pattern", none), ("fit", some (.val (.ref acc))), ("due", none)]) :: (kMore, PCell none) :: (kBit, PCell none) :: (kHeap, PCell none) :: (kPie, PCell (some (.val (.ref lP)))) :: (kWan, PCell (some (.int ((wnOf ns : Nat) : Int)))) :: (kFol, PCell (some (.val (.bool (folOf ns))))) :: (kSig, PCell (some (.val (.ref lS)))) :: (kMod, PCell (some (.val (.ref lM)))) :: (kNum, PCell (some (.val (.ref lN)))) :: (acc, PList (nats (fitL ns))) :: (lS, PList (aStrs ((numsOf ns).map signOf))) :: (lM, PList (aInts ((numsOf ns).map modeOf))) :: (Z.P, PTab lamPos) :: S) ?_ (by tb_start)
      refine W.wk (S' := (L, PNs [("script", none), ("total", none), ("pattern", none), ("fit", some (.val (.ref acc))), ("due", none)]) :: (kMore, PCell none) :: (kBit, PCell none) :: (kHeap, PCell none) :: (kPie, PCell none) :: (kWan, PCell (some (.int ((wnOf ns : Nat) : Int)))) :: (kFol, PCell (some (.val (.bool (folOf ns))))) :: (kSig, PCell (some (.val (.ref lS)))) :: (kMod, PCell (some (.val (.ref lM)))) :: (kNum, PCell none) :: (acc, PList (nats (fitL ns))) :: (lS, PList (aStrs ((numsOf ns).map signOf))) :: (lM, PList (aInts ((numsOf ns).map modeOf))) :: (Z.P, PTab lamPos) :: S) ?_ (by tb_start)
      exact law4a Z hE ns
end
end
section
open PySem PySem.W PyProof.Rows PySem.Calls PySem.Spec
set_option linter.all false
set_option maxRecDepth 100000
set_option maxHeartbeats 1000000

section
variable {prog : Program} {w : World} {base : Heap} {n : Nat} {S : Led} {env : Env} {gl : List (Str × AV)} {bl : List (Str × Value)} {L kMore kBit kHeap kPie kWan kFol kSig kMod kNum : Addr}
theorem law2 (Z : LawTop prog w base gl bl) (hE : EnvOk env L ["script", "total", "pattern", "fit", "due"] [("more", kMore), ("bit", kBit), ("heap", kHeap), ("pieces", kPie), ("wanted", kWan), ("folder", kFol), ("signs", kSig), ("modes", kMod), ("numbers", kNum)] [] ["sum", "_law_pattern", "_translate", "translate", "len", "range", "sorted", "nsmallest", "nlargest", "heapify"]) (ns : List Int) {l0 : Addr} (hs : ∀ S, LAt base S l0 (ns.map AV.int)) {lN lM lS : Addr} :
    W prog w base (n + 7) (execs ((fnBody 52).drop 4) env) ((L, PNs [("script", some (.val (.ref l0))), ("total", none), ("pattern", none), ("fit", none), ("due", none)]) :: (kMore, PCell none) :: (kBit, PCell none) :: (kHeap, PCell none) :: (kPie, PCell none) :: (kWan, PCell none) :: (kFol, PCell none) :: (kSig, PCell (some (.val (.ref lS)))) :: (kMod, PCell (some (.val (.ref lM)))) :: (kNum, PCell (some (.val (.ref lN)))) :: (lN, PList (aInts (numsOf ns))) :: (lM, PList (aInts ((numsOf ns).map modeOf))) :: (lS, PList (aStrs ((numsOf ns).map signOf))) :: (Z.P, PTab lamPos) :: S) (RetS (LawQ Z.P)) := by
  have hN := numsOf_len ns
  have hsg := lpParts_seg (folOf ns) (wnOf ns)
  have hpl : (lpParts (folOf ns) ((wnOf ns : Nat) : Int)).length ≤ 100 := by simp [lpParts]
  have hcl : (catS (lpParts (folOf ns) ((wnOf ns : Nat) : Int))).length ≤ 40 := by
    rw [catS_len]
    have := sum_le4 (ys := lpParts (folOf ns) ((wnOf ns : Nat) : Int)) (c := 4) fun y hy => by rcases segOk_len (hsg y hy) with e | e <;> lia
    have h10 : (lpParts (folOf ns) ((wnOf ns : Nat) : Int)).length = 10 := by simp [lpParts]
    lia
  have hps : ((piecesOf (folOf ns) (wnOf ns)).map (·.length)).sum ≤ 40 := by
    have := sum_le4 (ys := piecesOf (folOf ns) (wnOf ns)) (c := 4) fun y hy => by
      obtain ⟨x, hx, rfl⟩ := List.mem_map.mp hy; exact trP_len (hsg x hx)
    rw [pieces_len] at this; lia
  have hpc : (catS (piecesOf (folOf ns) (wnOf ns))).length ≤ 40 := by rw [catS_len]; exact hps
  refine x_cons <| x_PairC hE (by tb_start) <| vs_cons <| ev_Compare <| ev_BinOp <| ev_CallB <| ev_blt hE Z.T (by tb_start) Z.b_sum ⟨rfl, vs_cons <| ev_loc hE (by tb_start) (by tb_start) (by tb_start) <| vs_nil fun vs hvs => ?_⟩
  refine vrs1 hvs fun u1 r1 => ?_
  refine c_sum r1 (hs _) <| ev_int <| o_mod (ev_int <| o_eq <| vs_cons <| ev_BinOp <| ev_CallB <| ev_blt hE Z.T (by tb_start) Z.b_sum ⟨rfl, vs_cons <| ev_loc hE (by tb_start) (by tb_start) (by tb_start) <| vs_nil fun vs hvs => ?_⟩) (by decide)
  refine vrs1 hvs fun u2 r2 => ?_
  refine c_sum r2 (hs _) <| ev_int <| o_add <| vs_nil ⟨_, _, rfl, fun t va vb ha hb => ?_⟩
  refine st_cell hE (by tb_start) (by tb_start) (a := .val (.bool (folOf ns))) ha ?_
  refine st_loc hE (by tb_start) (by tb_start) (by tb_start) hb ?_
  refine x_cons <| x_AssignName <| ev_BinOp <| ev_BinOp <| ev_int <| ev_BinOp <| ev_loc hE (by tb_start) (by tb_start) (by tb_start) <| ev_int <| o_mod ?_ (by decide)
  rw [(e1_eq ns).1]
  refine o_pow2 (by have := (e1_eq ns).2; lia) <| ev_BinOp <| ev_int <| ev_BinOp <| ev_BinOp <| ev_loc hE (by tb_start) (by tb_start) (by tb_start) <| ev_int <| o_div (ev_int <| o_mod ?_ (by decide)) (by decide) (by decide)
  rw [(e2_eq ns).1]
  refine o_pow2 (by have := (e2_eq ns).2; lia) <| o_or ?_
  rw [wn_eq]
  refine fun v hv => st_cell hE (by tb_start) (by tb_start) hv ?_
  refine x_cons <| x_AssignName <| ev_CallDef Z.F_lpt.isDef <| ev_glob hE Z.T (by tb_start) Z.g_lpt ⟨rfl, vs_cons <| ev_cell hE (by tb_start) (by tb_start) <| vs_cons <| ev_cell hE (by tb_start) (by tb_start) <| vs_nil fun vs hvs => ?_⟩
  refine vrs2 hvs fun u1 r1 u2 r2 => ?_
  refine c_lpattern Z.F_lpt Z.T Z.b_range r1 r2 fun v hv => ?_
  refine st_loc hE (by tb_start) (by tb_start) (by tb_start) hv ?_
  refine W.pk (S' := (L, PNs [("script", some (.val (.ref l0))), ("total", some (.int (ns.sum + 62))), ("pattern", some (.str (catS (lpParts (folOf ns) ((wnOf ns : Nat) : Int))))), ("fit", none), ("due", none)]) :: (kMore, PCell none) :: (kBit, PCell none) :: (kHeap, PCell none) :: (kPie, PCell none) :: (kWan, PCell (some (.int ((wnOf ns : Nat) : Int)))) :: (kFol, PCell (some (.val (.bool (folOf ns))))) :: (kSig, PCell (some (.val (.ref lS)))) :: (kMod, PCell (some (.val (.ref lM)))) :: (kNum, PCell (some (.val (.ref lN)))) :: (lN, PList (aInts (numsOf ns))) :: (lM, PList (aInts ((numsOf ns).map modeOf))) :: (lS, PList (aStrs ((numsOf ns).map signOf))) :: (Z.P, PTab lamPos) :: S) ?_ (by tb_start)
  refine x_cons <| x_AssignName <| ev_CallDef Z.F_tra.isDef <| ev_glob hE Z.T (by tb_start) Z.g_tra ⟨rfl, vs_cons <| ev_loc hE (by tb_start) (by tb_start) (by tb_start) <| vs_cons <| ev_none <| vs_cons <| ev_str <| vs_nil fun vs hvs => ?_⟩
  refine vrs3 hvs fun u1 r1 u2 r2 u3 r3 => ?_
  refine W.pk (S' := (Z.P, PTab lamPos) :: (L, PNs [("script", some (.val (.ref l0))), ("total", some (.int (ns.sum + 62))), ("pattern", some (.str (catS (lpParts (folOf ns) ((wnOf ns : Nat) : Int))))), ("fit", none), ("due", none)]) :: (kMore, PCell none) :: (kBit, PCell none) :: (kHeap, PCell none) :: (kPie, PCell none) :: (kWan, PCell (some (.int ((wnOf ns : Nat) : Int)))) :: (kFol, PCell (some (.val (.bool (folOf ns))))) :: (kSig, PCell (some (.val (.ref lS)))) :: (kMod, PCell (some (.val (.ref lM)))) :: (kNum, PCell (some (.val (.ref lN)))) :: (lN, PList (aInts (numsOf ns))) :: (lM, PList (aInts ((numsOf ns).map modeOf))) :: (lS, PList (aStrs ((numsOf ns).map signOf))) :: S) ?_ (by tb_start)
  refine c_tr Z.F_tra Z.T Z.b_len Z.g_re Z.g_esc Z.X Z.IR Z.LM Z.hcd hsg hpl r1 r2 r3 fun lP v hv => ?_
  rw [show (lpParts (folOf ns) ((wnOf ns : Nat) : Int)).map trP = piecesOf (folOf ns) (wnOf ns) from rfl]
  refine st_cell hE (by tb_start) (by tb_start) hv ?_
  refine W.pk (S' := (Z.P, PTab lamPos) :: (L, PNs [("script", some (.val (.ref l0))), ("total", some (.int (ns.sum + 62))), ("pattern", some (.str (catS (lpParts (folOf ns) ((wnOf ns : Nat) : Int))))), ("fit", none), ("due", none)]) :: (kMore, PCell none) :: (kBit, PCell none) :: (kHeap, PCell none) :: (kPie, PCell (some (.val (.ref lP)))) :: (kWan, PCell (some (.int ((wnOf ns : Nat) : Int)))) :: (kFol, PCell (some (.val (.bool (folOf ns))))) :: (kSig, PCell (some (.val (.ref lS)))) :: (kMod, PCell (some (.val (.ref lM)))) :: (kNum, PCell (some (.val (.ref lN)))) :: (lN, PList (aInts (numsOf ns))) :: (lM, PList (aInts ((numsOf ns).map modeOf))) :: (lS, PList (aStrs ((numsOf ns).map signOf))) :: (lP, PList (aStrs (piecesOf (folOf ns) (wnOf ns)))) :: S) ?_ (by tb_start)
  refine x_cons <| x_If <| t_Or <| w_Or_cons <| t_CompareP <| ev_Meth1 PySem.F.plainAttrs_str PySem.F.slot_str_join PySem.F.type_str_join <| ev_str ⟨.str, vs_cons <| ev_cell hE (by tb_start) (by tb_start) <| vs_nil fun v vs hv hvs => ?_⟩
  refine vrs1 hvs fun u1 r1 => ?_
  refine m_joinC (ys := piecesOf (folOf ns) (wnOf ns)) hv r1 (by tb_start) (by lia) ?_
  refine ev_replP (x := catS (lpParts (folOf ns) ((wnOf ns : Nat) : Int))) (by decide) (by decide) <| ev_loc hE (by tb_start) (by tb_start) (by tb_start) ⟨rfl, by lia, ?_⟩
  rw [show Txt.replace (catS (lpParts (folOf ns) ((wnOf ns : Nat) : Int))) (Str.ofString "?") (Str.ofString ".") = catS (piecesOf (folOf ns) (wnOf ns)) from replace_pieces hsg]
  refine o_sne <| T1.bool ?_
  rw [show (catS (piecesOf (folOf ns) (wnOf ns)) != catS (piecesOf (folOf ns) (wnOf ns))) = false by simp, if_neg (by decide)]
  refine w_Or_cons <| t_Compare <| ev_CallDef Z.F_trn.isDef <| ev_glob hE Z.T (by tb_start) Z.g_trn ⟨rfl, vs_cons <| ev_loc hE (by tb_start) (by tb_start) (by tb_start) <| vs_nil fun vs hvs => ?_⟩
  refine vrs1 hvs fun u1 r1 => ?_
  refine c_trn Z.F_trn Z.T Z.b_object Z.g_tra Z.g_jta Z.F_tra Z.F_jta Z.b_len Z.g_re Z.g_esc Z.X Z.IR Z.LM Z.hcd hsg hpl r1 ?_
  rw [show (lpParts (folOf ns) ((wnOf ns : Nat) : Int)).map trP = piecesOf (folOf ns) (wnOf ns) from rfl]
  refine ev_BinOp <| ev_BinOp <| ev_str <| ev_Meth1 PySem.F.plainAttrs_str PySem.F.slot_str_join PySem.F.type_str_join <| ev_str ⟨.str, vs_cons <| ev_cell hE (by tb_start) (by tb_start) <| vs_nil fun v vs hv hvs => ?_⟩
  refine vrs1 hvs fun u1 r1 => ?_
  have q1 : (Str.ofString "(?s:").length = 4 := rfl
  have q2 : (Str.ofString ")\\Z").length = 3 := rfl
  refine m_joinC (ys := piecesOf (folOf ns) (wnOf ns)) hv r1 (by tb_start) (by lia) <| o_sadd (ev_str <| o_sadd (o_sne <| T1.bool ?_) (by rw [Str.length_append]; lia)) (by lia)
  rw [show (jtText (piecesOf (folOf ns) (wnOf ns)) != Str.ofString "(?s:" ++ catS (piecesOf (folOf ns) (wnOf ns)) ++ Str.ofString ")\\Z") = false by unfold jtText; simp, if_neg (by decide)]
  refine w_Or_cons <| t_Compare <| ev_CallB <| ev_blt hE Z.T (by tb_start) Z.b_len ⟨rfl, vs_cons <| ev_cell hE (by tb_start) (by tb_start) <| vs_nil fun vs hvs => ?_⟩
  refine vrs1 hvs fun u1 r1 => ?_
  refine c_lenList r1 (xs := aStrs (piecesOf (folOf ns) (wnOf ns))) (by tb_start) (by rw [aStrs_len, pieces_len]; decide) ?_
  rw [aStrs_len, pieces_len]
  refine ev_int <| o_ne <| T1.bool ?_
  rw [show ((((10 : Nat) : Int)) != 10) = false from rfl, if_neg (by decide)]
  refine w_Or_nil ?_
  rw [if_neg (by decide)]
  refine x_nil ?_
  refine W.pk (S' := (L, PNs [("script", some (.val (.ref l0))), ("total", some (.int (ns.sum + 62))), ("pattern", some (.str (catS (lpParts (folOf ns) ((wnOf ns : Nat) : Int))))), ("fit", none), ("due", none)]) :: (kMore, PCell none) :: (kBit, PCell none) :: (kHeap, PCell none) :: (kPie, PCell (some (.val (.ref lP)))) :: (kWan, PCell (some (.int ((wnOf ns : Nat) : Int)))) :: (kFol, PCell (some (.val (.bool (folOf ns))))) :: (kSig, PCell (some (.val (.ref lS)))) :: (kMod, PCell (some (.val (.ref lM)))) :: (kNum, PCell (some (.val (.ref lN)))) :: (lN, PList (aInts (numsOf ns))) :: (lM, PList (aInts ((numsOf ns).map modeOf))) :: (lS, PList (aStrs ((numsOf ns).map signOf))) :: (lP, PList (aStrs (piecesOf (folOf ns) (wnOf ns)))) :: (Z.P, PTab lamPos) :: S) ?_ (by tb_start)
  refine W.wk (S' := (L, PNs [("script", none), ("total", none), ("pattern", none), ("fit", none), ("due", none)]) :: (kMore, PCell none) :: (kBit, PCell none) :: (kHeap, PCell none) :: (kPie, PCell (some (.val (.ref lP)))) :: (kWan, PCell (some (.int ((wnOf ns : Nat) : Int)))) :: (kFol, PCell (some (.val (.bool (folOf ns))))) :: (kSig, PCell (some (.val (.ref lS)))) :: (kMod, PCell (some (.val (.ref lM)))) :: (kNum, PCell (some (.val (.ref lN)))) :: (lN, PList (aInts (numsOf ns))) :: (lM, PList (aInts ((numsOf ns).map modeOf))) :: (lS, PList (aStrs ((numsOf ns).map signOf))) :: (lP, PList (aStrs (piecesOf (folOf ns) (wnOf ns)))) :: (Z.P, PTab lamPos) :: S) ?_ (by tb_start)
  exact law3 Z hE ns
end
end
section
open PySem PySem.W PyProof.Rows PySem.Calls PySem.Spec
set_option linter.all false
set_option maxRecDepth 100000
set_option maxHeartbeats 1000000

theorem len_nine {α : Type} : ∀ {l : List α}, l.length = 9 → ∃ a b c d e f g h i, l = [a, b, c, d, e, f, g, h, i]
  | [a, b, c, d, e, f, g, h, i], _ => ⟨a, b, c, d, e, f, g, h, i, rfl⟩
section
variable {prog : Program} {w : World} {base : Heap} {n : Nat} {S : Led} {env : Env} {gl : List (Str × AV)} {bl : List (Str × Value)} {L kMore kBit kHeap kPie kWan kFol kSig kMod kNum : Addr}
theorem law1b (Z : LawTop prog w base gl bl) (hE : EnvOk env L ["script", "total", "pattern", "fit", "due"] [("more", kMore), ("bit", kBit), ("heap", kHeap), ("pieces", kPie), ("wanted", kWan), ("folder", kFol), ("signs", kSig), ("modes", kMod), ("numbers", kNum)] [] ["sum", "_law_pattern", "_translate", "translate", "len", "range", "sorted", "nsmallest", "nlargest", "heapify"]) (ns : List Int) {l0 : Addr} (hs : ∀ S, LAt base S l0 (ns.map AV.int)) {lN : Addr} :
    W prog w base (n + 7) (execs ((fnBody 52).drop 1) env) ((L, PNs [("script", some (.val (.ref l0))), ("total", none), ("pattern", none), ("fit", none), ("due", none)]) :: (kMore, PCell none) :: (kBit, PCell none) :: (kHeap, PCell none) :: (kPie, PCell none) :: (kWan, PCell none) :: (kFol, PCell none) :: (kSig, PCell none) :: (kMod, PCell none) :: (kNum, PCell (some (.val (.ref lN)))) :: (lN, PList (aInts (numsOf ns))) :: (Z.P, PTab lamPos) :: S) (RetS (LawQ Z.P)) := by
  have hN := numsOf_len ns
  refine x_cons <| x_AssignCell hE (by tb_start) <| ev_ListComp (lsC := ["x"]) (gsC := []) (frs := []) hE (by rfl) (by simp) ?_
  refine ev_cell hE (by tb_start) (by tb_start) <| it_list (xs := aInts (numsOf ns)) (by tb_start) fun I => ⟨I, rfl, fun S' Q' hs hq => it_liter (hs _ List.mem_cons_self) hq, fun acc C cenv hE' => ?_⟩
  refine wc_compList (l := lN) (xs := aInts (numsOf ns)) (m0 := [("x", none)]) (fun j => aInts (((numsOf ns).take j).map modeOf)) (fun _ => _) (fun _ _ => by tb_start) rfl (fun j hj => by rw [aInts_len, List.length_map, List.length_take]; lia) (fun j a ha v hv => ?_) ?_
  · obtain ⟨x, hx, rfl⟩ := nums_get ha
    refine st_loc hE' (by tb_start) (by tb_start) (by tb_start) hv (ifs_nil ?_)
    rw [if_pos rfl]
    have step : aInts (((numsOf ns).take (j + 1)).map modeOf) = aInts (((numsOf ns).take j).map modeOf) ++ [.int (modeOf x)] := by rw [take_map_succ hx, aInts_snoc]
    have hm := mode_eq x
    refine ev_BinOp <| ev_IfExp <| t_Compare <| ev_BinOp <| ev_loc hE' (by tb_start) (by tb_start) (by tb_start) <| ev_int <| o_mod (ev_int <| o_eq <| T1.bool ?_) (by decide)
    split
    · rename_i hb
      rw [if_pos hb] at hm
      refine ev_int <| ev_BinOp <| ev_BinOp <| ev_loc hE' (by tb_start) (by tb_start) (by tb_start) <| ev_int <| o_div (ev_int <| o_mod (o_add ⟨?_, by tb_start⟩) (by decide)) (by decide) (by decide)
      rw [hm]; exact step
    · rename_i hb
      rw [if_neg hb] at hm
      refine ev_int <| ev_BinOp <| ev_BinOp <| ev_loc hE' (by tb_start) (by tb_start) (by tb_start) <| ev_int <| o_div (ev_int <| o_mod (o_add ⟨?_, by tb_start⟩) (by decide)) (by decide) (by decide)
      rw [hm]; exact step
  · refine ⟨_, _, rfl, fun v hv => ?_⟩
    rw [aInts_len, List.take_length]
    refine st_cell hE (by tb_start) (by tb_start) hv ?_
    refine W.pk (S' := (L, PNs [("script", some (.val (.ref l0))), ("total", none), ("pattern", none), ("fit", none), ("due", none)]) :: (kMore, PCell none) :: (kBit, PCell none) :: (kHeap, PCell none) :: (kPie, PCell none) :: (kWan, PCell none) :: (kFol, PCell none) :: (kSig, PCell none) :: (kMod, PCell (some (.val (.ref acc)))) :: (kNum, PCell (some (.val (.ref lN)))) :: (lN, PList (aInts (numsOf ns))) :: (acc, PList (aInts ((numsOf ns).map modeOf))) :: (Z.P, PTab lamPos) :: S) ?_ (by tb_start)
    generalize acc = lM
    refine x_cons <| x_AssignCell hE (by tb_start) <| ev_ListComp (lsC := ["mode"]) (gsC := ["filemode"]) (frs := []) hE (by rfl) (by simp) ?_
    refine ev_cell hE (by tb_start) (by tb_start) <| it_list (xs := aInts ((numsOf ns).map modeOf)) (by tb_start) fun I => ⟨I, rfl, fun S' Q' hs hq => it_liter (hs _ List.mem_cons_self) hq, fun acc C cenv hE' => ?_⟩
    refine wc_compList (l := lM) (xs := aInts ((numsOf ns).map modeOf)) (m0 := [("mode", none)]) (fun j => aStrs (((numsOf ns).take j).map signOf)) (fun _ => _) (fun _ _ => by tb_start) rfl (fun j hj => by rw [aStrs_len, List.length_map, List.length_take]; lia) (fun j a ha v hv => ?_) ?_
    · obtain ⟨y, hy, rfl⟩ := nums_get ha
      rw [List.getElem?_map] at hy
      obtain ⟨x, hx, rfl⟩ := Option.map_eq_some_iff.mp hy
      refine st_loc hE' (by tb_start) (by tb_start) (by tb_start) hv (ifs_nil ?_)
      rw [if_pos rfl]
      refine ev_CallDef Z.F_fmode.isDef <| ev_glob hE' Z.T (by tb_start) Z.g_fmode ⟨rfl, vs_cons <| ev_loc hE' (by tb_start) (by tb_start) (by tb_start) <| vs_nil fun vs hvs => ?_⟩
      refine vrs1 hvs fun u1 r1 => ?_
      refine c_filemode Z.F_fmode Z.T Z.b_enumerate Z.g_ftb Z.g_ifmt Z.F_ifmt Z.B r1 ⟨?_, by tb_start⟩
      rw [sign_eq Z.hrows, take_map_succ hx, aStrs_snoc]
    · refine ⟨_, _, rfl, fun v hv => ?_⟩
      rw [aInts_len, List.length_map, List.take_length]
      refine st_cell hE (by tb_start) (by tb_start) hv ?_
      refine W.pk (S' := (L, PNs [("script", some (.val (.ref l0))), ("total", none), ("pattern", none), ("fit", none), ("due", none)]) :: (kMore, PCell none) :: (kBit, PCell none) :: (kHeap, PCell none) :: (kPie, PCell none) :: (kWan, PCell none) :: (kFol, PCell none) :: (kSig, PCell (some (.val (.ref acc)))) :: (kMod, PCell (some (.val (.ref lM)))) :: (kNum, PCell (some (.val (.ref lN)))) :: (lN, PList (aInts (numsOf ns))) :: (lM, PList (aInts ((numsOf ns).map modeOf))) :: (acc, PList (aStrs ((numsOf ns).map signOf))) :: (Z.P, PTab lamPos) :: S) ?_ (by tb_start)
      generalize acc = lS
      refine x_cons <| x_If <| t_Or <| w_Or_cons <| t_Compare <| ev_cell hE (by tb_start) (by tb_start) <| ev_ListComp (lsC := ["x"]) (gsC := ["_law_signs"]) (frs := []) hE (by rfl) (by simp) ?_
      refine ev_cell hE (by tb_start) (by tb_start) <| it_list (xs := aInts (numsOf ns)) (by tb_start) fun I => ⟨I, rfl, fun S' Q' hs hq => it_liter (hs _ List.mem_cons_self) hq, fun acc C cenv hE' => ?_⟩
      refine wc_compList (l := lN) (xs := aInts (numsOf ns)) (m0 := [("x", none)]) (fun j => aStrs (((numsOf ns).take j).map signOf)) (fun _ => _) (fun _ _ => by tb_start) rfl (fun j hj => by rw [aStrs_len, List.length_map, List.length_take]; lia) (fun j a ha v hv => ?_) ?_
      · obtain ⟨x, hx, rfl⟩ := nums_get ha
        refine st_loc hE' (by tb_start) (by tb_start) (by tb_start) hv (ifs_nil ?_)
        rw [if_pos rfl]
        refine ev_CallDef Z.F_lsg.isDef <| ev_glob hE' Z.T (by tb_start) Z.g_lsg ⟨rfl, vs_cons <| ev_Compare <| ev_BinOp <| ev_loc hE' (by tb_start) (by tb_start) (by tb_start) <| ev_int <| o_mod (ev_int <| o_eq <| vs_cons <| ev_BinOp <| ev_BinOp <| ev_loc hE' (by tb_start) (by tb_start) (by tb_start) <| ev_int <| o_div (ev_int <| o_mod (vs_nil fun vs hvs => ?_) (by decide)) (by decide) (by decide)) (by decide)⟩
        refine vrs2 hvs fun u1 r1 u2 r2 => ?_
        rw [rOf_eq] at r2
        refine c_lsigns Z.F_lsg Z.T Z.b_range r1 r2 ⟨?_, by tb_start⟩
        rw [take_map_succ hx, aStrs_snoc]; rfl
      · refine ⟨_, _, rfl, ?_⟩
        rw [aInts_len, List.take_length]
        refine o_neSame (DR.aStrs (ps := (numsOf ns).map signOf) (by tb_start)) (DR.aStrs (ps := (numsOf ns).map signOf) (by tb_start)) (shaped_strs (signs_ok ns)) <| T1.bool ?_
        rw [if_neg (by decide)]
        refine w_Or_cons <| t_Compare <| ev_ListComp (lsC := ["mode"]) (gsC := ["S_ISDIR"]) (frs := []) hE (by rfl) (by simp) ?_
        refine ev_cell hE (by tb_start) (by tb_start) <| it_list (xs := aInts ((numsOf ns).map modeOf)) (by tb_start) fun I => ⟨I, rfl, fun S' Q' hs hq => it_liter (hs _ List.mem_cons_self) hq, fun acc2 C cenv hE' => ?_⟩
        refine wc_compList (l := lM) (xs := aInts ((numsOf ns).map modeOf)) (m0 := [("mode", none)]) (fun j => (((numsOf ns).take j).map evenB).map fun b => AV.val (.bool b)) (fun _ => _) (fun _ _ => by tb_start) rfl (fun j hj => by rw [List.length_map, List.length_map, List.length_take]; lia) (fun j a ha v hv => ?_) ?_
        · obtain ⟨y, hy, rfl⟩ := nums_get ha
          rw [List.getElem?_map] at hy
          obtain ⟨x, hx, rfl⟩ := Option.map_eq_some_iff.mp hy
          refine st_loc hE' (by tb_start) (by tb_start) (by tb_start) hv (ifs_nil ?_)
          rw [if_pos rfl]
          refine ev_CallDef Z.F_isdir.isDef <| ev_glob hE' Z.T (by tb_start) Z.g_isdir ⟨rfl, vs_cons <| ev_loc hE' (by tb_start) (by tb_start) (by tb_start) <| vs_nil fun vs hvs => ?_⟩
          refine vrs1 hvs fun u1 r1 => ?_
          refine c_isdir Z.F_isdir Z.T Z.g_ifmt Z.g_dir Z.F_ifmt r1 ⟨?_, by tb_start⟩
          rw [isdir_eq, take_map_succ hx, List.map_append]; rfl
        · refine ⟨_, _, rfl, ?_⟩
          rw [aInts_len, List.length_map, List.take_length]
          refine ev_ListComp (lsC := ["x"]) (gsC := []) (frs := []) hE (by rfl) (by simp) ?_
          refine ev_cell hE (by tb_start) (by tb_start) <| it_list (xs := aInts (numsOf ns)) (by tb_start) fun I => ⟨I, rfl, fun S' Q' hs hq => it_liter (hs _ List.mem_cons_self) hq, fun acc3 C cenv hE' => ?_⟩
          refine wc_compList (l := lN) (xs := aInts (numsOf ns)) (m0 := [("x", none)]) (fun j => (((numsOf ns).take j).map evenB).map fun b => AV.val (.bool b)) (fun _ => _) (fun _ _ => by tb_start) rfl (fun j hj => by rw [List.length_map, List.length_map, List.length_take]; lia) (fun j a ha v hv => ?_) ?_
          · obtain ⟨x, hx, rfl⟩ := nums_get ha
            refine st_loc hE' (by tb_start) (by tb_start) (by tb_start) hv (ifs_nil ?_)
            rw [if_pos rfl]
            refine ev_Compare <| ev_BinOp <| ev_loc hE' (by tb_start) (by tb_start) (by tb_start) <| ev_int <| o_mod (ev_int <| o_eq ⟨?_, by tb_start⟩) (by decide)
            rw [take_map_succ hx, List.map_append]; rfl
          · refine ⟨_, _, rfl, ?_⟩
            rw [aInts_len, List.take_length]
            refine o_neSame (DR.aBools (bs := (numsOf ns).map evenB) (by tb_start)) (DR.aBools (bs := (numsOf ns).map evenB) (by tb_start)) (shaped_bools _) <| T1.bool ?_
            rw [if_neg (by decide)]
            refine w_Or_nil ?_
            rw [if_neg (by decide)]
            refine x_nil ?_
            refine W.pk (S' := (L, PNs [("script", some (.val (.ref l0))), ("total", none), ("pattern", none), ("fit", none), ("due", none)]) :: (kMore, PCell none) :: (kBit, PCell none) :: (kHeap, PCell none) :: (kPie, PCell none) :: (kWan, PCell none) :: (kFol, PCell none) :: (kSig, PCell (some (.val (.ref lS)))) :: (kMod, PCell (some (.val (.ref lM)))) :: (kNum, PCell (some (.val (.ref lN)))) :: (lN, PList (aInts (numsOf ns))) :: (lM, PList (aInts ((numsOf ns).map modeOf))) :: (lS, PList (aStrs ((numsOf ns).map signOf))) :: (Z.P, PTab lamPos) :: S) ?_ (by tb_start)
            exact law2 Z hE ns hs
theorem sig_law : sigOk (fnScope 52) ["script"] ["script", "total", "pattern", "fit", "due"] ["more", "bit", "heap", "pieces", "wanted", "folder", "signs", "modes", "numbers"] ["sum", "_law_pattern", "_translate", "translate", "len", "range", "sorted", "nsmallest", "nlargest", "heapify"] = true := by rfl
theorem c_law {a l0 : Addr} (Z : LawTop prog w base gl bl) (F : FnIs base a (fnScope 52) ["script"] (fnBody 52) []) (ns : List Int) (hns : ns.length ≤ 63) (hs : ∀ S, LAt base S l0 (ns.map AV.int)) {v : Value} (hv : VR (.val (.ref l0)) v) :
    WV prog w base (n + 8) (call (.ref a) [v]) ((Z.P, PTab lamPos) :: S) (LawQ Z.P) := by
  refine c_call F (das := []) rfl sig_law (args := [.val (.ref l0)]) ⟨v, [], rfl, hv, rfl⟩ rfl fun env L ads hlen hE => ?_
  obtain ⟨kMore, kBit, kHeap, kPie, kWan, kFol, kSig, kMod, kNum, rfl⟩ := len_nine hlen
  replace hE : EnvOk env L ["script", "total", "pattern", "fit", "due"] [("more", kMore), ("bit", kBit), ("heap", kHeap), ("pieces", kPie), ("wanted", kWan), ("folder", kFol), ("signs", kSig), ("modes", kMod), ("numbers", kNum)] [] ["sum", "_law_pattern", "_translate", "translate", "len", "range", "sorted", "nsmallest", "nlargest", "heapify"] := hE
  show W prog w base (n + 7) (execs (fnBody 52) env) ((L, PNs [("script", some (.val (.ref l0))), ("total", none), ("pattern", none), ("fit", none), ("due", none)]) :: (kMore, PCell none) :: (kBit, PCell none) :: (kHeap, PCell none) :: (kPie, PCell none) :: (kWan, PCell none) :: (kFol, PCell none) :: (kSig, PCell none) :: (kMod, PCell none) :: (kNum, PCell none) :: (Z.P, PTab lamPos) :: S) (RetS (LawQ Z.P))
  refine x_cons <| x_AssignName <| ev_BinOp <| ev_upto <| ev_loc hE (by tb_start) (by tb_start) (by tb_start) <| ev_int ⟨l0, ns.map AV.int, 8, rfl, rfl, hs _, by rw [List.length_map]; lia, fun l1 => ?_⟩
  refine ev_List <| vs_cons <| ev_int <| vs_cons <| ev_int <| vs_cons <| ev_int <| vs_cons <| ev_int <| vs_cons <| ev_int <| vs_cons <| ev_int <| vs_cons <| ev_int <| vs_nil ⟨by show (7 : Nat) ≤ 1000; decide, fun l2 => ?_⟩
  have hnum : (ns.map AV.int).take 8 ++ [AV.int 986, .int 1002, .int 843, .int 7101, .int 512, .int 840, .int 4090] = aInts (numsOf ns) := by
    unfold numsOf aInts
    rw [List.map_append, List.map_take]; rfl
  refine o_ladd (by tb_start) (by tb_start) (by rw [List.length_take, List.length_map]; show _ + 7 ≤ 1000; lia) fun l3 => ?_
  rw [hnum]
  refine fun v hv => st_cell hE (by tb_start) (by tb_start) hv ?_
  refine W.pk (S' := (L, PNs [("script", some (.val (.ref l0))), ("total", none), ("pattern", none), ("fit", none), ("due", none)]) :: (kMore, PCell none) :: (kBit, PCell none) :: (kHeap, PCell none) :: (kPie, PCell none) :: (kWan, PCell none) :: (kFol, PCell none) :: (kSig, PCell none) :: (kMod, PCell none) :: (kNum, PCell (some (.val (.ref l3)))) :: (l3, PList (aInts (numsOf ns))) :: (Z.P, PTab lamPos) :: S) ?_ (by tb_start)
  exact law1b Z hE ns hs
end
end
section
open PySem PySem.W PyProof.Rows PySem.Calls PySem.Spec
set_option linter.all false
set_option maxRecDepth 100000
set_option maxHeartbeats 8000000
/-! the head: the kernel alone runs the top and looks at the heap behind it -/
noncomputable abbrev pw : Program := PySem.Challenge.pw_rx0117_01
noncomputable def qv : Program := view pw [52]
noncomputable def loose0 : List Str := pw.boundNames.filter (· != "law")
noncomputable def fnPar (k : Nat) : Arguments := match fnStmt k with | .FunctionDef _ p _ _ _ _ _ _ _ _ => p | _ => default
noncomputable def lawD : DefRec := ⟨"law", fnPar 52, fnBody 52, fnScope 52, match fnStmt 52 with | .FunctionDef _ _ _ _ _ _ _ _ _ p => p | _ => default⟩
noncomputable abbrev XtO (s : Shared) : Bool := xlAt qv [] s && recOk [] s
theorem q_def : defOf qv "law" = some (lawD, []) := by kernel_rfl
theorem q_the : pw.theDef "law" = some (fnPar 52, fnBody 52, fnScope 52) := by kernel_rfl
theorem q_ok : (chainsOk qv && opensWell pw && (frees PySem.Challenge.rw_rx0117_01.row.toRowW && PySem.Challenge.rw_rx0117_01.row.toRowW.within.isEmpty)) = true := by kernel_rfl
theorem q_bare : pw.bare := ⟨rfl, rfl, rfl, rfl, rfl, by decide +kernel⟩
theorem q_wit : PySem.Challenge.rw_rx0117_01.row.toRowW.promised := ⟨[.list []], by decide +kernel, by decide +kernel⟩
theorem ql1 : (sreFenced pw.main && ((moduleNames pw.main.body).isEmpty || lookedIntoSs (moduleNames pw.main.body) pw.main.body)) = true := by
  rw [Fast.te11788848310118352699, Fast.te9807087744658564304, Fast.te12862048085361865435]; kernel_rfl
theorem ql2 : namesResolve pw = true := by rw [Fast.te8377067652309620493]; kernel_rfl
theorem ql3 : (pw.boundNames.all fun n => !worldNames.contains n) = true := by rw [Fast.te18344453789297297638, Fast.te14412699480532031325]; kernel_rfl
theorem ql4 : noRoadLSs { strict := !(importedModules pw.main.body).all cThrough.contains, foot := none, bare := (["vars", "dir", "locals"] : List Str).filter (readsOut pw pw.main.body) } pw.main.body = true := by
  rw [Fast.te8326940854005059898, Fast.te5923862056798008813, Fast.te13343964577679436407]; kernel_rfl
theorem ql5 : (namesMeet pw pw.main.body fun _ n => attrL n) = true := by rw [Fast.te17119622794617984870, Fast.te17868728402115742887]; kernel_rfl
theorem q_looks : looksOpen pw = true := by
  unfold looksOpen
  rw [ql1, ql2, ql3, ql4, ql5]; rfl
theorem q_part : PySem.Challenge.rw_rx0117_01.row.partSaid = true := by
  rw [Fast.te2436336058641802641]
  unfold Fast.tw2436336058641802641
  rw [← Fast.te12908688711261696721, show looksOpen PySem.Challenge.rw_rx0117_01.row.prog = true from q_looks]
  kernel_rfl
theorem q_said : PySem.Challenge.rw_rx0117_01.wellSaid = true := by
  rw [Fast.te9446332074065402090]
  unfold Fast.tw9446332074065402090
  rw [← Fast.te17960256430627541270, ← Fast.te2368527892694137696]
  unfold OpenRow.wellSaid
  rw [q_part]
  kernel_rfl
/-- a def as it stands -/
noncomputable def fnSee (h : Heap) (a : Addr) : Option (FuncBody × Scope × Arguments × Addr × Addr × List (Str × Addr) × Value × Value × Value × Str) := match h.get? a with
  | some o => (match o.data with | .func fd => some (fd.body, fd.scope, fd.params, fd.globals, fd.builtins, fd.closure, fd.code, fd.defaults, fd.kwdefaults, fd.qualname) | _ => none)
  | none => none
noncomputable def cdSee (h : Heap) (c : Addr) : Option Str := match h.get? c with
  | some o => (match o.data with | .fields vs => (match (vs[1]? : Option Value) with | some (.str q _) => some q | _ => none) | _ => none)
  | none => none
noncomputable def mapSee (h : Heap) (c : Addr) : Option (Value × Option Addr × Array (Option Value) × Bool) := match h.get? c with
  | some o => (match o.data with | .dict es _ => some (o.cls, o.dict, o.slots, es.toList.all fun e => match e.key with | .int i _ => decide (e.hash = hashInt i) && decide (i ≠ 100) && decide (i ≠ 114) && decide (i ≠ 119) | _ => false) | _ => none)
  | none => none
/-- name, address, which statement, defaults -/
noncomputable def topFns : List (Str × Addr × Nat × Value) := [("S_IMODE", 38, 2, .none), ("S_IFMT", 45, 3, .none), ("S_ISDIR", 52, 11, .none), ("filemode", 92, 25, .none), ("translate", 104, 28, .none), ("escape", 116, 31, .none), ("_translate", 123, 33, .none), ("_join_translated_parts", 130, 34, .none), ("heappop", 137, 36, .none), ("heapreplace", 144, 37, .none), ("heapify", 151, 38, .none), ("_heapreplace_max", 158, 39, .none), ("_heapify_max", 165, 40, .none), ("_siftdown", 172, 41, .none), ("_siftup", 179, 42, .none), ("_siftdown_max", 186, 43, .none), ("_siftup_max", 193, 44, .none), ("nsmallest", 199, 45, .ref 194), ("nlargest", 205, 46, .ref 200), ("_law_signs", 212, 48, .none), ("_law_pattern", 217, 49, .none), ("_law_fits", 222, 50, .none), ("_law_count", 227, 51, .none), ("law", 232, 52, .none)]
noncomputable def topVals : List (Str × Value) := [("S_IFDIR", .int 16384 298), ("_filemode_table", .ref 85), ("_twin_re_1", .ref 97), ("_special_chars_map", .ref 106), ("__builtins__", .ref 4)]
noncomputable def topBl : List (Str × Value) := [("sum", .builtin "sum"), ("range", .type "range"), ("len", .builtin "len"), ("sorted", .builtin "sorted"), ("enumerate", .type "enumerate"), ("object", .type "object"), ("iter", .builtin "iter"), ("zip", .type "zip"), ("reversed", .type "reversed"), ("isinstance", .builtin "isinstance"), ("str", .type "str")]
noncomputable def topObs : List (Addr × Obj) := [(53, ⟨.type "tuple", none, .seq #[.int 40960 308, .str "l" 343], #[]⟩),
  (54, ⟨.type "tuple", none, .seq #[.int 49152 310, .str "s" 344], #[]⟩),
  (55, ⟨.type "tuple", none, .seq #[.int 32768 304, .str "-" 345], #[]⟩),
  (56, ⟨.type "tuple", none, .seq #[.int 24576 302, .str "b" 346], #[]⟩),
  (57, ⟨.type "tuple", none, .seq #[.int 16384 298, .str "d" 347], #[]⟩),
  (58, ⟨.type "tuple", none, .seq #[.int 8192 300, .str "c" 348], #[]⟩),
  (59, ⟨.type "tuple", none, .seq #[.int 4096 306, .str "p" 349], #[]⟩),
  (60, ⟨.type "tuple", none, .seq #[.ref 53, .ref 54, .ref 55, .ref 56, .ref 57, .ref 58, .ref 59], #[]⟩),
  (61, ⟨.type "tuple", none, .seq #[.int 256 325, .str "r" 350], #[]⟩),
  (62, ⟨.type "tuple", none, .seq #[.ref 61], #[]⟩),
  (63, ⟨.type "tuple", none, .seq #[.int 128 327, .str "w" 351], #[]⟩),
  (64, ⟨.type "tuple", none, .seq #[.ref 63], #[]⟩),
  (65, ⟨.type "tuple", none, .seq #[.int 2112 352, .str "s" 353], #[]⟩),
  (66, ⟨.type "tuple", none, .seq #[.int 2048 319, .str "S" 354], #[]⟩),
  (67, ⟨.type "tuple", none, .seq #[.int 64 329, .str "x" 355], #[]⟩),
  (68, ⟨.type "tuple", none, .seq #[.ref 65, .ref 66, .ref 67], #[]⟩),
  (69, ⟨.type "tuple", none, .seq #[.int 32 331, .str "r" 356], #[]⟩),
  (70, ⟨.type "tuple", none, .seq #[.ref 69], #[]⟩),
  (71, ⟨.type "tuple", none, .seq #[.int 16 333, .str "w" 357], #[]⟩),
  (72, ⟨.type "tuple", none, .seq #[.ref 71], #[]⟩),
  (73, ⟨.type "tuple", none, .seq #[.int 1032 358, .str "s" 359], #[]⟩),
  (74, ⟨.type "tuple", none, .seq #[.int 1024 321, .str "S" 360], #[]⟩),
  (75, ⟨.type "tuple", none, .seq #[.int 8 335, .str "x" 361], #[]⟩),
  (76, ⟨.type "tuple", none, .seq #[.ref 73, .ref 74, .ref 75], #[]⟩),
  (77, ⟨.type "tuple", none, .seq #[.int 4 337, .str "r" 362], #[]⟩),
  (78, ⟨.type "tuple", none, .seq #[.ref 77], #[]⟩),
  (79, ⟨.type "tuple", none, .seq #[.int 2 339, .str "w" 363], #[]⟩),
  (80, ⟨.type "tuple", none, .seq #[.ref 79], #[]⟩),
  (81, ⟨.type "tuple", none, .seq #[.int 513 364, .str "t" 365], #[]⟩),
  (82, ⟨.type "tuple", none, .seq #[.int 512 323, .str "T" 366], #[]⟩),
  (83, ⟨.type "tuple", none, .seq #[.int 1 341, .str "x" 367], #[]⟩),
  (84, ⟨.type "tuple", none, .seq #[.ref 81, .ref 82, .ref 83], #[]⟩),
  (85, ⟨.type "tuple", none, .seq #[.ref 60, .ref 62, .ref 64, .ref 68, .ref 70, .ref 72, .ref 76, .ref 78, .ref 80, .ref 84], #[]⟩),
  (96, ⟨.type "tuple", none, .seq #[.int 14 0, .int 14 0, .int 4 0, .int 1 0, .int 1 0, .int 9 0, .int 0 0, .int 64 0, .int 0 0, .int 1342177280 0, .int 0 0, .int 0 0, .int 0 0, .int 0 0, .int 0 0, .int 17 0, .int 0 0, .int 13 0, .int 11 0, .int 9 0, .int 0 0, .int 64 0, .int 0 0, .int 1342177280 0, .int 0 0, .int 0 0, .int 0 0, .int 0 0, .int 0 0, .int 17 0, .int 1 0, .int 1 0], #[]⟩),
  (97, ⟨.type "re.Pattern", none, .fields #[.str "([&~|])" 384, .int 32 419, .int 1 0, .none, .none, .ref 96, .int 0 0], #[]⟩),
  (122, ⟨.type "code", none, .fields #[.str "_translate" 587, .str "_translate" 588, .str "/claim/cut.py" 589, .int 61 0, .int 3 0, .int 0 0, .int 0 0, .int 3 0, .ref 117, .bool true, .int 276 0, .ref 118, .none, .ref 119, .ref 120, .ref 121, .int 603 0, .int 61 0, .str "/claim/cut.py" 604], #[]⟩),
  (194, ⟨.type "tuple", none, .seq #[.none], #[]⟩),
  (200, ⟨.type "tuple", none, .seq #[.none], #[]⟩), (118, tabObj #[]), (4, ⟨.type "module", some builtinsNs, .plain, #[]⟩)]
noncomputable def seeTop (h : Heap) : Bool × Bool × Bool × Option Value × List (Option Value) × List (Option Value) × List (Option Value) × List (Option Value) × List (Option (FuncBody × Scope × Arguments × Addr × Addr × List (Str × Addr) × Value × Value × Value × Str)) × List (Option Str) × Option (Value × Option Addr × Array (Option Value) × Bool) × List (Option Obj) :=
  (h.isNs mainGlobals, h.isNs builtinsNs, h.isNs cStatics, h.nsMap cStatics "sys.recursionlimit",
   topFns.map fun p => h.nsMap mainGlobals p.1, topVals.map fun p => h.nsMap mainGlobals p.1, topBl.map fun p => h.nsMap mainGlobals p.1, topBl.map fun p => h.nsMap builtinsNs p.1,
   topFns.map fun p => fnSee h p.2.1, topFns.map fun p => cdSee h (p.2.1 - 1), mapSee h 106, topObs.map fun p => h.get? p.1)
noncomputable def goodTop : Bool × Bool × Bool × Option Value × List (Option Value) × List (Option Value) × List (Option Value) × List (Option Value) × List (Option (FuncBody × Scope × Arguments × Addr × Addr × List (Str × Addr) × Value × Value × Value × Str)) × List (Option Str) × Option (Value × Option Addr × Array (Option Value) × Bool) × List (Option Obj) :=
  (true, true, true, none,
   topFns.map fun p => some (.ref p.2.1), topVals.map fun p => some p.2, topBl.map fun _ => none, topBl.map fun p => some p.2,
   topFns.map fun p => some (.stmts (fnBody p.2.2.1), fnScope p.2.2.1, fnPar p.2.2.1, mainGlobals, builtinsNs, [], .ref (p.2.1 - 1), p.2.2.2, .none, p.1), topFns.map fun p => some p.1, some (.type "dict", none, #[], true), topObs.map fun p => some p.2)
noncomputable abbrev endsO (w : World) := (openEnds treeTable pw w 5048).map fun s => (openSeen qv loose0 (importedModules pw.main.body) XtO true s, seeTop s.heap)
end
section
open PySem PySem.W PyProof.Rows PySem.Calls PySem.Spec
set_option linter.all false
set_option maxRecDepth 100000
set_option maxHeartbeats 8000000
/-! the top's run in pieces: each state between two pieces is written out -/
noncomputable abbrev zde (P : Params) (s : Str) (k : Nat) (v : Value) : DictEntry := ⟨PyData.keyHash P s, .str s k, v⟩
noncomputable def zq0 : Str := ⟨#[95,95,100,105,99,116,95,95]⟩
noncomputable def zq1 : Str := ⟨#[110,97,109,101]⟩
noncomputable def zq2 : Str := ⟨#[95,115,114,101]⟩
noncomputable def zq3 : Str := ⟨#[108,111,97,100,101,114]⟩
noncomputable def zq4 : Str := ⟨#[111,114,105,103,105,110]⟩
noncomputable def zq5 : Str := ⟨#[98,117,105,108,116,45,105,110]⟩
noncomputable def zq6 : Str := ⟨#[108,111,97,100,101,114,95,115,116,97,116,101]⟩
noncomputable def zq7 : Str := ⟨#[115,117,98,109,111,100,117,108,101,95,115,101,97,114,99,104,95,108,111,99,97,116,105,111,110,115]⟩
noncomputable def zq8 : Str := ⟨#[95,117,110,105,110,105,116,105,97,108,105,122,101,100,95,115,117,98,109,111,100,117,108,101,115]⟩
noncomputable def zq9 : Str := ⟨#[95,115,101,116,95,102,105,108,101,97,116,116,114]⟩
noncomputable def zq10 : Str := ⟨#[95,99,97,99,104,101,100]⟩
noncomputable def zq11 : Str := ⟨#[95,105,110,105,116,105,97,108,105,122,105,110,103]⟩
noncomputable def zq12 : Str := ⟨#[98,117,105,108,116,105,110,115]⟩
noncomputable def zq13 : Str := ⟨#[95,95,109,97,105,110,95,95]⟩
noncomputable def zq14 : Str := ⟨#[95,95,110,97,109,101,95,95]⟩
noncomputable def zq15 : Str := ⟨#[95,95,100,111,99,95,95]⟩
noncomputable def zq16 : Str := ⟨#[95,95,112,97,99,107,97,103,101,95,95]⟩
noncomputable def zq17 : Str := ⟨#[95,95,108,111,97,100,101,114,95,95]⟩
noncomputable def zq18 : Str := ⟨#[95,95,115,112,101,99,95,95]⟩
noncomputable def zq19 : Str := ⟨#[95,95,98,117,105,108,100,95,99,108,97,115,115,95,95]⟩
noncomputable def zq20 : Str := ⟨#[95,95,105,109,112,111,114,116,95,95]⟩
noncomputable def zq21 : Str := ⟨#[97,98,115]⟩
noncomputable def zq22 : Str := ⟨#[97,108,108]⟩
noncomputable def zq23 : Str := ⟨#[97,110,121]⟩
noncomputable def zq24 : Str := ⟨#[97,115,99,105,105]⟩
noncomputable def zq25 : Str := ⟨#[98,105,110]⟩
noncomputable def zq26 : Str := ⟨#[98,114,101,97,107,112,111,105,110,116]⟩
noncomputable def zq27 : Str := ⟨#[99,97,108,108,97,98,108,101]⟩
noncomputable def zq28 : Str := ⟨#[99,104,114]⟩
noncomputable def zq29 : Str := ⟨#[99,111,109,112,105,108,101]⟩
noncomputable def zq30 : Str := ⟨#[100,101,108,97,116,116,114]⟩
noncomputable def zq31 : Str := ⟨#[100,105,114]⟩
noncomputable def zq32 : Str := ⟨#[100,105,118,109,111,100]⟩
noncomputable def zq33 : Str := ⟨#[101,118,97,108]⟩
noncomputable def zq34 : Str := ⟨#[101,120,101,99]⟩
noncomputable def zq35 : Str := ⟨#[102,111,114,109,97,116]⟩
noncomputable def zq36 : Str := ⟨#[103,101,116,97,116,116,114]⟩
noncomputable def zq37 : Str := ⟨#[103,108,111,98,97,108,115]⟩
noncomputable def zq38 : Str := ⟨#[104,97,115,97,116,116,114]⟩
noncomputable def zq39 : Str := ⟨#[104,97,115,104]⟩
noncomputable def zq40 : Str := ⟨#[104,101,120]⟩
noncomputable def zq41 : Str := ⟨#[105,100]⟩
noncomputable def zq42 : Str := ⟨#[105,110,112,117,116]⟩
noncomputable def zq43 : Str := ⟨#[105,115,105,110,115,116,97,110,99,101]⟩
noncomputable def zq44 : Str := ⟨#[105,115,115,117,98,99,108,97,115,115]⟩
noncomputable def zq45 : Str := ⟨#[105,116,101,114]⟩
noncomputable def zq46 : Str := ⟨#[97,105,116,101,114]⟩
noncomputable def zq47 : Str := ⟨#[108,101,110]⟩
noncomputable def zq48 : Str := ⟨#[108,111,99,97,108,115]⟩
noncomputable def zq49 : Str := ⟨#[109,97,120]⟩
noncomputable def zq50 : Str := ⟨#[109,105,110]⟩
noncomputable def zq51 : Str := ⟨#[110,101,120,116]⟩
noncomputable def zq52 : Str := ⟨#[97,110,101,120,116]⟩
noncomputable def zq53 : Str := ⟨#[111,99,116]⟩
noncomputable def zq54 : Str := ⟨#[111,114,100]⟩
noncomputable def zq55 : Str := ⟨#[112,111,119]⟩
noncomputable def zq56 : Str := ⟨#[112,114,105,110,116]⟩
noncomputable def zq57 : Str := ⟨#[114,101,112,114]⟩
noncomputable def zq58 : Str := ⟨#[114,111,117,110,100]⟩
noncomputable def zq59 : Str := ⟨#[115,101,116,97,116,116,114]⟩
noncomputable def zq60 : Str := ⟨#[115,111,114,116,101,100]⟩
noncomputable def zq61 : Str := ⟨#[115,117,109]⟩
noncomputable def zq62 : Str := ⟨#[118,97,114,115]⟩
noncomputable def zq63 : Str := ⟨#[78,111,110,101]⟩
noncomputable def zq64 : Str := ⟨#[69,108,108,105,112,115,105,115]⟩
noncomputable def zq65 : Str := ⟨#[78,111,116,73,109,112,108,101,109,101,110,116,101,100]⟩
noncomputable def zq66 : Str := ⟨#[70,97,108,115,101]⟩
noncomputable def zq67 : Str := ⟨#[84,114,117,101]⟩
noncomputable def zq68 : Str := ⟨#[98,111,111,108]⟩
noncomputable def zq69 : Str := ⟨#[109,101,109,111,114,121,118,105,101,119]⟩
noncomputable def zq70 : Str := ⟨#[98,121,116,101,97,114,114,97,121]⟩
noncomputable def zq71 : Str := ⟨#[98,121,116,101,115]⟩
noncomputable def zq72 : Str := ⟨#[99,108,97,115,115,109,101,116,104,111,100]⟩
noncomputable def zq73 : Str := ⟨#[99,111,109,112,108,101,120]⟩
noncomputable def zq74 : Str := ⟨#[100,105,99,116]⟩
noncomputable def zq75 : Str := ⟨#[101,110,117,109,101,114,97,116,101]⟩
noncomputable def zq76 : Str := ⟨#[102,105,108,116,101,114]⟩
noncomputable def zq77 : Str := ⟨#[102,108,111,97,116]⟩
noncomputable def zq78 : Str := ⟨#[102,114,111,122,101,110,115,101,116]⟩
noncomputable def zq79 : Str := ⟨#[112,114,111,112,101,114,116,121]⟩
noncomputable def zq80 : Str := ⟨#[105,110,116]⟩
noncomputable def zq81 : Str := ⟨#[108,105,115,116]⟩
noncomputable def zq82 : Str := ⟨#[109,97,112]⟩
noncomputable def zq83 : Str := ⟨#[111,98,106,101,99,116]⟩
noncomputable def zq84 : Str := ⟨#[114,97,110,103,101]⟩
noncomputable def zq85 : Str := ⟨#[114,101,118,101,114,115,101,100]⟩
noncomputable def zq86 : Str := ⟨#[115,101,116]⟩
noncomputable def zq87 : Str := ⟨#[115,108,105,99,101]⟩
noncomputable def zq88 : Str := ⟨#[115,116,97,116,105,99,109,101,116,104,111,100]⟩
noncomputable def zq89 : Str := ⟨#[115,116,114]⟩
noncomputable def zq90 : Str := ⟨#[115,117,112,101,114]⟩
noncomputable def zq91 : Str := ⟨#[116,117,112,108,101]⟩
noncomputable def zq92 : Str := ⟨#[116,121,112,101]⟩
noncomputable def zq93 : Str := ⟨#[122,105,112]⟩
noncomputable def zq94 : Str := ⟨#[95,95,100,101,98,117,103,95,95]⟩
noncomputable def zq95 : Str := ⟨#[66,97,115,101,69,120,99,101,112,116,105,111,110]⟩
noncomputable def zq96 : Str := ⟨#[66,97,115,101,69,120,99,101,112,116,105,111,110,71,114,111,117,112]⟩
noncomputable def zq97 : Str := ⟨#[69,120,99,101,112,116,105,111,110]⟩
noncomputable def zq98 : Str := ⟨#[71,101,110,101,114,97,116,111,114,69,120,105,116]⟩
noncomputable def zq99 : Str := ⟨#[75,101,121,98,111,97,114,100,73,110,116,101,114,114,117,112,116]⟩
noncomputable def zq100 : Str := ⟨#[83,121,115,116,101,109,69,120,105,116]⟩
noncomputable def zq101 : Str := ⟨#[65,114,105,116,104,109,101,116,105,99,69,114,114,111,114]⟩
noncomputable def zq102 : Str := ⟨#[65,115,115,101,114,116,105,111,110,69,114,114,111,114]⟩
noncomputable def zq103 : Str := ⟨#[65,116,116,114,105,98,117,116,101,69,114,114,111,114]⟩
noncomputable def zq104 : Str := ⟨#[66,117,102,102,101,114,69,114,114,111,114]⟩
noncomputable def zq105 : Str := ⟨#[69,79,70,69,114,114,111,114]⟩
noncomputable def zq106 : Str := ⟨#[73,109,112,111,114,116,69,114,114,111,114]⟩
noncomputable def zq107 : Str := ⟨#[76,111,111,107,117,112,69,114,114,111,114]⟩
noncomputable def zq108 : Str := ⟨#[77,101,109,111,114,121,69,114,114,111,114]⟩
noncomputable def zq109 : Str := ⟨#[78,97,109,101,69,114,114,111,114]⟩
noncomputable def zq110 : Str := ⟨#[79,83,69,114,114,111,114]⟩
noncomputable def zq111 : Str := ⟨#[82,101,102,101,114,101,110,99,101,69,114,114,111,114]⟩
noncomputable def zq112 : Str := ⟨#[82,117,110,116,105,109,101,69,114,114,111,114]⟩
noncomputable def zq113 : Str := ⟨#[83,116,111,112,65,115,121,110,99,73,116,101,114,97,116,105,111,110]⟩
noncomputable def zq114 : Str := ⟨#[83,116,111,112,73,116,101,114,97,116,105,111,110]⟩
noncomputable def zq115 : Str := ⟨#[83,121,110,116,97,120,69,114,114,111,114]⟩
noncomputable def zq116 : Str := ⟨#[83,121,115,116,101,109,69,114,114,111,114]⟩
noncomputable def zq117 : Str := ⟨#[84,121,112,101,69,114,114,111,114]⟩
noncomputable def zq118 : Str := ⟨#[86,97,108,117,101,69,114,114,111,114]⟩
noncomputable def zq119 : Str := ⟨#[87,97,114,110,105,110,103]⟩
noncomputable def zq120 : Str := ⟨#[70,108,111,97,116,105,110,103,80,111,105,110,116,69,114,114,111,114]⟩
noncomputable def zq121 : Str := ⟨#[79,118,101,114,102,108,111,119,69,114,114,111,114]⟩
noncomputable def zq122 : Str := ⟨#[90,101,114,111,68,105,118,105,115,105,111,110,69,114,114,111,114]⟩
noncomputable def zq123 : Str := ⟨#[66,121,116,101,115,87,97,114,110,105,110,103]⟩
noncomputable def zq124 : Str := ⟨#[68,101,112,114,101,99,97,116,105,111,110,87,97,114,110,105,110,103]⟩
noncomputable def zq125 : Str := ⟨#[69,110,99,111,100,105,110,103,87,97,114,110,105,110,103]⟩
noncomputable def zq126 : Str := ⟨#[70,117,116,117,114,101,87,97,114,110,105,110,103]⟩
noncomputable def zq127 : Str := ⟨#[73,109,112,111,114,116,87,97,114,110,105,110,103]⟩
noncomputable def zq128 : Str := ⟨#[80,101,110,100,105,110,103,68,101,112,114,101,99,97,116,105,111,110,87,97,114,110,105,110,103]⟩
noncomputable def zq129 : Str := ⟨#[82,101,115,111,117,114,99,101,87,97,114,110,105,110,103]⟩
noncomputable def zq130 : Str := ⟨#[82,117,110,116,105,109,101,87,97,114,110,105,110,103]⟩
noncomputable def zq131 : Str := ⟨#[83,121,110,116,97,120,87,97,114,110,105,110,103]⟩
noncomputable def zq132 : Str := ⟨#[85,110,105,99,111,100,101,87,97,114,110,105,110,103]⟩
noncomputable def zq133 : Str := ⟨#[85,115,101,114,87,97,114,110,105,110,103]⟩
noncomputable def zq134 : Str := ⟨#[66,108,111,99,107,105,110,103,73,79,69,114,114,111,114]⟩
noncomputable def zq135 : Str := ⟨#[67,104,105,108,100,80,114,111,99,101,115,115,69,114,114,111,114]⟩
noncomputable def zq136 : Str := ⟨#[67,111,110,110,101,99,116,105,111,110,69,114,114,111,114]⟩
noncomputable def zq137 : Str := ⟨#[70,105,108,101,69,120,105,115,116,115,69,114,114,111,114]⟩
noncomputable def zq138 : Str := ⟨#[70,105,108,101,78,111,116,70,111,117,110,100,69,114,114,111,114]⟩
noncomputable def zq139 : Str := ⟨#[73,110,116,101,114,114,117,112,116,101,100,69,114,114,111,114]⟩
noncomputable def zq140 : Str := ⟨#[73,115,65,68,105,114,101,99,116,111,114,121,69,114,114,111,114]⟩
noncomputable def zq141 : Str := ⟨#[78,111,116,65,68,105,114,101,99,116,111,114,121,69,114,114,111,114]⟩
noncomputable def zq142 : Str := ⟨#[80,101,114,109,105,115,115,105,111,110,69,114,114,111,114]⟩
noncomputable def zq143 : Str := ⟨#[80,114,111,99,101,115,115,76,111,111,107,117,112,69,114,114,111,114]⟩
noncomputable def zq144 : Str := ⟨#[84,105,109,101,111,117,116,69,114,114,111,114]⟩
noncomputable def zq145 : Str := ⟨#[73,110,100,101,110,116,97,116,105,111,110,69,114,114,111,114]⟩
noncomputable def zq146 : Str := ⟨#[95,73,110,99,111,109,112,108,101,116,101,73,110,112,117,116,69,114,114,111,114]⟩
noncomputable def zq147 : Str := ⟨#[73,110,100,101,120,69,114,114,111,114]⟩
noncomputable def zq148 : Str := ⟨#[75,101,121,69,114,114,111,114]⟩
noncomputable def zq149 : Str := ⟨#[77,111,100,117,108,101,78,111,116,70,111,117,110,100,69,114,114,111,114]⟩
noncomputable def zq150 : Str := ⟨#[78,111,116,73,109,112,108,101,109,101,110,116,101,100,69,114,114,111,114]⟩
noncomputable def zq151 : Str := ⟨#[80,121,116,104,111,110,70,105,110,97,108,105,122,97,116,105,111,110,69,114,114,111,114]⟩
noncomputable def zq152 : Str := ⟨#[82,101,99,117,114,115,105,111,110,69,114,114,111,114]⟩
noncomputable def zq153 : Str := ⟨#[85,110,98,111,117,110,100,76,111,99,97,108,69,114,114,111,114]⟩
noncomputable def zq154 : Str := ⟨#[85,110,105,99,111,100,101,69,114,114,111,114]⟩
noncomputable def zq155 : Str := ⟨#[66,114,111,107,101,110,80,105,112,101,69,114,114,111,114]⟩
noncomputable def zq156 : Str := ⟨#[67,111,110,110,101,99,116,105,111,110,65,98,111,114,116,101,100,69,114,114,111,114]⟩
noncomputable def zq157 : Str := ⟨#[67,111,110,110,101,99,116,105,111,110,82,101,102,117,115,101,100,69,114,114,111,114]⟩
noncomputable def zq158 : Str := ⟨#[67,111,110,110,101,99,116,105,111,110,82,101,115,101,116,69,114,114,111,114]⟩
noncomputable def zq159 : Str := ⟨#[84,97,98,69,114,114,111,114]⟩
noncomputable def zq160 : Str := ⟨#[85,110,105,99,111,100,101,68,101,99,111,100,101,69,114,114,111,114]⟩
noncomputable def zq161 : Str := ⟨#[85,110,105,99,111,100,101,69,110,99,111,100,101,69,114,114,111,114]⟩
noncomputable def zq162 : Str := ⟨#[85,110,105,99,111,100,101,84,114,97,110,115,108,97,116,101,69,114,114,111,114]⟩
noncomputable def zq163 : Str := ⟨#[69,120,99,101,112,116,105,111,110,71,114,111,117,112]⟩
noncomputable def zq164 : Str := ⟨#[69,110,118,105,114,111,110,109,101,110,116,69,114,114,111,114]⟩
noncomputable def zq165 : Str := ⟨#[73,79,69,114,114,111,114]⟩
noncomputable def zq166 : Str := ⟨#[111,112,101,110]⟩
noncomputable def zq167 : Str := ⟨#[113,117,105,116]⟩
noncomputable def zq168 : Str := ⟨#[101,120,105,116]⟩
noncomputable def zq169 : Str := ⟨#[99,111,112,121,114,105,103,104,116]⟩
noncomputable def zq170 : Str := ⟨#[99,114,101,100,105,116,115]⟩
noncomputable def zq171 : Str := ⟨#[108,105,99,101,110,115,101]⟩
noncomputable def zq172 : Str := ⟨#[104,101,108,112]⟩
noncomputable def zq173 : Str := ⟨#[95,95,109,111,100,117,108,101,95,95]⟩
noncomputable def zq174 : Str := ⟨#[95,102,114,111,122,101,110,95,105,109,112,111,114,116,108,105,98]⟩
noncomputable def zq175 : Str := ⟨#[95,95,102,105,114,115,116,108,105,110,101,110,111,95,95]⟩
noncomputable def zq176 : Str := ⟨#[95,79,82,73,71,73,78]⟩
noncomputable def zq177 : Str := ⟨#[102,105,110,100,95,115,112,101,99]⟩
noncomputable def zq178 : Str := ⟨#[99,114,101,97,116,101,95,109,111,100,117,108,101]⟩
noncomputable def zq179 : Str := ⟨#[101,120,101,99,95,109,111,100,117,108,101]⟩
noncomputable def zq180 : Str := ⟨#[103,101,116,95,99,111,100,101]⟩
noncomputable def zq181 : Str := ⟨#[103,101,116,95,115,111,117,114,99,101]⟩
noncomputable def zq182 : Str := ⟨#[105,115,95,112,97,99,107,97,103,101]⟩
noncomputable def zq183 : Str := ⟨#[108,111,97,100,95,109,111,100,117,108,101]⟩
noncomputable def zq184 : Str := ⟨#[95,95,115,116,97,116,105,99,95,97,116,116,114,105,98,117,116,101,115,95,95]⟩
noncomputable def zq185 : Str := ⟨#[95,95,119,101,97,107,114,101,102,95,95]⟩
noncomputable def zq186 : Str := ⟨#[95,95,97,110,110,111,116,97,116,105,111,110,115,95,95]⟩
noncomputable def zq187 : Str := ⟨#[95,95,98,117,105,108,116,105,110,115,95,95]⟩
noncomputable def zq188 : Str := ⟨#[95,95,102,105,108,101,95,95]⟩
noncomputable def zq189 : Str := ⟨#[47,99,108,97,105,109,47,99,117,116,46,112,121]⟩
noncomputable def zq190 : Str := ⟨#[95,95,99,97,99,104,101,100,95,95]⟩
noncomputable def zq191 : Str := ⟨#[105,109,112,111,114,116,46,108,111,97,100,101,100,46,95,115,114,101]⟩
noncomputable def zq192 : Str := ⟨#[99,108,97,115,115,46,95,102,114,111,122,101,110,95,105,109,112,111,114,116,108,105,98,46,66,117,105,108,116,105,110,73,109,112,111,114,116,101,114]⟩
noncomputable def zq193 : Str := ⟨#[119,97,116,99,104,101,100,46,105,109,112,111,114,116]⟩
noncomputable def zq194 : Str := ⟨#[99,108,97,115,115,46,95,102,114,111,122,101,110,95,105,109,112,111,114,116,108,105,98,46,77,111,100,117,108,101,83,112,101,99]⟩
noncomputable def zq195 : Str := ⟨#[115,121,115,46,109,111,100,117,108,101,115,46,98,111,111,107,101,100,45,101,112,111,99,104]⟩
noncomputable def zq196 : Str := ⟨#[105,109,112,111,114,116,46,108,97,116,101,114,45,108,97,105,100,46,95,115,114,101]⟩
noncomputable def zq197 : Str := ⟨#[119,97,116,99,104,101,100,46,108,105,98,114,97,114,121]⟩
noncomputable def zq198 : Str := ⟨#[119,97,116,99,104,101,100,46,108,105,98,114,97,114,121,45,111,98,106,101,99,116,115]⟩
noncomputable def zq199 : Str := ⟨#[119,97,116,99,104,101,100,46,108,105,98,114,97,114,121,45,100,101,101,112,46,95,115,114,101]⟩
noncomputable def zq200 : Str := ⟨#[4,0,0,11,4,0,0,11,4,0,0,3,4,0,0,11,8,4,100,105,99,116,2]⟩
noncomputable def zq201 : Str := ⟨#[60,109,111,100,117,108,101,62]⟩
noncomputable def zq202 : Str := ⟨#[66,117,105,108,116,105,110,73,109,112,111,114,116,101,114]⟩
noncomputable def zq203 : Str := ⟨#[116,101,109,112,108,97,116,101]⟩
noncomputable def zq204 : Str := ⟨#[103,101,116,99,111,100,101,115,105,122,101]⟩
noncomputable def zq205 : Str := ⟨#[97,115,99,105,105,95,105,115,99,97,115,101,100]⟩
noncomputable def zq206 : Str := ⟨#[117,110,105,99,111,100,101,95,105,115,99,97,115,101,100]⟩
noncomputable def zq207 : Str := ⟨#[97,115,99,105,105,95,116,111,108,111,119,101,114]⟩
noncomputable def zq208 : Str := ⟨#[117,110,105,99,111,100,101,95,116,111,108,111,119,101,114]⟩
noncomputable def zq209 : Str := ⟨#[77,65,71,73,67]⟩
noncomputable def zq210 : Str := ⟨#[67,79,68,69,83,73,90,69]⟩
noncomputable def zq211 : Str := ⟨#[77,65,88,82,69,80,69,65,84]⟩
noncomputable def zq212 : Str := ⟨#[77,65,88,71,82,79,85,80,83]⟩
noncomputable def zq213 : Str := ⟨#[32,83,82,69,32,50,46,50,46,50,32,67,111,112,121,114,105,103,104,116,32,40,99,41,32,49,57,57,55,45,50,48,48,50,32,98,121,32,83,101,99,114,101,116,32,76,97,98,115,32,65,66,32]⟩
noncomputable def zq214 : Str := ⟨#[77,111,100,117,108,101,83,112,101,99]⟩
noncomputable def zq215 : Str := ⟨#[95,95,105,110,105,116,95,95]⟩
noncomputable def zq216 : Str := ⟨#[95,95,114,101,112,114,95,95]⟩
noncomputable def zq217 : Str := ⟨#[95,95,101,113,95,95]⟩
noncomputable def zq218 : Str := ⟨#[99,97,99,104,101,100]⟩
noncomputable def zq219 : Str := ⟨#[112,97,114,101,110,116]⟩
noncomputable def zq220 : Str := ⟨#[104,97,115,95,108,111,99,97,116,105,111,110]⟩
noncomputable def zq221 : Str := ⟨#[95,95,104,97,115,104,95,95]⟩
noncomputable def zq222 : Str := ⟨#[6,247,8,95,95,110,97,109,101,95,95,6,246,4,95,115,114,101,6,248,7,95,95,100,111,99,95,95,0,6,250,11,95,95,112,97,99,107,97,103,101,95,95,6,249,0,6,251,10,95,95,108,111,97,100,101,114,95,95,4,0,0,14,6,252,8,95,95,115,112,101,99,95,95,4,0,0,26,6,253,7,99,111,109,112,105,108,101,9,12,95,115,114,101,46,99,111,109,112,105,108,101,6,254,8,116,101,109,112,108,97,116,101,9,13,95,115,114,101,46,116,101,109,112,108,97,116,101,6,255,11,103,101,116,99,111,100,101,115,105,122,101,9,16,95,115,114,101,46,103,101,116,99,111,100,101,115,105,122,101,6,256,13,97,115,99,105,105,95,105,115,99,97,115,101,100,9,18,95,115,114,101,46,97,115,99,105,105,95,105,115,99,97,115,101,100,6,257,15,117,110,105,99,111,100,101,95,105,115,99,97,115,101,100,9,20,95,115,114,101,46,117,110,105,99,111,100,101,95,105,115,99,97,115,101,100,6,258,13,97,115,99,105,105,95,116,111,108,111,119,101,114,9,18,95,115,114,101,46,97,115,99,105,105,95,116,111,108,111,119,101,114,6,259,15,117,110,105,99,111,100,101,95,116,111,108,111,119,101,114,9,20,95,115,114,101,46,117,110,105,99,111,100,101,95,116,111,108,111,119,101,114,6,261,5,77,65,71,73,67,4,260,0,20230612,6,263,8,67,79,68,69,83,73,90,69,4,262,0,4,6,265,9,77,65,88,82,69,80,69,65,84,4,264,0,4294967295,6,267,9,77,65,88,71,82,79,85,80,83,4,266,0,1073741823,6,269,9,99,111,112,121,114,105,103,104,116,6,268,53,32,83,82,69,32,50,46,50,46,50,32,67,111,112,121,114,105,103,104,116,32,40,99,41,32,49,57,57,55,45,50,48,48,50,32,98,121,32,83,101,99,114,101,116,32,76,97,98,115,32,65,66,32]⟩
noncomputable def zq223 : Str := ⟨#[6,189,10,95,95,109,111,100,117,108,101,95,95,6,186,17,95,102,114,111,122,101,110,95,105,109,112,111,114,116,108,105,98,6,190,15,95,95,102,105,114,115,116,108,105,110,101,110,111,95,95,4,187,0,971,6,191,7,95,95,100,111,99,95,95,9,52,95,102,114,111,122,101,110,95,105,109,112,111,114,116,108,105,98,46,66,117,105,108,116,105,110,73,109,112,111,114,116,101,114,46,95,95,100,111,99,95,95,58,115,116,114,35,111,112,97,113,117,101,6,192,7,95,79,82,73,71,73,78,6,188,8,98,117,105,108,116,45,105,110,6,193,9,102,105,110,100,95,115,112,101,99,9,50,95,102,114,111,122,101,110,95,105,109,112,111,114,116,108,105,98,46,66,117,105,108,116,105,110,73,109,112,111,114,116,101,114,46,102,105,110,100,95,115,112,101,99,35,111,112,97,113,117,101,6,194,13,99,114,101,97,116,101,95,109,111,100,117,108,101,9,54,95,102,114,111,122,101,110,95,105,109,112,111,114,116,108,105,98,46,66,117,105,108,116,105,110,73,109,112,111,114,116,101,114,46,99,114,101,97,116,101,95,109,111,100,117,108,101,35,111,112,97,113,117,101,6,195,11,101,120,101,99,95,109,111,100,117,108,101,9,52,95,102,114,111,122,101,110,95,105,109,112,111,114,116,108,105,98,46,66,117,105,108,116,105,110,73,109,112,111,114,116,101,114,46,101,120,101,99,95,109,111,100,117,108,101,35,111,112,97,113,117,101,6,196,8,103,101,116,95,99,111,100,101,9,49,95,102,114,111,122,101,110,95,105,109,112,111,114,116,108,105,98,46,66,117,105,108,116,105,110,73,109,112,111,114,116,101,114,46,103,101,116,95,99,111,100,101,35,111,112,97,113,117,101,6,197,10,103,101,116,95,115,111,117,114,99,101,9,51,95,102,114,111,122,101,110,95,105,109,112,111,114,116,108,105,98,46,66,117,105,108,116,105,110,73,109,112,111,114,116,101,114,46,103,101,116,95,115,111,117,114,99,101,35,111,112,97,113,117,101,6,198,10,105,115,95,112,97,99,107,97,103,101,9,51,95,102,114,111,122,101,110,95,105,109,112,111,114,116,108,105,98,46,66,117,105,108,116,105,110,73,109,112,111,114,116,101,114,46,105,115,95,112,97,99,107,97,103,101,35,111,112,97,113,117,101,6,199,11,108,111,97,100,95,109,111,100,117,108,101,9,52,95,102,114,111,122,101,110,95,105,109,112,111,114,116,108,105,98,46,66,117,105,108,116,105,110,73,109,112,111,114,116,101,114,46,108,111,97,100,95,109,111,100,117,108,101,35,111,112,97,113,117,101,6,200,21,95,95,115,116,97,116,105,99,95,97,116,116,114,105,98,117,116,101,115,95,95,4,0,0,15,6,202,8,95,95,100,105,99,116,95,95,4,0,0,16,6,204,11,95,95,119,101,97,107,114,101,102,95,95,4,0,0,17]⟩
noncomputable def zq224 : Str := ⟨#[6,227,10,95,95,109,111,100,117,108,101,95,95,6,217,17,95,102,114,111,122,101,110,95,105,109,112,111,114,116,108,105,98,6,228,15,95,95,102,105,114,115,116,108,105,110,101,110,111,95,95,4,218,0,562,6,229,7,95,95,100,111,99,95,95,9,47,95,102,114,111,122,101,110,95,105,109,112,111,114,116,108,105,98,46,77,111,100,117,108,101,83,112,101,99,46,95,95,100,111,99,95,95,58,115,116,114,35,111,112,97,113,117,101,6,230,8,95,95,105,110,105,116,95,95,9,44,95,102,114,111,122,101,110,95,105,109,112,111,114,116,108,105,98,46,77,111,100,117,108,101,83,112,101,99,46,95,95,105,110,105,116,95,95,35,111,112,97,113,117,101,6,231,8,95,95,114,101,112,114,95,95,9,44,95,102,114,111,122,101,110,95,105,109,112,111,114,116,108,105,98,46,77,111,100,117,108,101,83,112,101,99,46,95,95,114,101,112,114,95,95,35,111,112,97,113,117,101,6,232,6,95,95,101,113,95,95,9,42,95,102,114,111,122,101,110,95,105,109,112,111,114,116,108,105,98,46,77,111,100,117,108,101,83,112,101,99,46,95,95,101,113,95,95,35,111,112,97,113,117,101,6,233,6,99,97,99,104,101,100,9,42,95,102,114,111,122,101,110,95,105,109,112,111,114,116,108,105,98,46,77,111,100,117,108,101,83,112,101,99,46,99,97,99,104,101,100,35,111,112,97,113,117,101,6,234,6,112,97,114,101,110,116,9,42,95,102,114,111,122,101,110,95,105,109,112,111,114,116,108,105,98,46,77,111,100,117,108,101,83,112,101,99,46,112,97,114,101,110,116,35,111,112,97,113,117,101,6,235,12,104,97,115,95,108,111,99,97,116,105,111,110,9,48,95,102,114,111,122,101,110,95,105,109,112,111,114,116,108,105,98,46,77,111,100,117,108,101,83,112,101,99,46,104,97,115,95,108,111,99,97,116,105,111,110,35,111,112,97,113,117,101,6,236,21,95,95,115,116,97,116,105,99,95,97,116,116,114,105,98,117,116,101,115,95,95,4,0,0,23,6,238,8,95,95,100,105,99,116,95,95,4,0,0,24,6,240,11,95,95,119,101,97,107,114,101,102,95,95,4,0,0,25,6,241,8,95,95,104,97,115,104,95,95,0]⟩
noncomputable def zq225 : Str := ⟨#[83,95,73,83,68,73,82]⟩
noncomputable def zq226 : Str := ⟨#[83,95,73,77,79,68,69]⟩
noncomputable def zq227 : Str := ⟨#[116,114,97,110,115,108,97,116,101]⟩
noncomputable def zq228 : Str := ⟨#[109,111,100,101]⟩
noncomputable def zq229 : Str := ⟨#[83,95,73,70,77,84]⟩
noncomputable def zq230 : Str := ⟨#[99,112,121,51,49,51,46,115,116,97,116]⟩
noncomputable def zq231 : Str := ⟨#[40,91,38,126,124,93,41]⟩
noncomputable def zq232 : Str := ⟨#[112,101,114,109]⟩
noncomputable def zq233 : Str := ⟨#[105,110,100,101,120]⟩
noncomputable def zq234 : Str := ⟨#[116,97,98,108,101]⟩
noncomputable def zq235 : Str := ⟨#[98,105,116]⟩
noncomputable def zq236 : Str := ⟨#[99,104,97,114]⟩
noncomputable def zq237 : Str := ⟨#[102,105,108,101,109,111,100,101]⟩
noncomputable def zq238 : Str := ⟨#[112,97,116]⟩
noncomputable def zq239 : Str := ⟨#[83,84,65,82]⟩
noncomputable def zq240 : Str := ⟨#[112,97,114,116,115]⟩
noncomputable def zq241 : Str := ⟨#[99,112,121,51,49,51,46,102,110,109,97,116,99,104]⟩
noncomputable def zq242 : Str := ⟨#[114,101]⟩
noncomputable def zq243 : Str := ⟨#[83,95,73,70,68,73,82]⟩
noncomputable def zq244 : Str := ⟨#[83,95,73,70,67,72,82]⟩
noncomputable def zq245 : Str := ⟨#[83,95,73,70,66,76,75]⟩
noncomputable def zq246 : Str := ⟨#[83,95,73,70,82,69,71]⟩
noncomputable def zq247 : Str := ⟨#[83,95,73,70,73,70,79]⟩
noncomputable def zq248 : Str := ⟨#[83,95,73,70,76,78,75]⟩
noncomputable def zq249 : Str := ⟨#[83,95,73,70,83,79,67,75]⟩
noncomputable def zq250 : Str := ⟨#[83,95,73,83,85,73,68]⟩
noncomputable def zq251 : Str := ⟨#[83,95,73,83,71,73,68]⟩
noncomputable def zq252 : Str := ⟨#[83,95,73,83,86,84,88]⟩
noncomputable def zq253 : Str := ⟨#[83,95,73,82,85,83,82]⟩
noncomputable def zq254 : Str := ⟨#[83,95,73,87,85,83,82]⟩
noncomputable def zq255 : Str := ⟨#[83,95,73,88,85,83,82]⟩
noncomputable def zq256 : Str := ⟨#[83,95,73,82,71,82,80]⟩
noncomputable def zq257 : Str := ⟨#[83,95,73,87,71,82,80]⟩
noncomputable def zq258 : Str := ⟨#[83,95,73,88,71,82,80]⟩
noncomputable def zq259 : Str := ⟨#[83,95,73,82,79,84,72]⟩
noncomputable def zq260 : Str := ⟨#[83,95,73,87,79,84,72]⟩
noncomputable def zq261 : Str := ⟨#[83,95,73,88,79,84,72]⟩
noncomputable def zq262 : Str := ⟨#[95,102,105,108,101,109,111,100,101,95,116,97,98,108,101]⟩
noncomputable def zq263 : Str := ⟨#[95,116,119,105,110,95,114,101,95,49]⟩
noncomputable def zq264 : Str := ⟨#[95,115,112,101,99,105,97,108,95,99,104,97,114,115,95,109,97,112]⟩
noncomputable def zq265 : Str := ⟨#[92,40]⟩
noncomputable def zq266 : Str := ⟨#[92,41]⟩
noncomputable def zq267 : Str := ⟨#[92,91]⟩
noncomputable def zq268 : Str := ⟨#[92,93]⟩
noncomputable def zq269 : Str := ⟨#[92,123]⟩
noncomputable def zq270 : Str := ⟨#[92,125]⟩
noncomputable def zq271 : Str := ⟨#[92,63]⟩
noncomputable def zq272 : Str := ⟨#[92,42]⟩
noncomputable def zq273 : Str := ⟨#[92,43]⟩
noncomputable def zq274 : Str := ⟨#[92,45]⟩
noncomputable def zq275 : Str := ⟨#[92,124]⟩
noncomputable def zq276 : Str := ⟨#[92,94]⟩
noncomputable def zq277 : Str := ⟨#[92,36]⟩
noncomputable def zq278 : Str := ⟨#[92,92]⟩
noncomputable def zq279 : Str := ⟨#[92,46]⟩
noncomputable def zq280 : Str := ⟨#[92,38]⟩
noncomputable def zq281 : Str := ⟨#[92,126]⟩
noncomputable def zq282 : Str := ⟨#[92,35]⟩
noncomputable def zq283 : Str := ⟨#[92,32]⟩
noncomputable def zq284 : Str := ⟨#[92,9]⟩
noncomputable def zq285 : Str := ⟨#[92,10]⟩
noncomputable def zq286 : Str := ⟨#[92,13]⟩
noncomputable def zq287 : Str := ⟨#[92,11]⟩
noncomputable def zq288 : Str := ⟨#[92,12]⟩
noncomputable def zq289 : Str := ⟨#[104,101,97,112,112,111,112]⟩
noncomputable def zq290 : Str := ⟨#[104,101,97,112]⟩
noncomputable def zq291 : Str := ⟨#[114,101,116,117,114,110,105,116,101,109]⟩
noncomputable def zq292 : Str := ⟨#[110,108,97,114,103,101,115,116]⟩
noncomputable def zq293 : Str := ⟨#[95,108,97,119,95,112,97,116,116,101,114,110]⟩
noncomputable def zq294 : Str := ⟨#[108,97,119,95,114,120,48,49,49,55,95,48,49]⟩
noncomputable def zq295 : Str := ⟨#[95,115,105,102,116,100,111,119,110]⟩
noncomputable def zq296 : Str := ⟨#[95,106,111,105,110,95,116,114,97,110,115,108,97,116,101,100,95,112,97,114,116,115]⟩
noncomputable def zq297 : Str := ⟨#[104,101,97,112,114,101,112,108,97,99,101]⟩
noncomputable def zq298 : Str := ⟨#[99,112,121,51,49,51,46,104,101,97,112,113]⟩
noncomputable def zq299 : Str := ⟨#[101,115,99,97,112,101]⟩
noncomputable def zq300 : Str := ⟨#[95,115,105,102,116,117,112,95,109,97,120]⟩
noncomputable def zq301 : Str := ⟨#[114,101,115]⟩
noncomputable def zq302 : Str := ⟨#[97,100,100]⟩
noncomputable def zq303 : Str := ⟨#[104,101,97,112,105,102,121]⟩
noncomputable def zq304 : Str := ⟨#[95,104,101,97,112,114,101,112,108,97,99,101,95,109,97,120]⟩
noncomputable def zq305 : Str := ⟨#[110,115,109,97,108,108,101,115,116]⟩
noncomputable def zq306 : Str := ⟨#[115,116,97,114,116,112,111,115]⟩
noncomputable def zq307 : Str := ⟨#[112,111,115]⟩
noncomputable def zq308 : Str := ⟨#[110,101,119,105,116,101,109]⟩
noncomputable def zq309 : Str := ⟨#[112,97,114,101,110,116,112,111,115]⟩
noncomputable def zq310 : Str := ⟨#[108,97,119]⟩
noncomputable def zq311 : Str := ⟨#[95,108,97,119,95,115,105,103,110,115]⟩
noncomputable def zq312 : Str := ⟨#[95,108,97,119,95,99,111,117,110,116]⟩
noncomputable def zq313 : Str := ⟨#[95,108,97,119,95,102,105,116,115]⟩
noncomputable def zq314 : Str := ⟨#[101,110,100,112,111,115]⟩
noncomputable def zq315 : Str := ⟨#[99,104,105,108,100,112,111,115]⟩
noncomputable def zq316 : Str := ⟨#[114,105,103,104,116,112,111,115]⟩
noncomputable def zq317 : Str := ⟨#[95,115,105,102,116,117,112]⟩
noncomputable def zq318 : Str := ⟨#[95,116,114,97,110,115,108,97,116,101]⟩
noncomputable def zq319 : Str := ⟨#[95,104,101,97,112,105,102,121,95,109,97,120]⟩
noncomputable def zq320 : Str := ⟨#[95,115,105,102,116,100,111,119,110,95,109,97,120]⟩
noncomputable def zq321 : Str := ⟨#[105,116,101,109]⟩
noncomputable def zsA0 (P : Params) : Obj := ⟨(.type "dict"),.none,(.dict #[(zde P zq14 1 (.str zq12 160)),(zde P zq15 2 (.builtin "builtins.__doc__:str#opaque")),(zde P zq16 3 (.builtin "builtins.__package__:str#opaque")),(zde P zq17 4 (.builtin "builtins.__loader__:shared#opaque")),(zde P zq18 5 (.builtin "builtins.__spec__#opaque")),(zde P zq19 6 (.builtin "__build_class__")),(zde P zq20 7 (.builtin "__import__")),(zde P zq21 8 (.builtin "abs")),(zde P zq22 9 (.builtin "all")),(zde P zq23 10 (.builtin "any")),(zde P zq24 11 (.builtin "ascii")),(zde P zq25 12 (.builtin "bin")),(zde P zq26 13 (.builtin "breakpoint")),(zde P zq27 14 (.builtin "callable")),(zde P zq28 15 (.builtin "chr")),(zde P zq29 16 (.builtin "compile")),(zde P zq30 17 (.builtin "delattr")),(zde P zq31 18 (.builtin "dir")),(zde P zq32 19 (.builtin "divmod")),(zde P zq33 20 (.builtin "eval")),(zde P zq34 21 (.builtin "exec")),(zde P zq35 22 (.builtin "format")),(zde P zq36 23 (.builtin "getattr")),(zde P zq37 24 (.builtin "globals")),(zde P zq38 25 (.builtin "hasattr")),(zde P zq39 26 (.builtin "hash")),(zde P zq40 27 (.builtin "hex")),(zde P zq41 28 (.builtin "id")),(zde P zq42 29 (.builtin "input")),(zde P zq43 30 (.builtin "isinstance")),(zde P zq44 31 (.builtin "issubclass")),(zde P zq45 32 (.builtin "iter")),(zde P zq46 33 (.builtin "aiter")),(zde P zq47 34 (.builtin "len")),(zde P zq48 35 (.builtin "locals")),(zde P zq49 36 (.builtin "max")),(zde P zq50 37 (.builtin "min")),(zde P zq51 38 (.builtin "next")),(zde P zq52 39 (.builtin "anext")),(zde P zq53 40 (.builtin "oct")),(zde P zq54 41 (.builtin "ord")),(zde P zq55 42 (.builtin "pow")),(zde P zq56 43 (.builtin "print")),(zde P zq57 44 (.builtin "repr")),(zde P zq58 45 (.builtin "round")),(zde P zq59 46 (.builtin "setattr")),(zde P zq60 47 (.builtin "sorted")),(zde P zq61 48 (.builtin "sum")),(zde P zq62 49 (.builtin "vars")),(zde P zq63 50 .none),(zde P zq64 51 .ellipsis),(zde P zq65 52 .notImplemented),(zde P zq66 53 (.bool .false)),(zde P zq67 54 (.bool .true)),(zde P zq68 55 (.type "bool")),(zde P zq69 56 (.type "memoryview")),(zde P zq70 57 (.type "bytearray")),(zde P zq71 58 (.type "bytes")),(zde P zq72 59 (.type "classmethod")),(zde P zq73 60 (.type "complex")),(zde P zq74 61 (.type "dict")),(zde P zq75 62 (.type "enumerate")),(zde P zq76 63 (.type "filter")),(zde P zq77 64 (.type "float")),(zde P zq78 65 (.type "frozenset")),(zde P zq79 66 (.type "property")),(zde P zq80 67 (.type "int")),(zde P zq81 68 (.type "list")),(zde P zq82 69 (.type "map")),(zde P zq83 70 (.type "object")),(zde P zq84 71 (.type "range")),(zde P zq85 72 (.type "reversed")),(zde P zq86 73 (.type "set")),(zde P zq87 74 (.type "slice")),(zde P zq88 75 (.type "staticmethod")),(zde P zq89 76 (.type "str")),(zde P zq90 77 (.type "super")),(zde P zq91 78 (.type "tuple")),(zde P zq92 79 (.type "type")),(zde P zq93 80 (.type "zip")),(zde P zq94 81 (.bool .true)),(zde P zq95 82 (.type "BaseException")),(zde P zq96 83 (.type "BaseExceptionGroup")),(zde P zq97 84 (.type "Exception")),(zde P zq98 85 (.type "GeneratorExit")),(zde P zq99 86 (.type "KeyboardInterrupt")),(zde P zq100 87 (.type "SystemExit")),(zde P zq101 88 (.type "ArithmeticError")),(zde P zq102 89 (.type "AssertionError")),(zde P zq103 90 (.type "AttributeError")),(zde P zq104 91 (.type "BufferError")),(zde P zq105 92 (.type "EOFError")),(zde P zq106 93 (.type "ImportError")),(zde P zq107 94 (.type "LookupError")),(zde P zq108 95 (.type "MemoryError")),(zde P zq109 96 (.type "NameError")),(zde P zq110 97 (.type "OSError")),(zde P zq111 98 (.type "ReferenceError")),(zde P zq112 99 (.type "RuntimeError")),(zde P zq113 100 (.type "StopAsyncIteration")),(zde P zq114 101 (.type "StopIteration")),(zde P zq115 102 (.type "SyntaxError")),(zde P zq116 103 (.type "SystemError")),(zde P zq117 104 (.type "TypeError")),(zde P zq118 105 (.type "ValueError")),(zde P zq119 106 (.type "Warning")),(zde P zq120 107 (.type "FloatingPointError")),(zde P zq121 108 (.type "OverflowError")),(zde P zq122 109 (.type "ZeroDivisionError")),(zde P zq123 110 (.type "BytesWarning")),(zde P zq124 111 (.type "DeprecationWarning")),(zde P zq125 112 (.type "EncodingWarning")),(zde P zq126 113 (.type "FutureWarning")),(zde P zq127 114 (.type "ImportWarning")),(zde P zq128 115 (.type "PendingDeprecationWarning")),(zde P zq129 116 (.type "ResourceWarning")),(zde P zq130 117 (.type "RuntimeWarning")),(zde P zq131 118 (.type "SyntaxWarning")),(zde P zq132 119 (.type "UnicodeWarning")),(zde P zq133 120 (.type "UserWarning")),(zde P zq134 121 (.type "BlockingIOError")),(zde P zq135 122 (.type "ChildProcessError")),(zde P zq136 123 (.type "ConnectionError")),(zde P zq137 124 (.type "FileExistsError")),(zde P zq138 125 (.type "FileNotFoundError")),(zde P zq139 126 (.type "InterruptedError")),(zde P zq140 127 (.type "IsADirectoryError")),(zde P zq141 128 (.type "NotADirectoryError")),(zde P zq142 129 (.type "PermissionError")),(zde P zq143 130 (.type "ProcessLookupError")),(zde P zq144 131 (.type "TimeoutError")),(zde P zq145 132 (.type "IndentationError")),(zde P zq146 133 (.type "_IncompleteInputError")),(zde P zq147 134 (.type "IndexError")),(zde P zq148 135 (.type "KeyError")),(zde P zq149 136 (.type "ModuleNotFoundError")),(zde P zq150 137 (.type "NotImplementedError")),(zde P zq151 138 (.type "PythonFinalizationError")),(zde P zq152 139 (.type "RecursionError")),(zde P zq153 140 (.type "UnboundLocalError")),(zde P zq154 141 (.type "UnicodeError")),(zde P zq155 142 (.type "BrokenPipeError")),(zde P zq156 143 (.type "ConnectionAbortedError")),(zde P zq157 144 (.type "ConnectionRefusedError")),(zde P zq158 145 (.type "ConnectionResetError")),(zde P zq159 146 (.type "TabError")),(zde P zq160 147 (.type "UnicodeDecodeError")),(zde P zq161 148 (.type "UnicodeEncodeError")),(zde P zq162 149 (.type "UnicodeTranslateError")),(zde P zq163 150 (.type "ExceptionGroup")),(zde P zq164 151 (.type "OSError")),(zde P zq165 152 (.type "OSError")),(zde P zq166 153 (.builtin "open")),(zde P zq167 154 (.builtin "builtins.quit#opaque")),(zde P zq168 155 (.builtin "builtins.exit#opaque")),(zde P zq169 156 (.builtin "builtins.copyright#opaque")),(zde P zq170 157 (.builtin "builtins.credits#opaque")),(zde P zq171 158 (.builtin "builtins.license#opaque")),(zde P zq172 159 (.builtin "builtins.help#opaque"))] 159),#[]⟩
noncomputable def zsA1 (P : Params) : Obj := ⟨(.type "dict"),.none,(.dict #[(zde P zq12 162 (.ref 4)),(zde P zq13 163 (.ref 5)),(zde P zq2 244 (.ref 12))] 3),#[]⟩
noncomputable def zsA2 (P : Params) : Obj := ⟨.none,.none,(.dict #[(zde P zq191 183 (.bool .true)),(zde P zq192 185 (.ref 14)),(zde P zq193 206 (.ref 18)),(zde P zq194 216 (.ref 22)),(zde P zq195 245 (.int 3 0)),(zde P zq196 270 (.bool .true)),(zde P zq197 272 (.ref 27)),(zde P zq198 0 (.str ⟨#[12]⟩ 0)),(zde P zq199 273 (.str zq200 0))] 9),#[]⟩
noncomputable def zsA3 (P : Params) : Obj := ⟨(.type "dict"),.none,(.dict #[(zde P zq14 165 (.str zq13 164)),(zde P zq15 166 .none),(zde P zq16 167 .none),(zde P zq17 168 (.builtin "__main__.__loader__#opaque")),(zde P zq18 169 .none),(zde P zq186 170 (.ref 6)),(zde P zq187 171 (.ref 4)),(zde P zq188 173 (.str zq189 172)),(zde P zq190 174 .none),(zde P zq2 275 (.ref 12))] 10),#[]⟩
noncomputable def zsA4 : Obj := ⟨(.type "module"),(.some 0),.plain,#[]⟩
noncomputable def zsA5 : Obj := ⟨(.type "module"),(.some 3),.plain,#[]⟩
noncomputable def zsA6 : Obj := ⟨(.type "dict"),.none,(.dict #[] 0),#[]⟩
noncomputable def zsA7 : Obj := ⟨(.type "tuple"),.none,(.seq #[] 0),#[]⟩
noncomputable def zsA8 : Obj := ⟨.none,.none,(.fields #[]),#[]⟩
noncomputable def zsA9 : Obj := ⟨(.type "code"),.none,(.fields #[(.str zq201 176),(.str zq201 177),(.str zq189 178),(.int 1 0),(.int 0 0),(.int 0 0),(.int 0 0),(.int 0 0),(.ref 7),(.bool .false),(.int 175 0),(.ref 8),.none,.none,.none,.none,(.int 179 0),(.int 1 0),(.str zq189 180)]),#[]⟩
noncomputable def zsA10 : Obj := ⟨(.type "frame"),.none,.plain,#[(.some (.ref 9)),(.some (.ref 3)),(.some (.ref 3)),.none,(.some (.str zq13 164)),.none,(.some (.ref 0))]⟩
noncomputable def zsA11 (P : Params) : Obj := ⟨(.type "dict"),.none,(.dict #[(zde P zq14 247 (.str zq2 246)),(zde P zq15 248 .none),(zde P zq16 250 (.str ⟨#[]⟩ 249)),(zde P zq17 251 (.builtin "off-the-table:_sre.__loader__:shared#opaque")),(zde P zq18 252 (.builtin "off-the-table:_sre.__spec__:shared#opaque")),(zde P zq29 253 (.builtin "_sre.compile")),(zde P zq203 254 (.builtin "off-the-table:_sre.template:shared#opaque")),(zde P zq204 255 (.builtin "off-the-table:_sre.getcodesize:shared#opaque")),(zde P zq205 256 (.builtin "off-the-table:_sre.ascii_iscased:shared#opaque")),(zde P zq206 257 (.builtin "off-the-table:_sre.unicode_iscased:shared#opaque")),(zde P zq207 258 (.builtin "off-the-table:_sre.ascii_tolower:shared#opaque")),(zde P zq208 259 (.builtin "off-the-table:_sre.unicode_tolower:shared#opaque")),(zde P zq209 261 (.int 20230612 260)),(zde P zq210 263 (.int 4 262)),(zde P zq211 265 (.int 4294967295 264)),(zde P zq212 267 (.int 1073741823 266)),(zde P zq169 269 (.str zq213 268))] 17),#[]⟩
noncomputable def zsA12 : Obj := ⟨(.type "module"),(.some 11),.plain,#[]⟩
noncomputable def zsA13 (P : Params) : Obj := ⟨(.type "dict"),.none,(.dict #[(zde P zq173 189 (.str zq174 186)),(zde P zq175 190 (.int 971 187)),(zde P zq15 191 (.builtin "_frozen_importlib.BuiltinImporter.__doc__:str#opaque")),(zde P zq176 192 (.str zq5 188)),(zde P zq177 193 (.builtin "_frozen_importlib.BuiltinImporter.find_spec#opaque")),(zde P zq178 194 (.builtin "_frozen_importlib.BuiltinImporter.create_module#opaque")),(zde P zq179 195 (.builtin "_frozen_importlib.BuiltinImporter.exec_module#opaque")),(zde P zq180 196 (.builtin "_frozen_importlib.BuiltinImporter.get_code#opaque")),(zde P zq181 197 (.builtin "_frozen_importlib.BuiltinImporter.get_source#opaque")),(zde P zq182 198 (.builtin "_frozen_importlib.BuiltinImporter.is_package#opaque")),(zde P zq183 199 (.builtin "_frozen_importlib.BuiltinImporter.load_module#opaque")),(zde P zq184 200 (.ref 15)),(zde P zq0 202 (.ref 16)),(zde P zq185 204 (.ref 17))] 14),#[]⟩
noncomputable def zsA14 : Obj := ⟨(.type "type"),.none,(.cls ⟨zq202,[(.type "object")],[(.ref 14),(.type "object")],13,zq202,.true,[],[],.false,.none,.false⟩),#[]⟩
noncomputable def zsA16 : Obj := ⟨(.type "getset_descriptor"),.none,(.fields #[(.str zq0 201),(.ref 14),(.builtin "function.__dict__"),(.builtin "function.__dict__#set")]),#[]⟩
noncomputable def zsA17 : Obj := ⟨(.type "getset_descriptor"),.none,(.fields #[(.str zq185 203),(.ref 14),(.builtin "ExceptionGroup.__weakref__"),.none]),#[]⟩
noncomputable def zsA18 : Obj := ⟨.none,.none,(.seq #[(.int 13 0),(.str zq223 0),(.bool .true),(.bool .true),(.str ⟨#[]⟩ 205),(.int 21 0),(.str zq224 0),(.bool .true),(.bool .true),(.str ⟨#[]⟩ 242)] 1),#[]⟩
noncomputable def zsA19 : Obj := ⟨(.type "list"),.none,(.seq #[] 0),#[]⟩
noncomputable def zsA20 (P : Params) : Obj := ⟨(.type "dict"),.none,(.dict #[(zde P zq1 208 (.str zq2 207)),(zde P zq3 209 (.ref 14)),(zde P zq4 210 (.str zq5 184)),(zde P zq6 211 .none),(zde P zq7 212 .none),(zde P zq8 213 (.ref 19)),(zde P zq9 214 (.bool .false)),(zde P zq10 215 .none),(zde P zq11 243 (.bool .false))] 9),#[]⟩
noncomputable def zsA21 (P : Params) : Obj := ⟨(.type "dict"),.none,(.dict #[(zde P zq173 227 (.str zq174 217)),(zde P zq175 228 (.int 562 218)),(zde P zq15 229 (.builtin "_frozen_importlib.ModuleSpec.__doc__:str#opaque")),(zde P zq215 230 (.builtin "_frozen_importlib.ModuleSpec.__init__#opaque")),(zde P zq216 231 (.builtin "_frozen_importlib.ModuleSpec.__repr__#opaque")),(zde P zq217 232 (.builtin "_frozen_importlib.ModuleSpec.__eq__#opaque")),(zde P zq218 233 (.builtin "_frozen_importlib.ModuleSpec.cached#opaque")),(zde P zq219 234 (.builtin "_frozen_importlib.ModuleSpec.parent#opaque")),(zde P zq220 235 (.builtin "_frozen_importlib.ModuleSpec.has_location#opaque")),(zde P zq184 236 (.ref 23)),(zde P zq0 238 (.ref 24)),(zde P zq185 240 (.ref 25)),(zde P zq221 241 .none)] 13),#[]⟩
noncomputable def zsA22 : Obj := ⟨(.type "type"),.none,(.cls ⟨zq214,[(.type "object")],[(.ref 22),(.type "object")],21,zq214,.true,[],[],.false,.none,.false⟩),#[]⟩
noncomputable def zsA23 : Obj := ⟨(.type "tuple"),.none,(.seq #[(.str zq10 219),(.str zq9 220),(.str zq8 221),(.str zq3 222),(.str zq6 223),(.str zq1 224),(.str zq4 225),(.str zq7 226)] 0),#[]⟩
noncomputable def zsA24 : Obj := ⟨(.type "getset_descriptor"),.none,(.fields #[(.str zq0 237),(.ref 22),(.builtin "function.__dict__"),(.builtin "function.__dict__#set")]),#[]⟩
noncomputable def zsA25 : Obj := ⟨(.type "getset_descriptor"),.none,(.fields #[(.str zq185 239),(.ref 22),(.builtin "ExceptionGroup.__weakref__"),.none]),#[]⟩
noncomputable def zsA26 : Obj := ⟨(.ref 22),(.some 20),.plain,#[]⟩
noncomputable def zsA27 : Obj := ⟨.none,.none,(.seq #[(.int 11 0),(.str zq222 0),(.bool .true),(.bool .false),(.str zq2 271)] 0),#[]⟩
noncomputable def zsA (P : Params) : Shared := ⟨⟨#[zsA0 P,zsA1 P,zsA2 P,zsA3 P,zsA4,zsA5,zsA6,zsA7,zsA8,zsA9,zsA10,zsA11 P,zsA12,zsA13 P,zsA14,zsA7,zsA16,zsA17,zsA18,zsA19,zsA20 P,zsA21 P,zsA22,zsA23,zsA24,zsA25,zsA26,zsA27], ⟨[], [], [], 0, [], [], .false, #[], [], 0, .false, .false, .false, 0, [2000, 10, 10], .false, 0, .true, [], [], 0, .false⟩⟩, #[], ⟨0, 0, 0, 0⟩, 276, ⟨#[], #[], 0⟩⟩
noncomputable def zsP30 : Obj := ⟨(.type "code"),.none,(.fields #[(.str zq201 277),(.str zq201 278),(.str zq189 279),(.int 1 0),(.int 0 0),(.int 0 0),(.int 0 0),(.int 0 0),(.ref 28),(.bool .false),(.int 276 0),(.ref 29),.none,.none,.none,.none,(.int 280 0),(.int 1 0),(.str zq189 281)]),#[]⟩
noncomputable def zsP31 : Obj := ⟨(.type "frame"),.none,.plain,#[(.some (.ref 30)),(.some (.ref 3)),(.some (.ref 3)),.none,(.some (.str zq13 164)),.none,(.some (.ref 0))]⟩
noncomputable def zsP (P : Params) : Shared := ⟨⟨#[zsA0 P,zsA1 P,zsA2 P,zsA3 P,zsA4,zsA5,zsA6,zsA7,zsA8,zsA9,zsA10,zsA11 P,zsA12,zsA13 P,zsA14,zsA7,zsA16,zsA17,zsA18,zsA19,zsA20 P,zsA21 P,zsA22,zsA23,zsA24,zsA25,zsA26,zsA27,zsA7,zsA8,zsP30,zsP31], ⟨[], [], [], 0, [], [], .false, #[], [], 0, .false, .false, .false, 0, [2000, 10, 10], .false, 0, .true, [], [], 0, .false⟩⟩, #[], ⟨0, 0, 0, 0⟩, 282, ⟨#[], #[], 0⟩⟩
noncomputable def zsR3 (P : Params) : Obj := ⟨(.type "dict"),.none,(.dict #[(zde P zq14 165 (.str zq242 430)),(zde P zq15 166 .none),(zde P zq16 167 .none),(zde P zq17 168 (.builtin "__main__.__loader__#opaque")),(zde P zq18 169 .none),(zde P zq186 170 (.ref 6)),(zde P zq187 171 (.ref 4)),(zde P zq188 173 (.str zq189 172)),(zde P zq190 174 .none),(zde P zq2 275 (.ref 12)),(zde P zq226 290 (.ref 38)),(zde P zq229 297 (.ref 45)),(zde P zq243 299 (.int 16384 298)),(zde P zq244 301 (.int 8192 300)),(zde P zq245 303 (.int 24576 302)),(zde P zq246 305 (.int 32768 304)),(zde P zq247 307 (.int 4096 306)),(zde P zq248 309 (.int 40960 308)),(zde P zq249 311 (.int 49152 310)),(zde P zq225 318 (.ref 52)),(zde P zq250 320 (.int 2048 319)),(zde P zq251 322 (.int 1024 321)),(zde P zq252 324 (.int 512 323)),(zde P zq253 326 (.int 256 325)),(zde P zq254 328 (.int 128 327)),(zde P zq255 330 (.int 64 329)),(zde P zq256 332 (.int 32 331)),(zde P zq257 334 (.int 16 333)),(zde P zq258 336 (.int 8 335)),(zde P zq259 338 (.int 4 337)),(zde P zq260 340 (.int 2 339)),(zde P zq261 342 (.int 1 341)),(zde P zq262 368 (.ref 85)),(zde P zq237 380 (.ref 92)),(zde P zq263 420 (.ref 97)),(zde P zq227 429 (.ref 104))] 36),#[]⟩
noncomputable def zsR29 : Obj := ⟨.none,.none,(.fields #[(.int 3 0),(.int 0 0),(.ref 37),(.int 5 0),(.int 0 0),(.ref 44),(.int 14 0),(.int 0 0),(.ref 51),(.int 29 0),(.int 0 0),(.ref 91),(.int 48 0),(.int 0 0),(.ref 103)]),#[]⟩
noncomputable def zsR34 : Obj := ⟨(.type "tuple"),.none,(.seq #[(.str zq228 287)] 0),#[]⟩
noncomputable def zsR36 : Obj := ⟨.none,.none,(.func ⟨zq226,zq226,(fnPar 2),(.stmts (fnBody 2)),(fnScope 2),0,[],.none,.none,.none,.none,.none,.none,.none,0⟩),#[]⟩
noncomputable def zsR37 : Obj := ⟨(.type "code"),.none,(.fields #[(.str zq226 284),(.str zq226 285),(.str zq189 286),(.int 3 0),(.int 1 0),(.int 0 0),(.int 0 0),(.int 3 0),(.ref 32),(.bool .true),(.int 276 0),(.ref 33),.none,(.ref 34),(.ref 35),(.ref 36),(.int 288 0),(.int 3 0),(.str zq189 289)]),#[]⟩
noncomputable def zsR38 : Obj := ⟨(.type "function"),.none,(.func ⟨zq226,zq226,(fnPar 2),(.stmts (fnBody 2)),(fnScope 2),3,[],.none,.none,.none,(.str zq230 282),.none,(.ref 37),.none,0⟩),#[]⟩
noncomputable def zsR41 : Obj := ⟨(.type "tuple"),.none,(.seq #[(.str zq228 294)] 0),#[]⟩
noncomputable def zsR43 : Obj := ⟨.none,.none,(.func ⟨zq229,zq229,(fnPar 3),(.stmts (fnBody 3)),(fnScope 2),0,[],.none,.none,.none,.none,.none,.none,.none,0⟩),#[]⟩
noncomputable def zsR44 : Obj := ⟨(.type "code"),.none,(.fields #[(.str zq229 291),(.str zq229 292),(.str zq189 293),(.int 5 0),(.int 1 0),(.int 0 0),(.int 0 0),(.int 3 0),(.ref 39),(.bool .true),(.int 276 0),(.ref 40),.none,(.ref 41),(.ref 42),(.ref 43),(.int 295 0),(.int 5 0),(.str zq189 296)]),#[]⟩
noncomputable def zsR45 : Obj := ⟨(.type "function"),.none,(.func ⟨zq229,zq229,(fnPar 3),(.stmts (fnBody 3)),(fnScope 2),3,[],.none,.none,.none,(.str zq230 282),.none,(.ref 44),.none,0⟩),#[]⟩
noncomputable def zsR48 : Obj := ⟨(.type "tuple"),.none,(.seq #[(.str zq228 315)] 0),#[]⟩
noncomputable def zsR50 : Obj := ⟨.none,.none,(.func ⟨zq225,zq225,(fnPar 11),(.stmts (fnBody 11)),(fnScope 11),0,[],.none,.none,.none,.none,.none,.none,.none,0⟩),#[]⟩
noncomputable def zsR51 : Obj := ⟨(.type "code"),.none,(.fields #[(.str zq225 312),(.str zq225 313),(.str zq189 314),(.int 14 0),(.int 1 0),(.int 0 0),(.int 0 0),(.int 3 0),(.ref 46),(.bool .true),(.int 276 0),(.ref 47),.none,(.ref 48),(.ref 49),(.ref 50),(.int 316 0),(.int 14 0),(.str zq189 317)]),#[]⟩
noncomputable def zsR52 : Obj := ⟨(.type "function"),.none,(.func ⟨zq225,zq225,(fnPar 11),(.stmts (fnBody 11)),(fnScope 11),3,[],.none,.none,.none,(.str zq230 282),.none,(.ref 51),.none,0⟩),#[]⟩
noncomputable def zsR53 : Obj := ⟨(.type "tuple"),.none,(.seq #[(.int 40960 308),(.str ⟨#[108]⟩ 343)] 0),#[]⟩
noncomputable def zsR54 : Obj := ⟨(.type "tuple"),.none,(.seq #[(.int 49152 310),(.str ⟨#[115]⟩ 344)] 0),#[]⟩
noncomputable def zsR55 : Obj := ⟨(.type "tuple"),.none,(.seq #[(.int 32768 304),(.str ⟨#[45]⟩ 345)] 0),#[]⟩
noncomputable def zsR56 : Obj := ⟨(.type "tuple"),.none,(.seq #[(.int 24576 302),(.str ⟨#[98]⟩ 346)] 0),#[]⟩
noncomputable def zsR57 : Obj := ⟨(.type "tuple"),.none,(.seq #[(.int 16384 298),(.str ⟨#[100]⟩ 347)] 0),#[]⟩
noncomputable def zsR58 : Obj := ⟨(.type "tuple"),.none,(.seq #[(.int 8192 300),(.str ⟨#[99]⟩ 348)] 0),#[]⟩
noncomputable def zsR59 : Obj := ⟨(.type "tuple"),.none,(.seq #[(.int 4096 306),(.str ⟨#[112]⟩ 349)] 0),#[]⟩
noncomputable def zsR60 : Obj := ⟨(.type "tuple"),.none,(.seq #[(.ref 53),(.ref 54),(.ref 55),(.ref 56),(.ref 57),(.ref 58),(.ref 59)] 0),#[]⟩
noncomputable def zsR61 : Obj := ⟨(.type "tuple"),.none,(.seq #[(.int 256 325),(.str ⟨#[114]⟩ 350)] 0),#[]⟩
noncomputable def zsR62 : Obj := ⟨(.type "tuple"),.none,(.seq #[(.ref 61)] 0),#[]⟩
noncomputable def zsR63 : Obj := ⟨(.type "tuple"),.none,(.seq #[(.int 128 327),(.str ⟨#[119]⟩ 351)] 0),#[]⟩
noncomputable def zsR64 : Obj := ⟨(.type "tuple"),.none,(.seq #[(.ref 63)] 0),#[]⟩
noncomputable def zsR65 : Obj := ⟨(.type "tuple"),.none,(.seq #[(.int 2112 352),(.str ⟨#[115]⟩ 353)] 0),#[]⟩
noncomputable def zsR66 : Obj := ⟨(.type "tuple"),.none,(.seq #[(.int 2048 319),(.str ⟨#[83]⟩ 354)] 0),#[]⟩
noncomputable def zsR67 : Obj := ⟨(.type "tuple"),.none,(.seq #[(.int 64 329),(.str ⟨#[120]⟩ 355)] 0),#[]⟩
noncomputable def zsR68 : Obj := ⟨(.type "tuple"),.none,(.seq #[(.ref 65),(.ref 66),(.ref 67)] 0),#[]⟩
noncomputable def zsR69 : Obj := ⟨(.type "tuple"),.none,(.seq #[(.int 32 331),(.str ⟨#[114]⟩ 356)] 0),#[]⟩
noncomputable def zsR70 : Obj := ⟨(.type "tuple"),.none,(.seq #[(.ref 69)] 0),#[]⟩
noncomputable def zsR71 : Obj := ⟨(.type "tuple"),.none,(.seq #[(.int 16 333),(.str ⟨#[119]⟩ 357)] 0),#[]⟩
noncomputable def zsR72 : Obj := ⟨(.type "tuple"),.none,(.seq #[(.ref 71)] 0),#[]⟩
noncomputable def zsR73 : Obj := ⟨(.type "tuple"),.none,(.seq #[(.int 1032 358),(.str ⟨#[115]⟩ 359)] 0),#[]⟩
noncomputable def zsR74 : Obj := ⟨(.type "tuple"),.none,(.seq #[(.int 1024 321),(.str ⟨#[83]⟩ 360)] 0),#[]⟩
noncomputable def zsR75 : Obj := ⟨(.type "tuple"),.none,(.seq #[(.int 8 335),(.str ⟨#[120]⟩ 361)] 0),#[]⟩
noncomputable def zsR76 : Obj := ⟨(.type "tuple"),.none,(.seq #[(.ref 73),(.ref 74),(.ref 75)] 0),#[]⟩
noncomputable def zsR77 : Obj := ⟨(.type "tuple"),.none,(.seq #[(.int 4 337),(.str ⟨#[114]⟩ 362)] 0),#[]⟩
noncomputable def zsR78 : Obj := ⟨(.type "tuple"),.none,(.seq #[(.ref 77)] 0),#[]⟩
noncomputable def zsR79 : Obj := ⟨(.type "tuple"),.none,(.seq #[(.int 2 339),(.str ⟨#[119]⟩ 363)] 0),#[]⟩
noncomputable def zsR80 : Obj := ⟨(.type "tuple"),.none,(.seq #[(.ref 79)] 0),#[]⟩
noncomputable def zsR81 : Obj := ⟨(.type "tuple"),.none,(.seq #[(.int 513 364),(.str ⟨#[116]⟩ 365)] 0),#[]⟩
noncomputable def zsR82 : Obj := ⟨(.type "tuple"),.none,(.seq #[(.int 512 323),(.str ⟨#[84]⟩ 366)] 0),#[]⟩
noncomputable def zsR83 : Obj := ⟨(.type "tuple"),.none,(.seq #[(.int 1 341),(.str ⟨#[120]⟩ 367)] 0),#[]⟩
noncomputable def zsR84 : Obj := ⟨(.type "tuple"),.none,(.seq #[(.ref 81),(.ref 82),(.ref 83)] 0),#[]⟩
noncomputable def zsR85 : Obj := ⟨(.type "tuple"),.none,(.seq #[(.ref 60),(.ref 62),(.ref 64),(.ref 68),(.ref 70),(.ref 72),(.ref 76),(.ref 78),(.ref 80),(.ref 84)] 0),#[]⟩
noncomputable def zsR88 : Obj := ⟨(.type "tuple"),.none,(.seq #[(.str zq228 372),(.str zq232 373),(.str zq233 374),(.str zq234 375),(.str zq235 376),(.str zq236 377)] 0),#[]⟩
noncomputable def zsR90 : Obj := ⟨.none,.none,(.func ⟨zq237,zq237,(fnPar 25),(.stmts (fnBody 25)),(fnScope 25),0,[],.none,.none,.none,.none,.none,.none,.none,0⟩),#[]⟩
noncomputable def zsR91 : Obj := ⟨(.type "code"),.none,(.fields #[(.str zq237 369),(.str zq237 370),(.str zq189 371),(.int 29 0),(.int 1 0),(.int 0 0),(.int 0 0),(.int 3 0),(.ref 86),(.bool .true),(.int 276 0),(.ref 87),.none,(.ref 88),(.ref 89),(.ref 90),(.int 378 0),(.int 29 0),(.str zq189 379)]),#[]⟩
noncomputable def zsR92 : Obj := ⟨(.type "function"),.none,(.func ⟨zq237,zq237,(fnPar 25),(.stmts (fnBody 25)),(fnScope 25),3,[],.none,.none,.none,(.str zq230 282),.none,(.ref 91),.none,0⟩),#[]⟩
noncomputable def zsR93 : Obj := ⟨(.type "list"),.none,(.seq #[(.int 14 386),(.int 14 387),(.int 4 388),(.int 1 389),(.int 1 390),(.int 9 391),(.int 0 392),(.int 64 393),(.int 0 394),(.int 1342177280 395),(.int 0 396),(.int 0 397),(.int 0 398),(.int 0 399),(.int 0 400),(.int 17 401),(.int 0 402),(.int 13 403),(.int 11 404),(.int 9 405),(.int 0 406),(.int 64 407),(.int 0 408),(.int 1342177280 409),(.int 0 410),(.int 0 411),(.int 0 412),(.int 0 413),(.int 0 414),(.int 17 415),(.int 1 416),(.int 1 417)] 0),#[]⟩
noncomputable def zsR95 : Obj := ⟨(.type "tuple"),.none,(.seq #[.none,.none] 0),#[]⟩
noncomputable def zsR96 : Obj := ⟨(.type "tuple"),.none,(.seq #[(.int 14 0),(.int 14 0),(.int 4 0),(.int 1 0),(.int 1 0),(.int 9 0),(.int 0 0),(.int 64 0),(.int 0 0),(.int 1342177280 0),(.int 0 0),(.int 0 0),(.int 0 0),(.int 0 0),(.int 0 0),(.int 17 0),(.int 0 0),(.int 13 0),(.int 11 0),(.int 9 0),(.int 0 0),(.int 64 0),(.int 0 0),(.int 1342177280 0),(.int 0 0),(.int 0 0),(.int 0 0),(.int 0 0),(.int 0 0),(.int 17 0),(.int 1 0),(.int 1 0)] 0),#[]⟩
noncomputable def zsR97 : Obj := ⟨(.type "re.Pattern"),.none,(.fields #[(.str zq231 384),(.int 32 419),(.int 1 0),.none,.none,(.ref 96),(.int 0 0)]),#[]⟩
noncomputable def zsR100 : Obj := ⟨(.type "tuple"),.none,(.seq #[(.str zq238 424),(.str zq239 425),(.str zq240 426)] 0),#[]⟩
noncomputable def zsR102 : Obj := ⟨.none,.none,(.func ⟨zq227,zq227,(fnPar 28),(.stmts (fnBody 28)),(fnScope 28),0,[],.none,.none,.none,.none,.none,.none,.none,0⟩),#[]⟩
noncomputable def zsR103 : Obj := ⟨(.type "code"),.none,(.fields #[(.str zq227 421),(.str zq227 422),(.str zq189 423),(.int 48 0),(.int 1 0),(.int 0 0),(.int 0 0),(.int 3 0),(.ref 98),(.bool .true),(.int 276 0),(.ref 99),.none,(.ref 100),(.ref 101),(.ref 102),(.int 427 0),(.int 48 0),(.str zq189 428)]),#[]⟩
noncomputable def zsR104 : Obj := ⟨(.type "function"),.none,(.func ⟨zq227,zq227,(fnPar 28),(.stmts (fnBody 28)),(fnScope 28),3,[],.none,.none,.none,(.str zq241 381),.none,(.ref 103),.none,0⟩),#[]⟩
noncomputable def zsR (P : Params) : Shared := ⟨⟨#[zsA0 P,zsA1 P,zsA2 P,zsR3 P,zsA4,zsA5,zsA6,zsA7,zsA8,zsA9,zsA10,zsA11 P,zsA12,zsA13 P,zsA14,zsA7,zsA16,zsA17,zsA18,zsA19,zsA20 P,zsA21 P,zsA22,zsA23,zsA24,zsA25,zsA26,zsA27,zsA7,zsR29,zsP30,zsP31,zsA7,zsA8,zsR34,zsA7,zsR36,zsR37,zsR38,zsA7,zsA8,zsR41,zsA7,zsR43,zsR44,zsR45,zsA7,zsA8,zsR48,zsA7,zsR50,zsR51,zsR52,zsR53,zsR54,zsR55,zsR56,zsR57,zsR58,zsR59,zsR60,zsR61,zsR62,zsR63,zsR64,zsR65,zsR66,zsR67,zsR68,zsR69,zsR70,zsR71,zsR72,zsR73,zsR74,zsR75,zsR76,zsR77,zsR78,zsR79,zsR80,zsR81,zsR82,zsR83,zsR84,zsR85,zsA7,zsA8,zsR88,zsA7,zsR90,zsR91,zsR92,zsR93,zsA6,zsR95,zsR96,zsR97,zsA7,zsA8,zsR100,zsA7,zsR102,zsR103,zsR104], ⟨[], [], [], 0, [], [], .false, #[], [], 0, .false, .false, .false, 0, [2000, 10, 10], .false, 0, .true, [], [], 0, .false⟩⟩, #[], ⟨0, 0, 0, 0⟩, 432, ⟨#[], #[], 0⟩⟩
noncomputable def zsT3 (P : Params) : Obj := ⟨(.type "dict"),.none,(.dict #[(zde P zq14 165 (.str zq242 430)),(zde P zq15 166 .none),(zde P zq16 167 .none),(zde P zq17 168 (.builtin "__main__.__loader__#opaque")),(zde P zq18 169 .none),(zde P zq186 170 (.ref 6)),(zde P zq187 171 (.ref 4)),(zde P zq188 173 (.str zq189 172)),(zde P zq190 174 .none),(zde P zq2 275 (.ref 12)),(zde P zq226 290 (.ref 38)),(zde P zq229 297 (.ref 45)),(zde P zq243 299 (.int 16384 298)),(zde P zq244 301 (.int 8192 300)),(zde P zq245 303 (.int 24576 302)),(zde P zq246 305 (.int 32768 304)),(zde P zq247 307 (.int 4096 306)),(zde P zq248 309 (.int 40960 308)),(zde P zq249 311 (.int 49152 310)),(zde P zq225 318 (.ref 52)),(zde P zq250 320 (.int 2048 319)),(zde P zq251 322 (.int 1024 321)),(zde P zq252 324 (.int 512 323)),(zde P zq253 326 (.int 256 325)),(zde P zq254 328 (.int 128 327)),(zde P zq255 330 (.int 64 329)),(zde P zq256 332 (.int 32 331)),(zde P zq257 334 (.int 16 333)),(zde P zq258 336 (.int 8 335)),(zde P zq259 338 (.int 4 337)),(zde P zq260 340 (.int 2 339)),(zde P zq261 342 (.int 1 341)),(zde P zq262 368 (.ref 85)),(zde P zq237 380 (.ref 92)),(zde P zq263 420 (.ref 97)),(zde P zq227 429 (.ref 104)),(zde P zq264 577 (.ref 106))] 37),#[]⟩
noncomputable def zsT105 : Obj := ⟨(.type "bytes_iterator"),.none,(.fields #[.none,(.int 24 0)]),#[]⟩
noncomputable def zsT106 : Obj := ⟨(.type "dict"),.none,(.dict #[⟨40,(.int 40 433),(.str zq265 437)⟩,⟨41,(.int 41 439),(.str zq266 443)⟩,⟨91,(.int 91 445),(.str zq267 449)⟩,⟨93,(.int 93 451),(.str zq268 455)⟩,⟨123,(.int 123 457),(.str zq269 461)⟩,⟨125,(.int 125 463),(.str zq270 467)⟩,⟨63,(.int 63 469),(.str zq271 473)⟩,⟨42,(.int 42 475),(.str zq272 479)⟩,⟨43,(.int 43 481),(.str zq273 485)⟩,⟨45,(.int 45 487),(.str zq274 491)⟩,⟨124,(.int 124 493),(.str zq275 497)⟩,⟨94,(.int 94 499),(.str zq276 503)⟩,⟨36,(.int 36 505),(.str zq277 509)⟩,⟨92,(.int 92 511),(.str zq278 515)⟩,⟨46,(.int 46 517),(.str zq279 521)⟩,⟨38,(.int 38 523),(.str zq280 527)⟩,⟨126,(.int 126 529),(.str zq281 533)⟩,⟨35,(.int 35 535),(.str zq282 539)⟩,⟨32,(.int 32 541),(.str zq283 545)⟩,⟨9,(.int 9 547),(.str zq284 551)⟩,⟨10,(.int 10 553),(.str zq285 557)⟩,⟨13,(.int 13 559),(.str zq286 563)⟩,⟨11,(.int 11 565),(.str zq287 569)⟩,⟨12,(.int 12 571),(.str zq288 575)⟩] 24),#[]⟩
noncomputable def zsT107 : Obj := ⟨(.type "dict"),.none,(.dict #[] 2),#[]⟩
noncomputable def zsT109 : Obj := ⟨(.type "StopIteration"),.none,(.fields #[(.ref 108),.none,.none,.none,(.bool .false),.none]),#[]⟩
noncomputable def zsT (P : Params) : Shared := ⟨⟨#[zsA0 P,zsA1 P,zsA2 P,zsT3 P,zsA4,zsA5,zsA6,zsA7,zsA8,zsA9,zsA10,zsA11 P,zsA12,zsA13 P,zsA14,zsA7,zsA16,zsA17,zsA18,zsA19,zsA20 P,zsA21 P,zsA22,zsA23,zsA24,zsA25,zsA26,zsA27,zsA7,zsR29,zsP30,zsP31,zsA7,zsA8,zsR34,zsA7,zsR36,zsR37,zsR38,zsA7,zsA8,zsR41,zsA7,zsR43,zsR44,zsR45,zsA7,zsA8,zsR48,zsA7,zsR50,zsR51,zsR52,zsR53,zsR54,zsR55,zsR56,zsR57,zsR58,zsR59,zsR60,zsR61,zsR62,zsR63,zsR64,zsR65,zsR66,zsR67,zsR68,zsR69,zsR70,zsR71,zsR72,zsR73,zsR74,zsR75,zsR76,zsR77,zsR78,zsR79,zsR80,zsR81,zsR82,zsR83,zsR84,zsR85,zsA7,zsA8,zsR88,zsA7,zsR90,zsR91,zsR92,zsR93,zsA6,zsR95,zsR96,zsR97,zsA7,zsA8,zsR100,zsA7,zsR102,zsR103,zsR104,zsT105,zsT106,zsT107,zsA7,zsT109], ⟨[], [], [], 0, [], [], .false, #[], [], 0, .false, .false, .false, 0, [2000, 10, 10], .false, 0, .true, [], [], 0, .false⟩⟩, #[], ⟨0, 0, 0, 0⟩, 578, ⟨#[], #[], 0⟩⟩
noncomputable def zsE3 (P : Params) : Obj := ⟨(.type "dict"),.none,(.dict #[(zde P zq14 165 (.str zq294 728)),(zde P zq15 166 .none),(zde P zq16 167 .none),(zde P zq17 168 (.builtin "__main__.__loader__#opaque")),(zde P zq18 169 .none),(zde P zq186 170 (.ref 6)),(zde P zq187 171 (.ref 4)),(zde P zq188 173 (.str zq189 172)),(zde P zq190 174 .none),(zde P zq2 275 (.ref 12)),(zde P zq226 290 (.ref 38)),(zde P zq229 297 (.ref 45)),(zde P zq243 299 (.int 16384 298)),(zde P zq244 301 (.int 8192 300)),(zde P zq245 303 (.int 24576 302)),(zde P zq246 305 (.int 32768 304)),(zde P zq247 307 (.int 4096 306)),(zde P zq248 309 (.int 40960 308)),(zde P zq249 311 (.int 49152 310)),(zde P zq225 318 (.ref 52)),(zde P zq250 320 (.int 2048 319)),(zde P zq251 322 (.int 1024 321)),(zde P zq252 324 (.int 512 323)),(zde P zq253 326 (.int 256 325)),(zde P zq254 328 (.int 128 327)),(zde P zq255 330 (.int 64 329)),(zde P zq256 332 (.int 32 331)),(zde P zq257 334 (.int 16 333)),(zde P zq258 336 (.int 8 335)),(zde P zq259 338 (.int 4 337)),(zde P zq260 340 (.int 2 339)),(zde P zq261 342 (.int 1 341)),(zde P zq262 368 (.ref 85)),(zde P zq237 380 (.ref 92)),(zde P zq263 420 (.ref 97)),(zde P zq227 429 (.ref 104)),(zde P zq264 577 (.ref 106)),(zde P zq299 584 (.ref 116)),(zde P zq318 605 (.ref 123)),(zde P zq296 618 (.ref 130)),(zde P zq289 629 (.ref 137)),(zde P zq297 638 (.ref 144)),(zde P zq303 647 (.ref 151)),(zde P zq304 656 (.ref 158)),(zde P zq319 665 (.ref 165)),(zde P zq295 677 (.ref 172)),(zde P zq317 690 (.ref 179)),(zde P zq320 702 (.ref 186)),(zde P zq300 715 (.ref 193)),(zde P zq305 721 (.ref 199)),(zde P zq292 727 (.ref 205)),(zde P zq311 741 (.ref 212)),(zde P zq293 747 (.ref 217)),(zde P zq313 753 (.ref 222)),(zde P zq312 759 (.ref 227)),(zde P zq310 765 (.ref 232))] 56),#[]⟩
noncomputable def zsE29 : Obj := ⟨.none,.none,(.fields #[(.int 3 0),(.int 0 0),(.ref 37),(.int 5 0),(.int 0 0),(.ref 44),(.int 14 0),(.int 0 0),(.ref 51),(.int 29 0),(.int 0 0),(.ref 91),(.int 48 0),(.int 0 0),(.ref 103),(.int 54 0),(.int 0 0),(.ref 115),(.int 61 0),(.int 0 0),(.ref 122),(.int 123 0),(.int 0 0),(.ref 129),(.int 151 0),(.int 0 0),(.ref 136),(.int 159 0),(.int 0 0),(.ref 143),(.int 164 0),(.int 0 0),(.ref 150),(.int 168 0),(.int 0 0),(.ref 157),(.int 173 0),(.int 0 0),(.ref 164),(.int 177 0),(.int 0 0),(.ref 171),(.int 188 0),(.int 0 0),(.ref 178),(.int 202 0),(.int 0 0),(.ref 185),(.int 213 0),(.int 0 0),(.ref 192),(.int 227 0),(.int 0 0),(.ref 198),(.int 272 0),(.int 0 0),(.ref 204),(.int 318 0),(.int 0 0),(.ref 211),(.int 327 0),(.int 0 0),(.ref 216),(.int 330 0),(.int 0 0),(.ref 221),(.int 332 0),(.int 0 0),(.ref 226),(.int 334 0),(.int 0 0),(.ref 231)]),#[]⟩
noncomputable def zsE112 : Obj := ⟨(.type "tuple"),.none,(.seq #[(.str ⟨#[112,97,116,116,101,114,110]⟩ 581)] 0),#[]⟩
noncomputable def zsE114 : Obj := ⟨.none,.none,(.func ⟨zq299,zq299,(fnPar 31),(.stmts (fnBody 31)),(fnScope 31),0,[],.none,.none,.none,.none,.none,.none,.none,0⟩),#[]⟩
noncomputable def zsE115 : Obj := ⟨(.type "code"),.none,(.fields #[(.str zq299 578),(.str zq299 579),(.str zq189 580),(.int 54 0),(.int 1 0),(.int 0 0),(.int 0 0),(.int 3 0),(.ref 110),(.bool .true),(.int 276 0),(.ref 111),.none,(.ref 112),(.ref 113),(.ref 114),(.int 582 0),(.int 54 0),(.str zq189 583)]),#[]⟩
noncomputable def zsE116 : Obj := ⟨(.type "function"),.none,(.func ⟨zq299,zq299,(fnPar 31),(.stmts (fnBody 31)),(fnScope 31),3,[],.none,.none,.none,(.str zq242 430),.none,(.ref 115),.none,0⟩),#[]⟩
noncomputable def zsE119 : Obj := ⟨(.type "tuple"),.none,(.seq #[(.str zq238 590),(.str zq239 591),(.str ⟨#[81,85,69,83,84,73,79,78,95,77,65,82,75]⟩ 592),(.str zq301 593),(.str zq302 594),(.str ⟨#[105]⟩ 595),(.str ⟨#[110]⟩ 596),(.str ⟨#[99]⟩ 597),(.str ⟨#[106]⟩ 598),(.str ⟨#[115,116,117,102,102]⟩ 599),(.str ⟨#[99,104,117,110,107,115]⟩ 600),(.str ⟨#[107]⟩ 601),(.str ⟨#[99,104,117,110,107]⟩ 602)] 0),#[]⟩
noncomputable def zsE121 : Obj := ⟨.none,.none,(.func ⟨zq318,zq318,(fnPar 33),(.stmts (fnBody 33)),(fnScope 33),0,[],.none,.none,.none,.none,.none,.none,.none,0⟩),#[]⟩
noncomputable def zsE122 : Obj := ⟨(.type "code"),.none,(.fields #[(.str zq318 587),(.str zq318 588),(.str zq189 589),(.int 61 0),(.int 3 0),(.int 0 0),(.int 0 0),(.int 3 0),(.ref 117),(.bool .true),(.int 276 0),(.ref 118),.none,(.ref 119),(.ref 120),(.ref 121),(.int 603 0),(.int 61 0),(.str zq189 604)]),#[]⟩
noncomputable def zsE123 : Obj := ⟨(.type "function"),.none,(.func ⟨zq318,zq318,(fnPar 33),(.stmts (fnBody 33)),(fnScope 33),3,[],.none,.none,.none,(.str zq241 585),.none,(.ref 122),.none,0⟩),#[]⟩
noncomputable def zsE126 : Obj := ⟨(.type "tuple"),.none,(.seq #[(.str ⟨#[105,110,112]⟩ 609),(.str zq239 610),(.str zq301 611),(.str zq302 612),(.str ⟨#[105]⟩ 613),(.str ⟨#[110]⟩ 614),(.str ⟨#[102,105,120,101,100]⟩ 615)] 0),#[]⟩
noncomputable def zsE128 : Obj := ⟨.none,.none,(.func ⟨zq296,zq296,(fnPar 34),(.stmts (fnBody 34)),(fnScope 34),0,[],.none,.none,.none,.none,.none,.none,.none,0⟩),#[]⟩
noncomputable def zsE129 : Obj := ⟨(.type "code"),.none,(.fields #[(.str zq296 606),(.str zq296 607),(.str zq189 608),(.int 123 0),(.int 2 0),(.int 0 0),(.int 0 0),(.int 3 0),(.ref 124),(.bool .true),(.int 276 0),(.ref 125),.none,(.ref 126),(.ref 127),(.ref 128),(.int 616 0),(.int 123 0),(.str zq189 617)]),#[]⟩
noncomputable def zsE130 : Obj := ⟨(.type "function"),.none,(.func ⟨zq296,zq296,(fnPar 34),(.stmts (fnBody 34)),(fnScope 34),3,[],.none,.none,.none,(.str zq241 585),.none,(.ref 129),.none,0⟩),#[]⟩
noncomputable def zsE133 : Obj := ⟨(.type "tuple"),.none,(.seq #[(.str zq290 624),(.str ⟨#[108,97,115,116,101,108,116]⟩ 625),(.str zq291 626)] 0),#[]⟩
noncomputable def zsE135 : Obj := ⟨.none,.none,(.func ⟨zq289,zq289,(fnPar 36),(.stmts (fnBody 36)),(fnScope 36),0,[],.none,.none,.none,.none,.none,.none,.none,0⟩),#[]⟩
noncomputable def zsE136 : Obj := ⟨(.type "code"),.none,(.fields #[(.str zq289 621),(.str zq289 622),(.str zq189 623),(.int 151 0),(.int 1 0),(.int 0 0),(.int 0 0),(.int 3 0),(.ref 131),(.bool .true),(.int 276 0),(.ref 132),.none,(.ref 133),(.ref 134),(.ref 135),(.int 627 0),(.int 151 0),(.str zq189 628)]),#[]⟩
noncomputable def zsE137 : Obj := ⟨(.type "function"),.none,(.func ⟨zq289,zq289,(fnPar 36),(.stmts (fnBody 36)),(fnScope 36),3,[],.none,.none,.none,(.str zq298 619),.none,(.ref 136),.none,0⟩),#[]⟩
noncomputable def zsE140 : Obj := ⟨(.type "tuple"),.none,(.seq #[(.str zq290 633),(.str zq321 634),(.str zq291 635)] 0),#[]⟩
noncomputable def zsE142 : Obj := ⟨.none,.none,(.func ⟨zq297,zq297,(fnPar 37),(.stmts (fnBody 37)),(fnScope 37),0,[],.none,.none,.none,.none,.none,.none,.none,0⟩),#[]⟩
noncomputable def zsE143 : Obj := ⟨(.type "code"),.none,(.fields #[(.str zq297 630),(.str zq297 631),(.str zq189 632),(.int 159 0),(.int 2 0),(.int 0 0),(.int 0 0),(.int 3 0),(.ref 138),(.bool .true),(.int 276 0),(.ref 139),.none,(.ref 140),(.ref 141),(.ref 142),(.int 636 0),(.int 159 0),(.str zq189 637)]),#[]⟩
noncomputable def zsE144 : Obj := ⟨(.type "function"),.none,(.func ⟨zq297,zq297,(fnPar 37),(.stmts (fnBody 37)),(fnScope 37),3,[],.none,.none,.none,(.str zq298 619),.none,(.ref 143),.none,0⟩),#[]⟩
noncomputable def zsE147 : Obj := ⟨(.type "tuple"),.none,(.seq #[(.str ⟨#[120]⟩ 642),(.str ⟨#[110]⟩ 643),(.str ⟨#[105]⟩ 644)] 0),#[]⟩
noncomputable def zsE149 : Obj := ⟨.none,.none,(.func ⟨zq303,zq303,(fnPar 38),(.stmts (fnBody 38)),(fnScope 38),0,[],.none,.none,.none,.none,.none,.none,.none,0⟩),#[]⟩
noncomputable def zsE150 : Obj := ⟨(.type "code"),.none,(.fields #[(.str zq303 639),(.str zq303 640),(.str zq189 641),(.int 164 0),(.int 1 0),(.int 0 0),(.int 0 0),(.int 3 0),(.ref 145),(.bool .true),(.int 276 0),(.ref 146),.none,(.ref 147),(.ref 148),(.ref 149),(.int 645 0),(.int 164 0),(.str zq189 646)]),#[]⟩
noncomputable def zsE151 : Obj := ⟨(.type "function"),.none,(.func ⟨zq303,zq303,(fnPar 38),(.stmts (fnBody 38)),(fnScope 38),3,[],.none,.none,.none,(.str zq298 619),.none,(.ref 150),.none,0⟩),#[]⟩
noncomputable def zsE154 : Obj := ⟨(.type "tuple"),.none,(.seq #[(.str zq290 651),(.str zq321 652),(.str zq291 653)] 0),#[]⟩
noncomputable def zsE156 : Obj := ⟨.none,.none,(.func ⟨zq304,zq304,(fnPar 39),(.stmts (fnBody 39)),(fnScope 39),0,[],.none,.none,.none,.none,.none,.none,.none,0⟩),#[]⟩
noncomputable def zsE157 : Obj := ⟨(.type "code"),.none,(.fields #[(.str zq304 648),(.str zq304 649),(.str zq189 650),(.int 168 0),(.int 2 0),(.int 0 0),(.int 0 0),(.int 3 0),(.ref 152),(.bool .true),(.int 276 0),(.ref 153),.none,(.ref 154),(.ref 155),(.ref 156),(.int 654 0),(.int 168 0),(.str zq189 655)]),#[]⟩
noncomputable def zsE158 : Obj := ⟨(.type "function"),.none,(.func ⟨zq304,zq304,(fnPar 39),(.stmts (fnBody 39)),(fnScope 39),3,[],.none,.none,.none,(.str zq298 619),.none,(.ref 157),.none,0⟩),#[]⟩
noncomputable def zsE161 : Obj := ⟨(.type "tuple"),.none,(.seq #[(.str ⟨#[120]⟩ 660),(.str ⟨#[110]⟩ 661),(.str ⟨#[105]⟩ 662)] 0),#[]⟩
noncomputable def zsE163 : Obj := ⟨.none,.none,(.func ⟨zq319,zq319,(fnPar 40),(.stmts (fnBody 40)),(fnScope 40),0,[],.none,.none,.none,.none,.none,.none,.none,0⟩),#[]⟩
noncomputable def zsE164 : Obj := ⟨(.type "code"),.none,(.fields #[(.str zq319 657),(.str zq319 658),(.str zq189 659),(.int 173 0),(.int 1 0),(.int 0 0),(.int 0 0),(.int 3 0),(.ref 159),(.bool .true),(.int 276 0),(.ref 160),.none,(.ref 161),(.ref 162),(.ref 163),(.int 663 0),(.int 173 0),(.str zq189 664)]),#[]⟩
noncomputable def zsE165 : Obj := ⟨(.type "function"),.none,(.func ⟨zq319,zq319,(fnPar 40),(.stmts (fnBody 40)),(fnScope 40),3,[],.none,.none,.none,(.str zq298 619),.none,(.ref 164),.none,0⟩),#[]⟩
noncomputable def zsE168 : Obj := ⟨(.type "tuple"),.none,(.seq #[(.str zq290 669),(.str zq306 670),(.str zq307 671),(.str zq308 672),(.str zq309 673),(.str zq219 674)] 0),#[]⟩
noncomputable def zsE170 : Obj := ⟨.none,.none,(.func ⟨zq295,zq295,(fnPar 41),(.stmts (fnBody 41)),(fnScope 41),0,[],.none,.none,.none,.none,.none,.none,.none,0⟩),#[]⟩
noncomputable def zsE171 : Obj := ⟨(.type "code"),.none,(.fields #[(.str zq295 666),(.str zq295 667),(.str zq189 668),(.int 177 0),(.int 3 0),(.int 0 0),(.int 0 0),(.int 3 0),(.ref 166),(.bool .true),(.int 276 0),(.ref 167),.none,(.ref 168),(.ref 169),(.ref 170),(.int 675 0),(.int 177 0),(.str zq189 676)]),#[]⟩
noncomputable def zsE172 : Obj := ⟨(.type "function"),.none,(.func ⟨zq295,zq295,(fnPar 41),(.stmts (fnBody 41)),(fnScope 41),3,[],.none,.none,.none,(.str zq298 619),.none,(.ref 171),.none,0⟩),#[]⟩
noncomputable def zsE175 : Obj := ⟨(.type "tuple"),.none,(.seq #[(.str zq290 681),(.str zq307 682),(.str zq314 683),(.str zq306 684),(.str zq308 685),(.str zq315 686),(.str zq316 687)] 0),#[]⟩
noncomputable def zsE177 : Obj := ⟨.none,.none,(.func ⟨zq317,zq317,(fnPar 42),(.stmts (fnBody 42)),(fnScope 42),0,[],.none,.none,.none,.none,.none,.none,.none,0⟩),#[]⟩
noncomputable def zsE178 : Obj := ⟨(.type "code"),.none,(.fields #[(.str zq317 678),(.str zq317 679),(.str zq189 680),(.int 188 0),(.int 2 0),(.int 0 0),(.int 0 0),(.int 3 0),(.ref 173),(.bool .true),(.int 276 0),(.ref 174),.none,(.ref 175),(.ref 176),(.ref 177),(.int 688 0),(.int 188 0),(.str zq189 689)]),#[]⟩
noncomputable def zsE179 : Obj := ⟨(.type "function"),.none,(.func ⟨zq317,zq317,(fnPar 42),(.stmts (fnBody 42)),(fnScope 42),3,[],.none,.none,.none,(.str zq298 619),.none,(.ref 178),.none,0⟩),#[]⟩
noncomputable def zsE182 : Obj := ⟨(.type "tuple"),.none,(.seq #[(.str zq290 694),(.str zq306 695),(.str zq307 696),(.str zq308 697),(.str zq309 698),(.str zq219 699)] 0),#[]⟩
noncomputable def zsE184 : Obj := ⟨.none,.none,(.func ⟨zq320,zq320,(fnPar 43),(.stmts (fnBody 43)),(fnScope 41),0,[],.none,.none,.none,.none,.none,.none,.none,0⟩),#[]⟩
noncomputable def zsE185 : Obj := ⟨(.type "code"),.none,(.fields #[(.str zq320 691),(.str zq320 692),(.str zq189 693),(.int 202 0),(.int 3 0),(.int 0 0),(.int 0 0),(.int 3 0),(.ref 180),(.bool .true),(.int 276 0),(.ref 181),.none,(.ref 182),(.ref 183),(.ref 184),(.int 700 0),(.int 202 0),(.str zq189 701)]),#[]⟩
noncomputable def zsE186 : Obj := ⟨(.type "function"),.none,(.func ⟨zq320,zq320,(fnPar 43),(.stmts (fnBody 43)),(fnScope 41),3,[],.none,.none,.none,(.str zq298 619),.none,(.ref 185),.none,0⟩),#[]⟩
noncomputable def zsE189 : Obj := ⟨(.type "tuple"),.none,(.seq #[(.str zq290 706),(.str zq307 707),(.str zq314 708),(.str zq306 709),(.str zq308 710),(.str zq315 711),(.str zq316 712)] 0),#[]⟩
noncomputable def zsE191 : Obj := ⟨.none,.none,(.func ⟨zq300,zq300,(fnPar 44),(.stmts (fnBody 44)),(fnScope 44),0,[],.none,.none,.none,.none,.none,.none,.none,0⟩),#[]⟩
noncomputable def zsE192 : Obj := ⟨(.type "code"),.none,(.fields #[(.str zq300 703),(.str zq300 704),(.str zq189 705),(.int 213 0),(.int 2 0),(.int 0 0),(.int 0 0),(.int 3 0),(.ref 187),(.bool .true),(.int 276 0),(.ref 188),.none,(.ref 189),(.ref 190),(.ref 191),(.int 713 0),(.int 213 0),(.str zq189 714)]),#[]⟩
noncomputable def zsE193 : Obj := ⟨(.type "function"),.none,(.func ⟨zq300,zq300,(fnPar 44),(.stmts (fnBody 44)),(fnScope 44),3,[],.none,.none,.none,(.str zq298 619),.none,(.ref 192),.none,0⟩),#[]⟩
noncomputable def zsE194 : Obj := ⟨(.type "tuple"),.none,(.seq #[.none] 0),#[]⟩
noncomputable def zsE197 : Obj := ⟨.none,.none,(.func ⟨zq305,zq305,(fnPar 45),(.stmts (fnBody 45)),(fnScope 45),0,[],.none,.none,.none,.none,.none,.none,.none,0⟩),#[]⟩
noncomputable def zsE198 : Obj := ⟨(.type "code"),.none,(.fields #[(.str zq305 716),(.str zq305 717),(.str zq189 718),(.int 227 0),(.int 3 0),(.int 0 0),(.int 0 0),(.int 3 0),(.ref 195),(.bool .true),(.int 276 0),(.ref 196),.none,.none,.none,(.ref 197),(.int 719 0),(.int 227 0),(.str zq189 720)]),#[]⟩
noncomputable def zsE199 : Obj := ⟨(.type "function"),.none,(.func ⟨zq305,zq305,(fnPar 45),(.stmts (fnBody 45)),(fnScope 45),3,[],(.ref 194),.none,.none,(.str zq298 619),.none,(.ref 198),.none,0⟩),#[]⟩
noncomputable def zsE203 : Obj := ⟨.none,.none,(.func ⟨zq292,zq292,(fnPar 46),(.stmts (fnBody 46)),(fnScope 46),0,[],.none,.none,.none,.none,.none,.none,.none,0⟩),#[]⟩
noncomputable def zsE204 : Obj := ⟨(.type "code"),.none,(.fields #[(.str zq292 722),(.str zq292 723),(.str zq189 724),(.int 272 0),(.int 3 0),(.int 0 0),(.int 0 0),(.int 3 0),(.ref 201),(.bool .true),(.int 276 0),(.ref 202),.none,.none,.none,(.ref 203),(.int 725 0),(.int 272 0),(.str zq189 726)]),#[]⟩
noncomputable def zsE205 : Obj := ⟨(.type "function"),.none,(.func ⟨zq292,zq292,(fnPar 46),(.stmts (fnBody 46)),(fnScope 46),3,[],(.ref 200),.none,.none,(.str zq298 619),.none,(.ref 204),.none,0⟩),#[]⟩
noncomputable def zsE208 : Obj := ⟨(.type "tuple"),.none,(.seq #[(.str ⟨#[102,111,108,100,101,114]⟩ 733),(.str ⟨#[114,105,103,104,116,115]⟩ 734),(.str ⟨#[116,101,120,116]⟩ 735),(.str ⟨#[107]⟩ 736),(.str zq235 737),(.str ⟨#[115,101,116,95,98,105,116]⟩ 738)] 0),#[]⟩
noncomputable def zsE210 : Obj := ⟨.none,.none,(.func ⟨zq311,zq311,(fnPar 48),(.stmts (fnBody 48)),(fnScope 48),0,[],.none,.none,.none,.none,.none,.none,.none,0⟩),#[]⟩
noncomputable def zsE211 : Obj := ⟨(.type "code"),.none,(.fields #[(.str zq311 730),(.str zq311 731),(.str zq189 732),(.int 318 0),(.int 2 0),(.int 0 0),(.int 0 0),(.int 3 0),(.ref 206),(.bool .true),(.int 276 0),(.ref 207),.none,(.ref 208),(.ref 209),(.ref 210),(.int 739 0),(.int 318 0),(.str zq189 740)]),#[]⟩
noncomputable def zsE212 : Obj := ⟨(.type "function"),.none,(.func ⟨zq311,zq311,(fnPar 48),(.stmts (fnBody 48)),(fnScope 48),3,[],.none,.none,.none,(.str zq294 728),.none,(.ref 211),.none,0⟩),#[]⟩
noncomputable def zsE215 : Obj := ⟨.none,.none,(.func ⟨zq293,zq293,(fnPar 49),(.stmts (fnBody 49)),(fnScope 49),0,[],.none,.none,.none,.none,.none,.none,.none,0⟩),#[]⟩
noncomputable def zsE216 : Obj := ⟨(.type "code"),.none,(.fields #[(.str zq293 742),(.str zq293 743),(.str zq189 744),(.int 327 0),(.int 2 0),(.int 0 0),(.int 0 0),(.int 3 0),(.ref 213),(.bool .true),(.int 276 0),(.ref 214),.none,.none,.none,(.ref 215),(.int 745 0),(.int 327 0),(.str zq189 746)]),#[]⟩
noncomputable def zsE217 : Obj := ⟨(.type "function"),.none,(.func ⟨zq293,zq293,(fnPar 49),(.stmts (fnBody 49)),(fnScope 49),3,[],.none,.none,.none,(.str zq294 728),.none,(.ref 216),.none,0⟩),#[]⟩
noncomputable def zsE220 : Obj := ⟨.none,.none,(.func ⟨zq313,zq313,(fnPar 50),(.stmts (fnBody 50)),(fnScope 50),0,[],.none,.none,.none,.none,.none,.none,.none,0⟩),#[]⟩
noncomputable def zsE221 : Obj := ⟨(.type "code"),.none,(.fields #[(.str zq313 748),(.str zq313 749),(.str zq189 750),(.int 330 0),(.int 2 0),(.int 0 0),(.int 0 0),(.int 3 0),(.ref 218),(.bool .true),(.int 276 0),(.ref 219),.none,.none,.none,(.ref 220),(.int 751 0),(.int 330 0),(.str zq189 752)]),#[]⟩
noncomputable def zsE222 : Obj := ⟨(.type "function"),.none,(.func ⟨zq313,zq313,(fnPar 50),(.stmts (fnBody 50)),(fnScope 50),3,[],.none,.none,.none,(.str zq294 728),.none,(.ref 221),.none,0⟩),#[]⟩
noncomputable def zsE225 : Obj := ⟨.none,.none,(.func ⟨zq312,zq312,(fnPar 51),(.stmts (fnBody 51)),(fnScope 51),0,[],.none,.none,.none,.none,.none,.none,.none,0⟩),#[]⟩
noncomputable def zsE226 : Obj := ⟨(.type "code"),.none,(.fields #[(.str zq312 754),(.str zq312 755),(.str zq189 756),(.int 332 0),(.int 1 0),(.int 0 0),(.int 0 0),(.int 3 0),(.ref 223),(.bool .true),(.int 276 0),(.ref 224),.none,.none,.none,(.ref 225),(.int 757 0),(.int 332 0),(.str zq189 758)]),#[]⟩
noncomputable def zsE227 : Obj := ⟨(.type "function"),.none,(.func ⟨zq312,zq312,(fnPar 51),(.stmts (fnBody 51)),(fnScope 51),3,[],.none,.none,.none,(.str zq294 728),.none,(.ref 226),.none,0⟩),#[]⟩
noncomputable def zsE230 : Obj := ⟨.none,.none,(.func ⟨zq310,zq310,(fnPar 52),(.stmts (fnBody 52)),(fnScope 52),0,[],.none,.none,.none,.none,.none,.none,.none,0⟩),#[]⟩
noncomputable def zsE231 : Obj := ⟨(.type "code"),.none,(.fields #[(.str zq310 760),(.str zq310 761),(.str zq189 762),(.int 334 0),(.int 1 0),(.int 0 0),(.int 0 0),(.int 3 0),(.ref 228),(.bool .true),(.int 276 0),(.ref 229),.none,.none,.none,(.ref 230),(.int 763 0),(.int 334 0),(.str zq189 764)]),#[]⟩
noncomputable def zsE232 : Obj := ⟨(.type "function"),.none,(.func ⟨zq310,zq310,(fnPar 52),(.stmts (fnBody 52)),(fnScope 52),3,[],.none,.none,.none,(.str zq294 728),.none,(.ref 231),.none,0⟩),#[]⟩
noncomputable def zsE (P : Params) : Shared := ⟨⟨#[zsA0 P,zsA1 P,zsA2 P,zsE3 P,zsA4,zsA5,zsA6,zsA7,zsA8,zsA9,zsA10,zsA11 P,zsA12,zsA13 P,zsA14,zsA7,zsA16,zsA17,zsA18,zsA19,zsA20 P,zsA21 P,zsA22,zsA23,zsA24,zsA25,zsA26,zsA27,zsA7,zsE29,zsP30,zsP31,zsA7,zsA8,zsR34,zsA7,zsR36,zsR37,zsR38,zsA7,zsA8,zsR41,zsA7,zsR43,zsR44,zsR45,zsA7,zsA8,zsR48,zsA7,zsR50,zsR51,zsR52,zsR53,zsR54,zsR55,zsR56,zsR57,zsR58,zsR59,zsR60,zsR61,zsR62,zsR63,zsR64,zsR65,zsR66,zsR67,zsR68,zsR69,zsR70,zsR71,zsR72,zsR73,zsR74,zsR75,zsR76,zsR77,zsR78,zsR79,zsR80,zsR81,zsR82,zsR83,zsR84,zsR85,zsA7,zsA8,zsR88,zsA7,zsR90,zsR91,zsR92,zsR93,zsA6,zsR95,zsR96,zsR97,zsA7,zsA8,zsR100,zsA7,zsR102,zsR103,zsR104,zsT105,zsT106,zsT107,zsA7,zsT109,zsA7,zsA8,zsE112,zsA7,zsE114,zsE115,zsE116,zsA7,zsA8,zsE119,zsA7,zsE121,zsE122,zsE123,zsA7,zsA8,zsE126,zsA7,zsE128,zsE129,zsE130,zsA7,zsA8,zsE133,zsA7,zsE135,zsE136,zsE137,zsA7,zsA8,zsE140,zsA7,zsE142,zsE143,zsE144,zsA7,zsA8,zsE147,zsA7,zsE149,zsE150,zsE151,zsA7,zsA8,zsE154,zsA7,zsE156,zsE157,zsE158,zsA7,zsA8,zsE161,zsA7,zsE163,zsE164,zsE165,zsA7,zsA8,zsE168,zsA7,zsE170,zsE171,zsE172,zsA7,zsA8,zsE175,zsA7,zsE177,zsE178,zsE179,zsA7,zsA8,zsE182,zsA7,zsE184,zsE185,zsE186,zsA7,zsA8,zsE189,zsA7,zsE191,zsE192,zsE193,zsE194,zsA7,zsA8,zsE197,zsE198,zsE199,zsE194,zsA7,zsA8,zsE203,zsE204,zsE205,zsA7,zsA8,zsE208,zsA7,zsE210,zsE211,zsE212,zsA7,zsA8,zsE215,zsE216,zsE217,zsA7,zsA8,zsE220,zsE221,zsE222,zsA7,zsA8,zsE225,zsE226,zsE227,zsA7,zsA8,zsE230,zsE231,zsE232], ⟨[], [], [], 0, [], [], .false, #[], [], 0, .false, .false, .false, 0, [2000, 10, 10], .false, 0, .true, [], [], 0, .false⟩⟩, #[], ⟨0, 0, 0, 0⟩, 766, ⟨#[], #[], 0⟩⟩
noncomputable abbrev zb : List Stmt := behindTheImports pw
noncomputable def zenv : Env := { scope := pw.main.scope, locals := mainNs, globals := mainNs, cells := [], code := .ref 30, frame := some 31 }
noncomputable abbrev zc : Code := .body zb zenv
noncomputable abbrev zB : List Frame := [topFrame default]
noncomputable def zl1 : List Stmt := zb.take 29
noncomputable def zl2 : List Stmt := (zb.drop 29).take 1
noncomputable def zl3 : List Stmt := zb.drop 30
theorem z_all : zb = zl1 ++ (zl2 ++ (zl3 ++ [])) := by kernel_rfl
theorem zA (w : World) : fencedOpening treeTable pw w 5048 = some (zsA w.params) := by
  unfold fencedOpening
  rw [Fast.te10274390034422433532, Fast.te14289696077712309145, Fast.te1435165496053646825, Fast.te14364793385576792824]
  kernel_rfl
theorem zP (w : World) : topGo treeTable pw w 28 (some (.ref 6)) 12 (zsA w.params) (topStub pw) = some (zsP w.params, ⟨denote treeTable zc, zc, default, zB⟩) := by kernel_rfl
theorem zQ (w : World) : segRun treeTable pw w 28 (some (.ref 6)) 1 100 (zsP w.params) (blockOf zb zenv zc default zB) = some (.next, zsP w.params, zc, default) := by kernel_rfl
theorem z1 (w : World) : segRun treeTable pw w 28 (some (.ref 6)) 1 1500 (zsP w.params) (PySem.W.piecesOf zl1 zenv zc default zB) = some (.next, zsR w.params, zc, ⟨52, 0, 52, 8⟩) := by
  rw [Fast.te14374325043358763698, Fast.te14364793385576792824]
  kernel_rfl
noncomputable abbrev Z2 (w : World) : Prop := segRun treeTable pw w 28 (some (.ref 6)) 1 1800 (zsR w.params) (PySem.W.piecesOf zl2 zenv zc ⟨52, 0, 52, 8⟩ zB) = some (.next, zsT w.params, zc, ⟨53, 0, 53, 18⟩)
theorem z20 (w : World) : Z2 ((w.withFollow "comprehension-iter-twice" false).withFollow "special-get-raises" false) := by
  unfold Z2
  rw [Fast.te14374325043358763698, Fast.te14364793385576792824]
  kernel_rfl
theorem z21 (w : World) : Z2 ((w.withFollow "comprehension-iter-twice" true).withFollow "special-get-raises" false) := by
  unfold Z2
  rw [Fast.te14374325043358763698, Fast.te14364793385576792824]
  kernel_rfl
theorem z22 (w : World) : Z2 ((w.withFollow "comprehension-iter-twice" false).withFollow "special-get-raises" true) := by
  unfold Z2
  rw [Fast.te14374325043358763698, Fast.te14364793385576792824]
  kernel_rfl
theorem z23 (w : World) : Z2 ((w.withFollow "comprehension-iter-twice" true).withFollow "special-get-raises" true) := by
  unfold Z2
  rw [Fast.te14374325043358763698, Fast.te14364793385576792824]
  kernel_rfl
theorem z2 : ∀ w : World, Z2 w :=
  byRow2 "special-get-raises" (P := Z2)
    (byRow2 "comprehension-iter-twice" (P := fun w => Z2 (w.withFollow "special-get-raises" false)) z20 z21)
    (byRow2 "comprehension-iter-twice" (P := fun w => Z2 (w.withFollow "special-get-raises" true)) z22 z23)
theorem z3 (w : World) : segRun treeTable pw w 28 (some (.ref 6)) 1 1500 (zsT w.params) (PySem.W.piecesOf zl3 zenv zc ⟨53, 0, 53, 18⟩ zB) = some (.next, zsE w.params, zc, ⟨334, 0, 360, 15⟩) := by
  rw [Fast.te14374325043358763698, Fast.te14364793385576792824]
  kernel_rfl
theorem z4 (w : World) : topRun treeTable pw w 28 (some (.ref 6)) 100 (zsE w.params) (restOf [] zenv zc ⟨334, 0, 360, 15⟩ zB) = some (zsE w.params) := by kernel_rfl
theorem z_run (w : World) : topRun treeTable pw w 28 (some (.ref 6)) 5048 (zsA w.params) (topStub pw) = some (zsE w.params) := by
  have k2 := piece_app (z1 w) (piece_app (z2 w) (piece_app (rest := []) (z3 w) (z4 w)))
  have e : restOf zb zenv zc default zB = restOf (zl1 ++ (zl2 ++ (zl3 ++ []))) zenv zc default zB := congrArg (fun l => restOf l zenv zc default zB) z_all
  rw [← e] at k2
  exact topRun_mono 36 _ _ _ _ (go_top (zP w) (piece_block (zQ w) k2))
theorem zC0 (P : Params) : ((zsA P).heap.isNs mainGlobals && (zsA P).gens.size == 0) = true := by kernel_rfl
theorem zC1 (P : Params) : (zsA P).heap.nsMap mainGlobals "__annotations__" = some (.ref 6) := by kernel_rfl
theorem zC2 (P : Params) : (staticsOk (importedModules pw.main.body) (zsA P).heap (zsE P).heap && namesBound pw (zsE P).heap && gensDone (zsE P) && laidKept (zsA P).heap (zsE P).heap) = true := by kernel_rfl
theorem zC3 (P : Params) : openSeen qv loose0 (importedModules pw.main.body) XtO true (zsE P) = openGood qv loose0 := by
  rw [Fast.te4187177175401517315]
  kernel_rfl
theorem zC4 (P : Params) : seeTop (zsE P).heap = goodTop := by kernel_rfl
theorem zC5 (P : Params) : (zsA P).heap.objs.size = 28 := by kernel_rfl
theorem ends_glue {tb : String → Option Builtin} {p : Program} {w : World} {N n0 : Nat} {ann : Option Value} {A E : Shared} {X : Type _} {f : Shared → X} {x : X} (hA : fencedOpening tb p w N = some A)
    (h0 : (A.heap.isNs mainGlobals && A.gens.size == 0) = true) (hs : A.heap.objs.size = n0) (h1 : A.heap.nsMap mainGlobals "__annotations__" = ann) (hr : topRun tb p w n0 ann N A (topStub p) = some E)
    (h2 : (staticsOk (importedModules p.main.body) A.heap E.heap && namesBound p E.heap && gensDone E && laidKept A.heap E.heap) = true) (hf : f E = x) : (openEnds tb p w N).map f = some x := by
  unfold openEnds
  rw [hA]
  show (topFrom tb p w N A).map f = some x
  unfold topFrom
  rw [h0]
  dsimp only
  rw [hs, h1, hr]
  show (match staticsOk (importedModules p.main.body) A.heap E.heap && namesBound p E.heap && gensDone E && laidKept A.heap E.heap with
      | true => some E
      | false => none).map f = some x
  rw [h2]
  exact congrArg some hf
theorem ends_all : ∀ w : World, endsO w = some (openGood qv loose0, goodTop) := fun w =>
  ends_glue (zA w) (zC0 w.params) (zC5 w.params) (zC1 w.params) (z_run w) (zC2 w.params) (by rw [zC3, zC4])
end
section
open PySem PySem.W PyProof.Rows PySem.Calls PySem.Spec
set_option linter.all false
set_option maxRecDepth 100000
set_option maxHeartbeats 2000000
structure TopSays (h : Heap) : Prop where
  g : h.isNs mainGlobals = true
  b : h.isNs builtinsNs = true
  c : h.isNs cStatics = true
  lim : h.nsMap cStatics "sys.recursionlimit" = none
  fn : ∀ p ∈ topFns, h.nsMap mainGlobals p.1 = some (.ref p.2.1)
  vl : ∀ p ∈ topVals, h.nsMap mainGlobals p.1 = some p.2
  bn : ∀ p ∈ topBl, h.nsMap mainGlobals p.1 = none
  bv : ∀ p ∈ topBl, h.nsMap builtinsNs p.1 = some p.2
  fs : ∀ p ∈ topFns, fnSee h p.2.1 = some (.stmts (fnBody p.2.2.1), fnScope p.2.2.1, fnPar p.2.2.1, mainGlobals, builtinsNs, [], .ref (p.2.1 - 1), p.2.2.2, .none, p.1)
  cd : ∀ p ∈ topFns, cdSee h (p.2.1 - 1) = some p.1
  mp : mapSee h 106 = some (.type "dict", none, #[], true)
  ob : ∀ p ∈ topObs, p.1 ≠ 118 → h.get? p.1 = some p.2
theorem TopSays.of {h : Heap} (e : seeTop h = goodTop) : TopSays h where
  g := congrArg (fun x => x.1) e
  b := congrArg (fun x => x.2.1) e
  c := congrArg (fun x => x.2.2.1) e
  lim := congrArg (fun x => x.2.2.2.1) e
  fn := List.map_inj_left.mp (congrArg (fun x => x.2.2.2.2.1) e)
  vl := List.map_inj_left.mp (congrArg (fun x => x.2.2.2.2.2.1) e)
  bn := List.map_inj_left.mp (congrArg (fun x => x.2.2.2.2.2.2.1) e)
  bv := List.map_inj_left.mp (congrArg (fun x => x.2.2.2.2.2.2.2.1) e)
  fs := List.map_inj_left.mp (congrArg (fun x => x.2.2.2.2.2.2.2.2.1) e)
  cd := List.map_inj_left.mp (congrArg (fun x => x.2.2.2.2.2.2.2.2.2.1) e)
  mp := congrArg (fun x => x.2.2.2.2.2.2.2.2.2.2.1) e
  ob := fun p hp _ => (List.map_inj_left (f := fun p => h.get? p.1) (g := fun p => some p.2)).mp (congrArg (fun x => x.2.2.2.2.2.2.2.2.2.2.2) e) p hp
theorem tab_of {h : Heap} (e : seeTop h = goodTop) : h.get? 118 = some (tabObj #[]) :=
  (List.map_inj_left (l := topObs) (f := fun p => h.get? p.1) (g := fun p => some p.2)).mp (congrArg (fun x => x.2.2.2.2.2.2.2.2.2.2.2) e) (118, tabObj #[]) (List.mem_of_getElem? (i := 38) rfl)
theorem cod_of {h : Heap} (T : TopSays h) : ∃ o vs, h.get? 122 = some o ∧ o.cls = .type "code" ∧ o.data = .fields vs ∧ vs[11]? = some (.ref 118) :=
by
  have m : ∃ o vs, topObs[35]? = some (122, o) ∧ o.cls = .type "code" ∧ o.data = .fields vs ∧ vs[11]? = some (.ref 118) := ⟨_, _, rfl, rfl, rfl, rfl⟩
  obtain ⟨o, vs, e, r⟩ := m
  exact ⟨o, vs, T.ob (122, o) (List.mem_of_getElem? e) (by simp), r⟩
section
variable {h h' : Heap}
theorem isNs_some {a : Addr} (x : h.isNs a = true) : ∃ o, h.get? a = some o := by
  unfold Heap.isNs at x
  cases e : h.get? a with
  | none => rw [e] at x; cases x
  | some o => exact ⟨o, rfl⟩
theorem fnSee_some {a : Addr} {r} (x : fnSee h a = some r) : ∃ o, h.get? a = some o := by
  unfold fnSee at x
  cases e : h.get? a with
  | none => rw [e] at x; cases x
  | some o => exact ⟨o, rfl⟩
theorem cdSee_some {a : Addr} {r} (x : cdSee h a = some r) : ∃ o, h.get? a = some o := by
  unfold cdSee at x
  cases e : h.get? a with
  | none => rw [e] at x; cases x
  | some o => exact ⟨o, rfl⟩
theorem mapSee_some {a : Addr} {r} (x : mapSee h a = some r) : ∃ o, h.get? a = some o := by
  unfold mapSee at x
  cases e : h.get? a with
  | none => rw [e] at x; cases x
  | some o => exact ⟨o, rfl⟩
theorem get_move (k : ∀ b o, b ≠ 118 → h.get? b = some o → h'.get? b = some o) {a : Addr} (ha : a ≠ 118) (x : ∃ o, h.get? a = some o) : h'.get? a = h.get? a := by
  obtain ⟨o, e⟩ := x
  rw [e, k _ _ ha e]
theorem topFns_ne : ∀ p ∈ topFns, p.2.1 ≠ 118 ∧ p.2.1 - 1 ≠ 118 := by
  have : (topFns.all fun p => decide (p.2.1 ≠ 118) && decide (p.2.1 - 1 ≠ 118)) = true := by decide +kernel
  intro p hp
  have := List.all_eq_true.mp this p hp
  simpa using this
theorem TopSays.move (T : TopSays h) (k : ∀ b o, b ≠ 118 → h.get? b = some o → h'.get? b = some o) : TopSays h' := by
  have e1 := get_move k (a := mainGlobals) (by decide) (isNs_some T.g)
  have e2 := get_move k (a := builtinsNs) (by decide) (isNs_some T.b)
  have e3 := get_move k (a := cStatics) (by decide) (isNs_some T.c)
  have n1 : ∀ x, h'.nsMap mainGlobals x = h.nsMap mainGlobals x := fun x => by unfold Heap.nsMap; rw [e1]
  have n2 : ∀ x, h'.nsMap builtinsNs x = h.nsMap builtinsNs x := fun x => by unfold Heap.nsMap; rw [e2]
  have n3 : ∀ x, h'.nsMap cStatics x = h.nsMap cStatics x := fun x => by unfold Heap.nsMap; rw [e3]
  refine ⟨?_, ?_, ?_, by rw [n3]; exact T.lim, fun p hp => by rw [n1]; exact T.fn p hp, fun p hp => by rw [n1]; exact T.vl p hp, fun p hp => by rw [n1]; exact T.bn p hp, fun p hp => by rw [n2]; exact T.bv p hp, fun p hp => ?_, fun p hp => ?_, ?_, fun p hp hn => k _ _ hn (T.ob p hp hn)⟩
  · have := T.g; unfold Heap.isNs at this ⊢; rw [e1]; exact this
  · have := T.b; unfold Heap.isNs at this ⊢; rw [e2]; exact this
  · have := T.c; unfold Heap.isNs at this ⊢; rw [e3]; exact this
  · have x := T.fs p hp
    have e := get_move k (topFns_ne p hp).1 (fnSee_some x)
    unfold fnSee at x ⊢; rw [e]; exact x
  · have x := T.cd p hp
    have e := get_move k (topFns_ne p hp).2 (cdSee_some x)
    unfold cdSee at x ⊢; rw [e]; exact x
  · have x := T.mp
    have e := get_move k (a := 106) (by decide) (mapSee_some x)
    unfold mapSee at x ⊢; rw [e]; exact x
theorem TopSays.noLimit (T : TopSays h) : h.NoLimit := ⟨_, .of_isNs T.c, T.lim⟩
theorem TopSays.codeRec (T : TopSays h) {p} (hp : p ∈ topFns) : h.CodeRec (.ref (p.2.1 - 1)) p.1 := by
  have x := T.cd p hp
  obtain ⟨o, e⟩ := cdSee_some x
  unfold cdSee at x
  rw [e] at x
  dsimp only at x
  split at x
  · rename_i vs hd
    split at x
    · rename_i q t hv
      cases x
      exact ⟨_, o, vs, t, rfl, e, hd, hv⟩
    · cases x
  · cases x
theorem TopSays.fnIs (T : TopSays h) {p} (hp : p ∈ topFns) {params : List Str} {dv : List Value}
    (hb : ∀ (fd : FuncData) (vals : List Value) (s : Shared), fd.params = fnPar p.2.2.1 → fd.defaults = p.2.2.2 → fd.kwdefaults = .none → vals.length + dv.length = params.length → (∀ b o, h.get? b = some o → s.heap.get? b = some o) → BindsTo s fd ⟨vals, []⟩ (params.zip (vals ++ dv))) :
    FnIs h p.2.1 (fnScope p.2.2.1) params (fnBody p.2.2.1) dv := by
  have x := T.fs p hp
  have c := T.codeRec hp
  obtain ⟨o, e⟩ := fnSee_some x
  unfold fnSee at x
  rw [e] at x
  dsimp only at x
  split at x
  · rename_i fd hd
    simp only [Option.some.injEq, Prod.mk.injEq] at x
    obtain ⟨x1, x2, x3, x4, x5, x6, x7, x8, x9, x10⟩ := x
    exact ⟨T.noLimit, o, fd, e, hd, x1, x2, x4, x5, x6, by rw [x7, x10]; exact c, fun vals s hl hk => hb fd vals s x3 x8 x9 hl hk⟩
  · cases x
end
theorem bind1 {k : Nat} {x : Str} (hp : ∀ (fd : FuncData) (v : Value), fd.params = fnPar k → fd.defaults = .none → fd.kwdefaults = .none → bindArgs fd ⟨[v], []⟩ = pure [(x, v)]) {h : Heap} :
    ∀ (fd : FuncData) (vals : List Value) (s : Shared), fd.params = fnPar k → fd.defaults = .none → fd.kwdefaults = .none → vals.length + ([] : List Value).length = [x].length → (∀ b o, h.get? b = some o → s.heap.get? b = some o) → BindsTo s fd ⟨vals, []⟩ ([x].zip (vals ++ []))
  | fd, [v], s, h1, h2, h3, _, _ => .of_eq (hp fd v h1 h2 h3)
  | _, [], _, _, _, _, e, _ => nomatch e
  | _, _ :: _ :: _, _, _, _, _, e, _ => by simp at e
theorem b_imode : ∀ (fd : FuncData) (v : Value), fd.params = fnPar 2 → fd.defaults = .none → fd.kwdefaults = .none → bindArgs fd ⟨[v], []⟩ = pure [(("mode" : Str), v)] := by
  rintro ⟨a, b, c, d, e, f, g, i, j, l, m, n, o, p, q⟩ v h1 h2 h3
  simp only at h1 h2 h3
  subst h1; subst h2; subst h3
  kernel_rfl
end
section
open PySem PySem.W PyProof.Rows PySem.Calls PySem.Spec
set_option linter.all false
set_option maxRecDepth 100000
set_option maxHeartbeats 2000000
theorem bind2 {k : Nat} {x y : Str} (hp : ∀ (fd : FuncData) (v u : Value), fd.params = fnPar k → fd.defaults = .none → fd.kwdefaults = .none → bindArgs fd ⟨[v, u], []⟩ = pure [(x, v), (y, u)]) {h : Heap} :
    ∀ (fd : FuncData) (vals : List Value) (s : Shared), fd.params = fnPar k → fd.defaults = .none → fd.kwdefaults = .none → vals.length + ([] : List Value).length = [x, y].length → (∀ b o, h.get? b = some o → s.heap.get? b = some o) → BindsTo s fd ⟨vals, []⟩ ([x, y].zip (vals ++ []))
  | fd, [v, u], s, h1, h2, h3, _, _ => .of_eq (hp fd v u h1 h2 h3)
  | _, [], _, _, _, _, e, _ => nomatch e
  | _, [_], _, _, _, _, e, _ => by simp at e
  | _, _ :: _ :: _ :: _, _, _, _, _, e, _ => by simp at e
theorem bind3 {k : Nat} {x y z : Str} (hp : ∀ (fd : FuncData) (v u t : Value), fd.params = fnPar k → fd.defaults = .none → fd.kwdefaults = .none → bindArgs fd ⟨[v, u, t], []⟩ = pure [(x, v), (y, u), (z, t)]) {h : Heap} :
    ∀ (fd : FuncData) (vals : List Value) (s : Shared), fd.params = fnPar k → fd.defaults = .none → fd.kwdefaults = .none → vals.length + ([] : List Value).length = [x, y, z].length → (∀ b o, h.get? b = some o → s.heap.get? b = some o) → BindsTo s fd ⟨vals, []⟩ ([x, y, z].zip (vals ++ []))
  | fd, [v, u, t], s, h1, h2, h3, _, _ => .of_eq (hp fd v u t h1 h2 h3)
  | _, [], _, _, _, _, e, _ => nomatch e
  | _, [_], _, _, _, _, e, _ => by simp at e
  | _, [_, _], _, _, _, _, e, _ => by simp at e
  | _, _ :: _ :: _ :: _ :: _, _, _, _, _, e, _ => by simp at e
theorem b_imode1 : ∀ (fd : FuncData) (v : Value), fd.params = fnPar 2 → fd.defaults = .none → fd.kwdefaults = .none → bindArgs fd ⟨[v], []⟩ = pure [(("mode" : Str), v)] := by
  rintro ⟨a, b, c, d, e, f, g, i, j, l, m, n, o, p, q⟩ v h1 h2 h3
  simp only at h1 h2 h3
  subst h1; subst h2; subst h3
  kernel_rfl
theorem b_ifmt : ∀ (fd : FuncData) (v : Value), fd.params = fnPar 3 → fd.defaults = .none → fd.kwdefaults = .none → bindArgs fd ⟨[v], []⟩ = pure [(("mode" : Str), v)] := by
  rintro ⟨a, b, c, d, e, f, g, i, j, l, m, n, o, p, q⟩ v h1 h2 h3
  simp only at h1 h2 h3
  subst h1; subst h2; subst h3
  kernel_rfl
theorem b_isdir : ∀ (fd : FuncData) (v : Value), fd.params = fnPar 11 → fd.defaults = .none → fd.kwdefaults = .none → bindArgs fd ⟨[v], []⟩ = pure [(("mode" : Str), v)] := by
  rintro ⟨a, b, c, d, e, f, g, i, j, l, m, n, o, p, q⟩ v h1 h2 h3
  simp only at h1 h2 h3
  subst h1; subst h2; subst h3
  kernel_rfl
theorem b_fmode : ∀ (fd : FuncData) (v : Value), fd.params = fnPar 25 → fd.defaults = .none → fd.kwdefaults = .none → bindArgs fd ⟨[v], []⟩ = pure [(("mode" : Str), v)] := by
  rintro ⟨a, b, c, d, e, f, g, i, j, l, m, n, o, p, q⟩ v h1 h2 h3
  simp only at h1 h2 h3
  subst h1; subst h2; subst h3
  kernel_rfl
theorem b_trn : ∀ (fd : FuncData) (v : Value), fd.params = fnPar 28 → fd.defaults = .none → fd.kwdefaults = .none → bindArgs fd ⟨[v], []⟩ = pure [(("pat" : Str), v)] := by
  rintro ⟨a, b, c, d, e, f, g, i, j, l, m, n, o, p, q⟩ v h1 h2 h3
  simp only at h1 h2 h3
  subst h1; subst h2; subst h3
  kernel_rfl
theorem b_esc : ∀ (fd : FuncData) (v : Value), fd.params = fnPar 31 → fd.defaults = .none → fd.kwdefaults = .none → bindArgs fd ⟨[v], []⟩ = pure [(("pattern" : Str), v)] := by
  rintro ⟨a, b, c, d, e, f, g, i, j, l, m, n, o, p, q⟩ v h1 h2 h3
  simp only at h1 h2 h3
  subst h1; subst h2; subst h3
  kernel_rfl
theorem b_tra : ∀ (fd : FuncData) (v u t : Value), fd.params = fnPar 33 → fd.defaults = .none → fd.kwdefaults = .none → bindArgs fd ⟨[v, u, t], []⟩ = pure [(("pat" : Str), v), (("STAR" : Str), u), (("QUESTION_MARK" : Str), t)] := by
  rintro ⟨a, b, c, d, e, f, g, i, j, l, m, n, o, p, q⟩ v u t h1 h2 h3
  simp only at h1 h2 h3
  subst h1; subst h2; subst h3
  kernel_rfl
theorem b_jta : ∀ (fd : FuncData) (v u : Value), fd.params = fnPar 34 → fd.defaults = .none → fd.kwdefaults = .none → bindArgs fd ⟨[v, u], []⟩ = pure [(("inp" : Str), v), (("STAR" : Str), u)] := by
  rintro ⟨a, b, c, d, e, f, g, i, j, l, m, n, o, p, q⟩ v u h1 h2 h3
  simp only at h1 h2 h3
  subst h1; subst h2; subst h3
  kernel_rfl
theorem b_hpop : ∀ (fd : FuncData) (v : Value), fd.params = fnPar 36 → fd.defaults = .none → fd.kwdefaults = .none → bindArgs fd ⟨[v], []⟩ = pure [(("heap" : Str), v)] := by
  rintro ⟨a, b, c, d, e, f, g, i, j, l, m, n, o, p, q⟩ v h1 h2 h3
  simp only at h1 h2 h3
  subst h1; subst h2; subst h3
  kernel_rfl
theorem b_hrep : ∀ (fd : FuncData) (v u : Value), fd.params = fnPar 37 → fd.defaults = .none → fd.kwdefaults = .none → bindArgs fd ⟨[v, u], []⟩ = pure [(("heap" : Str), v), (("item" : Str), u)] := by
  rintro ⟨a, b, c, d, e, f, g, i, j, l, m, n, o, p, q⟩ v u h1 h2 h3
  simp only at h1 h2 h3
  subst h1; subst h2; subst h3
  kernel_rfl
theorem b_hify : ∀ (fd : FuncData) (v : Value), fd.params = fnPar 38 → fd.defaults = .none → fd.kwdefaults = .none → bindArgs fd ⟨[v], []⟩ = pure [(("x" : Str), v)] := by
  rintro ⟨a, b, c, d, e, f, g, i, j, l, m, n, o, p, q⟩ v h1 h2 h3
  simp only at h1 h2 h3
  subst h1; subst h2; subst h3
  kernel_rfl
theorem b_hrepm : ∀ (fd : FuncData) (v u : Value), fd.params = fnPar 39 → fd.defaults = .none → fd.kwdefaults = .none → bindArgs fd ⟨[v, u], []⟩ = pure [(("heap" : Str), v), (("item" : Str), u)] := by
  rintro ⟨a, b, c, d, e, f, g, i, j, l, m, n, o, p, q⟩ v u h1 h2 h3
  simp only at h1 h2 h3
  subst h1; subst h2; subst h3
  kernel_rfl
theorem b_hifym : ∀ (fd : FuncData) (v : Value), fd.params = fnPar 40 → fd.defaults = .none → fd.kwdefaults = .none → bindArgs fd ⟨[v], []⟩ = pure [(("x" : Str), v)] := by
  rintro ⟨a, b, c, d, e, f, g, i, j, l, m, n, o, p, q⟩ v h1 h2 h3
  simp only at h1 h2 h3
  subst h1; subst h2; subst h3
  kernel_rfl
theorem b_sd : ∀ (fd : FuncData) (v u t : Value), fd.params = fnPar 41 → fd.defaults = .none → fd.kwdefaults = .none → bindArgs fd ⟨[v, u, t], []⟩ = pure [(("heap" : Str), v), (("startpos" : Str), u), (("pos" : Str), t)] := by
  rintro ⟨a, b, c, d, e, f, g, i, j, l, m, n, o, p, q⟩ v u t h1 h2 h3
  simp only at h1 h2 h3
  subst h1; subst h2; subst h3
  kernel_rfl
theorem b_su : ∀ (fd : FuncData) (v u : Value), fd.params = fnPar 42 → fd.defaults = .none → fd.kwdefaults = .none → bindArgs fd ⟨[v, u], []⟩ = pure [(("heap" : Str), v), (("pos" : Str), u)] := by
  rintro ⟨a, b, c, d, e, f, g, i, j, l, m, n, o, p, q⟩ v u h1 h2 h3
  simp only at h1 h2 h3
  subst h1; subst h2; subst h3
  kernel_rfl
theorem b_sdm : ∀ (fd : FuncData) (v u t : Value), fd.params = fnPar 43 → fd.defaults = .none → fd.kwdefaults = .none → bindArgs fd ⟨[v, u, t], []⟩ = pure [(("heap" : Str), v), (("startpos" : Str), u), (("pos" : Str), t)] := by
  rintro ⟨a, b, c, d, e, f, g, i, j, l, m, n, o, p, q⟩ v u t h1 h2 h3
  simp only at h1 h2 h3
  subst h1; subst h2; subst h3
  kernel_rfl
theorem b_sum : ∀ (fd : FuncData) (v u : Value), fd.params = fnPar 44 → fd.defaults = .none → fd.kwdefaults = .none → bindArgs fd ⟨[v, u], []⟩ = pure [(("heap" : Str), v), (("pos" : Str), u)] := by
  rintro ⟨a, b, c, d, e, f, g, i, j, l, m, n, o, p, q⟩ v u h1 h2 h3
  simp only at h1 h2 h3
  subst h1; subst h2; subst h3
  kernel_rfl
theorem b_lsg : ∀ (fd : FuncData) (v u : Value), fd.params = fnPar 48 → fd.defaults = .none → fd.kwdefaults = .none → bindArgs fd ⟨[v, u], []⟩ = pure [(("folder" : Str), v), (("rights" : Str), u)] := by
  rintro ⟨a, b, c, d, e, f, g, i, j, l, m, n, o, p, q⟩ v u h1 h2 h3
  simp only at h1 h2 h3
  subst h1; subst h2; subst h3
  kernel_rfl
theorem b_lpt : ∀ (fd : FuncData) (v u : Value), fd.params = fnPar 49 → fd.defaults = .none → fd.kwdefaults = .none → bindArgs fd ⟨[v, u], []⟩ = pure [(("folder" : Str), v), (("wanted" : Str), u)] := by
  rintro ⟨a, b, c, d, e, f, g, i, j, l, m, n, o, p, q⟩ v u h1 h2 h3
  simp only at h1 h2 h3
  subst h1; subst h2; subst h3
  kernel_rfl
theorem b_lft : ∀ (fd : FuncData) (v u : Value), fd.params = fnPar 50 → fd.defaults = .none → fd.kwdefaults = .none → bindArgs fd ⟨[v, u], []⟩ = pure [(("pieces" : Str), v), (("signs" : Str), u)] := by
  rintro ⟨a, b, c, d, e, f, g, i, j, l, m, n, o, p, q⟩ v u h1 h2 h3
  simp only at h1 h2 h3
  subst h1; subst h2; subst h3
  kernel_rfl
theorem b_lct : ∀ (fd : FuncData) (v : Value), fd.params = fnPar 51 → fd.defaults = .none → fd.kwdefaults = .none → bindArgs fd ⟨[v], []⟩ = pure [(("number" : Str), v)] := by
  rintro ⟨a, b, c, d, e, f, g, i, j, l, m, n, o, p, q⟩ v h1 h2 h3
  simp only at h1 h2 h3
  subst h1; subst h2; subst h3
  kernel_rfl
theorem b_law : ∀ (fd : FuncData) (v : Value), fd.params = fnPar 52 → fd.defaults = .none → fd.kwdefaults = .none → bindArgs fd ⟨[v], []⟩ = pure [(("script" : Str), v)] := by
  rintro ⟨a, b, c, d, e, f, g, i, j, l, m, n, o, p, q⟩ v h1 h2 h3
  simp only at h1 h2 h3
  subst h1; subst h2; subst h3
  kernel_rfl
section
variable {h : Heap}
theorem T_imode (T : TopSays h) : FnIs h 38 (fnScope 2) ["mode"] (fnBody 2) [] := T.fnIs (p := ("S_IMODE", 38, 2, .none)) (List.mem_of_getElem? (i := 0) rfl) (bind1 b_imode1)
theorem T_ifmt (T : TopSays h) : FnIs h 45 (fnScope 3) ["mode"] (fnBody 3) [] := T.fnIs (p := ("S_IFMT", 45, 3, .none)) (List.mem_of_getElem? (i := 1) rfl) (bind1 b_ifmt)
theorem T_isdir (T : TopSays h) : FnIs h 52 (fnScope 11) ["mode"] (fnBody 11) [] := T.fnIs (p := ("S_ISDIR", 52, 11, .none)) (List.mem_of_getElem? (i := 2) rfl) (bind1 b_isdir)
theorem T_fmode (T : TopSays h) : FnIs h 92 (fnScope 25) ["mode"] (fnBody 25) [] := T.fnIs (p := ("filemode", 92, 25, .none)) (List.mem_of_getElem? (i := 3) rfl) (bind1 b_fmode)
theorem T_trn (T : TopSays h) : FnIs h 104 (fnScope 28) ["pat"] (fnBody 28) [] := T.fnIs (p := ("translate", 104, 28, .none)) (List.mem_of_getElem? (i := 4) rfl) (bind1 b_trn)
theorem T_esc0 (T : TopSays h) : FnIs h 116 (fnScope 31) ["pattern"] (fnBody 31) [] := T.fnIs (p := ("escape", 116, 31, .none)) (List.mem_of_getElem? (i := 5) rfl) (bind1 b_esc)
theorem T_tra (T : TopSays h) : FnIs h 123 (fnScope 33) ["pat", "STAR", "QUESTION_MARK"] (fnBody 33) [] := T.fnIs (p := ("_translate", 123, 33, .none)) (List.mem_of_getElem? (i := 6) rfl) (bind3 b_tra)
theorem T_jta (T : TopSays h) : FnIs h 130 (fnScope 34) ["inp", "STAR"] (fnBody 34) [] := T.fnIs (p := ("_join_translated_parts", 130, 34, .none)) (List.mem_of_getElem? (i := 7) rfl) (bind2 b_jta)
theorem T_hpop (T : TopSays h) : FnIs h 137 (fnScope 36) ["heap"] (fnBody 36) [] := T.fnIs (p := ("heappop", 137, 36, .none)) (List.mem_of_getElem? (i := 8) rfl) (bind1 b_hpop)
theorem T_hrep (T : TopSays h) : FnIs h 144 (fnScope 37) ["heap", "item"] (fnBody 37) [] := T.fnIs (p := ("heapreplace", 144, 37, .none)) (List.mem_of_getElem? (i := 9) rfl) (bind2 b_hrep)
theorem T_hify (T : TopSays h) : FnIs h 151 (fnScope 38) ["x"] (fnBody 38) [] := T.fnIs (p := ("heapify", 151, 38, .none)) (List.mem_of_getElem? (i := 10) rfl) (bind1 b_hify)
theorem T_hrepm (T : TopSays h) : FnIs h 158 (fnScope 39) ["heap", "item"] (fnBody 39) [] := T.fnIs (p := ("_heapreplace_max", 158, 39, .none)) (List.mem_of_getElem? (i := 11) rfl) (bind2 b_hrepm)
theorem T_hifym (T : TopSays h) : FnIs h 165 (fnScope 40) ["x"] (fnBody 40) [] := T.fnIs (p := ("_heapify_max", 165, 40, .none)) (List.mem_of_getElem? (i := 12) rfl) (bind1 b_hifym)
theorem T_sd (T : TopSays h) : FnIs h 172 (fnScope 41) ["heap", "startpos", "pos"] (fnBody 41) [] := T.fnIs (p := ("_siftdown", 172, 41, .none)) (List.mem_of_getElem? (i := 13) rfl) (bind3 b_sd)
theorem T_su (T : TopSays h) : FnIs h 179 (fnScope 42) ["heap", "pos"] (fnBody 42) [] := T.fnIs (p := ("_siftup", 179, 42, .none)) (List.mem_of_getElem? (i := 14) rfl) (bind2 b_su)
theorem T_sdm (T : TopSays h) : FnIs h 186 (fnScope 43) ["heap", "startpos", "pos"] (fnBody 43) [] := T.fnIs (p := ("_siftdown_max", 186, 43, .none)) (List.mem_of_getElem? (i := 15) rfl) (bind3 b_sdm)
theorem T_sum (T : TopSays h) : FnIs h 193 (fnScope 44) ["heap", "pos"] (fnBody 44) [] := T.fnIs (p := ("_siftup_max", 193, 44, .none)) (List.mem_of_getElem? (i := 16) rfl) (bind2 b_sum)
theorem T_lsg (T : TopSays h) : FnIs h 212 (fnScope 48) ["folder", "rights"] (fnBody 48) [] := T.fnIs (p := ("_law_signs", 212, 48, .none)) (List.mem_of_getElem? (i := 19) rfl) (bind2 b_lsg)
theorem T_lpt (T : TopSays h) : FnIs h 217 (fnScope 49) ["folder", "wanted"] (fnBody 49) [] := T.fnIs (p := ("_law_pattern", 217, 49, .none)) (List.mem_of_getElem? (i := 20) rfl) (bind2 b_lpt)
theorem T_lft (T : TopSays h) : FnIs h 222 (fnScope 50) ["pieces", "signs"] (fnBody 50) [] := T.fnIs (p := ("_law_fits", 222, 50, .none)) (List.mem_of_getElem? (i := 21) rfl) (bind2 b_lft)
theorem T_lct (T : TopSays h) : FnIs h 227 (fnScope 51) ["number"] (fnBody 51) [] := T.fnIs (p := ("_law_count", 227, 51, .none)) (List.mem_of_getElem? (i := 22) rfl) (bind1 b_lct)
theorem T_law (T : TopSays h) : FnIs h 232 (fnScope 52) ["script"] (fnBody 52) [] := T.fnIs (p := ("law", 232, 52, .none)) (List.mem_of_getElem? (i := 23) rfl) (bind1 b_law)
theorem b_nsm (T : TopSays h) : ∀ (fd : FuncData) (vals : List Value) (s : Shared), fd.params = fnPar 45 → fd.defaults = .ref 194 → fd.kwdefaults = .none → vals.length + [Value.none].length = (["n", "iterable", "key"] : List Str).length → (∀ b o, h.get? b = some o → s.heap.get? b = some o) → BindsTo s fd ⟨vals, []⟩ ((["n", "iterable", "key"] : List Str).zip (vals ++ [.none]))
  | ⟨a, b, c, d, e, f, g, i, j, l, m, n, o, p, q⟩, [v, u], s, h1, h2, h3, _, hk => by
    simp only at h1 h2 h3
    subst h1; subst h2; subst h3
    have e := hk _ _ (T.ob (194, ⟨.type "tuple", none, .seq #[.none], #[]⟩) (List.mem_of_getElem? (i := 36) rfl) (by simp))
    exact .of_defaults rfl e rfl (by rfl) (by rfl)
  | _, [], _, _, _, _, e, _ => by simp at e
  | _, [_], _, _, _, _, e, _ => by simp at e
  | _, _ :: _ :: _ :: _, _, _, _, _, e, _ => by simp at e
theorem T_nsm (T : TopSays h) : FnIs h 199 (fnScope 45) ["n", "iterable", "key"] (fnBody 45) [.none] := T.fnIs (p := ("nsmallest", 199, 45, .ref 194)) (List.mem_of_getElem? (i := 17) rfl) (b_nsm T)
theorem b_nlg (T : TopSays h) : ∀ (fd : FuncData) (vals : List Value) (s : Shared), fd.params = fnPar 46 → fd.defaults = .ref 200 → fd.kwdefaults = .none → vals.length + [Value.none].length = (["n", "iterable", "key"] : List Str).length → (∀ b o, h.get? b = some o → s.heap.get? b = some o) → BindsTo s fd ⟨vals, []⟩ ((["n", "iterable", "key"] : List Str).zip (vals ++ [.none]))
  | ⟨a, b, c, d, e, f, g, i, j, l, m, n, o, p, q⟩, [v, u], s, h1, h2, h3, _, hk => by
    simp only at h1 h2 h3
    subst h1; subst h2; subst h3
    have e := hk _ _ (T.ob (200, ⟨.type "tuple", none, .seq #[.none], #[]⟩) (List.mem_of_getElem? (i := 37) rfl) (by simp))
    exact .of_defaults rfl e rfl (by rfl) (by rfl)
  | _, [], _, _, _, _, e, _ => by simp at e
  | _, [_], _, _, _, _, e, _ => by simp at e
  | _, _ :: _ :: _ :: _, _, _, _, _, e, _ => by simp at e
theorem T_nlg (T : TopSays h) : FnIs h 205 (fnScope 46) ["n", "iterable", "key"] (fnBody 46) [.none] := T.fnIs (p := ("nlargest", 205, 46, .ref 200)) (List.mem_of_getElem? (i := 18) rfl) (b_nlg T)
noncomputable def topRows : List FRow := [⟨60, [(53, 40960, "l"), (54, 49152, "s"), (55, 32768, "-"), (56, 24576, "b"), (57, 16384, "d"), (58, 8192, "c"), (59, 4096, "p")]⟩, ⟨62, [(61, 256, "r")]⟩, ⟨64, [(63, 128, "w")]⟩, ⟨68, [(65, 2112, "s"), (66, 2048, "S"), (67, 64, "x")]⟩, ⟨70, [(69, 32, "r")]⟩, ⟨72, [(71, 16, "w")]⟩, ⟨76, [(73, 1032, "s"), (74, 1024, "S"), (75, 8, "x")]⟩, ⟨78, [(77, 4, "r")]⟩, ⟨80, [(79, 2, "w")]⟩, ⟨84, [(81, 513, "t"), (82, 512, "T"), (83, 1, "x")]⟩]
theorem TopSays.tup (T : TopSays h) {i : Nat} {a : Addr} {vs : List Value} (e : topObs[i]? = some (a, ⟨.type "tuple", none, .seq (List.toArray vs), #[]⟩)) (hn : a ≠ 118) : h.IsTuple a (List.toArray vs) :=
  ⟨_, T.ob (a, _) (List.mem_of_getElem? e) hn, rfl, _, rfl⟩
theorem T_rows (T : TopSays h) : FTab h 85 topRows where
  tab := fun S => .old (vs := topRows.map fun r => .ref r.a) (T.tup (i := 32) rfl (by simp)) (by unfold topRows; simp [VRs, VR])
  row := fun r hr S => by
    unfold topRows at hr
    simp only [List.mem_cons, List.not_mem_nil, or_false] at hr
    rcases hr with rfl | rfl | rfl | rfl | rfl | rfl | rfl | rfl | rfl | rfl
    · exact .old (vs := [.ref 53, .ref 54, .ref 55, .ref 56, .ref 57, .ref 58, .ref 59]) (T.tup (i := 7) rfl (by simp)) (by simp [VRs, VR])
    · exact .old (vs := [.ref 61]) (T.tup (i := 9) rfl (by simp)) (by simp [VRs, VR])
    · exact .old (vs := [.ref 63]) (T.tup (i := 11) rfl (by simp)) (by simp [VRs, VR])
    · exact .old (vs := [.ref 65, .ref 66, .ref 67]) (T.tup (i := 15) rfl (by simp)) (by simp [VRs, VR])
    · exact .old (vs := [.ref 69]) (T.tup (i := 17) rfl (by simp)) (by simp [VRs, VR])
    · exact .old (vs := [.ref 71]) (T.tup (i := 19) rfl (by simp)) (by simp [VRs, VR])
    · exact .old (vs := [.ref 73, .ref 74, .ref 75]) (T.tup (i := 23) rfl (by simp)) (by simp [VRs, VR])
    · exact .old (vs := [.ref 77]) (T.tup (i := 25) rfl (by simp)) (by simp [VRs, VR])
    · exact .old (vs := [.ref 79]) (T.tup (i := 27) rfl (by simp)) (by simp [VRs, VR])
    · exact .old (vs := [.ref 81, .ref 82, .ref 83]) (T.tup (i := 31) rfl (by simp)) (by simp [VRs, VR])
  pair := fun r hr p hp S => by
    unfold topRows at hr
    simp only [List.mem_cons, List.not_mem_nil, or_false] at hr
    rcases hr with rfl | rfl | rfl | rfl | rfl | rfl | rfl | rfl | rfl | rfl
    · simp only [List.mem_cons, List.not_mem_nil, or_false] at hp
      rcases hp with rfl | rfl | rfl | rfl | rfl | rfl | rfl
      · exact .old (vs := [.int 40960 308, .str "l" 343]) (T.tup (i := 0) rfl (by simp)) ⟨_, _, rfl, ⟨_, rfl⟩, _, _, rfl, ⟨_, rfl⟩, rfl⟩
      · exact .old (vs := [.int 49152 310, .str "s" 344]) (T.tup (i := 1) rfl (by simp)) ⟨_, _, rfl, ⟨_, rfl⟩, _, _, rfl, ⟨_, rfl⟩, rfl⟩
      · exact .old (vs := [.int 32768 304, .str "-" 345]) (T.tup (i := 2) rfl (by simp)) ⟨_, _, rfl, ⟨_, rfl⟩, _, _, rfl, ⟨_, rfl⟩, rfl⟩
      · exact .old (vs := [.int 24576 302, .str "b" 346]) (T.tup (i := 3) rfl (by simp)) ⟨_, _, rfl, ⟨_, rfl⟩, _, _, rfl, ⟨_, rfl⟩, rfl⟩
      · exact .old (vs := [.int 16384 298, .str "d" 347]) (T.tup (i := 4) rfl (by simp)) ⟨_, _, rfl, ⟨_, rfl⟩, _, _, rfl, ⟨_, rfl⟩, rfl⟩
      · exact .old (vs := [.int 8192 300, .str "c" 348]) (T.tup (i := 5) rfl (by simp)) ⟨_, _, rfl, ⟨_, rfl⟩, _, _, rfl, ⟨_, rfl⟩, rfl⟩
      · exact .old (vs := [.int 4096 306, .str "p" 349]) (T.tup (i := 6) rfl (by simp)) ⟨_, _, rfl, ⟨_, rfl⟩, _, _, rfl, ⟨_, rfl⟩, rfl⟩
    · simp only [List.mem_cons, List.not_mem_nil, or_false] at hp
      rcases hp with rfl
      · exact .old (vs := [.int 256 325, .str "r" 350]) (T.tup (i := 8) rfl (by simp)) ⟨_, _, rfl, ⟨_, rfl⟩, _, _, rfl, ⟨_, rfl⟩, rfl⟩
    · simp only [List.mem_cons, List.not_mem_nil, or_false] at hp
      rcases hp with rfl
      · exact .old (vs := [.int 128 327, .str "w" 351]) (T.tup (i := 10) rfl (by simp)) ⟨_, _, rfl, ⟨_, rfl⟩, _, _, rfl, ⟨_, rfl⟩, rfl⟩
    · simp only [List.mem_cons, List.not_mem_nil, or_false] at hp
      rcases hp with rfl | rfl | rfl
      · exact .old (vs := [.int 2112 352, .str "s" 353]) (T.tup (i := 12) rfl (by simp)) ⟨_, _, rfl, ⟨_, rfl⟩, _, _, rfl, ⟨_, rfl⟩, rfl⟩
      · exact .old (vs := [.int 2048 319, .str "S" 354]) (T.tup (i := 13) rfl (by simp)) ⟨_, _, rfl, ⟨_, rfl⟩, _, _, rfl, ⟨_, rfl⟩, rfl⟩
      · exact .old (vs := [.int 64 329, .str "x" 355]) (T.tup (i := 14) rfl (by simp)) ⟨_, _, rfl, ⟨_, rfl⟩, _, _, rfl, ⟨_, rfl⟩, rfl⟩
    · simp only [List.mem_cons, List.not_mem_nil, or_false] at hp
      rcases hp with rfl
      · exact .old (vs := [.int 32 331, .str "r" 356]) (T.tup (i := 16) rfl (by simp)) ⟨_, _, rfl, ⟨_, rfl⟩, _, _, rfl, ⟨_, rfl⟩, rfl⟩
    · simp only [List.mem_cons, List.not_mem_nil, or_false] at hp
      rcases hp with rfl
      · exact .old (vs := [.int 16 333, .str "w" 357]) (T.tup (i := 18) rfl (by simp)) ⟨_, _, rfl, ⟨_, rfl⟩, _, _, rfl, ⟨_, rfl⟩, rfl⟩
    · simp only [List.mem_cons, List.not_mem_nil, or_false] at hp
      rcases hp with rfl | rfl | rfl
      · exact .old (vs := [.int 1032 358, .str "s" 359]) (T.tup (i := 20) rfl (by simp)) ⟨_, _, rfl, ⟨_, rfl⟩, _, _, rfl, ⟨_, rfl⟩, rfl⟩
      · exact .old (vs := [.int 1024 321, .str "S" 360]) (T.tup (i := 21) rfl (by simp)) ⟨_, _, rfl, ⟨_, rfl⟩, _, _, rfl, ⟨_, rfl⟩, rfl⟩
      · exact .old (vs := [.int 8 335, .str "x" 361]) (T.tup (i := 22) rfl (by simp)) ⟨_, _, rfl, ⟨_, rfl⟩, _, _, rfl, ⟨_, rfl⟩, rfl⟩
    · simp only [List.mem_cons, List.not_mem_nil, or_false] at hp
      rcases hp with rfl
      · exact .old (vs := [.int 4 337, .str "r" 362]) (T.tup (i := 24) rfl (by simp)) ⟨_, _, rfl, ⟨_, rfl⟩, _, _, rfl, ⟨_, rfl⟩, rfl⟩
    · simp only [List.mem_cons, List.not_mem_nil, or_false] at hp
      rcases hp with rfl
      · exact .old (vs := [.int 2 339, .str "w" 363]) (T.tup (i := 26) rfl (by simp)) ⟨_, _, rfl, ⟨_, rfl⟩, _, _, rfl, ⟨_, rfl⟩, rfl⟩
    · simp only [List.mem_cons, List.not_mem_nil, or_false] at hp
      rcases hp with rfl | rfl | rfl
      · exact .old (vs := [.int 513 364, .str "t" 365]) (T.tup (i := 28) rfl (by simp)) ⟨_, _, rfl, ⟨_, rfl⟩, _, _, rfl, ⟨_, rfl⟩, rfl⟩
      · exact .old (vs := [.int 512 323, .str "T" 366]) (T.tup (i := 29) rfl (by simp)) ⟨_, _, rfl, ⟨_, rfl⟩, _, _, rfl, ⟨_, rfl⟩, rfl⟩
      · exact .old (vs := [.int 1 341, .str "x" 367]) (T.tup (i := 30) rfl (by simp)) ⟨_, _, rfl, ⟨_, rfl⟩, _, _, rfl, ⟨_, rfl⟩, rfl⟩
  one := by decide +kernel
  few := by decide
theorem T_re (T : TopSays h) : IsRe h 97 := ⟨96, _, _, _, _, _, _, _, _, T.ob (97, _) (List.mem_of_getElem? (i := 34) rfl) (by simp), T.ob (96, _) (List.mem_of_getElem? (i := 33) rfl) (by simp), by kernel_rfl⟩
theorem T_lam (T : TopSays h) : LamOk h 122 118 where
  code := ⟨_, _, _, _, _, _, _, _, _, T.ob (122, _) (List.mem_of_getElem? (i := 35) rfl) (by simp), rfl, rfl, rfl, rfl, rfl, rfl, rfl, rfl, by simp⟩
  mg := ⟨_, .of_isNs T.g, 4, _, T.vl ("__builtins__", .ref 4) (List.mem_of_getElem? (i := 4) rfl), by decide, by decide, by decide, T.ob (4, _) (List.mem_of_getElem? (i := 39) rfl) (by simp), rfl, rfl, rfl⟩
theorem T_cd (T : TopSays h) : ∀ o fd, h.get? 123 = some o → o.data = .func fd → fd.code = .ref 122 := fun o fd e hd => by
  have x := T.fs ("_translate", 123, 33, .none) (List.mem_of_getElem? (i := 6) rfl)
  unfold fnSee at x
  dsimp only at x
  rw [e] at x
  dsimp only at x
  rw [hd] at x
  simp only [Option.some.injEq, Prod.mk.injEq] at x
  exact x.2.2.2.2.2.2.1
theorem T_lacks {prog : Program} {w : World} (T : TopSays h) {c : Nat} (hc : c = 100 ∨ c = 114 ∨ c = 119) : Lacks prog w h 106 c := by
  have x := T.mp
  obtain ⟨o, e⟩ := mapSee_some x
  unfold mapSee at x
  rw [e] at x
  dsimp only at x
  split at x
  · rename_i es ep hd
    simp only [Option.some.injEq, Prod.mk.injEq] at x
    obtain ⟨x1, x2, x3, x4⟩ := x
    have all : ∀ d ∈ es, ∃ i t, d.key = .int i t ∧ d.hash = hashInt i ∧ i ≠ 100 ∧ i ≠ 114 ∧ i ≠ 119 := fun d hd => by
      have := List.all_eq_true.mp x4 d (Array.mem_toList_iff.mpr hd)
      split at this
      · rename_i i t hk
        simp only [Bool.and_eq_true, decide_eq_true_eq] at this
        exact ⟨i, t, hk, this.1.1.1, this.1.1.2, this.1.2, this.2⟩
      · cases this
    refine ⟨fun k => findBy (intKind prog w).is es k, ⟨o, es, ep, e, ⟨x1, x2, x3⟩, hd, fun d hd => ?_, fun _ => rfl⟩, ?_⟩
    · obtain ⟨i, t, hk, hh, _⟩ := all d hd
      exact ⟨i, by rw [hk]; simp [intKind, Value.isInt], hh⟩
    · have : es.find? (fun d => (intKind prog w).is (c : Int) d.key) = none := Array.find?_eq_none.mpr fun d hd => by
        obtain ⟨i, t, hk, _, h1, h2, h3⟩ := all d hd
        rw [hk]
        simp only [intKind, Value.isInt]
        rcases hc with rfl | rfl | rfl <;> simp <;> omega
      show findBy (intKind prog w).is es (c : Int) = none
      unfold findBy
      rw [this]; rfl
  · cases x
noncomputable def topGl : List (Str × AV) := (topFns.map fun p => (p.1, AV.val (.ref p.2.1))) ++ ([("S_IFDIR", .int 16384), ("_filemode_table", .val (.ref 85)), ("_twin_re_1", .val (.ref 97)), ("_special_chars_map", .val (.ref 106))] : List (Str × AV))
theorem T_top (T : TopSays h) : TopIs h topGl topBl where
  g := ⟨_, .of_isNs T.g, fun p hp => by
    rcases List.mem_append.mp hp with hp | hp
    · obtain ⟨q, hq, rfl⟩ := List.mem_map.mp hp
      exact ⟨_, T.fn q hq, rfl⟩
    · simp only [List.mem_cons, List.not_mem_nil, or_false] at hp
      rcases hp with rfl | rfl | rfl | rfl
      · exact ⟨_, T.vl ("S_IFDIR", .int 16384 298) (List.mem_of_getElem? (i := 0) rfl), _, rfl⟩
      · exact ⟨_, T.vl ("_filemode_table", .ref 85) (List.mem_of_getElem? (i := 1) rfl), rfl⟩
      · exact ⟨_, T.vl ("_twin_re_1", .ref 97) (List.mem_of_getElem? (i := 2) rfl), rfl⟩
      · exact ⟨_, T.vl ("_special_chars_map", .ref 106) (List.mem_of_getElem? (i := 3) rfl), rfl⟩, fun p hp => T.bn p hp⟩
  b := ⟨_, .of_isNs T.b, fun p hp => T.bv p hp⟩
  lim := T.noLimit
theorem T_esc {prog : Program} {w : World} (T : TopSays h) : EscOk prog w h topGl topBl 116 106 where
  F := T_esc0 T
  isi := List.mem_of_getElem? (i := 9) rfl
  str := List.mem_of_getElem? (i := 10) rfl
  map := List.mem_of_getElem? (i := 27) rfl
  sys := by decide
  lack := fun c hc => T_lacks T hc
noncomputable def lawTop {prog : Program} {w : World} (T : TopSays h) : LawTop prog w h topGl topBl where
  imode := 38
  ifmt := 45
  isdir := 52
  fmode := 92
  trn := 104
  esc := 116
  tra := 123
  jta := 130
  hpop := 137
  hrep := 144
  hify := 151
  hrepm := 158
  hifym := 165
  sd := 172
  su := 179
  sdm := 186
  sum := 193
  nsm := 199
  nlg := 205
  lsg := 212
  lpt := 217
  lft := 222
  lct := 227
  ftb := 85
  re := 97
  sc := 106
  cc := 122
  P := 118
  rows := topRows
  T := T_top T
  b_sum := List.mem_of_getElem? (i := 0) rfl
  b_range := List.mem_of_getElem? (i := 1) rfl
  b_len := List.mem_of_getElem? (i := 2) rfl
  b_sorted := List.mem_of_getElem? (i := 3) rfl
  b_enumerate := List.mem_of_getElem? (i := 4) rfl
  b_object := List.mem_of_getElem? (i := 5) rfl
  b_iter := List.mem_of_getElem? (i := 6) rfl
  b_zip := List.mem_of_getElem? (i := 7) rfl
  b_reversed := List.mem_of_getElem? (i := 8) rfl
  g_imode := List.mem_of_getElem? (i := 0) rfl
  F_imode := T_imode T
  g_ifmt := List.mem_of_getElem? (i := 1) rfl
  F_ifmt := T_ifmt T
  g_isdir := List.mem_of_getElem? (i := 2) rfl
  F_isdir := T_isdir T
  g_fmode := List.mem_of_getElem? (i := 3) rfl
  F_fmode := T_fmode T
  g_trn := List.mem_of_getElem? (i := 4) rfl
  F_trn := T_trn T
  g_esc := List.mem_of_getElem? (i := 5) rfl
  g_tra := List.mem_of_getElem? (i := 6) rfl
  F_tra := T_tra T
  g_jta := List.mem_of_getElem? (i := 7) rfl
  F_jta := T_jta T
  g_hpop := List.mem_of_getElem? (i := 8) rfl
  F_hpop := T_hpop T
  g_hrep := List.mem_of_getElem? (i := 9) rfl
  F_hrep := T_hrep T
  g_hify := List.mem_of_getElem? (i := 10) rfl
  F_hify := T_hify T
  g_hrepm := List.mem_of_getElem? (i := 11) rfl
  F_hrepm := T_hrepm T
  g_hifym := List.mem_of_getElem? (i := 12) rfl
  F_hifym := T_hifym T
  g_sd := List.mem_of_getElem? (i := 13) rfl
  F_sd := T_sd T
  g_su := List.mem_of_getElem? (i := 14) rfl
  F_su := T_su T
  g_sdm := List.mem_of_getElem? (i := 15) rfl
  F_sdm := T_sdm T
  g_sum := List.mem_of_getElem? (i := 16) rfl
  F_sum := T_sum T
  g_nsm := List.mem_of_getElem? (i := 17) rfl
  F_nsm := T_nsm T
  g_nlg := List.mem_of_getElem? (i := 18) rfl
  F_nlg := T_nlg T
  g_lsg := List.mem_of_getElem? (i := 19) rfl
  F_lsg := T_lsg T
  g_lpt := List.mem_of_getElem? (i := 20) rfl
  F_lpt := T_lpt T
  g_lft := List.mem_of_getElem? (i := 21) rfl
  F_lft := T_lft T
  g_lct := List.mem_of_getElem? (i := 22) rfl
  F_lct := T_lct T
  g_dir := List.mem_of_getElem? (i := 24) rfl
  g_ftb := List.mem_of_getElem? (i := 25) rfl
  g_re := List.mem_of_getElem? (i := 26) rfl
  B := T_rows T
  hrows := rfl
  X := T_esc T
  IR := T_re T
  LM := T_lam T
  hcd := T_cd T
end
end
section
open PySem PySem.W PyProof.Rows PySem.Calls PySem.Spec
set_option linter.all false
set_option maxRecDepth 100000
set_option maxHeartbeats 2000000
theorem ns_eq {h : Heap} {a : Addr} {m : Str → Option Value} (x : h.Ns a m) (n : Str) : h.nsMap a n = m n := by
  obtain ⟨o, es, ep, e, hd, _, hf⟩ := x
  unfold Heap.nsMap
  rw [e]
  dsimp only
  rw [hd]
  exact hf n
theorem vrs_ints : ∀ {vs : List Value} {ns : List Int}, IntsAre vs ns → VRs (ns.map AV.int) vs := by
  intro vs ns x
  induction x with
  | nil => rfl
  | cons => rename_i ih; exact ⟨_, _, rfl, ⟨_, rfl⟩, ih⟩
theorem oldK_of {h h' : Heap} {S' : Led} (R : Rep (hideAll h [118]) S' h') (hm : (118, PTab lamPos) ∈ S') (tab : h.get? 118 = some (tabObj #[])) (cod : ∃ o vs, h.get? 122 = some o ∧ o.cls = .type "code" ∧ o.data = .fields vs ∧ vs[11]? = some (.ref 118)) : OldK h h' where
  old := fun b o e => by
    by_cases hb : b = 118
    · subst hb
      rw [tab] at e
      cases e
      obtain ⟨o', e', hp⟩ := R.mem _ hm
      rcases hp with rfl | ⟨c', rfl⟩
      · exact .inl e'
      · obtain ⟨oc, vs, c1, c2, c3, c4⟩ := cod
        exact .inr (.inl ⟨⟨122, oc, vs, c1, c2, c3, c4⟩, rfl, #[], #[rawInt lamPos.line, rawInt lamPos.col, .ref c'], rfl, by rw [Array.empty_append]; exact e'⟩)
    · exact .inl (R.keep b o (hideAll_get _ e (by simpa using hb)))
  there := fun b o e => by
    by_cases hb : b = 118
    · subst hb
      obtain ⟨o', e', _⟩ := R.mem _ hm
      exact ⟨o', e'⟩
    · exact ⟨o, R.keep b o (hideAll_get _ e (by simpa using hb))⟩
theorem law_holds : PySem.Challenge.rw_rx0117_01.Holds := by
  refine holds_law q_said fun said => ?_
  refine holds_openX (q := qv) (loose := loose0) (Xt := XtO) (XP := XL qv []) (Yf := fun s => seeTop s.heap) (Ya := fun _ => goodTop) (N := 5048) ends_all (fun s e => xl_of s (Bool.and_eq_true_iff.mp e).1) XL.keeps q_def q_the (by kernel_rfl) (fun s e => recFacts_of (Bool.and_eq_true_iff.mp e).2) (by kernel_rfl) said q_ok q_bare q_wit ?_
  intro w s₀ s₁ mg mb G Y fa o pm cd doc dV kV ho hd hcd hD hmg hg args vals as L hpre hlay hrd hwl hlo
  wrow_args hpre hlay hrd hwl hlo
  rename_i ns _ _ _ _ _ _ _ l0 vs _ hL _ _ _ hI _ hc _
  have Y : seeTop s₀.heap = goodTop := Y
  have T0 : TopSays s₀.heap := .of Y
  have T' : TopSays s₁.heap := T0.move fun b o _ e => L.keeps b o e
  have T1 : TopSays (hideAll s₁.heap [118]) := T'.move fun b o hb e => hideAll_get _ e (by simpa using hb)
  have tab : s₁.heap.get? 118 = some (tabObj #[]) := L.keeps _ _ (tab_of Y)
  obtain ⟨el, es⟩ := X.script_at L
  have hfa : fa = 232 := by
    have x : mg "law" = some (.ref fa) := hmg
    rw [← ns_eq G.T.g, T'.fn ("law", 232, 52, .none) (List.mem_of_getElem? (i := 23) rfl)] at x
    cases x; rfl
  subst hfa
  have low : 118 < s₀.heap.objs.size := Heap.lt_size (tab_of Y)
  have hl0 : l0 ≠ 118 := by rw [el]; exact Nat.ne_of_gt low
  have hLb : (hideAll s₁.heap [118]).IsList l0 vs.toArray := by
    obtain ⟨ol, e, r⟩ := hL
    exact ⟨ol, hideAll_get _ e (by simpa using hl0), r⟩
  have C := c_law (prog := PySem.Challenge.rw_rx0117_01.row.prog) (w := w) (n := 0) (S := []) (lawTop T1) (T_law T1) ns (by lia) (l0 := l0) (v := .ref l0)
    (fun S h R => ⟨vs, let ⟨ol, e, r⟩ := hLb; ⟨ol, R.keep _ _ e, r⟩, vrs_ints hI⟩) rfl
  have R : Rep (hideAll s₁.heap [118]) [(118, PTab lamPos)] s₁.heap := by
    refine ⟨fun b o e => of_hideAll _ e, fun p hp => ?_, fun p hp => ?_, by simp, l0, ?_⟩
    · obtain rfl := List.mem_singleton.mp hp
      exact ⟨_, tab, .inl rfl⟩
    · obtain rfl := List.mem_singleton.mp hp
      exact hideAll_none _ (by simp)
    · obtain ⟨ol, e, r⟩ := hLb
      exact ⟨ol, by rw [hideAll_size, es, el], e⟩
  refine wpAny_mono (C.run callerA s₁ ⟨rfl, by decide, by decide⟩ R) (fun v s' p => ?_) fun _ _ x => x.elim
  obtain ⟨S', h', k', rfl, R', a, hv, hb, hm⟩ := p
  subst hb
  obtain rfl : v = .bool true := hv
  exact ⟨.inl ⟨_, _, [], rfl, fun _ => rfl, ReadsW.bool true, by wrow_post, fun _ => ⟨List.nodup_nil, fun _ hm => (nomatch hm)⟩⟩, oldK_of R' hm tab (cod_of T'), rfl, .of_eq hg⟩
end
end
end Mine
theorem PySem.Challenge.cw_rx0117_01_holds : PySem.Challenge.rw_rx0117_01.Holds :=
  Mine.law_holds
