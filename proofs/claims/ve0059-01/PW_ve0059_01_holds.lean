import PyProof.Rows.All
import Wide.All
import OpenK.AllK
import Wide.FinOn
import PySem.Challenge.RW_ve0059_01
open PySem PySem.W PyProof.Rows PySem.Calls PySem.Spec
set_option Elab.async false
set_option maxRecDepth 100000
namespace Mine
set_option maxRecDepth 100000 in
set_option maxHeartbeats 8000000 in
open_top hd for PySem.Challenge.rw_ve0059_01
end Mine

namespace Mine

/-- g is a part of h -/
def Sub (g h : Heap) : Prop := ∀ b o, g.get? b = some o → h.get? b = some o
theorem Sub.refl (h : Heap) : Sub h h := fun _ _ e => e
theorem Sub.trans {a b c : Heap} (x : Sub a b) (y : Sub b c) : Sub a c := fun p o e => y p o (x p o e)
theorem Sub.none {g h : Heap} (x : Sub g h) {b : Addr} (e : h.get? b = none) : g.get? b = none := fresh_of_stays x e

/-- the exception has no context yet -/
def NoCtx (e : Addr) (h : Heap) : Prop := ∃ oe vs, h.get? e = some oe ∧ oe.data = .fields vs ∧ vs[2]? = some .none

theorem NoCtx.push {e : Addr} {h : Heap} (x : NoCtx e h) (o : Obj) : NoCtx e (h.push o) := let ⟨oe, vs, a, b, c⟩ := x; ⟨oe, vs, Heap.get?_push_of_some _ a, b, c⟩
theorem NoCtx.slots {e : Addr} {h : Heap} (x : NoCtx e h) (a : Addr) (sl : Obj → Array (Option Value)) : NoCtx e (h.update a fun o => { o with slots := sl o }) := by
  obtain ⟨oe, vs, p, q, r⟩ := x
  by_cases z : a = e
  · subst z
    exact ⟨_, vs, Heap.get?_update_self _ p (by obtain ⟨c, d, dt, s⟩ := oe; obtain rfl : dt = _ := q; rfl), q, r⟩
  · exact ⟨oe, vs, (Heap.get?_update_other _ _ z).trans p, q, r⟩
theorem NoCtx.setField {e : Addr} {h : Heap} (x : NoCtx e h) (a : Addr) (i : Nat) (v : Value) (hi : i ≠ 2) : NoCtx e (h.update a (Obj.mapFields (·.setIfInBounds i v))) := by
  obtain ⟨oe, vs, p, q, r⟩ := x
  by_cases z : a = e
  · subst z
    have hd := Obj.data_mapFields q (·.setIfInBounds i v)
    exact ⟨_, _, Heap.get?_update_self _ p (Obj.isFreed_of_fields hd), hd, by rw [Array.getElem?_setIfInBounds_ne hi]; exact r⟩
  · exact ⟨oe, vs, (Heap.get?_update_other _ _ z).trans p, q, r⟩
theorem NoCtx.sub {e : Addr} {h h' : Heap} (x : NoCtx e h) (k : Sub h h') : NoCtx e h' := let ⟨oe, vs, a, b, c⟩ := x; ⟨oe, vs, k _ _ a, b, c⟩

structure Keeps (e : Addr) {α : Type} (t : Sem α) : Prop where
  out : ∀ (M : Model) (Γ : PySem.Ctx) (P : α → Pos → Shared → Prop) (Ee : Value → Pos → Shared → Prop) (p : Pos) (s : Shared), NoCtx e s.heap → Sem.wp M Γ t P Ee p s →
    Sem.wp M Γ t (fun a p' s' => P a p' s' ∧ NoCtx e s'.heap) (fun v p' s' => Ee v p' s' ∧ NoCtx e s'.heap) p s

namespace Keeps
variable {α β : Type} {e : Addr}
theorem pure (a : α) : Keeps e (Pure.pure a : Sem α) := ⟨fun M Γ P Ee p s hN h => by rw [Sem.wp_pure'] at h ⊢; exact ⟨h, hN⟩⟩
theorem unsupported (w : String) : Keeps e (PySem.unsupported w : Sem α) := ⟨fun M Γ P Ee p s hN h => by rw [Sem.wp_cmd_unsupported] at h; exact h.elim⟩
theorem bind {m : Sem α} {f : α → Sem β} (hm : Keeps e m) (hf : ∀ a, Keeps e (f a)) : Keeps e (m >>= f) := ⟨fun M Γ P Ee p s hN h => by
  rw [Sem.wp_bind'] at h ⊢
  exact Sem.wp_mono M Γ m (fun a p' s' h' => (hf a).out M Γ P Ee p' s' h'.2 h'.1) (fun _ _ _ x => x) p s (hm.out M Γ _ Ee p s hN h)⟩
theorem ite {c : Prop} [Decidable c] {t u : Sem α} (ht : Keeps e t) (hu : Keeps e u) : Keeps e (if c then t else u) := by split <;> assumption
theorem load (a : Addr) : Keeps e (PySem.load a) := ⟨fun M Γ P Ee p s hN h => by
  rw [Sem.wp_cmd_load] at h ⊢
  obtain ⟨o, ho, h⟩ := h; exact ⟨o, ho, h, hN⟩⟩
theorem slots (a : Addr) (sl : Obj → Array (Option Value)) : Keeps e (PySem.update a fun o => { o with slots := sl o }) := ⟨fun M Γ P Ee p s hN h => by
  rw [Sem.wp_cmd_update] at h ⊢
  exact ⟨h.1, h.2, hN.slots a sl⟩⟩
theorem stack : Keeps e PySem.stack := ⟨fun M Γ P Ee p s hN h => by
  unfold PySem.stack at h ⊢
  rw [Sem.wp_stack] at h ⊢
  exact ⟨h, hN⟩⟩
theorem alloc (o : Obj) : Keeps e (PySem.alloc o) := ⟨fun M Γ P Ee p s hN h => by
  rw [Sem.wp_cmd_alloc] at h ⊢
  exact ⟨h, hN.push o⟩⟩
theorem field (v : Value) (i : Nat) : Keeps e (PySem.field v i) := ⟨fun M Γ P Ee p s hN h => by
  rw [wp_field_iff] at h ⊢
  obtain ⟨a, o, vs, x, h1, h2, h3, h4, h5⟩ := h
  exact ⟨a, o, vs, x, h1, h2, h3, h4, h5, hN⟩⟩
theorem setField (v : Value) (i : Nat) (x : Value) (hi : i ≠ 2) : Keeps e (PySem.setField v i x) := ⟨fun M Γ P Ee p s hN h => by
  rw [wp_setField_iff] at h ⊢
  obtain ⟨a, o, vs, h1, h2, h3, h4, h5⟩ := h
  exact ⟨a, o, vs, h1, h2, h3, h4, h5, hN.setField a i x hi⟩⟩
theorem throw (v : Value) : Keeps e (throw v : Sem α) := ⟨fun M Γ P Ee p s hN h => by
  exact ⟨h, hN⟩⟩
end Keeps

section
variable {e : Addr}
theorem keeps_behind (env : Env) (outer : List Env) : Keeps e (behindIsImport env outer) := by
  unfold behindIsImport
  repeat' first | assumption | exact Keeps.pure _ | exact Keeps.unsupported _ | exact Keeps.field _ _ | exact Keeps.load _ | exact Keeps.stack | apply Keeps.ite | apply Keeps.bind | intro _ | split
theorem keeps_under : Keeps e underTheClaimsCaller := by
  unfold underTheClaimsCaller
  repeat' first | assumption | exact Keeps.pure _ | exact Keeps.unsupported _ | exact Keeps.field _ _ | exact Keeps.load _ | exact Keeps.stack | apply Keeps.ite | apply Keeps.bind | intro _ | split
theorem keeps_keptBack (env : Env) (i : Bool) (l : List Env) : Keeps e (keptBack env i l) := by
  have := keeps_under (e := e)
  cases l <;> unfold keptBack <;> repeat' first | assumption | exact Keeps.pure _ | exact Keeps.unsupported _ | exact Keeps.field _ _ | exact Keeps.load _ | exact Keeps.stack | apply Keeps.ite | apply Keeps.bind | intro _ | split
theorem keeps_ready : ∀ l : List Env, Keeps e (readyFrames l)
  | [] => by unfold readyFrames; exact Keeps.pure _
  | env :: outer => by
    have ih : Keeps e (readyFrames outer) := keeps_ready outer
    have h1 := keeps_behind (e := e) env outer
    have h2 := fun i => keeps_keptBack (e := e) env i outer
    unfold readyFrames
    repeat' first | assumption | exact h2 _ | exact Keeps.pure _ | exact Keeps.unsupported _ | exact Keeps.field _ _ | exact Keeps.load _ | exact Keeps.stack | exact Keeps.slots _ _ | apply Keeps.ite | apply Keeps.bind | intro _ | split
theorem keeps_frameObject (l : List Env) : Keeps e (frameObject l) := by
  cases l with
  | nil => unfold frameObject; exact Keeps.pure _
  | cons env outer =>
    have := keeps_ready (e := e) (env :: outer)
    unfold frameObject
    repeat' first | assumption | exact Keeps.pure _ | exact Keeps.unsupported _ | exact Keeps.field _ _ | exact Keeps.load _ | exact Keeps.stack | apply Keeps.ite | apply Keeps.bind | intro _ | split
theorem keeps_frameOf (env : Env) : Keeps e (PySem.frameOf env) := by
  have h2 := keeps_frameObject (e := e)
  unfold PySem.frameOf frameEnvs
  repeat' first | assumption | exact h2 _ | exact Keeps.pure _ | exact Keeps.unsupported _ | exact Keeps.field _ _ | exact Keeps.load _ | exact Keeps.stack | apply Keeps.ite | apply Keeps.bind | intro _ | split
theorem keeps_place (f : Addr) (b : Bool) : Keeps e (entryPlaceOf f b) := by
  unfold entryPlaceOf
  repeat' first | assumption | exact Keeps.pure _ | exact Keeps.unsupported _ | exact Keeps.field _ _ | exact Keeps.load _ | exact Keeps.stack | apply Keeps.ite | apply Keeps.bind | intro _ | split
theorem keeps_newEntry (a b c d f : Value) (p : List Value) : Keeps e (EntryCells.newEntry a b c d f p) := by
  unfold EntryCells.newEntry newFields newObj newObjAsIs
  repeat' first | assumption | exact Keeps.pure _ | exact Keeps.unsupported _ | exact Keeps.alloc _ | apply Keeps.ite | apply Keeps.bind | intro _ | split
theorem keeps_noteFrame (v : Value) (env : Env) : Keeps e (noteFrame v env) := by
  have h1 := keeps_frameOf (e := e)
  have h2 := keeps_place (e := e)
  have h3 := keeps_newEntry (e := e)
  unfold noteFrame
  repeat' first | assumption | exact h1 _ | exact h2 _ _ | exact h3 _ _ _ _ _ _ | exact Keeps.pure _ | exact Keeps.unsupported _ | exact Keeps.field _ _ | exact Keeps.setField _ _ _ (by decide) | exact Keeps.load _ | exact Keeps.stack | apply Keeps.ite | apply Keeps.bind | intro _ | split
theorem keeps_setFlight (v : Value) (f : Option Addr) : Keeps e (setFlight v f) := by
  unfold setFlight
  repeat' first | assumption | exact Keeps.pure _ | exact Keeps.unsupported _ | exact Keeps.field _ _ | exact Keeps.setField _ _ _ (by decide) | apply Keeps.ite | apply Keeps.bind | intro _ | split
theorem keeps_leaving (v : Value) (env : Env) : Keeps e (leaving env v) := by
  unfold leaving
  exact Keeps.bind (keeps_noteFrame v env) fun _ => keeps_setFlight v none
end

theorem wpAny_keeps {α : Type} {M : Model} {A : Around} {E : Value → Shared → Prop} {s : Shared} {t : Sem α} {Q : α → Shared → Prop} {e : Addr} (k : Keeps e t) (hN : NoCtx e s.heap)
    (h : wpAny M A t (fun a s' => NoCtx e s'.heap → Q a s') (fun v s' => NoCtx e s'.heap → E v s') s) : wpAny M A t Q E s := fun Γ p hΓ =>
  Sem.wp_mono M Γ t (fun _ _ _ x => x.1 x.2) (fun _ _ _ x => x.1 x.2) p s (k.out M Γ _ _ p s hN (h Γ p hΓ))
theorem wpAny_keepsIf {α : Type} {M : Model} {A : Around} {E : Value → Shared → Prop} {s : Shared} {t : Sem α} {Q : α → Shared → Prop} {e : Addr} {c : Prop} (k : Keeps e t) (hN : c → NoCtx e s.heap)
    (h : wpAny M A t (fun a s' => (c → NoCtx e s'.heap) → Q a s') (fun v s' => (c → NoCtx e s'.heap) → E v s') s) : wpAny M A t Q E s := by
  by_cases q : c
  · exact wpAny_keeps k (hN q) (wpAny_mono h (fun _ _ x n => x fun _ => n) fun _ _ x n => x fun _ => n)
  · exact wpAny_mono h (fun _ _ x => x fun y => absurd y q) fun _ _ x => x fun y => absurd y q
end Mine

namespace Mine

abbrev LL : List Str := [Str.ofString "SHORT_STRING", Str.ofString "decode_lazy"]
abbrev TT (mean : ExcName → Option Value) (mg mb : Str → Option Value) (h : Heap) : Prop := Top hd.view_39 (looseW hd.view_39 LL) mean mg mb h
abbrev AT (dp un : Nat) (gd : Option (List Code)) (l : List Env) : Around := { handled := none, depth := dp, frames := some l, guards := gd, units := un }

/-- h is G but for the slots of the frames l (and what is new) -/
def Turn (l : List Env) (G h : Heap) : Prop := G.UpToSlots h ∧ ∀ b o, G.get? b = some o → b ∉ l.filterMap (·.frame) → h.get? b = some o
theorem Turn.refl {l : List Env} (h : Heap) : Turn l h h := ⟨.refl h, fun _ _ e _ => e⟩
theorem Turn.of_sub {l : List Env} {g h : Heap} (x : Sub g h) : Turn l g h := ⟨.of_keeps x, fun b o e _ => x b o e⟩
theorem Turn.trans {l : List Env} {a b c : Heap} (x : Turn l a b) (y : Turn l b c) : Turn l a c := ⟨x.1.trans y.1, fun p o e n => y.2 p o (x.2 p o e n) n⟩
theorem Turn.sub {l : List Env} {g a b : Heap} (s : Sub g a) (x : Turn l a b) : Turn l g b := (Turn.of_sub s).trans x
theorem Turn.mono {l : List Env} {env : Env} {a b : Heap} (x : Turn l a b) : Turn (env :: l) a b := ⟨x.1, fun p o e n => x.2 p o e fun q => n (by
  obtain ⟨v, hv, hf⟩ := List.mem_filterMap.mp q
  exact List.mem_filterMap.mpr ⟨v, .tail _ hv, hf⟩)⟩

/-- an exception e of class cls flies over G -/
def Flew (H0 G : Heap) (xs : List (Addr × Obj)) (l : List Env) (e : Addr) (cls a0 : Value) (h : Heap) : Prop :=
  (cls = .type "StopIteration" → NoCtx e h) ∧ G.UpToSlots h ∧ ∃ B : Heap, H0.StaysIn B ∧ (∀ b o, G.get? b = some o → b ∉ l.filterMap (·.frame) → B.get? b = some o) ∧ (∀ p ∈ xs, B.get? p.1 = some p.2) ∧ Heap.FlyingW B l e cls a0 h
theorem Flew.turn {H0 G h : Heap} {xs : List (Addr × Obj)} {l : List Env} {e : Addr} {cls a0 : Value} (x : Flew H0 G xs l e cls a0 h) : Turn l G h :=
  let ⟨_, u, _, _, k, _, f⟩ := x; ⟨u, fun b o q n => f.1 b o (k b o q n)⟩
theorem Flew.sub {H0 G G' h : Heap} {xs : List (Addr × Obj)} {l : List Env} {e : Addr} {cls a0 : Value} (x : Flew H0 G xs l e cls a0 h) (s : Sub G' G) : Flew H0 G' xs l e cls a0 h :=
  let ⟨nc, u, B, hB, k, hx, f⟩ := x; ⟨nc, (Heap.UpToSlots.of_keeps s).trans u, B, hB, fun b o q n => k b o (s b o q) n, hx, f⟩
theorem Flew.stays {H0 G h : Heap} {xs : List (Addr × Obj)} {l : List Env} {e : Addr} {cls a0 : Value} (x : Flew H0 G xs l e cls a0 h) : H0.StaysIn h :=
  let ⟨_, _, _, hB, _, _, f⟩ := x; fun b o q => f.1 b o (hB b o q)
theorem Flew.extra {H0 G h : Heap} {xs : List (Addr × Obj)} {l : List Env} {e : Addr} {cls a0 : Value} (x : Flew H0 G xs l e cls a0 h) {p : Addr × Obj} (hp : p ∈ xs) : h.get? p.1 = some p.2 :=
  let ⟨_, _, _, _, _, k, f⟩ := x; f.1 _ _ (k p hp)
theorem Flew.frames {H0 G h : Heap} {xs : List (Addr × Obj)} {l : List Env} {e : Addr} {cls a0 : Value} (x : Flew H0 G xs l e cls a0 h) : h.FunFrames H0 l :=
  let ⟨_, _, _, hB, _, _, f⟩ := x; funFrames_base hB f.2.2.1

section
variable {M : Model} {A : Around} {E : Value → Shared → Prop} {s' : Shared} {H0 g h G1 : Heap} {xs : List (Addr × Obj)} {l : List Env} {L a e : Addr} {m : Str → Option Value} {name : Str} {scope : Scope} {cd cls a0 : Value} {oe : Obj} {vs : Array Value} {Q : Unit → Shared → Prop} {env : Env}

theorem mem_fra_cons {env : Env} {L b : Addr} (hf : env.frame = some L) (q : b ∈ (env :: l).filterMap (·.frame)) : b = L ∨ b ∈ l.filterMap (·.frame) := by
  rw [List.filterMap_cons, hf] at q
  exact List.mem_cons.mp q

/-- an exception made in a frame leaves it -/
theorem leaveRaw (hA : A.frames = some (env :: l)) (hst : H0.StaysIn s'.heap) (hfr : s'.heap.FunFrames H0 (env :: l)) (hf : env.frame = some L)
    (he : s'.heap.get? e = some oe) (hd : oe.data = .fields vs) (h0 : vs[0]? = some a0) (h1 : vs[1]? = some .none) (h2 : oe.cls = .type "StopIteration" → vs[2]? = some .none) (hen : H0.get? e = none)
    (hQ : ∀ h', (∀ G xs, Sub G s'.heap → G.get? L = none → G.get? e = none → (∀ p ∈ xs, s'.heap.get? p.1 = some p.2 ∧ p.1 ≠ e ∧ p.1 ∉ (env :: l).filterMap (·.frame)) → Flew H0 G xs l e oe.cls a0 h') → Q () { s' with heap := h' }) :
    wpAny M A (leaving env (.ref e)) Q E s' := by
  have hin : ∀ v ∈ (env :: l), ∀ b, v.frame = some b → b ∈ (env :: l).filterMap (·.frame) ++ [e] := fun v hv b hb => List.mem_append_left _ (List.mem_filterMap.mpr ⟨v, hv, hb⟩)
  have st : H0.StaysIn (hideAll s'.heap ((env :: l).filterMap (·.frame) ++ [e])) := fun b o q => hideAll_get _ (hst b o q) fun hm => by
    rcases List.mem_append.mp hm with hm | hm
    · rw [(hfr.mem hm).1] at q; cases q
    · rw [List.mem_singleton.mp hm, hen] at q; cases q
  have hen' : (hideAll s'.heap ((env :: l).filterMap (·.frame) ++ [e])).get? e = none := hideAll_none _ (List.mem_append_right _ (.head _))
  refine wpAny_keepsIf (keeps_leaving _ _) (fun q => ⟨oe, vs, he, hd, h2 q⟩) ?_
  refine wpAny_leaving_firstW (base := hideAll s'.heap ((env :: l).filterMap (·.frame) ++ [e])) hA (funFrames_hide hfr hin) hf he (fun b o q => of_hideAll _ q) hen' hd h1 h0 fun h' hL nc => ?_
  obtain ⟨k1, ⟨_, _, k2⟩, k3, k4⟩ := hL
  refine hQ h' fun G xs hG hGL hGe hxs => ⟨nc, (Heap.UpToSlots.of_keeps hG).trans k4, _, st, fun b o q n => hideAll_get _ (hG b o q) fun hm => ?_, fun p hp => hideAll_get _ (hxs p hp).1 fun hm => (List.mem_append.mp hm).elim (hxs p hp).2.2 fun z => (hxs p hp).2.1 (List.mem_singleton.mp z), k1, hen', k2, k3⟩
  rcases List.mem_append.mp hm with hm | hm
  · rcases mem_fra_cons hf hm with z | z
    · rw [z, hGL] at q; cases q
    · exact n z
  · rw [List.mem_singleton.mp hm, hGe] at q; cases q

/-- a flying one leaves a frame -/
theorem leaveOn (hA : A.frames = some (env :: l)) (hf : env.frame = some L) (R : Flew H0 G1 xs (env :: l) e cls a0 s'.heap)
    (hQ : ∀ h', (∀ G, Sub G G1 → G.get? L = none → Flew H0 G xs l e cls a0 h') → Q () { s' with heap := h' }) :
    wpAny M A (leaving env (.ref e)) Q E s' := by
  obtain ⟨nc, u, B, hB, k, hx, f⟩ := R
  refine wpAny_keepsIf (keeps_leaving _ _) nc ?_
  refine wpAny_leaves_onW hA hf f fun h' x1 x2 nc => hQ h' fun G hG hGL => ⟨nc, ((Heap.UpToSlots.of_keeps hG).trans u).trans x2, B, hB, fun b o q n => k b o (hG b o q) fun hm => ?_, hx, x1⟩
  rcases mem_fra_cons hf hm with z | z
  · rw [z, hGL] at q; cases q
  · exact n z

/-- a flying one is seen by a try of the frame -/
theorem landsOn (hA : A.frames = some (env :: l)) (hf : env.frame = some L) (R : Flew H0 G1 xs (env :: l) e cls a0 s'.heap) {hs : List ExceptHandler} {Q : Flow → Shared → Prop}
    (hQ : ∀ h', Flew H0 G1 xs (env :: l) e cls a0 h' → wpAny M A (handleBy (.ref e) env hs) Q E { s' with heap := h' }) :
    wpAny M A (noteFrame (.ref e) env) (fun _ s₂ => wpAny M A (setFlight (.ref e) none) (fun _ s₃ => wpAny M A (handleBy (.ref e) env hs) Q E s₃) E s₂) E s' := by
  obtain ⟨nc, u, B, hB, k, hx, f⟩ := R
  refine wpAny_keepsIf (keeps_noteFrame _ _) nc ?_
  refine wpAny_looks_onW hA hf f fun h₄ hheld u₄ nc => ?_
  refine wpAny_keepsIf (keeps_setFlight _ _) nc ?_
  refine wpAny_landsW hheld fun h₅ hfl u₅ nc => ?_
  exact hQ h₅ ⟨nc, (u.trans u₄).trans u₅, B, hB, k, hx, hfl⟩

/-- once more, at the head of a suite -/
theorem landsAgain (R : Flew H0 G1 xs l e cls a0 s'.heap) (hQ : ∀ h', Flew H0 G1 xs l e cls a0 h' → Q () { s' with heap := h' }) : wpAny M A (setFlight (.ref e) none) Q E s' := by
  obtain ⟨nc, u, B, hB, k, hx, f⟩ := R
  refine wpAny_keepsIf (keeps_setFlight _ _) nc ?_
  exact lands_againW f fun h' x1 x2 nc => hQ h' ⟨nc, u.trans x2, B, hB, k, hx, x1⟩

/-- an exception made in a frame is seen by a try of that frame -/
theorem landsRaw (hA : A.frames = some (env :: l)) (hst : H0.StaysIn s'.heap) (hfr : s'.heap.FunFrames H0 (env :: l)) (hf : env.frame = some L)
    (he : s'.heap.get? e = some oe) (hd : oe.data = .fields vs) (h0 : vs[0]? = some a0) (h1 : vs[1]? = some .none) (h2 : oe.cls = .type "StopIteration" → vs[2]? = some .none) (hen : H0.get? e = none) {hs : List ExceptHandler} {Q : Flow → Shared → Prop}
    (hQ : ∀ h', (∀ G xs, Sub G s'.heap → G.get? e = none → (∀ p ∈ xs, s'.heap.get? p.1 = some p.2 ∧ p.1 ≠ e ∧ p.1 ∉ (env :: l).filterMap (·.frame)) → Flew H0 G xs (env :: l) e oe.cls a0 h') → wpAny M A (handleBy (.ref e) env hs) Q E { s' with heap := h' }) :
    wpAny M A (noteFrame (.ref e) env) (fun _ s₂ => wpAny M A (setFlight (.ref e) none) (fun _ s₃ => wpAny M A (handleBy (.ref e) env hs) Q E s₃) E s₂) E s' := by
  have hin : ∀ v ∈ (env :: l), ∀ b, v.frame = some b → b ∈ (env :: l).filterMap (·.frame) ++ [e] := fun v hv b hb => List.mem_append_left _ (List.mem_filterMap.mpr ⟨v, hv, hb⟩)
  have st : H0.StaysIn (hideAll s'.heap ((env :: l).filterMap (·.frame) ++ [e])) := fun b o q => hideAll_get _ (hst b o q) fun hm => by
    rcases List.mem_append.mp hm with hm | hm
    · rw [(hfr.mem hm).1] at q; cases q
    · rw [List.mem_singleton.mp hm, hen] at q; cases q
  have hen' : (hideAll s'.heap ((env :: l).filterMap (·.frame) ++ [e])).get? e = none := hideAll_none _ (List.mem_append_right _ (.head _))
  refine wpAny_keepsIf (keeps_noteFrame _ _) (fun q => ⟨oe, vs, he, hd, h2 q⟩) ?_
  unfold noteFrame
  simp only [hf]
  refine wpAny_bind (wpAny_field he hd h1 ?_)
  rw [if_neg (by decide)]
  refine wpAny_entryW (base := hideAll s'.heap ((env :: l).filterMap (·.frame) ++ [e])) hA (funFrames_hide hfr hin) hf he (fun b o q => of_hideAll _ q) hen' hd (Array.getElem?_eq_some_iff.mp h1).1 h0 fun h₄ hN nc => ?_
  obtain ⟨k1, k2, k3, k4⟩ := hN
  refine wpAny_keepsIf (keeps_setFlight _ _) nc ?_
  refine wpAny_landsW ⟨k1, hen', k2, k3⟩ fun h₅ hfl u₅ nc => ?_
  refine hQ h₅ fun G xs hG hGe hxs => ⟨nc, ((Heap.UpToSlots.of_keeps hG).trans k4).trans u₅, _, st, fun b o q n => hideAll_get _ (hG b o q) fun hm => ?_, fun p hp => hideAll_get _ (hxs p hp).1 fun hm => (List.mem_append.mp hm).elim (hxs p hp).2.2 fun z => (hxs p hp).2.1 (List.mem_singleton.mp z), hfl⟩
  rcases List.mem_append.mp hm with hm | hm
  · exact n hm
  · rw [List.mem_singleton.mp hm, hGe] at q; cases q
end

theorem Fr.ofSub {g h h' : Heap} {L : Addr} {m : Str → Option Value} (F : Fr g L h m) (k : Sub h h') : Fr g L h' m :=
  let ⟨o, es, ep, ho, r⟩ := F.ns; ⟨⟨o, es, ep, k _ _ ho, r⟩, fun b o e => k b o (F.keep b o e), F.above⟩
theorem News.ofSub {g h h' : Heap} {L : Addr} {news : List (Addr × Obj)} (N : News g L h news) (k : Sub h h') : News g L h' news :=
  fun p hp => ⟨k _ _ (N p hp).1, (N p hp).2⟩
theorem News.add {g h h' : Heap} {L q : Addr} {m : Str → Option Value} {news : List (Addr × Obj)} {o : Obj} (F : Fr g L h m) (N : News g L h news) (k : Sub h h') (hn : h.get? q = none) (hq : h'.get? q = some o) : News g L h' ((q, o) :: news) ∧ ∀ p ∈ news, p.1 ≠ q := by
  refine ⟨fun p hp => ?_, fun p hp z => ?_⟩
  · rcases List.mem_cons.mp hp with rfl | hp
    · refine ⟨hq, fun z => ?_, Sub.none F.keep hn⟩
      obtain ⟨o, _, _, ho, _⟩ := F.ns
      dsimp only at z
      rw [z, ho] at hn; cases hn
    · exact ⟨k _ _ (N p hp).1, (N p hp).2⟩
  · rw [← z, (N p hp).1] at hn; cases hn
theorem Fr.none {g h : Heap} {L : Addr} {m : Str → Option Value} (F : Fr g L h m) : g.get? L = none := Heap.get?_none_of_le F.above

section
variable {prog : Program} {w : World} {A : Around} {s : Shared} {K : Frag} {R : Result → Shared → Prop} {name qual : Str} {params : Arguments} {body : List Stmt} {scope : Scope} {dV kV doc pm cdv ct oc : Value} {an od : Option Addr} {osl : Array (Option Value)} {f : Addr} {args : Args}

/-- a def of the written part is entered -/
theorem enterF (binds : List (Str × Value)) (X : K.In s.heap) (hlim : s.heap.NoLimit)
    (ho : K.lookup f = some ⟨oc, od, .func (fnOf name qual params body scope dV kV doc pm an cdv ct), osl⟩) (hcd : codeIn K cdv qual = true) (hroom : A.depth < recursionLimit)
    (hbind : BindsTo s (fnOf name qual params body scope dV kV doc pm an cdv ct) args binds) (hloc : (binds.all fun x => decide (scope.names.lookup x.1 = some .local)) = true)
    (h : ∀ h₁, Fr s.heap s.heap.objs.size h₁ (fun y => binds.reverse.lookup y) →
      wpAny (model prog w) (A.deeper (envOf qual scope s.heap.objs.size f cdv)) (execs body (envOf qual scope s.heap.objs.size f cdv))
        (fun fl s' => R (.ok (.ret (match fl with | .ret v => v | _ => .none))) s')
        (fun e s' => wpAny (model prog w) (A.deeper (envOf qual scope s.heap.objs.size f cdv)) (leaving (envOf qual scope s.heap.objs.size f cdv) e) (fun _ s'' => R (.error e) s'') (fun e' s'' => R (.error e') s'') s')
        { s with heap := h₁, toks := s.toks + binds.length })
    (hco : scope.isCoroutine = false) (hgen : scope.isGenerator = false) (hk : scope.kind = .function) (hcell : ∀ x ∈ scope.names, x.2 ≠ .cell) :
    codeAny (model prog w) A (.call (.ref f) args) R s :=
  codeAny_call_def (fd := fnOf name qual params body scope dV kV doc pm an cdv ct) hroom (X _ _ ho) rfl hlim (codeRec_of X hcd) rfl hbind hcell (locs hloc) (fun h₁ hns hst => h h₁ ⟨hns, hst, Nat.le_refl _⟩) hco hgen hk
end
end Mine

namespace Mine
open Builtin in
theorem meets_bytes_out (b : Array UInt8) (t u : Tok) (k : Int) (h0 : 0 ≤ k) (hout : (b.size : Int) ≤ k) :
    Meets («bytes.__getitem__» ⟨[.bytes b t, .int k u], []⟩) (fun A R s => A.handled = none ∧ ∀ h' tk e, Heap.NewExc s.heap h' e "IndexError" → R (.error (.ref e)) { s with heap := h', toks := tk }) := by
  refine .of_wp fun prog w A R s hS => ?_
  obtain ⟨hA, hE⟩ := hS
  show wpAny _ _ (Bytes.payload (.bytes b t) >>= fun r => _) _ _ s
  refine wpAny_bind (wpAny_of_eq (a := b) rfl ?_)
  show wpAny _ _ (Bytes.subscript? (.int k u) >>= fun r => _) _ _ s
  refine wpAny_bind ?_
  unfold Bytes.subscript?
  refine wpAny_bind (wpAny_specialOf (typeIs_int s k u) F.slot_int_index.lookup ?_)
  refine wpAny_ite ?_
  rw [if_neg (by decide)]
  refine wpAny_bind (wpAny_of_eq (a := k) rfl ?_)
  cases hfit : Bytes.fitsIndex k with
  | true =>
    refine wpAny_ite ?_
    rw [if_neg (by decide)]
    refine wpAny_pure ?_
    have : (seqIndex? k b.size).bind (b[·]?) = none := by
      have hn : ¬ k < 0 := by omega
      have hm : ¬ k < b.size := by omega
      simp [seqIndex?, hn, hm]
    show wpAny _ _ (match (seqIndex? k b.size).bind (b[·]?) with | some x => retInt x.toNat | none => _) _ _ s
    rw [this]
    refine wpAny_bind (wpAny_rule ?_)
    exact wpAny_bind (by exact_raiseError plainExc_IndexError hA hE)
  | false =>
    refine wpAny_ite ?_
    rw [if_pos (by decide)]
    refine wpAny_bind (wpAny_rule ?_)
    refine wpAny_bind (wpAny_of_eq (a := "int") (by kernel_rfl) ?_)
    exact wpAny_bind (by exact_raiseError plainExc_IndexError hA hE)

section
variable {prog : Program} {w : World} {A : Around} {E : Value → Shared → Prop} {s : Shared} {value slice : PySem.Expr} {b : Array UInt8} {t ui : Tok} {ks : List Int} {i : Int} {Q : Value → Shared → Prop}
/-- a byte at a place that may lie outside -/
theorem item_or (hk : KBw.bInts b = ks) (hA : A.handled = none) (hfit : ks.length ≤ 1099511627776) (h0 : 0 ≤ i)
    (h : i < (ks.length : Int) → ∀ t' k, 0 ≤ ks.getD i.toNat 0 → ks.getD i.toNat 0 < 256 → Q (.int (ks.getD i.toNat 0) t') { s with toks := k })
    (hE : (ks.length : Int) ≤ i → ∀ h' tk e, Heap.NewExc s.heap h' e "IndexError" → E (.ref e) { s with heap := h', toks := tk })
    (hs : subscripted slice false (.bytes b t) (.int i ui) = operate [.bytes b t, .int i ui] (getItem (.bytes b t) (.int i ui)) := by with_unfolding_all rfl)
    (ht : ∀ r, letTemporaryGo value (.bytes b t) r = pure () := by intro _; with_unfolding_all rfl) : wpAny (model prog w) A (subscriptTail value slice (.bytes b t) (.int i ui)) Q E s := by
  by_cases hi : i < (ks.length : Int)
  · exact KBw.item_K hk hfit h0 hi (h hi) hs ht
  · have hl : (ks.length : Int) ≤ i := Int.not_lt.mp hi
    have hz : (b.size : Int) ≤ i := by rw [← hk, KBw.ints_length] at hl; exact hl
    exact tail_of_ItemOn ⟨"bytes", _, FB.slot_bytes_getitem.lookup, typeIs_bytes _ _ _, getItem_meets (typeIs_bytes _ _ _) (by decide) FB.slot_bytes_getitem FB.entry_bytes_getitem (FB.args_bytes_getitem_2 _ _) (meets_bytes_out b t ui i h0 hz) ⟨hA, hE hl⟩⟩ hs ht
end
end Mine


namespace Mine

abbrev bmD : List Value := [.ref 24, .type "Exception", .type "BaseException", .type "object"]
abbrev bmE : List Value := [.type "Exception", .type "BaseException", .type "object"]
def dcls : Obj := excClassObj (Str.ofString "DecodingError") (Str.ofString "DecodingError") 46 45 [.ref 24] bmD true [] [] false none none (some (.ref 28)) none (some (.str (Str.ofString "DecodingError") 209)) (some (.str (Str.ofString "DecodingError") 217)) (some (.bool true)) "Exception.__new__"
theorem look46 (w : World) : (hd.heap_39 w.params).lookup 46 = some dcls := by kernel_rfl

section
variable {prog : Program} {w : World} {A : Around} {E : Value → Shared → Prop} {h : Heap} {g : Array GenState} {d : Drawn} {t : Nat} {os : OsState}
variable {nm q : Str} {C N : Addr} {bs bm bmB : List Value} {hdct : Bool} {sn : List Str} {sub : List Value} {ab : Bool} {col : Option Bool} {dd : Option Addr} {k0 k1 k2 k3 k5 : Option Value} {B newId initId : String}

theorem typeCall_ownT (F : ExcBaseFacts B newId initId bmB) (T : OwnTail h bmB bm) {mN : Str → Option Value} {rest : List Value} {fI : Addr} {oI : Obj} {Q : Fin → Shared → Prop}
    (hC : h.get? C = some (excClassObj nm q C N bs bm hdct sn sub ab col dd k0 k1 k2 k3 k5 newId)) (hn : h.Ns N mN) (hi : mN "__init__" = some (.ref fI))
    (hfI : h.get? fI = some oI) (hfc : oI.cls = .type "function")
    (hq : ∀ h' e, Heap.MadeExcOf h h' e (.ref C) rest →
      wpAny (model prog w) A (call (.ref fI) (.ref e :: rest)) (fun r s' => r = .none ∧ Q (.done (.ret (.ref e))) s') E ⟨h', g, d, t, os⟩) (hrest : rest.length ≤ sizeLine := by size_fits) :
    wpAny (model prog w) A (Builtin.«type.__call__» ⟨.ref C :: rest, []⟩) Q E ⟨h, g, d, t, os⟩ := by
  repeat (first | with_reducible refine wpAny_loadPart_at hC ?_ | with_reducible refine wpAny_madeBy_exc hC ?_ | wp_step)
  refine codeAny_call_builtin_code (Code.quiet_builtin _ F.quiet) (wpAny_check_new_subT F T hC ?_)
  refine codeAny_exc_new_subT F T hC ?_ hrest
  show wpAny _ _ _ _ _ _
  have hC₁ := Heap.get?_push_of_some { cls := .ref C, data := .fields #[.ref h.objs.size, .none, .none, .none, .bool false, .none] }
    (Heap.get?_push_of_some { cls := .type "tuple", data := .seq rest.toArray } hC)
  have hfI₁ := Heap.get?_push_of_some { cls := .ref C, data := .fields #[.ref h.objs.size, .none, .none, .none, .bool false, .none] }
    (Heap.get?_push_of_some { cls := .type "tuple", data := .seq rest.toArray } hfI)
  have hn₁ : ((h.push { cls := .type "tuple", data := .seq rest.toArray }).push { cls := .ref C, data := .fields #[.ref h.objs.size, .none, .none, .none, .bool false, .none] }).Ns N mN :=
    let ⟨o, es, ep, e, r⟩ := hn; ⟨o, es, ep, Heap.get?_push_of_some _ (Heap.get?_push_of_some _ e), r⟩
  have hget : ((h.push { cls := .type "tuple", data := .seq rest.toArray }).push
      { cls := .ref C, data := .fields #[.ref h.objs.size, .none, .none, .none, .bool false, .none] }).get? (h.objs.size + 1) = some
      { cls := .ref C, data := .fields #[.ref h.objs.size, .none, .none, .none, .bool false, .none] } := by heap_get
  have hcC : (Value.ref C :: bm).contains (.ref C) = true := by simp
  have T₁ := T.keeps (h' := (h.push { cls := .type "tuple", data := .seq rest.toArray }).push { cls := .ref C, data := .fields #[.ref h.objs.size, .none, .none, .none, .bool false, .none] })
    fun b o e => Heap.get?_push_of_some _ (Heap.get?_push_of_some _ e)
  unfold isInstance
  repeat (first | with_reducible refine wpAny_loadPart_at hget ?_ | (with_reducible refine wpAny_isSubtype_exc hC₁ ?_; rw [hcC]) | wp_step)
  show wpAny _ _ (typeLookup (.ref C) _) _ _ _
  refine wpAny_typeLookup_tail hC₁ hn₁ T₁ F.mroIs F.init.lookup ?_
  rw [hi]
  refine wpAny_holding (wpAny_bind ?_)
  unfold bindSpecial
  refine wpAny_bind (wpAny_typeOf (T := "function") ⟨_, hfI₁, hfc⟩ ?_)
  rw [if_pos (by decide)]
  refine wpAny_pure (wpAny_bind (wpAny_mono (hq _ (h.objs.size + 1) ⟨fun b o hb => Heap.get?_push_of_some _ (Heap.get?_push_of_some _ hb), Heap.get?_none_of_le (Nat.le_succ _), h.objs.size, hget, Heap.get?_none_of_le (Nat.le_refl _), ?_⟩) (fun r s' hr => ?_) fun _ _ x => x))
  · exact Heap.get?_push_of_some _ (Heap.get?_push_at rfl rfl)
  · obtain ⟨rfl, hQ⟩ := hr
    wp_walk
    exact hQ

theorem call_ownT (F : ExcBaseFacts B newId initId bmB) (T : OwnTail h bmB bm) {mN : Str → Option Value} {rest : List Value} {fI : Addr} {oI : Obj} {Q : Value → Shared → Prop}
    (hC : h.get? C = some (excClassObj nm q C N bs bm hdct sn sub ab col dd k0 k1 k2 k3 k5 newId)) (hn : h.Ns N mN) (hi : mN "__init__" = some (.ref fI))
    (hfI : h.get? fI = some oI) (hfc : oI.cls = .type "function")
    (hq : ∀ h' e, Heap.MadeExcOf h h' e (.ref C) rest →
      wpAny (model prog w) (A.under (.builtin "type.__call__" ⟨.ref C :: rest, []⟩)) (call (.ref fI) (.ref e :: rest)) (fun r s' => r = .none ∧ Q (.ref e) s') E ⟨h', g, d, t, os⟩) (hrest : rest.length ≤ sizeLine := by size_fits) :
    wpAny (model prog w) A (call (.ref C) rest) Q E ⟨h, g, d, t, os⟩ := by
  have f1 := tc_lookup
  have f2 := tc_bind (.ref C)
  have hT : (⟨h, g, d, t, os⟩ : Shared).TypeIs (.ref C) "type" := ⟨_, hC, rfl⟩
  refine wpAny_call (codeAny_of_tree ?_)
  show wpAny _ _ (callAny (.ref C) _) _ _ _
  repeat (any_goals (first | assumption | with_reducible refine wpAny_loadPart_at hC ?_ | wp_step))
  refine ⟨rfl, ?_⟩
  refine codeAny_call_builtin_at (Code.quiet_builtin _ (by decide +kernel)) entry_typeCall (wpAny_check_type_call_sub hC (typeCall_ownT (hrest := hrest) F T hC hn hi hfI hfc fun h' e hm => ?_))
  exact hq h' e hm
end

theorem ns_some_of {K : Frag} {h : Heap} {N : Addr} {mg : Str → Option Value} {n : Str} {v : Value} (X : K.In h) (G : h.Ns N mg) (e : nsIn K N n = some (some v)) : mg n = some v := by
  obtain ⟨o, es, ep, ho, hd, _, hf⟩ := G
  unfold nsIn at e
  split at e
  · rename_i c d es' n' sl q
    have := X _ _ q
    rw [ho] at this
    cases this
    cases hd
    split at e
    · rename_i en he
      cases e
      rw [← hf]
      unfold nsFind findBy
      rw [← Array.find?_toList, he]
      rfl
    · split at e <;> cases e
  · cases e

section
variable {prog : Program} {w : World} {A : Around} {s : Shared} {K : Frag} {R : Result → Shared → Prop} {name qual : Str} {params : Arguments} {body : List Stmt} {scope : Scope} {dV kV doc pm cdv ct oc : Value} {an od : Option Addr} {osl : Array (Option Value)} {f cc : Addr} {args : Args}
theorem enterS (binds : List (Str × Value)) (X : K.In s.heap) (hlim : s.heap.NoLimit)
    (ho : K.lookup f = some ⟨oc, od, .func (ksFn name qual params body scope dV kV doc pm an cdv ct cc), osl⟩) (hcd : codeIn K cdv qual = true) (hroom : A.depth < recursionLimit)
    (hbind : BindsTo s (ksFn name qual params body scope dV kV doc pm an cdv ct cc) args binds) (hloc : (binds.all fun x => decide (scope.names.lookup x.1 = some .local)) = true)
    (h : ∀ h₁, h₁.Ns s.heap.objs.size (fun y => binds.reverse.lookup y) → (∀ b o, s.heap.get? b = some o → h₁.get? b = some o) →
      PySem.wpAt (model prog w) (A.deeper (ksEnv qual scope s.heap.objs.size f cdv cc)) (.func body (ksEnv qual scope s.heap.objs.size f cdv cc)) (execs body (ksEnv qual scope s.heap.objs.size f cdv cc))
        (fun fl s' => R (.ok (.ret (match fl with | .ret v => v | _ => .none))) s')
        (fun e s' => wpAny (model prog w) (A.deeper (ksEnv qual scope s.heap.objs.size f cdv cc)) (leaving (ksEnv qual scope s.heap.objs.size f cdv cc) e) (fun _ s'' => R (.error e) s'') (fun e' s'' => R (.error e') s'') s')
        { s with heap := h₁, toks := s.toks + binds.length })
    (hco : scope.isCoroutine = false) (hgen : scope.isGenerator = false) (hk : scope.kind = .function) (hcell : ∀ x ∈ scope.names, x.2 ≠ .cell) :
    codeAny (model prog w) A (.call (.ref f) args) R s :=
  ks_codeAny_call_defAt (fd := ksFn name qual params body scope dV kV doc pm an cdv ct cc) (body := body) (binds := binds) hroom (X _ _ ho) rfl hlim (codeRec_of X hcd) rfl hbind hcell (locs hloc) (fun h₁ hns hst => h h₁ hns hst) hco hgen hk
end

def mwObj (e : Addr) : Obj := { cls := .type "method-wrapper", data := .fields #[.builtin "Exception.__init__", .ref e] }
theorem mw_slot : Slot "wrapper_descriptor" "__get__" "wrapper_descriptor.__get__" :=
  .of (owner := "wrapper_descriptor") (n := "__get__") (by rw [typeLookup_type, builtinLookup_eq_fast]; kernel_rfl) (by decide +kernel) (by decide +kernel) (by decide +kernel)
    (by first | exact .inl (by decide +kernel) | exact .inr (by decide +kernel)) (by rw [isSubtype_type]; kernel_rfl)
theorem mw_entry : entryFor table "wrapper_descriptor.__get__" = some Builtin.«wrapper_descriptor.__get__» := entryFor_of_tree (by kernel_rfl)
theorem mw_args (a b c : Value) : argsOk "wrapper_descriptor.__get__" ⟨[a, b, c], []⟩ := by unfold argsOk; kernel_rfl
theorem mw_type : typeOf (.builtin "Exception.__init__") = pure (.type "wrapper_descriptor") := by show builtinType _ = _; rw [builtinType_eq_fast]; kernel_rfl
theorem mw_owner : (kfb_private% "ownerAndName") "Exception.__init__" = ("Exception", "__init__") := by first | decide +kernel | kernel_rfl
section
variable {prog : Program} {w : World} {M : Model} {A : Around} {E : Value → Shared → Prop} {h : Heap} {g : Array GenState} {d : Drawn} {t : Nat} {os : OsState}
theorem mw_inst {P : Bool → Shared → Prop} {e : Addr} {oe : Obj} (hC : h.get? 46 = some dcls) (he : h.get? e = some oe) (hcls : oe.cls = .ref 46) (hq : P true ⟨h, g, d, t, os⟩) :
    wpAny M A (isInstance (.ref e) (.type "Exception")) P E ⟨h, g, d, t, os⟩ := by
  have hcE : (Value.ref 46 :: bmD).contains (.type "Exception") = true := by decide
  unfold dcls at hC
  unfold isInstance
  repeat (first | (with_reducible refine wpAny_loadPart_at he ?_; rw [hcls]) | (with_reducible refine wpAny_isSubtype_exc hC ?_; rw [hcE]) | wp_step)
  exact hq
theorem mw_check {Q : Unit → Shared → Prop} {e : Addr} {oe : Obj} {m : Str} {tk : Tok} (hC : h.get? 46 = some dcls) (he : h.get? e = some oe) (hcls : oe.cls = .ref 46) (hq : Q () ⟨h, g, d, t, os⟩) :
    wpAny M A (checkBoundCall "Exception.__init__" ⟨[.ref e, .str m tk], []⟩) Q E ⟨h, g, d, t, os⟩ := by
  have F := PySem.F.excBase_Exception
  have hshort := F.noStar
  unfold dcls at hC
  simp only [checkBoundCall, F.initKind, F.initRow]
  rw [if_pos (by decide)]
  unfold Bind.checkArgs
  refine wpAny_bind ?_
  repeat (first | (with_reducible refine wpAny_loadPart_at he ?_; rw [hcls]) | with_reducible refine wpAny_loadPart_at hC ?_ | wp_step)
  exact hq
theorem mw_run {P : Fin → Shared → Prop} {e : Addr} {oe : Obj} (hC : h.get? 46 = some dcls) (he : h.get? e = some oe) (hcls : oe.cls = .ref 46) (hq : P (.done (.ret (.ref h.objs.size))) ⟨h.push (mwObj e), g, d, t, os⟩) :
    wpAny M A (Builtin.«wrapper_descriptor.__get__» ⟨[.builtin "Exception.__init__", .ref e, .ref 46], []⟩) P E ⟨h, g, d, t, os⟩ := by
  unfold Builtin.«wrapper_descriptor.__get__»
  refine wpAny_bind (wpAny_of_eq (a := (.builtin "Exception.__init__", some (.ref e), some (.ref 46))) (by first | rfl | kernel_rfl) ?_)
  dsimp only
  refine wpAny_bind (m := (kfb_private% "checkInstance") (.builtin "Exception.__init__") (.ref e)) ?_
  refine wpAny_bind (m := (kfb_private% "nameAndClass") (.builtin "Exception.__init__")) (wpAny_of_eq (a := ((("__init__" : String) : Str), .type "Exception")) ?_ ?_)
  · show (match (kfb_private% "ownerAndName") "Exception.__init__" with | (owner, name) => pure ((name : Str), Value.type owner)) = _
    rw [mw_owner]
  · dsimp only
    refine wpAny_bind (mw_inst hC he hcls ?_)
    refine KFB.if_not rfl ?_
    refine wpAny_pure ?_
    unfold newFields
    exact wpAny_bind (wpAny_newObj_type (wpAny_pure hq))
end

section
variable {prog : Program} {w : World} {M : Model} {A : Around} {E : Value → Shared → Prop} {h : Heap} {g : Array GenState} {d : Drawn} {t : Nat} {os : OsState}

theorem mw_super_ga {so x : Addr} {ox : Obj} {l₀ l : List Value} {K : Frag} {tk : Tok} {Q : Fin → Shared → Prop}
    (hso : h.get? so = some (ks_superObj 46 x 46)) (hno : Looks (model prog w) h (opaqueClassAbove (.ref 46)) none)
    (hC : Looks (model prog w) h (mroOf (.ref 46)) l₀) (hl : (l₀.dropWhile (· != .ref 46)).drop 1 = l) (X : K.In h)
    (hf : alongIn K "__init__" l = some (some (.builtin "Exception.__init__"))) (hD : h.get? 46 = some dcls) (hx : h.get? x = some ox) (hxc : ox.cls = .ref 46) (hx46 : x ≠ 46)
    (hq : Q (.done (.ret (.ref h.objs.size))) ⟨h.push (mwObj x), g, d, t, os⟩) :
    wpAny (model prog w) A (Builtin.«super.__getattribute__» ⟨[.ref so, .str "__init__" tk], []⟩) Q E ⟨h, g, d, t, os⟩ := by
  have hlk := mw_slot.lookup
  have hne : (Value.ref x == Value.ref 46) = false := by simp [hx46]
  have hn : ((("__init__" : String) : Str) == ("__class__" : Str)) = false := by decide
  have hdt : (ks_superObj 46 x 46).data = .fields #[.ref 46, .ref x, .ref 46] := rfl
  have f0 : (#[.ref 46, .ref x, .ref 46] : Array Value)[0]? = some (.ref 46) := rfl
  have f1 : (#[.ref 46, .ref x, .ref 46] : Array Value)[1]? = some (.ref x) := rfl
  have f2 : (#[.ref 46, .ref x, .ref 46] : Array Value)[2]? = some (.ref 46) := rfl
  unfold Builtin.«super.__getattribute__»
  repeat (first
    | (with_reducible refine wpAny_field hso hdt f0 ?_) | (with_reducible refine wpAny_field hso hdt f1 ?_) | (with_reducible refine wpAny_field hso hdt f2 ?_)
    | (with_reducible refine ks_wpAny_notOpaque hno ?_)
    | (with_reducible refine Looks.at hC ?_; rw [hl])
    | (refine ks_forIn_along X (fun _ _ => rfl) rfl ?_ hf)
    | (with_reducible refine wpAny_of_eq mw_type ?_)
    | (refine wpAny_call_entry mw_slot mw_type mw_entry (mw_run hD hx hxc ?_) (mw_args _ _ _))
    | (with_reducible refine ⟨_, rfl, ?_⟩)
    | (simp only [hn, hne, Bool.or_false, Bool.false_eq_true, if_false])
    | wp_step
    | dsimp only)
  all_goals exact hq
end

section
variable {prog : Program} {w : World} {A : Around} {E : Value → Shared → Prop} {h : Heap} {g : Array GenState} {d : Drawn} {t : Nat} {os : OsState}

theorem mw_getMethod {so x : Addr} {ox : Obj} {l₀ l : List Value} {K : Frag} {pl : Sem Bool} {Q : Value × List Value → Shared → Prop}
    (hso : h.get? so = some (ks_superObj 46 x 46)) (hno : Looks (model prog w) h (opaqueClassAbove (.ref 46)) none)
    (hC : Looks (model prog w) h (mroOf (.ref 46)) l₀) (hl : (l₀.dropWhile (· != .ref 46)).drop 1 = l) (X : K.In h)
    (hf : alongIn K "__init__" l = some (some (.builtin "Exception.__init__"))) (hD : h.get? 46 = some dcls) (hx : h.get? x = some ox) (hxc : ox.cls = .ref 46) (hx46 : x ≠ 46)
    (hq : Q (.ref h.objs.size, []) ⟨h.push (mwObj x), g, d, t + 1, os⟩) :
    wpAny (model prog w) A (getMethod (.ref so) "__init__" pl) Q E ⟨h, g, d, t, os⟩ := by
  have hlk := PySem.F.ks_slot_super_ga.lookup
  have hcan := PySem.F.ks_canon_super_ga
  have hT : ∀ t', (⟨h, g, d, t', os⟩ : Shared).TypeIs (.ref so) "super" := fun _ => ⟨_, hso, rfl⟩
  unfold getMethod
  refine wpAny_bind (wpAny_specialOf (hT _) hlk ?_)
  show wpAny _ _ (if (Manifest.canonical "super.__getattribute__" != "object.__getattribute__") = true then _ else _) _ _ _
  rw [if_pos hcan]
  unfold getAttr getAttrBy
  refine wpAny_bind (wpAny_bind (wpAny_mkText (wpAny_holding (wpAny_bind (wpAny_typeOf (hT _) (wpAny_bind (wpAny_of_eq hlk ?_)))))))
  show wpAny _ _ (getAttrByItsOwn (.ref so) (.str "__init__" t) (.type "super") (.builtin "super.__getattribute__") true false) _ _ _
  unfold getAttrByItsOwn hookBefore callGetattribute boundAndCalled
  refine wpAny_bind (wpAny_of_eq (show (if onTheHeap (.type "super") then typeLookup (.type "super") "__getattr__" else pure none) = pure none from rfl) ?_)
  refine wpAny_bind (wpAny_attempt (wpAny_holding ?_))
  show wpAny _ _ (bindSpecial (.builtin "super.__getattribute__") (.ref so) >>= _) _ _ _
  refine wpAny_bind (wpAny_of_eq (PySem.F.ks_slot_super_ga.bind _) ?_)
  refine wpAny_mono (Q := fun v s' => v = .ref h.objs.size ∧ s' = ⟨h.push (mwObj x), g, d, t + 1, os⟩) (E := fun _ _ => False)
    (wpAny_call_entry PySem.F.ks_slot_super_ga (hT _) PySem.F.ks_entry_super_ga (mw_super_ga hso hno hC hl X hf hD hx hxc hx46 ⟨_, rfl, rfl, rfl⟩) (PySem.F.ks_gaArgs_super _ _)) (fun v s' hv => ?_) fun _ _ z => z.elim
  obtain ⟨rfl, rfl⟩ := hv
  exact wpAny_pure (wpAny_pure hq)

theorem mw_callWith {pos : Pos} {u x : Addr} {first : List Value} {args : List (Bool × Sem Value)} {Q : Value → Shared → Prop} {s : Shared} (hplain : args.any (·.1) = false)
    (h : wpAny (model prog w) A (evalArgs (.ref u) true args []) (fun a s₁ => s₁.heap.get? u = some (mwObj x) ∧ wpAny (model prog w) A (call (.ref u) (first ++ a.pos) a.kw) Q E s₁) E s) : wpAny (model prog w) A (callWith pos (.ref u) first args []) Q E s := by
  unfold callWith
  refine wpAny_bind (wpAny_holding (wpAny_mono h (fun x s₁ h₁ => wpAny_bind (wpAny_standAt ?_)) fun _ _ x => x))
  obtain ⟨ho, hcall⟩ := h₁
  simp only [hplain, List.any_nil, Bool.or_false]
  refine wpAny_bind (m := keeperOf (.ref u)) ?_
  unfold keeperOf
  refine wpAny_bind (wpAny_load ho ?_)
  simp only [mwObj, show (Value.type "method-wrapper" != Value.type "method") = true by decide, show (Value.type "method-wrapper" == Value.type "builtin_function_or_method" || Value.type "method-wrapper" == Value.type "method-wrapper") = true by decide, if_true]
  refine wpAny_pure ?_
  exact wpAny_bind (wpAny_mono hcall (fun r s₂ hr => wpAny_bind (wpAny_holding (wpAny_point (wpAny_pure hr)))) fun _ _ x => x)

theorem mw_callWith1 {pos : Pos} {u x : Addr} {first : List Value} {env : Env} {e : Expr} {rest : List Expr} {Q : Value → Shared → Prop} {s : Shared}
    (h : wpAny (model prog w) A (spliced (backTo pos (starEach (e :: rest) env))) (fun vs s₁ => s₁.heap.get? u = some (mwObj x) ∧ wpAny (model prog w) A (call (.ref u) (first ++ vs)) Q E s₁) E s)
    (he : starEach (e :: rest) env = (false, eval e env) :: starEach rest env := by rfl) (hplain : (backTo pos (starEach rest env)).any (·.1) = false := by rfl) :
    wpAny (model prog w) A (callWith pos (.ref u) first (backTo pos (starEach (e :: rest) env)) []) Q E s := by
  rw [he] at h ⊢
  refine mw_callWith (x := x) (by show (false || (backTo pos (starEach rest env)).any (·.1)) = false; rw [hplain]; rfl) ?_
  exact evalArgs_plain h

theorem mw_call {u e t0 : Addr} {m : Str} {tm : Tok} {Q : Value → Shared → Prop} (hu : h.get? u = some (mwObj e)) (hC : h.get? 46 = some dcls)
    (he : h.get? e = some { cls := .ref 46, data := .fields #[.ref t0, .none, .none, .none, .bool false, .none] })
    (hq : Q .none ⟨(h.push { cls := .type "tuple", data := .seq #[.str m tm] }).update e (Obj.mapFields (·.setIfInBounds 0 (.ref h.objs.size))), g, d, t, os⟩) :
    wpAny (model prog w) A (call (.ref u) [.str m tm]) Q E ⟨h, g, d, t, os⟩ := by
  refine wpAny_call (codeAny_of_tree ?_)
  show wpAny _ A.in1 (callAny (.ref u) ⟨[.str m tm], []⟩) _ _ _
  simp only [callAny]
  refine wpAny_bind (wpAny_load hu ?_)
  simp only [mwObj, show (Value.type "method-wrapper" == Value.type "method" || Value.type "method-wrapper" == Value.type "builtin_function_or_method" || Value.type "method-wrapper" == Value.type "method-wrapper") = true by decide, if_true]
  refine KFB.if_so (by decide) ?_
  refine wpAny_bind (mw_check hC he rfl ?_)
  refine wpAny_bind (wpAny_pure (wpAny_pure ?_))
  refine ⟨Code.quiet_builtin _ (by decide +kernel), codeAny_builtin PySem.F.excBase_Exception.initEntry ?_⟩
  unfold Builtin.«BaseException.__init__»
  repeat wp_step
  exact hq
end

theorem dec_passes (self : Value) : refuseLoop self "__setattr__" [.ref 46, .ref 24, .type "Exception", .type "BaseException", .type "object"] = pure () := by
  rw [refuseLoop_ref, refuseLoop_ref]
  first | exact PySem.F.store_Exception.passes self | kernel_rfl | rfl
section
variable {prog : Program} {w : World} {A : Around} {E : Value → Shared → Prop} {h : Heap} {g : Array GenState} {d : Drawn} {t : Nat} {os : OsState}
theorem cls46 (w : World) : ∃ cd, clsIn (hd.heap_39 w.params) 46 = some cd ∧ cd.mro = .ref 46 :: bmD ∧ cd.hasDict = true := ⟨_, by unfold clsIn; rw [look46]; rfl, rfl, rfl⟩
theorem dec_set {e : Addr} {vs : Array Value} {v : Value} {Q : Unit → Shared → Prop} (X : (hd.heap_39 w.params).In h) (he : h.get? e = some { cls := .ref 46, data := .fields vs })
    (hs : findIn (hd.heap_39 w.params) (.ref 46) "__setattr__" = some (some (.builtin "object.__setattr__"))) (ha : findIn (hd.heap_39 w.params) (.ref 46) "rlp" = some none)
    (hq : ∀ h' tk' dx, (∀ b o, b ≠ e → h.get? b = some o → h'.get? b = some o) → h'.get? e = some { cls := .ref 46, dict := some dx, data := .fields vs } → Q () ⟨h', g, d, tk', os⟩) :
    wpAny (model prog w) A (setAttr (.ref e) "rlp" v) Q E ⟨h, g, d, t, os⟩ := by
  have I : PySem.W.InstAt h e { cls := .ref 46, data := .fields vs } 46 none := ⟨he, rfl, rfl, trivial⟩
  obtain ⟨cd, hc, hmro, hhd⟩ := cls46 w
  refine set_plain X I hs ?_
  have SF := PySem.F.store_object
  have sub : Looks (model prog w) h (isInstance (.ref e) (.type "object")) true := I.type.andThen (looks_mroIn X (by unfold mroIn; rw [hc, Option.bind_some, hmro]; rfl))
  refine codeAny_call_builtin SF.slot.plain SF.entry (@check_slot (model prog w) _ _ ⟨h, g, d, t + 1, os⟩ "object.__setattr__" "object" "__setattr__" (.ref e) [.str "rlp" _, v] [] _ SF.kind SF.split sub (SF.args (.ref e) (.str "rlp" _) v) ?_)
  have hm : Looks (model prog w) h (mroOf (.ref 46)) cd.mro := (looks_clsIn X hc).andThen .now
  rw [osa_eq, refuse_eq]
  refine wpAny_bind (wpAny_bind (I.type.here (wpAny_bind (hm.here ?_))))
  rw [hmro, dec_passes]
  refine wpAny_pure (wpAny_bind (I.type.here (wpAny_bind ((looks_findIn X ha).here (wpAny_bind (wpAny_pure ?_))))))
  dsimp only
  refine wpAny_bind (wpAny_pure (wpAny_bind (wpAny_bind (wpAny_loadPart he (wpAny_bind ((looks_clsIn X hc).here ?_))))))
  rw [hhd]
  dsimp only
  have hx₁ : (h.push { cls := .type "dict", data := .dict #[] }).get? e = some { cls := .ref 46, data := .fields vs } := Heap.get?_push_of_some _ he
  have hxs : e ≠ h.objs.size := Nat.ne_of_lt (Heap.lt_size he)
  refine wpAny_bind (wpAny_alloc' (h := h) ?_)
  refine wpAny_bind (wpAny_update' hx₁ ?_)
  refine wpAny_pure ?_
  have hgd : ((h.push { cls := .type "dict", data := .dict #[] }).update e fun o => { cls := o.cls, dict := some h.objs.size, data := o.data, slots := o.slots }).get? h.objs.size
      = some { cls := .type "dict", data := .dict #[] } :=
    (Heap.get?_update_ne _ _ _ _ hxs.symm).trans (Heap.get?_push_at rfl rfl)
  have hnd : ((h.push { cls := .type "dict", data := .dict #[] }).update e fun o => { cls := o.cls, dict := some h.objs.size, data := o.data, slots := o.slots }).Ns h.objs.size (fun _ => none) :=
    ⟨_, #[], _, hgd, rfl, fun e he => absurd he (by simp), fun _ => rfl⟩
  show wpAny _ _ (PySem.Builtin.ObjectAttr.storeInDict h.objs.size (.str "rlp" _) "rlp" v) _ _ _
  unfold PySem.Builtin.ObjectAttr.storeInDict PySem.Builtin.ObjectAttr.newKeyGuard
  refine wpAny_bind (wpAny_pure (wpAny_bind (wpAny_nsSet1 (Heap.Ns1.of_empty hnd) fun h' hn' hs => ?_)))
  obtain ⟨oD, esD, epD, hoD, hdD, hcD⟩ := hn'.count (Within.cons "rlp" v Within.nil)
  refine wpAny_bind (wpAny_lookBehind hoD (by rw [hdD]; exact pastItsLine_dict (Nat.le_trans hcD (by rw [List.length_cons, List.length_nil, sizeLine_eq]; omega))) ?_)
  wp_walk
  refine hq h' _ h.objs.size (fun b ob hbx hb => ?_) ?_
  · exact (hs.2 b (Nat.ne_of_lt (Heap.lt_size hb))).trans ((Heap.get?_update_ne _ _ _ _ hbx).trans (Heap.get?_push_of_some _ hb))
  · exact (hs.2 e hxs).trans (Heap.get?_update_self _ hx₁ rfl)
end

theorem fr_upd {g h : Heap} {L e : Addr} {m : Str → Option Value} {f : Obj → Obj} {o : Obj} (F : Fr g L h m) (hg : g.get? e = none) (hL : e ≠ L) : Fr g L ((h.push o).update e f) m :=
  let ⟨oL, es, ep, eL, r⟩ := F.ns
  ⟨⟨oL, es, ep, (Heap.get?_update_other _ _ hL).trans (Heap.get?_push_of_some _ eL), r⟩, fun b ob q => (Heap.get?_update_other _ _ (fun z => by rw [← z, hg] at q; cases q)).trans (Heap.get?_push_of_some _ (F.keep b ob q)), F.above⟩
local macro_rules | `(tactic| k_room) => `(tactic| ((try simp only [depth_under_make, depth_under_kw, depth_in1, depth_deeper, depth_caller]); (try dsimp only [AT]); omega))
set_option maxHeartbeats 2000000 in
theorem init43 : ∀ (w : World) (mean : ExcName → Option Value) (mg mb : Str → Option Value) (A : Around) (H0 : Heap) (s : Shared) (e t0 : Addr) (msg : Str) (tm to : Tok) (o : Array UInt8) (Q E : Value → Shared → Prop),
    (hd.heap_39 w.params).In H0 → TT mean mg mb H0 → Sub H0 s.heap → A.depth + 5 < recursionLimit → A.units + 40 < cLine →
    s.heap.get? e = some { cls := .ref 46, data := .fields #[.ref t0, .none, .none, .none, .bool false, .none] } → H0.get? e = none →
    (∀ h' t tk tk' dx, Sub (hideAll s.heap [e]) h' → s.heap.get? t = none → h'.get? t = some { cls := .type "tuple", data := .seq #[.str msg tk] } → h'.get? e = some { cls := .ref 46, dict := some dx, data := .fields #[.ref t, .none, .none, .none, .bool false, .none] } → Q .none { s with heap := h', toks := tk' }) →
    wpAny (model PySem.Challenge.rw_ve0059_01.row.prog w) A (call (.ref 43) [.ref e, .str msg tm, .bytes o to]) Q E s := by
  k_fill
  intro w mean mg mb A H0 s e t0 msg tm to o Q E XH TH k0 hdp hun he hne hret
  have X0 : (hd.heap_39 w.params).In s.heap := XH.keeps k0
  have T0 : TT mean mg mb s.heap := TH.keeps k0
  have hg : Sub (hideAll s.heap [e]) s.heap := fun _ _ q => of_hideAll _ q
  have st : Sub H0 (hideAll s.heap [e]) := fun b o q => hideAll_get _ (k0 b o q) fun m => by rw [List.mem_singleton.mp m, hne] at q; cases q
  have X : (hd.heap_39 w.params).In (hideAll s.heap [e]) := XH.keeps st
  have T : TT mean mg mb (hideAll s.heap [e]) := TH.keeps st
  refine wpAny_call ?_
  k_dflt (refine' enterS [(Str.ofString "self", .ref e), (Str.ofString "message", .str msg tm), (Str.ofString "rlp", .bytes o to)] (cc := 31) X0 T0.nolimit ?ho ?hcd ?hroom ?hbind ?hloc (fun h₁ hns hk₁ => ?_) ?c1 ?c2 ?c3 ?c4; (case ho => k_is); (case hcd => k_is); (case hroom => omega); (case hbind => exact BindsTo.of_eq rfl); (case hloc => rfl); (case c1 => rfl); (case c2 => rfl); (case c3 => rfl); (case c4 => decide))
  have F : Fr (hideAll s.heap [e]) s.heap.objs.size h₁ _ := ⟨hns, fun b o q => hk₁ b o (of_hideAll _ q), Nat.le_of_eq (hideAll_size _ _)⟩
  have N : News (hideAll s.heap [e]) s.heap.objs.size h₁ [(e, { cls := .ref 46, data := .fields #[.ref t0, .none, .none, .none, .bool false, .none] })] := fun p hp => by
    obtain rfl := List.mem_singleton.mp hp
    exact ⟨hk₁ _ _ he, Nat.ne_of_lt (Heap.lt_size he), hideAll_none _ (.head _)⟩
  dsimp only
  (show PySem.wpAt _ _ _ _ _ _ _)
  refine ks_wpAt_execs_cons (ks_wpAt_Expr_any (ks_wpAt_MethodCall ?_))
  have I : InstAt h₁ e { cls := .ref 46, data := .fields #[.ref t0, .none, .none, .none, .bool false, .none] } 46 none := ⟨N.get (.head _), rfl, rfl, trivial⟩
  k_dflt (refine ks_node F X N T (by k_is) (by rfl) (by rfl) I (by k_is) (by rfl) (by first | rfl | decide +kernel) (by k_is) (by k_is) (by k_is) (by k_is) (by decide) (by rfl) (by rfl) (by rfl) (by rfl) (by decide +kernel) (by first | boot_by_name | rfl | kernel_rfl) ?_)
  intro so h₂ F2 N2 l1
  obtain ⟨cd, hc, hmro, hhd⟩ := cls46 w
  have X2 := X.keeps F2.keep
  have hD : h₂.get? 46 = some dcls := X2 _ _ (look46 w)
  have hne46 : e ≠ 46 := fun q => by rw [q, XH _ _ (look46 w)] at hne; cases hne
  refine mw_getMethod (N2.get (.head _)) (looks_opaque X2 (by k_is)) (l₀ := .ref 46 :: bmD) ?_ rfl X2 (by kernel_rfl) hD (N2.get (.tail _ (.head _))) rfl hne46 ?_
  · exact hmro ▸ ((looks_clsIn X2 hc).andThen .now)
  · obtain ⟨F3, N3, l3⟩ := ks_newsPush (s := ⟨h₂, s.gens, s.drawn, 0, s.os⟩) (h' := h₂.push (mwObj e)) (o := mwObj e) F2 N2 rfl (Heap.get?_push_at rfl rfl) (fun b o q => Heap.get?_push_of_some _ q)
    dsimp only at N3 F3
    clear F F2 N N2
    refine mw_callWith1 (x := e) ?_
    k_steps
    · exact N3.get (.head _)
    · have hD3 : (h₂.push (mwObj e)).get? 46 = some dcls := X.keeps F3.keep _ _ (look46 w)
      have he3 := N3.get (.tail _ (.tail _ (.head _)))
      have heL : e ≠ s.heap.objs.size := Nat.ne_of_lt (Heap.lt_size he)
      have hge : (hideAll s.heap [e]).get? e = none := hideAll_none _ (.head _)
      refine mw_call (N3.get (.head _)) hD3 he3 ?_
      have F5 := fr_upd (o := { cls := .type "tuple", data := .seq #[.str msg tm] }) (f := Obj.mapFields (·.setIfInBounds 0 (.ref (h₂.push (mwObj e)).objs.size))) F3 hge heL
      have he5 : (((h₂.push (mwObj e)).push { cls := .type "tuple", data := .seq #[.str msg tm] }).update e (Obj.mapFields (·.setIfInBounds 0 (.ref (h₂.push (mwObj e)).objs.size)))).get? e = some { cls := .ref 46, data := .fields #[.ref (h₂.push (mwObj e)).objs.size, .none, .none, .none, .bool false, .none] } :=
        Heap.get?_update_self _ (Heap.get?_push_of_some _ he3) rfl
      have het : e ≠ (h₂.push (mwObj e)).objs.size := Nat.ne_of_lt (Heap.lt_size he3)
      have ht5 : (((h₂.push (mwObj e)).push { cls := .type "tuple", data := .seq #[.str msg tm] }).update e (Obj.mapFields (·.setIfInBounds 0 (.ref (h₂.push (mwObj e)).objs.size)))).get? (h₂.push (mwObj e)).objs.size = some { cls := .type "tuple", data := .seq #[.str msg tm] } :=
        (Heap.get?_update_other _ _ het).trans (Heap.get?_push_at rfl rfl)
      have htn : s.heap.get? (h₂.push (mwObj e)).objs.size = none := by
        refine Heap.get?_none_of_le ?_
        obtain ⟨oL, _, _, eL, _⟩ := F3.ns
        exact Nat.le_of_lt (Heap.lt_size eL)
      generalize ((h₂.push (mwObj e)).push { cls := .type "tuple", data := .seq #[.str msg tm] }).update e (Obj.mapFields (·.setIfInBounds 0 (.ref (h₂.push (mwObj e)).objs.size))) = h₅ at F5 he5 ht5 ⊢
      generalize (h₂.push (mwObj e)).objs.size = t at he5 ht5 htn het
      clear F3 N3
      refine PySem.wpAt_of_wpAny ?_
      k_steps
      refine dec_set (X.keeps F5.keep) he5 (by k_is) (by k_is) (fun h6 tk6 dx hk6 he6 => ?_)
      dsimp only
      refine wpAny_execs_nil ?_
      dsimp only
      exact hret h6 t tm _ dx (fun b ob q => hk6 b ob (fun z => by rw [z, hge] at q; cases q) (F5.keep b ob q)) htn (hk6 _ _ (Ne.symm het) ht5) he6

def tupOf (vs : List Value) : Obj := { cls := .type "tuple", data := .seq vs.toArray }
/-- a DecodingError that is made and not yet thrown -/
structure MadeD (h h' : Heap) (e t : Addr) (msg : Str) : Prop where
  keeps : Sub h h'
  new : h.get? e = none
  there : ∃ oe vs, h'.get? e = some oe ∧ oe.cls = .ref 46 ∧ oe.data = .fields vs ∧ vs[0]? = some (.ref t) ∧ vs[1]? = some .none ∧ vs[2]? = some .none
  ne : t ≠ e
  newT : h.get? t = none
  tup : ∃ tk, h'.get? t = some (tupOf [.str msg tk])

def RaisD (E : Value → Shared → Prop) (v : Value) (s₁ : Shared) : Prop :=
  ∃ e oe vs, v = .ref e ∧ s₁.heap.get? 46 = some dcls ∧ s₁.heap.get? e = some oe ∧ oe.cls = .ref 46 ∧ oe.data = .fields vs ∧ vs[1]? = some .none ∧ E (.ref e) s₁

set_option maxHeartbeats 2000000 in
theorem mkDec0 : ∀ (w : World) (mean : ExcName → Option Value) (mg mb : Str → Option Value) (dp un : Nat) (gd : Option (List Code)) (l : List Env) (s : Shared) (msg : Str) (tm to : Tok) (o : Array UInt8) (E : Value → Shared → Prop),
    (hd.heap_39 w.params).In s.heap → TT mean mg mb s.heap → dp + 10 < recursionLimit → un + 50 < cLine →
    (∀ h' e t tk', MadeD s.heap h' e t msg → E (.ref e) { s with heap := h', toks := tk' }) →
    wpAny (model PySem.Challenge.rw_ve0059_01.row.prog w) { handled := none, depth := dp, frames := some l, guards := gd, units := un } (call (.ref 46) [.str msg tm, .bytes o to]) (RaisD E) E s := by
  k_fill
  intro w mean mg mb dp un gd l s msg tm to o E X T hdp hun h
  obtain ⟨hp, g, d, tk, os⟩ := s
  have hn : hp.Ns 45 (hp.nsMap 45) := .of_isNs (isNs_of_in X (by kernel_rfl))
  have hi : hp.nsMap 45 "__init__" = some (.ref 43) := ns_some_of X hn (by k_is)
  obtain ⟨oI, hI, hIc⟩ : ∃ oI, (hd.heap_39 w.params).lookup 43 = some oI ∧ oI.cls = .type "function" := by
    have ht : typeIn (hd.heap_39 w.params) (.ref 43) = some (.type "function") := by k_is
    unfold typeIn at ht
    dsimp only at ht
    cases q : (hd.heap_39 w.params).lookup 43 with
    | none => rw [q] at ht; cases ht
    | some oI => rw [q] at ht; exact ⟨oI, rfl, Option.some.inj ht⟩
  have hD := X _ _ (look46 w)
  unfold dcls at hD
  refine call_ownT PySem.F.excBase_Exception (tail_of_in X (l := bmD) (by kernel_rfl)) hD hn hi (X _ _ hI) hIc (fun h' e hm => ?_)
  obtain ⟨t0, he, hnt, _⟩ := hm.there
  refine init43 _ _ _ _ _ hp _ e t0 msg tm to o _ _ X T hm.keeps ?_ ?_ he hm.new (fun h'' t tk2 tk' dx hk hn2 ht he2 => ⟨rfl, ?_⟩)
  · simp only [depth_under_make]
    omega
  · rw [units_under_make]
    dsimp only
    omega
  · have hte : t ≠ e := fun q => by rw [q, he] at hn2; cases hn2
    have k2 : Sub hp h'' := fun b o q => hk b o (hideAll_get _ (hm.keeps b o q) fun m => by rw [List.mem_singleton.mp m, hm.new] at q; cases q)
    refine ⟨e, _, _, rfl, k2 _ _ (X _ _ (look46 w)), he2, rfl, rfl, rfl, h h'' e t _ ⟨k2, hm.new, ⟨_, _, he2, rfl, rfl, rfl, rfl, rfl⟩, hte, Sub.none hm.keeps hn2, tk2, ht⟩⟩
end Mine

namespace Mine

theorem Raise_dec {A : Around} {M : Model} {E : Value → Shared → Prop} {s : Shared} {env : Env} {x : Expr} {pos : Pos} {Q : Flow → Shared → Prop} (hh : A.handled = none)
    (h : wpAny M A (eval x env) (RaisD E) E s) : wpAny M A (exec (.Raise (some x) none pos) env) Q E s := by
  show wpAny M A (do standAt pos; raiseStmt env (some (do let v ← eval x env; standAt pos; pure v)) none) Q E s
  refine wpAny_bind (wpAny_standAt ?_)
  unfold raiseStmt
  dsimp only
  refine wpAny_bind (wpAny_bind (wpAny_mono h (fun v s₁ h₁ => wpAny_bind (wpAny_standAt (wpAny_pure ?_))) fun _ _ x => x))
  obtain ⟨e, oe, vs, rfl, hC, he, hcls, hd, h1, hE⟩ := h₁
  obtain ⟨oc, od, oda, osl⟩ := oe
  dsimp only at hcls hd
  subst hcls; subst hd
  unfold dcls at hC
  have hcB : (Value.ref 46 :: bmD).contains (.type "BaseException") = true := by decide
  obtain ⟨hp, g, d, tk, os⟩ := s₁
  repeat (first | with_reducible refine wpAny_loadPart_at he ?_ | with_reducible refine wpAny_loadPart_at hC ?_ | (with_reducible refine wpAny_isSubtype_exc hC ?_; rw [hcB]) | (with_reducible refine wpAny_field he rfl h1 ?_) | wp_step)
  exact wpAny_raiseNew_none hh hE

theorem mkDec {w : World} {mean : ExcName → Option Value} {mg mb : Str → Option Value} {dp un : Nat} {gd : Option (List Code)} {l : List Env} {s : Shared} {msg : Str} {tm to : Tok} {o : Array UInt8} {E : Value → Shared → Prop}
    (X : (hd.heap_39 w.params).In s.heap) (T : TT mean mg mb s.heap) (hdp : dp + 10 < recursionLimit) (hun : un + 50 < cLine)
    (h : ∀ h' e t tk', MadeD s.heap h' e t msg → E (.ref e) { s with heap := h', toks := tk' }) :
    wpAny (model PySem.Challenge.rw_ve0059_01.row.prog w) (AT dp un gd l) (call (.ref 46) [.str msg tm, .bytes o to]) (RaisD E) E s :=
  mkDec0 w mean mg mb dp un gd l s msg tm to o E X T hdp hun h

section
variable {M : Model} {A : Around} {E : Value → Shared → Prop} {s' : Shared} {H0 g h : Heap} {l : List Env} {L a e t : Addr} {m : Str → Option Value} {name msg : Str} {scope : Scope} {cd : Value} {Q : Unit → Shared → Prop}

inductive Fault where
  | index | assert | stop
  | dec (msg : Str)

/-- a fault flies over G -/
def FlewF (H0 G : Heap) (l : List Env) (e : Addr) (h : Heap) : Fault → Prop
  | .index => ∃ a0, Flew H0 G [] l e (.type "IndexError") a0 h
  | .assert => ∃ a0, Flew H0 G [] l e (.type "AssertionError") a0 h
  | .stop => ∃ a0, Flew H0 G [] l e (.type "StopIteration") a0 h
  | .dec msg => ∃ t tk, Flew H0 G [(t, tupOf [.str msg tk])] l e (.ref 46) (.ref t) h

theorem leaveNew {cls : String} (K : Below A H0 l g) (F : Fr g L h m) (hx : Heap.NewExc h s'.heap e cls)
    (hQ : ∀ h' a0, (∀ G, Sub G h → G.get? L = none → Flew H0 G [] l e (.type cls) a0 h') → Q () { s' with heap := h' }) (hk : scope.kind = .function := by rfl) :
    wpAny M (A.deeper (envOf name scope L a cd)) (leaving (envOf name scope L a cd) (.ref e)) Q E s' := by
  have K' := K.push (name := name) (a := a) (cd := cd) F hk
  obtain ⟨ob, tp, he, hcls, hd⟩ := hx.there
  have k : Sub h s'.heap := hx.keeps
  refine leaveRaw (H0 := H0) K'.stack (fun b o q => k b o (K'.stays b o q)) (K'.frames.of_keeps fun b o q _ => ⟨o, k b o q, rfl⟩) rfl he hd rfl rfl (fun _ => rfl) (Sub.none K'.stays hx.new) fun h' hF => ?_
  rw [hcls] at hF
  exact hQ h' tp fun G hG hGL => hF G [] (hG.trans k) hGL (hG.none hx.new) (fun _ q => nomatch q)

theorem leaveDec (K : Below A H0 l g) (F : Fr g L h m) (hx : MadeD h s'.heap e t msg)
    (hQ : ∀ h', (∀ G, Sub G h → G.get? L = none → FlewF H0 G l e h' (.dec msg)) → Q () { s' with heap := h' }) (hk : scope.kind = .function := by rfl) :
    wpAny M (A.deeper (envOf name scope L a cd)) (leaving (envOf name scope L a cd) (.ref e)) Q E s' := by
  have K' := K.push (name := name) (a := a) (cd := cd) F hk
  obtain ⟨oe, vs, he, hcls, hd, h0, h1, h2⟩ := hx.there
  have k : Sub h s'.heap := hx.keeps
  refine leaveRaw (H0 := H0) K'.stack (fun b o q => k b o (K'.stays b o q)) (K'.frames.of_keeps fun b o q _ => ⟨o, k b o q, rfl⟩) rfl he hd h0 h1 (fun _ => h2) (Sub.none K'.stays hx.new) fun h' hF => ?_
  rw [hcls] at hF
  obtain ⟨tk, ht⟩ := hx.tup
  refine hQ h' fun G hG hGL => ⟨t, tk, hF G _ (hG.trans k) hGL (hG.none hx.new) fun p hp => ?_⟩
  obtain rfl := List.mem_singleton.mp hp
  refine ⟨ht, hx.ne, fun q => ?_⟩
  obtain ⟨_, o, ho, _⟩ := K'.frames.mem q
  rw [hx.newT] at ho; cases ho

theorem FlewF.sub {G G' : Heap} {f : Fault} (R : FlewF H0 G l e h f) (s : Sub G' G) : FlewF H0 G' l e h f := by
  cases f with
  | index => obtain ⟨a0, R⟩ := R; exact ⟨a0, R.sub s⟩
  | assert => obtain ⟨a0, R⟩ := R; exact ⟨a0, R.sub s⟩
  | stop => obtain ⟨a0, R⟩ := R; exact ⟨a0, R.sub s⟩
  | dec msg => obtain ⟨t, tk, R⟩ := R; exact ⟨t, tk, R.sub s⟩

/-- a fault flies on, out of a frame -/
theorem leaveF {f : Fault} {env : Env} (hA : A.frames = some (env :: l)) (hf : env.frame = some L) {G1 : Heap} (R : FlewF H0 G1 (env :: l) e s'.heap f)
    (hQ : ∀ h', (∀ G, Sub G G1 → G.get? L = none → FlewF H0 G l e h' f) → Q () { s' with heap := h' }) : wpAny M A (leaving env (.ref e)) Q E s' := by
  cases f with
  | index => obtain ⟨a0, R⟩ := R; exact leaveOn hA hf R fun h' k => hQ h' fun G a b => ⟨a0, k G a b⟩
  | assert => obtain ⟨a0, R⟩ := R; exact leaveOn hA hf R fun h' k => hQ h' fun G a b => ⟨a0, k G a b⟩
  | stop => obtain ⟨a0, R⟩ := R; exact leaveOn hA hf R fun h' k => hQ h' fun G a b => ⟨a0, k G a b⟩
  | dec msg => obtain ⟨t, tk, R⟩ := R; exact leaveOn hA hf R fun h' k => hQ h' fun G a b => ⟨t, tk, k G a b⟩
end
end Mine

namespace Mine

theorem picked_len {b : Array UInt8} {lo hi : Int} (h0 : 0 ≤ lo) (h1 : lo ≤ hi) : ((KBw.bInts (KBy.picked b (some lo) (some hi))).length : Int) ≤ hi - lo := by
  rw [KBw.ints_length, KBc.picked_eq]
  obtain ⟨a, rfl⟩ := Int.eq_ofNat_of_zero_le h0
  obtain ⟨c, rfl⟩ := Int.eq_ofNat_of_zero_le (Int.le_trans h0 h1)
  simp only [Option.elim, clipAt_nat, List.size_toArray, List.length_take, List.length_drop, Array.length_toList]
  omega

set_option maxHeartbeats 8000000 in
theorem be_spec : ∀ (w : World) (mean : ExcName → Option Value) (mg mb : Str → Option Value) (dp un : Nat) (gd : Option (List Code)) (l : List Env) (H0 : Heap) (s : Shared) (Q E : Value → Shared → Prop) (o : Array UInt8) (t : Tok) (ks : List Int),
    Below (AT dp un gd l) H0 l s.heap → (hd.heap_39 w.params).In H0 → TT mean mg mb H0 → dp + 10 < recursionLimit → un + 50 < cLine → KBw.bInts o = ks → ks.length ≤ 8 →
    (∀ tv h' tk', Sub s.heap h' → Q (.int (KFB.value ks) tv) { s with heap := h', toks := tk' }) →
    wpAny (model PySem.Challenge.rw_ve0059_01.row.prog w) (AT dp un gd l) (call (.ref 55) [.bytes o t]) Q E s := by
  k_fill
  intro w mean mg mb dp un gd l H0 s Q E o t ks B X0 T0 hdp hun hb ho hret
  have X : (hd.heap_39 w.params).In s.heap := X0.keeps B.stays
  have T : TT mean mg mb s.heap := T0.keeps B.stays
  refine wpAny_call ?_
  k_dflt (refine' enterF [(Str.ofString "value", .bytes o t)] X T.nolimit ?ho ?hcd ?hroom ?hbind ?hloc (fun h₁ F => ?_) ?c1 ?c2 ?c3 ?c4; (case ho => k_is); (case hcd => k_is); (case hroom => show dp < _; omega); (case hbind => exact BindsTo.of_eq rfl); (case hloc => rfl); (case c1 => rfl); (case c2 => rfl); (case c3 => rfl); (case c4 => decide))
  have N : News s.heap s.heap.objs.size h₁ [] := News.nil
  dsimp only
  (show wpAny _ _ _ _ _ _); (try k_fold)
  k_steps
  all_goals (try k_unfold)
  all_goals exact hret _ _ _ (Fr.keep (by assumption))
end Mine


namespace Mine

inductive ClpR where
  | fault (f : Fault)
  | ok (isList : Bool) (len start : Int)

def clpS (o : Array UInt8) (i : Int) : ClpR :=
  let ks := KBw.bInts o
  if (ks.length : Int) ≤ i then .fault .index else
  let b0 := ks.getD i.toNat 0
  if b0 < 128 then .ok false 1 i else
  if b0 < 184 then
    if b0 - 128 = 1 then
      if (ks.length : Int) ≤ i + 1 then .fault .index
      else if ks.getD (i + 1).toNat 0 < 128 then .fault (.dec (Str.ofString "Encoded as short string although single byte was possible"))
      else .ok false (b0 - 128) (i + 1)
    else .ok false (b0 - 128) (i + 1)
  else if b0 < 192 then
    if (KBy.picked o (some (i + 1)) (some (i + 2))).toList == [0] then .fault (.dec (Str.ofString "Length starts with zero bytes"))
    else if KFB.value (KBw.bInts (KBy.picked o (some (i + 1)) (some (i + 1 + (b0 - 183))))) < 56 then .fault (.dec (Str.ofString "Long string prefix used for short string"))
    else .ok false (KFB.value (KBw.bInts (KBy.picked o (some (i + 1)) (some (i + 1 + (b0 - 183)))))) (i + 1 + (b0 - 183))
  else if b0 < 248 then .ok true (b0 - 192) (i + 1)
  else
    if (KBy.picked o (some (i + 1)) (some (i + 2))).toList == [0] then .fault (.dec (Str.ofString "Length starts with zero bytes"))
    else if KFB.value (KBw.bInts (KBy.picked o (some (i + 1)) (some (i + 1 + (b0 - 192 - 56 + 1))))) < 56 then .fault (.dec (Str.ofString "Long list prefix used for short list"))
    else .ok true (KFB.value (KBw.bInts (KBy.picked o (some (i + 1)) (some (i + 1 + (b0 - 192 - 56 + 1)))))) (i + 1 + (b0 - 192 - 56 + 1))

local macro_rules | `(tactic| walk_at "subscriptTail") => `(tactic| (k_here; (with_reducible show wpAny _ _ (subscriptTail _ _ (Value.bytes _ _) (Value.int _ _)) _ _ _); (refine item_or (by kba_ints) rfl (by omega) (by omega) (fun hin t' k kLo kHi => ?_) (fun hout h' tk e hx => ?_))))
local macro_rules | `(tactic| walk_at "exec Raise some none") => `(tactic| (k_here; refine Raise_dec rfl ?_))
local macro_rules | `(tactic| walk_at "call ref") => `(tactic| (k_here; (with_reducible show wpAny _ _ (call (Value.ref 55) _) _ _ _); (with_reducible rename Fr _ _ _ _ => F'); (with_reducible rename Below _ _ _ _ => B'); k_dflt (refine' be_spec _ _ _ _ _ _ _ _ _ _ _ _ _ _ _ (B'.push F') (by assumption) (by assumption) ?k1 ?k2 rfl ?k3 ?_; (case k1 => (dsimp only [Around.deeper]; omega)); (case k2 => (dsimp only [Around.deeper]; omega)); (case k3 => (refine Int.ofNat_le.mp (Int.le_trans (picked_len (by omega) (by omega)) (by omega))))); intro t' h' tk' hs'; (with_reducible rename News _ _ _ _ => N'); (replace F' := Fr.ofSub F' hs'); (replace N' := News.ofSub N' hs'); clear hs'; (try dsimp only)))
local macro_rules | `(tactic| walk_at "call ref") => `(tactic| (k_here; (with_reducible show wpAny _ _ (call (Value.ref 46) _) _ _ _); k_dflt (refine' mkDec ?k1 ?k2 ?k3 ?k4 ?_; (case k1 => k_in); (case k2 => exact Top.keeps (by k_asm) (Fr.keep (by k_asm))); (case k3 => (dsimp only [Around.deeper]; omega)); (case k4 => (dsimp only [Around.deeper]; omega)); k_whole); intro h' e' t' tk' hx'))

local macro_rules | `(tactic| walk_at "leaving ref") => `(tactic| (k_here; (with_reducible rename Fr _ _ _ _ => F'); (with_reducible rename Below _ _ _ _ => B'); first
  | ((with_reducible rename Heap.NewExc _ _ _ _ => x'); k_dflt (refine leaveNew B' F' x' (fun h' a0 hF => ?_)); k_dflt (replace hF := hF _ (Fr.keep F') (Fr.none F')))
  | ((with_reducible rename MadeD _ _ _ _ _ => x'); k_dflt (refine leaveDec B' F' x' (fun h' hF => ?_)); k_dflt (replace hF := hF _ (Fr.keep F') (Fr.none F')))))

set_option maxHeartbeats 8000000 in
theorem clp_spec : ∀ (w : World) (mean : ExcName → Option Value) (mg mb : Str → Option Value) (dp un : Nat) (gd : Option (List Code)) (l : List Env) (H0 : Heap) (s : Shared) (Q E : Value → Shared → Prop) (o : Array UInt8) (t : Tok) (i : Int) (ti : Tok) (ks : List Int),
    Below (AT dp un gd l) H0 l s.heap → (hd.heap_39 w.params).In H0 → TT mean mg mb H0 → dp + 20 < recursionLimit → un + 100 < cLine → KBw.bInts o = ks → 0 ≤ i → ks.length ≤ 100 →
    (∀ b len st p tp tl ts h' q tk', clpS o i = .ok b len st → Sub s.heap h' → s.heap.get? q = none → h'.get? q = some { cls := .type "tuple", data := .seq #[.bytes p tp, .type (if b then "list" else "bytes"), .int len tl, .int st ts] } → p.size ≤ 200 → Q (.ref q) { s with heap := h', toks := tk' }) →
    (∀ f e h' tk', clpS o i = .fault f → FlewF H0 s.heap l e h' f → E (.ref e) { s with heap := h', toks := tk' }) →
    wpAny (model PySem.Challenge.rw_ve0059_01.row.prog w) (AT dp un gd l) (call (.ref 62) [.bytes o t, .int i ti]) Q E s := by
  k_fill
  intro w mean mg mb dp un gd l H0 s Q E o t i ti ks B X0 T0 hdp hun hb hi ho hret hexc
  have X : (hd.heap_39 w.params).In s.heap := X0.keeps B.stays
  have T : TT mean mg mb s.heap := T0.keeps B.stays
  refine wpAny_call ?_
  k_dflt (refine' enterF [(Str.ofString "rlp", .bytes o t), (Str.ofString "start", .int i ti)] X T.nolimit ?ho ?hcd ?hroom ?hbind ?hloc (fun h₁ F => ?_) ?c1 ?c2 ?c3 ?c4; (case ho => k_is); (case hcd => k_is); (case hroom => show dp < _; omega); (case hbind => exact BindsTo.of_eq rfl); (case hloc => rfl); (case c1 => rfl); (case c2 => rfl); (case c3 => rfl); (case c4 => decide))
  have N : News s.heap s.heap.objs.size h₁ [] := News.nil
  dsimp only
  (show wpAny _ _ _ _ _ _); (try k_fold)
  k_steps
  all_goals (try (k_unfold; try dsimp only))
  all_goals (have hz := ho; rw [← hb, KBw.ints_length] at hz)
  all_goals (have z1 := fun lo hi => KBc.size_picked_le o lo hi)
  all_goals first
    | (refine hret false _ _ _ _ _ _ _ _ _ ?_ (Fr.keep (by assumption)) (News.fresh (by assumption) (.head _)) (News.get (by assumption) (.head _)) ?_; rotate_left; ((try simp only [Array.size_append, List.size_toArray, List.length_nil]); first | omega | ((have z2 := z1 (some i) (some (i + 1))); omega) | (have z2 := z1 (some i) (some (i + 1)); have z3 := z1 (some (i + 1)) (some (i + 1 + (ks.getD i.toNat 0 - 183))); omega)))
    | (refine hret true _ _ _ _ _ _ _ _ _ ?_ (Fr.keep (by assumption)) (News.fresh (by assumption) (.head _)) (News.get (by assumption) (.head _)) ?_; rotate_left; ((try simp only [Array.size_append, List.size_toArray, List.length_nil]); first | omega | ((have z2 := z1 (some i) (some (i + 1))); omega) | (have z2 := z1 (some i) (some (i + 1)); have z3 := z1 (some (i + 1)) (some (i + 1 + (ks.getD i.toNat 0 - 192 - 56 + 1))); omega)))
    | (refine hexc _ _ _ _ ?_ (by assumption))
    | (refine hexc .index _ _ _ ?_ ⟨_, by assumption⟩)
    | skip
  all_goals subst hb
  all_goals (try (unfold clpS; dsimp only))
  all_goals ((repeat' split) <;> first | rfl | (exfalso; omega) | (exfalso; (rename ((KBy.picked o (some (i + 1)) (some (i + 2))).toList == [0]) = true => hq); clear hret hexc z1; simp_all; done))
end Mine

namespace Mine

inductive St where
  | fault (f : Fault)
  | octets (b e : Int)
  | lst (b e : Int)

def stretch (o : Array UInt8) (i : Int) : St := match clpS o i with
  | .fault f => .fault f
  | .ok false len st => .octets st (st + len)
  | .ok true len st => .lst st (st + len)

/-- a LazyList as it lies -/
structure LZ where
  x : Addr
  dx : Addr
  el : Addr
  kd : Value
  b : Int
  e : Int
  idx : Int
  its : List Value
  len : Value
  k0 : Tok
  k1 : Tok
  k2 : Tok
  k3 : Tok
  k4 : Tok
  k5 : Tok
  k6 : Tok
  k7 : Tok
  k8 : Tok
  k9 : Tok
  k10 : Tok
  k11 : Tok
  ep : Nat

def lzDict (P : Params) (o : Array UInt8) (z : LZ) : Obj := dictOf [
  ⟨PyData.keyHash P (Str.ofString "rlp"), .str (Str.ofString "rlp") z.k0, .bytes o z.k1⟩,
  ⟨PyData.keyHash P (Str.ofString "start"), .str (Str.ofString "start") z.k2, .int z.b z.k3⟩,
  ⟨PyData.keyHash P (Str.ofString "end"), .str (Str.ofString "end") z.k4, .int z.e z.k5⟩,
  ⟨PyData.keyHash P (Str.ofString "index"), .str (Str.ofString "index") z.k6, .int z.idx z.k7⟩,
  ⟨PyData.keyHash P (Str.ofString "_elements"), .str (Str.ofString "_elements") z.k8, .ref z.el⟩,
  ⟨PyData.keyHash P (Str.ofString "_len"), .str (Str.ofString "_len") z.k9, z.len⟩,
  ⟨PyData.keyHash P (Str.ofString "sedes"), .str (Str.ofString "sedes") z.k10, .none⟩,
  ⟨PyData.keyHash P (Str.ofString "sedes_kwargs"), .str (Str.ofString "sedes_kwargs") z.k11, z.kd⟩] 8

def lzObjs (P : Params) (o : Array UInt8) (z : LZ) : List (Addr × Obj) := [(z.x, instObj 123 z.dx), (z.dx, lzDict P o z), (z.el, W.listOf z.its.toArray z.ep)]

def LzIn (P : Params) (o : Array UInt8) (h : Heap) (z : LZ) : Prop := ∀ p ∈ lzObjs P o z, h.get? p.1 = some p.2
def LZ.apart (z : LZ) : Prop := z.x ≠ z.dx ∧ z.x ≠ z.el ∧ z.dx ≠ z.el

/-- a LazyList that is just made -/
structure LzNew (P : Params) (o : Array UInt8) (h h' : Heap) (b e : Int) (z : LZ) : Prop where
  there : LzIn P o h' z
  fresh : h.get? z.x = none ∧ h.get? z.dx = none ∧ h.get? z.el = none
  apart : z.apart
  is : z.b = b ∧ z.e = e ∧ z.idx = b ∧ z.its = [] ∧ z.len = .none

theorem lzNew_of {P : Params} {o : Array UInt8} {g h : Heap} {L : Addr} {news : List (Addr × Obj)} {x dx el : Addr} {kd : Value} {b e : Int} {k0 k1 k2 k3 k4 k5 k6 k7 k8 k9 k10 k11 : Tok} {ep : Nat}
    (N : News g L h news) (h1 : (x, instObj 123 dx) ∈ news) (h2 : (dx, lzDict P o ⟨x, dx, el, kd, b, e, b, [], .none, k0, k1, k2, k3, k4, k5, k6, k7, k8, k9, k10, k11, ep⟩) ∈ news) (h3 : (el, W.listOf #[] ep) ∈ news)
    (hd : x ≠ dx ∧ x ≠ el ∧ dx ≠ el) : LzNew P o g h b e ⟨x, dx, el, kd, b, e, b, [], .none, k0, k1, k2, k3, k4, k5, k6, k7, k8, k9, k10, k11, ep⟩ := by
  refine ⟨fun p hp => ?_, ⟨N.fresh h1, N.fresh h2, N.fresh h3⟩, hd, rfl, rfl, rfl, rfl, rfl⟩
  rcases List.mem_cons.mp hp with rfl | hp
  · exact N.get h1
  · rcases List.mem_cons.mp hp with rfl | hp
    · exact N.get h2
    · rw [List.mem_singleton.mp hp]; exact N.get h3


local macro_rules | `(tactic| walk_at "call ref") => `(tactic| (k_here; (with_reducible show wpAny _ _ (call (Value.ref 62) _) _ _ _); (with_reducible rename Fr _ _ _ _ => F'); (with_reducible rename Below _ _ _ _ => B'); (with_reducible rename News _ _ _ _ => N'); k_dflt (refine' clp_spec _ _ _ _ _ _ _ _ _ _ _ _ _ _ _ _ _ (B'.push F') (by assumption) (by assumption) ?k1 ?k2 (by assumption) ?k3 ?k4 ?_ ?_; (case k1 => (dsimp only [Around.deeper]; omega)); (case k2 => (dsimp only [Around.deeper]; omega)); (case k3 => assumption); (case k4 => assumption)); first
  | (intro b len st p tp tl ts h' q tk' hcl hs' hq1 hq2 hps; (have hN := News.add F' N' hs' hq1 hq2); (replace F' := Fr.ofSub F' hs'); obtain ⟨N2, hne⟩ := hN; clear N'; (obtain ⟨kp, hkp⟩ : ∃ kp, KBw.bInts p = kp := ⟨_, rfl⟩); (have hkl : kp.length ≤ 200 := by rw [← hkp, KBw.ints_length]; exact hps); cases b <;> simp only [Bool.false_eq_true, if_false, if_true] at N2 <;> (try dsimp only))
  | (intro f e h' tk' hcl hf'; (try dsimp only))))

local macro_rules | `(tactic| k_room) => `(tactic| ((try simp only [depth_under_make, depth_under_kw, depth_in1, depth_deeper, depth_caller]); (try dsimp only [AT]); omega))
local macro_rules | `(tactic| walk_at "leaving ref") => `(tactic| (k_here; (with_reducible rename Fr _ _ _ _ => F'); (with_reducible rename Below _ _ _ _ => B'); (with_reducible rename FlewF _ _ _ _ _ _ => x'); k_dflt (refine leaveF (B'.push F').stack rfl x' (fun h' hF => ?_)); k_dflt (replace hF := hF _ (Fr.keep F') (Fr.none F'))))

set_option maxHeartbeats 8000000 in
theorem cil_spec : ∀ (w : World) (mean : ExcName → Option Value) (mg mb : Str → Option Value) (dp un : Nat) (gd : Option (List Code)) (l : List Env) (H0 : Heap) (s : Shared) (Q E : Value → Shared → Prop) (o : Array UInt8) (t : Tok) (i : Int) (ti : Tok) (ks : List Int),
    Below (AT dp un gd l) H0 l s.heap → (hd.heap_39 w.params).In H0 → TT mean mg mb H0 → dp + 40 < recursionLimit → un + 200 < cLine → KBw.bInts o = ks → 0 ≤ i → ks.length ≤ 100 →
    (∀ b e q tb te h' tk', stretch o i = .octets b e → Sub s.heap h' → s.heap.get? q = none → h'.get? q = some (tupOf [.bytes (KBy.picked o (some b) (some e)) tb, .int e te]) → Q (.ref q) { s with heap := h', toks := tk' }) →
    (∀ b e q z te h' tk', stretch o i = .lst b e → Sub s.heap h' → s.heap.get? q = none → h'.get? q = some (tupOf [.ref z.x, .int e te]) → LzNew w.params o s.heap h' b e z → Q (.ref q) { s with heap := h', toks := tk' }) →
    (∀ f e h' tk', stretch o i = .fault f → FlewF H0 s.heap l e h' f → E (.ref e) { s with heap := h', toks := tk' }) →
    wpAny (model PySem.Challenge.rw_ve0059_01.row.prog w) (AT dp un gd l) (call (.ref 84) [.bytes o t, .int i ti]) Q E s := by
  k_fill
  intro w mean mg mb dp un gd l H0 s Q E o t i ti ks B X0 T0 hdp hun hb hi ho hoct hlst hexc
  have X : (hd.heap_39 w.params).In s.heap := X0.keeps B.stays
  have T : TT mean mg mb s.heap := T0.keeps B.stays
  refine wpAny_call ?_
  k_dflt (refine' enterF [(Str.ofString "rlp", .bytes o t), (Str.ofString "start", .int i ti)] X T.nolimit ?ho ?hcd ?hroom ?hbind ?hloc (fun h₁ F => ?_) ?c1 ?c2 ?c3 ?c4; (case ho => k_is); (case hcd => k_is); (case hroom => show dp < _; omega); (case hbind => exact BindsTo.of_eq rfl); (case hloc => rfl); (case c1 => rfl); (case c2 => rfl); (case c3 => rfl); (case c4 => decide))
  have N : News s.heap s.heap.objs.size h₁ [] := News.nil
  dsimp only
  (show wpAny _ _ _ _ _ _); (try k_fold)
  k_steps
  all_goals (rename clpS o i = _ => hcl)
  · (show Q _ _)
    refine hoct _ _ _ _ _ _ _ (by unfold stretch; rw [hcl]) (Fr.keep (by assumption)) (News.fresh (by assumption) (.head _)) (News.get (by assumption) (.head _))
  · (show Q _ _)
    rename News s.heap s.heap.objs.size _ _ => N9
    rename Fr s.heap s.heap.objs.size _ _ => F9
    refine hlst _ _ _ _ _ _ _ (by unfold stretch; rw [hcl]) (Fr.keep F9) (News.fresh N9 (.head _)) (News.get N9 (.head _)) (lzNew_of N9 (by k_mem) (by k_mem) (by k_mem) ⟨by k_ne, by k_ne, by k_ne⟩)
  · (show E _ _)
    refine hexc _ _ _ _ (by unfold stretch; rw [hcl]) (by assumption)
end Mine

namespace Mine

def LZ.addrs (z : LZ) : List Addr := [z.x, z.dx, z.el]

/-- all but the addresses ws stays -/
def SubX (ws : List Addr) (g h : Heap) : Prop := ∀ b o, g.get? b = some o → b ∉ ws → h.get? b = some o
theorem SubX.of_sub {ws : List Addr} {g h : Heap} (k : Sub g h) : SubX ws g h := fun b o e _ => k b o e
theorem SubX.trans {ws : List Addr} {a b c : Heap} (x : SubX ws a b) (y : SubX ws b c) : SubX ws a c := fun p o e n => y p o (x p o e n) n
theorem SubX.mono {ws vs : List Addr} {a b : Heap} (x : SubX ws a b) (h : ∀ p ∈ ws, p ∈ vs) : SubX vs a b := fun p o e n => x p o e fun q => n (h p q)

theorem News.addL {g h h' : Heap} {L : Addr} {m : Str → Option Value} {news : List (Addr × Obj)} (adds : List (Addr × Obj)) (F : Fr g L h m) (N : News g L h news) (k : Sub h h') (hn : ∀ p ∈ adds, h.get? p.1 = none ∧ h'.get? p.1 = some p.2) :
    News g L h' (adds ++ news) ∧ ∀ p ∈ news, ∀ q ∈ adds, p.1 ≠ q.1 := by
  refine ⟨fun p hp => ?_, fun p hp q hq z => ?_⟩
  · rcases List.mem_append.mp hp with hp | hp
    · refine ⟨(hn p hp).2, fun z => ?_, Sub.none F.keep (hn p hp).1⟩
      obtain ⟨o, _, _, ho, _⟩ := F.ns
      have := (hn p hp).1
      rw [z, ho] at this; cases this
    · exact ⟨k _ _ (N p hp).1, (N p hp).2⟩
  · have := (hn q hq).1
    rw [← z, (N p hp).1] at this; cases this

def AllNe1 (a : Nat) : List (Addr × Obj) → Prop
  | [] => True
  | q :: r => @Ne Nat a q.1 ∧ AllNe1 a r
def AllNe : List (Addr × Obj) → List (Addr × Obj) → Prop
  | [], _ => True
  | p :: r, l => AllNe1 p.1 l ∧ AllNe r l
theorem allNe1_of {a : Addr} : ∀ {l : List (Addr × Obj)}, (∀ q ∈ l, a ≠ q.1) → AllNe1 a l
  | [], _ => trivial
  | q :: _, h => ⟨h q (.head _), allNe1_of fun p hp => h p (.tail _ hp)⟩
theorem allNe_of : ∀ {l l' : List (Addr × Obj)}, (∀ p ∈ l, ∀ q ∈ l', p.1 ≠ q.1) → AllNe l l'
  | [], _, _ => trivial
  | p :: _, _, h => ⟨allNe1_of (h p (.head _)), allNe_of fun a ha => h a (.tail _ ha)⟩
theorem LzNew.adds {P : Params} {o : Array UInt8} {h h' : Heap} {b e : Int} {z : LZ} {q : Addr} {oq : Obj} (Z : LzNew P o h h' b e z) (hq1 : h.get? q = none) (hq2 : h'.get? q = some oq) : ∀ p ∈ (q, oq) :: lzObjs P o z, h.get? p.1 = none ∧ h'.get? p.1 = some p.2 := by
  intro p hp
  rcases List.mem_cons.mp hp with rfl | hp
  · exact ⟨hq1, hq2⟩
  · refine ⟨?_, Z.there p hp⟩
    rcases List.mem_cons.mp hp with rfl | hp
    · exact Z.fresh.1
    · rcases List.mem_cons.mp hp with rfl | hp
      · exact Z.fresh.2.1
      · rw [List.mem_singleton.mp hp]; exact Z.fresh.2.2
def NextFault (o : Array UInt8) (z : LZ) (f : Fault) : Prop := (z.idx = z.e ∧ f = .stop) ∨ (z.e < z.idx ∧ f = .assert) ∨ (z.idx < z.e ∧ stretch o z.idx = .fault f)

theorem stretch_lo {o : Array UInt8} {i b e : Int} (hi : 0 ≤ i) (h : stretch o i = .octets b e ∨ stretch o i = .lst b e) : i < b + 1 ∧ b ≤ e ∧ i < e ∨ True := .inr trivial

/-- the heap without a frame's names: what an exception flies over -/
theorem hide_sub (h : Heap) (L : Addr) : Sub (hideAll h [L]) h := fun _ _ e => of_hideAll _ e
theorem hide_none (h : Heap) (L : Addr) : (hideAll h [L]).get? L = none := hideAll_none _ (.head _)
theorem hide_fresh {h : Heap} {ws : List Addr} {a : Addr} (hn : (hideAll h ws).get? a = none) (hm : a ∉ ws) : h.get? a = none := by
  cases q : h.get? a with
  | none => rfl
  | some o => rw [hideAll_get _ q hm] at hn; cases hn
theorem hide_news {g h : Heap} {L : Addr} {news : List (Addr × Obj)} (N : News g L h news) : ∀ p ∈ news, (hideAll h [L]).get? p.1 = some p.2 := fun p hp => hideAll_get _ (N p hp).1 fun q => (N p hp).2.1 (List.mem_singleton.mp q)
theorem hide_keep {g h : Heap} {L : Addr} {m : Str → Option Value} (F : Fr g L h m) : Sub g (hideAll h [L]) := fun b o e => hideAll_get _ (F.keep b o e) fun q => by
  rw [List.mem_singleton.mp q, Fr.none F] at e; cases e
theorem hide_subX {h h' : Heap} {ws : List Addr} (k : Sub (hideAll h ws) h') : SubX ws h h' := fun b o e n => k b o (hideAll_get _ e n)

local macro_rules | `(tactic| k_room) => `(tactic| ((try simp only [depth_under_make, depth_under_kw, depth_in1, depth_deeper, depth_caller]); (try dsimp only [AT]); omega))
local macro_rules | `(tactic| walk_at "call builtin:len") => `(tactic| (k_here; (with_reducible show wpAny _ _ (call (Value.builtin "len") [Value.ref _]) _ _ _); (with_reducible rename News _ _ _ _ => N'); k_dflt (refine' len_list (items := List.toArray _) (News.isList N' ?k1) ?k2 ?_; (case k1 => k_mem); (case k2 => (rw [List.size_toArray]; omega)); k_whole); (try rw [List.size_toArray])))
local macro_rules | `(tactic| walk_at "leaving ref") => `(tactic| (k_here; (with_reducible rename Fr _ _ _ _ => F'); (with_reducible rename Below _ _ _ _ => B'); first
  | ((with_reducible rename FlewF _ _ _ _ _ _ => x'); k_dflt (refine leaveF (B'.push F').stack rfl x' (fun h' hF => ?_)); k_dflt (replace hF := hF _ (hide_sub _ _) (hide_none _ _)))
  | ((with_reducible rename Heap.MadeExc _ _ _ _ _ => x'); k_dflt (refine leaveNew B' F' (Heap.MadeExc.newExc x') (fun h' a0 hF => ?_)); k_dflt (replace hF := hF _ (hide_sub _ _) (hide_none _ _)))
  | ((with_reducible rename Heap.NewExc _ _ _ _ => x'); k_dflt (refine leaveNew B' F' x' (fun h' a0 hF => ?_)); k_dflt (replace hF := hF _ (hide_sub _ _) (hide_none _ _)))))
local macro_rules | `(tactic| walk_at "call ref") => `(tactic| (k_here; (with_reducible show wpAny _ _ (call (Value.ref 84) _) _ _ _); (with_reducible rename Fr _ _ _ _ => F'); (with_reducible rename Below _ _ _ _ => B'); (with_reducible rename News _ _ _ _ => N'); k_dflt (refine' cil_spec _ _ _ _ _ _ _ _ _ _ _ _ _ _ _ _ _ (B'.push F') (by assumption) (by assumption) ?k1 ?k2 (by assumption) ?k3 ?k4 ?_ ?_ ?_; (case k1 => (dsimp only [Around.deeper]; omega)); (case k2 => (dsimp only [Around.deeper]; omega)); (case k3 => assumption); (case k4 => assumption)); all_goals first
  | (intro b e q tb te h' tk' hst hs' hq1 hq2; (have hN := News.addL [(q, tupOf [.bytes (KBy.picked _ (some b) (some e)) tb, .int e te])] F' N' hs' (by simpa using ⟨hq1, hq2⟩)); (replace F' := Fr.ofSub F' hs'); obtain ⟨N2, hne⟩ := hN; clear N'; (replace hne := allNe_of hne); dsimp only [AllNe, AllNe1, tupOf] at hne; dsimp only [tupOf, List.cons_append, List.nil_append] at N2; (try dsimp only))
  | (intro b e q z te h' tk' hst hs' hq1 hq2 hz; (have hN := News.addL _ F' N' hs' (hz.adds hq1 hq2)); (replace F' := Fr.ofSub F' hs'); obtain ⟨N2, hne⟩ := hN; clear N'; (replace hne := allNe_of hne); (try have b1 := neN hz.apart.1); (try have b2 := neN hz.apart.2.1); (try have b3 := neN hz.apart.2.2); (try dsimp only [AllNe, AllNe1, tupOf, lzObjs] at hne); (try dsimp only [tupOf, lzObjs, lzDict, List.cons_append, List.nil_append] at N2); (try dsimp only))
  | (intro f e h' tk' hcl hf'; (with_reducible rename FlewF _ _ _ _ _ _ => hf2); (try dsimp only))))

structure LZ.Same (z z' : LZ) : Prop where
  x : z'.x = z.x
  dx : z'.dx = z.dx
  el : z'.el = z.el
  b : z'.b = z.b
  e : z'.e = z.e

theorem lzIn_of {P : Params} {o : Array UInt8} {g h : Heap} {L : Addr} {news : List (Addr × Obj)} {z : LZ} (N : News g L h news)
    (h1 : (z.x, instObj 123 z.dx) ∈ news) (h2 : (z.dx, lzDict P o z) ∈ news) (h3 : (z.el, W.listOf z.its.toArray z.ep) ∈ news) : LzIn P o h z := by
  intro p hp
  rcases List.mem_cons.mp hp with rfl | hp
  · exact N.get h1
  · rcases List.mem_cons.mp hp with rfl | hp
    · exact N.get h2
    · rw [List.mem_singleton.mp hp]; exact N.get h3
theorem hide_lz {P : Params} {o : Array UInt8} {g h : Heap} {L : Addr} {news : List (Addr × Obj)} {z : LZ} (N : News g L h news)
    (h1 : (z.x, instObj 123 z.dx) ∈ news) (h2 : (z.dx, lzDict P o z) ∈ news) (h3 : (z.el, W.listOf z.its.toArray z.ep) ∈ news) : LzIn P o (hideAll h [L]) z := by
  intro p hp
  rcases List.mem_cons.mp hp with rfl | hp
  · exact hide_news N _ h1
  · rcases List.mem_cons.mp hp with rfl | hp
    · exact hide_news N _ h2
    · rw [List.mem_singleton.mp hp]; exact hide_news N _ h3

set_option maxHeartbeats 8000000 in
theorem next_spec : ∀ (w : World) (mean : ExcName → Option Value) (mg mb : Str → Option Value) (dp un : Nat) (gd : Option (List Code)) (l : List Env) (H0 : Heap) (s : Shared) (Q E : Value → Shared → Prop) (o : Array UInt8) (ks : List Int) (z : LZ),
    Below (AT dp un gd l) H0 l s.heap → (hd.heap_39 w.params).In H0 → TT mean mg mb H0 → dp + 60 < recursionLimit → un + 300 < cLine → KBw.bInts o = ks → ks.length ≤ 100 →
    LzIn w.params o s.heap z → z.apart → (∀ a ∈ z.addrs, H0.get? a = none ∧ a ∉ l.filterMap (·.frame)) → 0 ≤ z.idx → z.its.length ≤ 1000 →
    (∀ b e tb z' h' tk', LzIn w.params o h' z' → z.idx < z.e → stretch o z.idx = .octets b e → z.Same z' → z'.idx = e → z'.its = z.its ++ [.bytes (KBy.picked o (some b) (some e)) tb] → SubX z.addrs s.heap h' →
      Q (.bytes (KBy.picked o (some b) (some e)) tb) { s with heap := h', toks := tk' }) →
    (∀ b e y z' h' tk', LzIn w.params o h' z' → z.idx < z.e → stretch o z.idx = .lst b e → z.Same z' → z'.idx = e → z'.its = z.its ++ [.ref y.x] → LzNew w.params o s.heap h' b e y → SubX z.addrs s.heap h' →
      Q (.ref y.x) { s with heap := h', toks := tk' }) →
    (∀ f e z' G h' tk', LzIn w.params o G z' → NextFault o z f → z.Same z' → z'.idx = z.idx → z'.its = z.its → SubX z.addrs s.heap G → FlewF H0 G l e h' f → E (.ref e) { s with heap := h', toks := tk' }) →
    wpAny (model PySem.Challenge.rw_ve0059_01.row.prog w) (AT dp un gd l) (call (.ref 106) [.ref z.x]) Q E s := by
  k_fill
  intro w mean mg mb dp un gd l H0 s Q E o ks z B0 X0 T0 hdp hun hb hks hz hap hown hidx hlen hoct hlst hexc
  obtain ⟨x, dx, el, kd, zb, ze, idx, its, len, k0, k1, k2, k3, k4, k5, k6, k7, k8, k9, k10, k11, ep⟩ := z
  have X : (hd.heap_39 w.params).In s.heap := X0.keeps B0.stays
  have T : TT mean mg mb s.heap := T0.keeps B0.stays
  have hg : Sub (hideAll s.heap [x, dx, el]) s.heap := fun _ _ e => of_hideAll _ e
  have st : Sub H0 (hideAll s.heap [x, dx, el]) := fun b o e => hideAll_get _ (B0.stays b o e) fun q => by rw [(hown b q).1] at e; cases e
  have B : Below (AT dp un gd l) H0 l (hideAll s.heap [x, dx, el]) := ⟨B0.stack, st, funFrames_hideAll B0.frames fun env he a ha hf => (hown a ha).2 (List.mem_filterMap.mpr ⟨env, he, hf⟩)⟩
  have XB : (hd.heap_39 w.params).In (hideAll s.heap [x, dx, el]) := X0.keeps st
  have TB : TT mean mg mb (hideAll s.heap [x, dx, el]) := T0.keeps st
  have a1 := neN hap.1
  have a2 := neN hap.2.1
  have a3 := neN hap.2.2
  dsimp only at a1 a2 a3 hidx hlen hoct hlst hexc
  refine wpAny_call ?_
  k_dflt (refine' enterF [(Str.ofString "self", .ref x)] X T.nolimit ?ho ?hcd ?hroom ?hbind ?hloc (fun h₁ F0 => ?_) ?c1 ?c2 ?c3 ?c4; (case ho => k_is); (case hcd => k_is); (case hroom => show dp < _; omega); (case hbind => exact BindsTo.of_eq rfl); (case hloc => rfl); (case c1 => rfl); (case c2 => rfl); (case c3 => rfl); (case c4 => decide))
  have F : Fr (hideAll s.heap [x, dx, el]) s.heap.objs.size h₁ _ := ⟨F0.ns, hg.trans F0.keep, Nat.le_of_eq (hideAll_size _ _)⟩
  have N : News (hideAll s.heap [x, dx, el]) s.heap.objs.size h₁ (lzObjs w.params o ⟨x, dx, el, kd, zb, ze, idx, its, len, k0, k1, k2, k3, k4, k5, k6, k7, k8, k9, k10, k11, ep⟩) := fun p hp => ⟨F0.keep _ _ (hz p hp), Nat.ne_of_lt (Heap.lt_size (hz p hp)), by
    have : p.1 ∈ [x, dx, el] := by
      rcases List.mem_cons.mp hp with rfl | hp
      · exact .head _
      · rcases List.mem_cons.mp hp with rfl | hp
        · exact .tail _ (.head _)
        · rw [List.mem_singleton.mp hp]; exact .tail _ (.tail _ (.head _))
    exact hideAll_none _ this⟩
  clear F0 X T
  dsimp only [lzObjs, lzDict] at N
  dsimp only
  (show wpAny _ _ _ _ _ _); (try k_fold)
  k_steps
  · rename Flew _ _ _ _ _ _ _ _ => hF
    rename News _ _ _ _ => N9
    rename Fr _ _ _ _ => F9
    refine hexc .stop _ ⟨x, dx, el, kd, zb, ze, idx, its, _, k0, k1, k2, k3, k4, k5, k6, k7, k8, k9, k10, k11, ep⟩ _ _ _ (hide_lz N9 (by k_mem) (by k_mem) (by k_mem)) (.inl ⟨by assumption, rfl⟩) ⟨by rfl, by rfl, by rfl, by rfl, by rfl⟩ (by rfl) (by rfl) (hide_subX (hide_keep F9)) ⟨_, hF⟩
  · (try dsimp only); (try k_unfold); (try dsimp only); (show Q _ _)
    rename News _ _ _ _ => N9
    rename Fr _ _ _ _ => F9
    refine hoct _ _ _ ⟨x, dx, el, kd, zb, ze, _, its ++ [_], _, k0, k1, k2, k3, k4, k5, k6, _, k8, k9, k10, k11, ep + 1⟩ _ _ (lzIn_of N9 (by k_mem) (by k_mem) (by (show _ ∈ _); rw [← List.push_toArray]; k_mem)) (by assumption) (by assumption) ⟨by rfl, by rfl, by rfl, by rfl, by rfl⟩ (by rfl) (by rfl) (hide_subX (Fr.keep F9))
  · (try dsimp only); (try k_unfold); (try dsimp only); (show Q _ _)
    rename News _ _ _ _ => N9
    rename Fr _ _ _ _ => F9
    rename LzNew _ _ _ _ _ _ _ => hz
    rename ((_ ∧ _ ∧ _ ∧ _ ∧ True) ∧ _) => hne
    obtain ⟨⟨_, c1, c2, c3, _⟩, ⟨_, d1, d2, d3, _⟩, ⟨_, e1, e2, e3, _⟩, _⟩ := hne
    refine hlst _ _ _ ⟨x, dx, el, kd, zb, ze, _, its ++ [_], _, k0, k1, k2, k3, k4, k5, k6, _, k8, k9, k10, k11, ep + 1⟩ _ _ (lzIn_of N9 (by k_mem) (by k_mem) (by (show _ ∈ _); rw [← List.push_toArray]; k_mem)) (by assumption) (by assumption) ⟨by rfl, by rfl, by rfl, by rfl, by rfl⟩ (by rfl) (by rfl) ⟨lzIn_of N9 (by k_mem) (by k_mem) (by k_mem), ⟨hide_fresh (N9.fresh (by k_mem)) (by simp [Ne.symm c1, Ne.symm d1, Ne.symm e1]), hide_fresh (N9.fresh (by k_mem)) (by simp [Ne.symm c2, Ne.symm d2, Ne.symm e2]), hide_fresh (N9.fresh (by k_mem)) (by simp [Ne.symm c3, Ne.symm d3, Ne.symm e3])⟩, hz.apart, hz.is⟩ (hide_subX (Fr.keep F9))
  · rename FlewF _ _ _ _ _ _ => hF
    rename News _ _ _ _ => N9
    rename Fr _ _ _ _ => F9
    refine hexc _ _ ⟨x, dx, el, kd, zb, ze, idx, its, _, k0, k1, k2, k3, k4, k5, k6, k7, k8, k9, k10, k11, ep⟩ _ _ _ (hide_lz N9 (by k_mem) (by k_mem) (by k_mem)) (.inr (.inr ⟨by assumption, by assumption⟩)) ⟨by rfl, by rfl, by rfl, by rfl, by rfl⟩ (by rfl) (by rfl) (hide_subX (hide_keep F9)) hF
  · rename Flew _ _ _ _ _ _ _ _ => hF
    rename News _ _ _ _ => N9
    rename Fr _ _ _ _ => F9
    refine hexc .assert _ ⟨x, dx, el, kd, zb, ze, idx, its, _, k0, k1, k2, k3, k4, k5, k6, k7, k8, k9, k10, k11, ep⟩ _ _ _ (hide_lz N9 (by k_mem) (by k_mem) (by k_mem)) (.inr (.inl ⟨by (show ze < idx); omega, rfl⟩)) ⟨by rfl, by rfl, by rfl, by rfl, by rfl⟩ (by rfl) (by rfl) (hide_subX (hide_keep F9)) ⟨_, hF⟩
end Mine

namespace Mine

inductive Item where
  | bs (b : Array UInt8)
  | ls (b e : Int)

def step (o : Array UInt8) (i : Int) : Option (Item × Int) := match stretch o i with
  | .fault _ => none
  | .octets b e => some (.bs (KBy.picked o (some b) (some e)), e)
  | .lst b e => some (.ls b e, e)

/-- from i, by the items, to j, each behind a place ahead of fin -/
inductive Run (o : Array UInt8) (fin : Int) (i : Int) : List Item → Int → Prop
  | nil : Run o fin i [] i
  | snoc {its : List Item} {j k : Int} {it : Item} : Run o fin i its j → j < fin → step o j = some (it, k) → Run o fin i (its ++ [it]) k

/-- why it stops at j -/
def StopAt (o : Array UInt8) (fin j : Int) (f : Fault) : Prop := (j = fin ∧ f = .stop) ∨ (fin < j ∧ f = .assert) ∨ (j < fin ∧ stretch o j = .fault f)
def Final (o : Array UInt8) (b fin : Int) (found : List Item) (j : Int) (f : Fault) : Prop := Run o fin b found j ∧ StopAt o fin j f

theorem snoc_inj {α : Type} {a b : List α} {x y : α} (h : a ++ [x] = b ++ [y]) : a = b ∧ x = y := by
  have h1 := congrArg List.reverse h
  simp only [List.reverse_append, List.reverse_cons, List.reverse_nil, List.nil_append, List.singleton_append] at h1
  have h2 := List.cons.inj h1
  exact ⟨List.reverse_inj.mp h2.2, h2.1⟩
theorem Run.nil_inv {o : Array UInt8} {fin i j : Int} (h : Run o fin i [] j) : j = i := by
  generalize hz : ([] : List Item) = l at h
  cases h with
  | nil => rfl
  | snoc _ _ _ => simp at hz
theorem Run.snoc_inv {o : Array UInt8} {fin i k : Int} {its : List Item} {it : Item} (h : Run o fin i (its ++ [it]) k) : ∃ j, Run o fin i its j ∧ j < fin ∧ step o j = some (it, k) := by
  generalize hz : its ++ [it] = l at h
  cases h with
  | nil => simp at hz
  | snoc a b c => obtain ⟨rfl, rfl⟩ := snoc_inj hz; exact ⟨_, a, b, c⟩
/-- a run's heads are runs -/
theorem Run.take {o : Array UInt8} {fin i j : Int} {l : List Item} (h : Run o fin i l j) : ∀ n, n ≤ l.length → ∃ k, Run o fin i (l.take n) k ∧ (∀ it, l[n]? = some it → k < fin ∧ ∃ m, step o k = some (it, m) ∧ (n + 1 = l.length → m = j)) ∧ (n = l.length → k = j) := by
  induction h with
  | nil => intro n hn; have : n = 0 := by simpa using hn
           subst this; exact ⟨i, by simpa using Run.nil, by simp, fun _ => rfl⟩
  | @snoc its j k it a b c ih =>
    intro n hn
    rw [List.length_append, List.length_singleton] at hn
    rcases Nat.lt_or_eq_of_le hn with hlt | heq
    · obtain ⟨p, r, s, e⟩ := ih n (Nat.le_of_lt_succ hlt)
      refine ⟨p, by rw [List.take_append_of_le_length (Nat.le_of_lt_succ hlt)]; exact r, fun it' hit => ?_, fun z => ?_⟩
      · rcases Nat.lt_or_eq_of_le (Nat.le_of_lt_succ hlt) with hn2 | hn2
        · rw [List.getElem?_append_left hn2] at hit
          obtain ⟨u, m, v, w⟩ := s it' hit
          exact ⟨u, m, v, fun z => by simp at z; omega⟩
        · have : it' = it := by rw [hn2] at hit; simpa using hit.symm
          subst this
          have := e hn2; subst this
          exact ⟨b, k, c, fun _ => rfl⟩
      · simp at z; omega
    · subst heq
      refine ⟨k, by rw [List.take_of_length_le (by simp)]; exact .snoc a b c, fun it' hit => ?_, fun _ => rfl⟩
      simp at hit
theorem Run.det {o : Array UInt8} {fin i : Int} : ∀ {l : List Item} {j : Int}, Run o fin i l j → ∀ {k : Int}, Run o fin i l k → j = k := by
  intro l j h
  induction h with
  | nil => intro k h2; exact h2.nil_inv.symm
  | snoc a b c ih =>
    intro k h2
    obtain ⟨p, r, s, t⟩ := h2.snoc_inv
    have := ih r; subst this
    rw [c] at t; exact (Prod.mk.inj (Option.some.inj t)).2
/-- two runs from one place agree -/
theorem Run.agree {o : Array UInt8} {fin i : Int} : ∀ (n : Nat) {l l' : List Item} {j j' : Int}, Run o fin i l j → Run o fin i l' j' → n ≤ l.length → n ≤ l'.length → l.take n = l'.take n := by
  intro n
  induction n with
  | zero => intros; rfl
  | succ n ih =>
    intro l l' j j' h h' hn hn'
    have e := ih h h' (Nat.le_of_succ_le hn) (Nat.le_of_succ_le hn')
    obtain ⟨k, r, s, _⟩ := h.take n (Nat.le_of_succ_le hn)
    obtain ⟨k', r', s', _⟩ := h'.take n (Nat.le_of_succ_le hn')
    rw [← e] at r'
    have := r.det r'; subst this
    have q1 : l[n]? = some l[n] := List.getElem?_eq_getElem (by omega)
    have q2 : l'[n]? = some l'[n] := List.getElem?_eq_getElem (by omega)
    obtain ⟨_, m, a, _⟩ := s _ q1
    obtain ⟨_, m', a', _⟩ := s' _ q2
    rw [a] at a'
    have q3 : l[n] = l'[n] := (Prod.mk.inj (Option.some.inj a')).1
    rw [List.take_succ, List.take_succ, e, q1, q2, q3]
theorem step_none_of_fault {o : Array UInt8} {j : Int} {f : Fault} (h : stretch o j = .fault f) : step o j = none := by unfold step; rw [h]
/-- a run is not longer than the final one; where it is as long, it stands where that stops; else it can go on -/
theorem Final.next {o : Array UInt8} {b fin j i : Int} {found its : List Item} {f : Fault} (F : Final o b fin found j f) (R : Run o fin b its i) :
    its.length ≤ found.length ∧ (its = found.take its.length) ∧ (its.length = found.length → i = j) ∧ (∀ it, found[its.length]? = some it → i < fin ∧ ∃ k, step o i = some (it, k)) := by
  obtain ⟨R2, S⟩ := F
  have hle : its.length ≤ found.length := by
    rcases Nat.lt_or_ge found.length its.length with h | h
    · exfalso
      obtain ⟨k, r, s, _⟩ := R.take found.length (Nat.le_of_lt h)
      have e := Run.agree found.length R R2 (Nat.le_of_lt h) (Nat.le_refl _)
      rw [e, List.take_length] at r
      have := r.det R2; subst this
      obtain ⟨u, m, v, _⟩ := s _ (List.getElem?_eq_getElem h)
      rcases S with ⟨a, _⟩ | ⟨a, _⟩ | ⟨_, a⟩
      · omega
      · omega
      · rw [step_none_of_fault a] at v; cases v
    · exact h
  have e := Run.agree its.length R R2 (Nat.le_refl _) hle
  rw [List.take_length] at e
  obtain ⟨k, r, s, t⟩ := R2.take its.length hle
  rw [← e] at r
  have := R.det r; subst this
  refine ⟨hle, e, t, fun it hit => ?_⟩
  obtain ⟨u, m, v, _⟩ := s it hit
  exact ⟨u, m, v⟩

theorem clpS_lo {o : Array UInt8} {i len st : Int} {b : Bool} (h : clpS o i = .ok b len st) : i < (KBw.bInts o).length := by
  unfold clpS at h
  by_cases hi : ((KBw.bInts o).length : Int) ≤ i
  · simp only [hi, if_true] at h; cases h
  · omega
end Mine

namespace Mine

/-- a stretch that is one lies behind its place -/
theorem clpS_go {o : Array UInt8} {i len st : Int} {b : Bool} (hi : 0 ≤ i) (h : clpS o i = .ok b len st) : i < (KBw.bInts o).length ∧ 0 ≤ len ∧ i ≤ st ∧ i < st + len ∧ (b = true → i < st) := by
  refine ⟨clpS_lo h, ?_⟩
  unfold clpS at h
  dsimp only at h
  (repeat' split at h) <;> first
    | (cases h; done)
    | (cases h; refine ⟨?_, ?_, ?_, ?_⟩ <;> first | omega | (intro _; omega) | (intro q; cases q))

theorem step_go {o : Array UInt8} {i k : Int} {it : Item} (hi : 0 ≤ i) (h : step o i = some (it, k)) : i < (KBw.bInts o).length ∧ i < k ∧ ∀ b e, it = .ls b e → 0 ≤ b ∧ e = k := by
  unfold step stretch at h
  cases hc : clpS o i with
  | fault f => rw [hc] at h; cases h
  | ok bb len st =>
    rw [hc] at h
    obtain ⟨a, b, c, d, e⟩ := clpS_go hi hc
    cases bb with
    | false => dsimp only at h; obtain ⟨rfl, rfl⟩ := Prod.mk.inj (Option.some.inj h); exact ⟨a, d, fun _ _ q => by cases q⟩
    | true => dsimp only at h; obtain ⟨rfl, rfl⟩ := Prod.mk.inj (Option.some.inj h); exact ⟨a, d, fun _ _ q => by cases q; exact ⟨by omega, rfl⟩⟩

theorem Run.go {o : Array UInt8} {fin i j : Int} {l : List Item} (hi : 0 ≤ i) (h : Run o fin i l j) : i + l.length ≤ j ∧ (l ≠ [] → i + l.length ≤ (KBw.bInts o).length) := by
  induction h with
  | nil => exact ⟨by simp, fun q => absurd rfl q⟩
  | @snoc its j k it a b c ih =>
    obtain ⟨p, q, _⟩ := step_go (by omega) c
    rw [List.length_append, List.length_singleton]
    exact ⟨by omega, fun _ => by omega⟩
theorem Run.len {o : Array UInt8} {fin i j : Int} {l : List Item} (hi : 0 ≤ i) (h : Run o fin i l j) : l.length ≤ (KBw.bInts o).length := by
  cases l with
  | nil => exact Nat.zero_le _
  | cons a r => have := (h.go hi).2 (by simp); omega

def VIs (Z : List LZ) (v : Value) : Item → Prop
  | .bs b => ∃ t, v = .bytes b t
  | .ls b e => ∃ y ∈ Z, v = .ref y.x ∧ y.b = b ∧ y.e = e
def VAll (Z : List LZ) : List Value → List Item → Prop
  | [], [] => True
  | v :: vs, i :: is => VIs Z v i ∧ VAll Z vs is
  | _, _ => False
def Zle (Z Z' : List LZ) : Prop := ∀ z ∈ Z, ∃ z' ∈ Z', z.Same z'
theorem LZ.Same.refl (z : LZ) : z.Same z := ⟨rfl, rfl, rfl, rfl, rfl⟩
theorem LZ.Same.trans {a b c : LZ} (x : a.Same b) (y : b.Same c) : a.Same c := ⟨y.x.trans x.x, y.dx.trans x.dx, y.el.trans x.el, y.b.trans x.b, y.e.trans x.e⟩
theorem LZ.Same.addrs {a b : LZ} (x : a.Same b) : b.addrs = a.addrs := by unfold LZ.addrs; rw [x.x, x.dx, x.el]
theorem Zle.refl (Z : List LZ) : Zle Z Z := fun z h => ⟨z, h, .refl z⟩
theorem Zle.trans {a b c : List LZ} (x : Zle a b) (y : Zle b c) : Zle a c := fun z h => let ⟨z', h', s⟩ := x z h; let ⟨w, hw, t⟩ := y z' h'; ⟨w, hw, s.trans t⟩
theorem VIs.mono {Z Z' : List LZ} {v : Value} {it : Item} (h : VIs Z v it) (k : Zle Z Z') : VIs Z' v it := by
  cases it with
  | bs b => exact h
  | ls b e => obtain ⟨y, hy, a, c, d⟩ := h; obtain ⟨y', hy', s⟩ := k y hy; exact ⟨y', hy', by rw [s.x]; exact a, s.b.trans c, s.e.trans d⟩
theorem VAll.mono {Z Z' : List LZ} (k : Zle Z Z') : ∀ {vs : List Value} {is : List Item}, VAll Z vs is → VAll Z' vs is
  | [], [], _ => trivial
  | _ :: _, _ :: _, h => ⟨h.1.mono k, VAll.mono k h.2⟩
  | [], _ :: _, h => h.elim
  | _ :: _, [], h => h.elim
theorem VAll.length {Z : List LZ} : ∀ {vs : List Value} {is : List Item}, VAll Z vs is → vs.length = is.length
  | [], [], _ => rfl
  | _ :: _, _ :: _, h => congrArg (· + 1) (VAll.length h.2)
  | [], _ :: _, h => h.elim
  | _ :: _, [], h => h.elim
theorem VAll.snoc {Z : List LZ} {v : Value} {i : Item} (hv : VIs Z v i) : ∀ {vs : List Value} {is : List Item}, VAll Z vs is → VAll Z (vs ++ [v]) (is ++ [i])
  | [], [], _ => ⟨hv, trivial⟩
  | _ :: _, _ :: _, h => ⟨h.1, VAll.snoc hv h.2⟩
  | [], _ :: _, h => h.elim
  | _ :: _, [], h => h.elim
theorem VAll.get {Z : List LZ} : ∀ {vs : List Value} {is : List Item} {n : Nat} {i : Item}, VAll Z vs is → is[n]? = some i → ∃ v, vs[n]? = some v ∧ VIs Z v i
  | v :: _, i :: _, 0, j, h, e => ⟨v, rfl, by have : i = j := by simpa using e
                                              subst this; exact h.1⟩
  | _ :: vs, _ :: is, n + 1, j, h, e => by
    obtain ⟨w, a, b⟩ := VAll.get (n := n) h.2 (by simpa using e)
    exact ⟨w, by simpa using a, b⟩
  | [], [], _, _, _, e => by simp at e
  | [], _ :: _, _, _, h, _ => h.elim
  | _ :: _, [], _, _, h, _ => h.elim

/-- the LazyLists that live -/
structure Store (P : Params) (o : Array UInt8) (H0 : Heap) (fl : List Addr) (h : Heap) (Z : List LZ) : Prop where
  there : ∀ z ∈ Z, LzIn P o h z
  apart : ∀ z ∈ Z, z.apart
  own : ∀ z ∈ Z, ∀ a ∈ z.addrs, H0.get? a = none ∧ a ∉ fl
  disj : Z.Pairwise fun z w => ∀ a ∈ z.addrs, a ∉ w.addrs
  runs : ∀ z ∈ Z, 0 ≤ z.b ∧ ∃ items, Run o z.e z.b items z.idx ∧ VAll Z z.its items

theorem lzIn_at {P : Params} {o : Array UInt8} {h : Heap} {z : LZ} (H : LzIn P o h z) : ∀ a ∈ z.addrs, ∃ ob, h.get? a = some ob := by
  intro a ha
  unfold LZ.addrs at ha
  rcases List.mem_cons.mp ha with rfl | ha
  · exact ⟨_, H (z.x, _) (.head _)⟩
  · rcases List.mem_cons.mp ha with rfl | ha
    · exact ⟨_, H (z.dx, _) (.tail _ (.head _))⟩
    · rw [List.mem_singleton.mp ha]; exact ⟨_, H (z.el, _) (.tail _ (.tail _ (.head _)))⟩
theorem lzObjs_addr {P : Params} {o : Array UInt8} {z : LZ} {p : Addr × Obj} (hp : p ∈ lzObjs P o z) : p.1 ∈ z.addrs := by
  unfold LZ.addrs
  rcases List.mem_cons.mp hp with rfl | hp
  · exact .head _
  · rcases List.mem_cons.mp hp with rfl | hp
    · exact .tail _ (.head _)
    · rw [List.mem_singleton.mp hp]; exact .tail _ (.tail _ (.head _))
theorem x_mem (z : LZ) : z.x ∈ z.addrs := .head _

/-- two of them with one address are one -/
theorem Store.inj {P : Params} {o : Array UInt8} {H0 h : Heap} {fl : List Addr} {Z : List LZ} (S : Store P o H0 fl h Z) {z w : LZ} (hz : z ∈ Z) (hw : w ∈ Z) (e : w.x = z.x) : w = z := by
  have D := S.disj
  clear S
  induction Z with
  | nil => cases hz
  | cons a r ih =>
    obtain ⟨D1, D2⟩ := List.pairwise_cons.mp D
    rcases List.mem_cons.mp hz with rfl | hz' <;> rcases List.mem_cons.mp hw with rfl | hw'
    · rfl
    · exact absurd (x_mem w) (by rw [e]; intro q; exact D1 w hw' z.x (x_mem z) (by rw [← e]; exact x_mem w))
    · exact absurd (x_mem z) (fun q => D1 z hz' w.x (x_mem w) (by rw [e]; exact x_mem z))
    · exact ih hz' hw' D2

def putZ (Z : List LZ) (z' : LZ) : List LZ := Z.map fun w => if w.x = z'.x then z' else w
theorem putZ_le {P : Params} {o : Array UInt8} {H0 h : Heap} {fl : List Addr} {Z : List LZ} (S : Store P o H0 fl h Z) {z z' : LZ} (hz : z ∈ Z) (s : z.Same z') : Zle Z (putZ Z z') := by
  intro w hw
  refine ⟨_, List.mem_map_of_mem hw, ?_⟩
  by_cases q : w.x = z'.x
  · rw [if_pos q]
    have := S.inj hz hw (by rw [q, s.x]); subst this
    exact s
  · rw [if_neg q]; exact .refl w
theorem putZ_mem {Z : List LZ} {z' w : LZ} (h : w ∈ putZ Z z') : w = z' ∨ (w ∈ Z ∧ w.x ≠ z'.x) := by
  obtain ⟨v, hv, e⟩ := List.mem_map.mp h
  by_cases q : v.x = z'.x
  · rw [if_pos q] at e; exact .inl e.symm
  · rw [if_neg q] at e; subst e; exact .inr ⟨hv, q⟩
theorem putZ_in {Z : List LZ} {z z' : LZ} (hz : z ∈ Z) (e : z.x = z'.x) : z' ∈ putZ Z z' := by
  have := List.mem_map_of_mem (f := fun w : LZ => if w.x = z'.x then z' else w) hz
  rw [if_pos e] at this; exact this
theorem Zle.append (Z Y : List LZ) : Zle Z (Z ++ Y) := fun z h => ⟨z, List.mem_append_left _ h, .refl z⟩

theorem pairwise_put {Z : List LZ} {z z' : LZ} (hz : z ∈ Z) (s : z.Same z') (inj : ∀ w ∈ Z, w.x = z.x → w = z) (D : Z.Pairwise fun z w => ∀ a ∈ z.addrs, a ∉ w.addrs) :
    (putZ Z z').Pairwise fun z w => ∀ a ∈ z.addrs, a ∉ w.addrs := by
  have e : ∀ w ∈ Z, (if w.x = z'.x then z' else w).addrs = w.addrs := fun w hw => by
    by_cases q : w.x = z'.x
    · rw [if_pos q]; have := inj w hw (by rw [q, s.x]); subst this; exact s.addrs
    · rw [if_neg q]
  refine List.pairwise_map.mpr ?_
  refine List.Pairwise.imp_of_mem (fun {a b} ha hb hab => ?_) D
  rw [e a ha, e b hb]; exact hab

/-- one of them moves on; some are new -/
theorem Store.upd {P : Params} {o : Array UInt8} {H0 h h' : Heap} {fl : List Addr} {Z : List LZ} {z z' : LZ} {ys : List LZ} (S : Store P o H0 fl h Z) (hst : Sub H0 h) (hfr : ∀ a ∈ fl, ∃ ob, h.get? a = some ob) (hz : z ∈ Z) (s : z.Same z') (hin : LzIn P o h' z') (k : SubX z.addrs h h')
    (hy : ∀ y ∈ ys, LzNew P o h h' y.b y.e y ∧ 0 ≤ y.b) (hyd : ys.Pairwise fun z w => ∀ a ∈ z.addrs, a ∉ w.addrs)
    (hr : ∃ items, Run o z'.e z'.b items z'.idx ∧ VAll (putZ Z z' ++ ys) z'.its items) : Store P o H0 fl h' (putZ Z z' ++ ys) := by
  have ex : z.x = z'.x := s.x.symm
  have le : Zle Z (putZ Z z' ++ ys) := (putZ_le S hz s).trans (Zle.append _ _)
  have fr : ∀ y ∈ ys, ∀ a ∈ y.addrs, h.get? a = none := fun y hyy a ha => by
    obtain ⟨⟨_, ⟨f1, f2, f3⟩, _, _⟩, _⟩ := hy y hyy
    unfold LZ.addrs at ha
    rcases List.mem_cons.mp ha with rfl | ha
    · exact f1
    · rcases List.mem_cons.mp ha with rfl | ha
      · exact f2
      · rw [List.mem_singleton.mp ha]; exact f3
  refine ⟨fun w hw => ?_, fun w hw => ?_, fun w hw a ha => ?_, ?_, fun w hw => ?_⟩
  · rcases List.mem_append.mp hw with hw | hw
    · rcases putZ_mem hw with rfl | ⟨hw, ne⟩
      · exact hin
      · intro p hp
        refine k _ _ (S.there w hw p hp) fun q => ?_
        have hpa := lzObjs_addr hp
        have D := S.disj
        have key : ∀ {Y : List LZ}, Y.Pairwise (fun z w => ∀ a ∈ z.addrs, a ∉ w.addrs) → ∀ {u v : LZ}, u ∈ Y → v ∈ Y → u.x ≠ v.x → ∀ a, a ∈ u.addrs → a ∈ v.addrs → False := by
          intro Y D
          induction Y with
          | nil => intro u v hu; cases hu
          | cons y r ih =>
            obtain ⟨D1, D2⟩ := List.pairwise_cons.mp D
            intro u v hu hv hn a ha hb
            rcases List.mem_cons.mp hu with rfl | hu2 <;> rcases List.mem_cons.mp hv with rfl | hv2
            · exact hn rfl
            · exact D1 v hv2 a ha hb
            · exact D1 u hu2 a hb ha
            · exact ih D2 hu2 hv2 hn a ha hb
        exact key D hw hz (by rw [ex]; exact ne) _ hpa q
    · exact (hy w hw).1.there
  · rcases List.mem_append.mp hw with hw | hw
    · rcases putZ_mem hw with rfl | ⟨hw, _⟩
      · have := S.apart z hz
        unfold LZ.apart at this ⊢
        rw [s.x, s.dx, s.el]; exact this
      · exact S.apart w hw
    · exact (hy w hw).1.apart
  · rcases List.mem_append.mp hw with hw | hw
    · rcases putZ_mem hw with rfl | ⟨hw, _⟩
      · rw [s.addrs] at ha; exact S.own z hz a ha
      · exact S.own w hw a ha
    · have f := fr w hw a ha
      refine ⟨Sub.none hst f, fun q => ?_⟩
      obtain ⟨ob, e⟩ := hfr a q
      rw [f] at e; cases e
  · refine List.pairwise_append.mpr ⟨pairwise_put hz s (fun w hw e => S.inj hz hw e) S.disj, hyd, fun a ha b hb c hca hcb => ?_⟩
    have f := fr b hb c hcb
    have hc : ∃ ob, h.get? c = some ob := by
      rcases putZ_mem ha with rfl | ⟨ha, _⟩
      · rw [s.addrs] at hca; exact lzIn_at (S.there z hz) c hca
      · exact lzIn_at (S.there a ha) c hca
    obtain ⟨ob, e⟩ := hc
    rw [f] at e; cases e
  · rcases List.mem_append.mp hw with hw | hw
    · rcases putZ_mem hw with rfl | ⟨hw, _⟩
      · exact ⟨by rw [s.b]; exact (S.runs z hz).1, hr⟩
      · obtain ⟨a, items, r, v⟩ := S.runs w hw
        exact ⟨a, items, r, v.mono le⟩
    · obtain ⟨⟨_, _, _, e1, e2, e3, e4, e5⟩, h0⟩ := hy w hw
      exact ⟨h0, [], by rw [e3]; exact .nil, by rw [e4]; trivial⟩
end Mine

namespace Mine

def Stop59 (P : Prop) : Prop := P
theorem stop59 {P : Prop} (h : Stop59 P) : P := h

section
variable {H0 G h h' : Heap} {xs : List (Addr × Obj)} {l : List Env} {e : Addr} {cls a0 : Value}
theorem Flew.keeps (R : Flew H0 G xs l e cls a0 h) (k : Sub h h') : Flew H0 G xs l e cls a0 h' := by
  obtain ⟨nc, u, B, hB, kk, hx, f⟩ := R
  exact ⟨fun q => (nc q).sub k, u.trans (Heap.UpToSlots.of_keeps k), B, hB, kk, hx, flying_keeps f k⟩
theorem Flew.ty {M : Model} (R : Flew H0 G xs l e cls a0 h) : Looks M h (typeOf (.ref e)) cls := by
  obtain ⟨_, _, B, _, _, _, f⟩ := R
  obtain ⟨ob, hob, hc⟩ := f.there
  subst hc
  exact (Looks.ld hob).andThen .now
theorem Flew.fr {L : Addr} {m : Str → Option Value} (R : Flew H0 G xs l e cls a0 h) (F : Fr H0 L G m) : Fr H0 L h m := F.of_stays R.stays R.2.1
end

section
variable {prog : Program} {w : World} {A : Around} {E : Value → Shared → Prop} {s : Shared} {H0 G : Heap} {xs : List (Addr × Obj)} {l : List Env} {L a e : Addr} {m mg mb : Str → Option Value} {name : Str} {scope : Scope} {cd cls a0 : Value}
  {n : Str} {b₀ : Stmt} {suite : List Stmt} {pos : Pos} {rest hs : List ExceptHandler} {Q : Flow → Shared → Prop} {KF : Frag} {tt : Expr} {nm : Option Str} {body : List Stmt} {p : Program} {loose : List Str} {mean : ExcName → Option Value}

/-- a clause that does not match -/
theorem clauseMiss (R : Flew H0 G xs (envOf name scope L a cd :: l) e cls a0 s.heap) (F : Fr H0 L G m) (X : KF.In H0) (T : Top p loose mean mg mb H0) (C : KtsTest prog w KF p loose mg mb name scope L a cd cls tt false)
    (k : ∀ h', Flew H0 G xs (envOf name scope L a cd :: l) e cls a0 h' → wpAny (model prog w) A (handleBy (.ref e) (envOf name scope L a cd) rest) Q E { s with heap := h' }) :
    wpAny (model prog w) A (handleBy (.ref e) (envOf name scope L a cd) (.ExceptHandler (some tt) nm body pos :: rest)) Q E s := by
  refine wpAny_handleBy_cons (codeAny_handlers_test (C _ _ _ _ H0 e m (R.fr F) X (topRead_of T) R.ty fun h' kp => ?_)) (by intro q; cases q)
  exact k h' (R.keeps kp)

/-- a clause that matches -/
theorem clauseHit (R : Flew H0 G xs (envOf name scope L a cd :: l) e cls a0 s.heap) (F : Fr H0 L G m) (X : KF.In H0) (T : Top p loose mean mg mb H0) (C : KtsTest prog w KF p loose mg mb name scope L a cd cls tt true)
    (k : ∀ h', Flew H0 G xs (envOf name scope L a cd :: l) e cls a0 h' →
      wpAny (model prog w) (A.mark (some (.ref e))) (execs (b₀ :: suite) (envOf name scope L a cd)) Q (notedBy (model prog w) (A.mark (some (.ref e))) (envOf name scope L a cd) (cameBackBy (model prog w) A (envOf name scope L a cd) E)) { s with heap := h' }) :
    wpAny (model prog w) A (handleBy (.ref e) (envOf name scope L a cd) (.ExceptHandler (some tt) none (b₀ :: suite) pos :: rest)) Q E s := by
  refine wpAny_handleBy_cons (codeAny_handlers_test (C _ _ _ _ H0 e m (R.fr F) X (topRead_of T) R.ty fun h' kp => ?_)) (by intro q; cases q)
  exact codeAny_handlers_suite (landsAgain (R.keeps kp) fun h'' R'' => k h'' R'')

/-- no clause matches: on, out of the frame -/
theorem passLeave {R1 : Value → Shared → Prop} {E2 : Value → Shared → Value → Shared → Prop} {env : Env} (hf : env.frame = some L) (R : Flew H0 G xs (env :: l) e cls a0 s.heap) {A' : Around}
    (k : ∀ h', (∀ G', Sub G' G → G'.get? L = none → Flew H0 G' xs l e cls a0 h') → R1 (.ref e) { s with heap := h' }) :
    wpAny (model prog w) A (handleBy (.ref e) env []) Q (fun v s' => wpAny (model prog w) A' (leaving env v) (fun _ s'' => R1 v s'') (E2 v s') s') s := by
  obtain ⟨nc, u, B, hB, kk, hx, f1, f2, f3, f4⟩ := R
  refine wpAny_handleBy_nil ?_
  unfold PySem.passOn
  obtain ⟨oe, vs, T, oT, ts, he, ⟨hcls, h0⟩, hd, h1, hnT, hTe, hT, hdT, h3⟩ := f4
  refine wpAny_bind (wpAny_field he hd h1 ?_)
  rw [if_neg (by simp)]
  refine wpAny_bind ?_
  refine wpAny_keepsIf (keeps_setFlight _ _) nc ?_
  unfold PySem.setFlight
  refine wpAny_bind (wpAny_field he hd h1 ?_)
  rw [if_pos (show (Value.ref T != Value.none) = true from by simp)]
  refine wpAny_setField hT hdT (Array.getElem?_eq_some_iff.mp h3).1 fun nc1 => wpAny_throw ?_
  rw [hf] at nc1 ⊢
  have other : ∀ b, b ≠ T → (s.heap.update T (Obj.mapFields (·.setIfInBounds 3 ((some L : Option Addr).elim Value.none fun f => rawInt f)))).get? b = s.heap.get? b := fun b hb => Heap.get?_update_other _ _ (Ne.symm hb)
  have noRecord : ∀ b o, s.heap.get? b = some o → (∀ vs, o.data ≠ .fields vs) → b ≠ T := fun b o hb hnf q => by
    rw [q, hT] at hb; injection hb with hb; subst hb; exact hnf ts hdT
  have held : Heap.HeldW B (env :: l) e cls a0 L (s.heap.update T (Obj.mapFields (·.setIfInBounds 3 ((some L : Option Addr).elim Value.none fun f => rawInt f)))) := by
    refine ⟨fun b o hbo => (other b fun q => by rw [q, hnT] at hbo; cases hbo).trans (f1 b o hbo), f2, f3.of_keeps fun b o hb hnf => ⟨o, (other b (noRecord b o hb hnf)).trans hb, rfl⟩, ?_⟩
    refine ⟨oe, vs, T, _, _, (other e (Ne.symm hTe)).trans he, ⟨hcls, h0⟩, hd, h1, hnT, hTe, Heap.get?_update_self _ hT (Obj.isFreed_of_fields (Obj.data_mapFields hdT _)), Obj.data_mapFields hdT _, ?_⟩
    simp [(Array.getElem?_eq_some_iff.mp h3).1]
  refine wpAny_keepsIf (keeps_leaving _ _) nc1 ?_
  have upS : s.heap.UpToSlots (s.heap.update T (Obj.mapFields (·.setIfInBounds 3 ((some L : Option Addr).elim Value.none fun f => rawInt f)))) := fun b o hb hn => ⟨o.slots, (other b (noRecord b o hb hn)).trans hb⟩
  unfold PySem.leaving
  refine wpAny_bind (wpAny_noteFrame_againW hf held.2.2.2 ?_)
  refine wpAny_landsW held fun h' hfl up nc2 => ?_
  obtain ⟨k1, k2, ⟨_, _, k3⟩, k4⟩ := hfl
  refine k h' fun G' hG hGL => ⟨nc2, (((Heap.UpToSlots.of_keeps hG).trans u).trans upS).trans up, B, hB, fun b o q n => kk b o (hG b o q) fun hm => ?_, hx, k1, k2, k3, k4⟩
  rcases mem_fra_cons hf hm with z | z
  · rw [z, hGL] at q; cases q
  · exact n z

/-- a while by an invariant and a measure -/
theorem While_I {env : Env} {test : Expr} {body : List Stmt} (I : Nat → Shared → Prop) (hE : PassesOwn (model prog w) A env E)
    (turn : ∀ n s, I n s → wpAny (model prog w) A (isTrue test env (eval test env)) (fun b s₂ => if b then wpAny (model prog w) A (execs body env) (fun f s₃ => match f with
            | .next | .cont => ∃ m, m < n ∧ I m s₃
            | .brk => Q .next s₃
            | .ret v => Q (.ret v) s₃) E s₂ else Q .next s₂) E s)
    (n : Nat) (h : I n s) : wpAny (model prog w) A (exec (.While test body [] pos) env) Q E s := by
  refine wpAny_While (codeAny_whileLoop I (fun n s hI => ?_) n h)
  refine wpAny_passesOwn hE (wpAny_mono (turn n s hI) (fun b s₂ h₂ => ?_) fun _ _ x => x)
  cases b with
  | true =>
    simp only [if_true] at h₂ ⊢
    exact wpAny_passesOwn hE (wpAny_mono h₂ (fun f s₃ h₃ => by cases f <;> exact h₃) fun _ _ x => x)
  | false =>
    simp only [Bool.false_eq_true, if_false] at h₂ ⊢
    exact wpAny_pure h₂
theorem entry_unchain : entryFor table "proto.unchain" = some Builtin.«proto.unchain» := entryFor_of_tree (by kernel_rfl)

/-- a new exception is thrown while another is handled -/
theorem raiseNew_ctx {α : Type} {c ee : Addr} {oe : Obj} {vs : Array Value} {Q : α → Shared → Prop} (hh : A.handled = some (.ref c)) (hN : NoCtx c s.heap) (hne : ee ≠ c) (he : s.heap.get? ee = some oe) (hd : oe.data = .fields vs) (hz : 2 < vs.size)
    (h : E (.ref ee) { s with heap := s.heap.update ee (Obj.mapFields (·.setIfInBounds 2 (.ref c))) }) : wpAny (model prog w) A (raiseNew (.ref ee) : Sem α) Q E s := by
  obtain ⟨oc, vc, hc, hcd, hc2⟩ := hN
  unfold raiseNew
  refine wpAny_bind (wpAny_handled ?_)
  rw [hh]
  dsimp only
  have hb : (Value.ref c != Value.ref ee) = true := by simp [Ne.symm hne]
  rw [hb]
  simp only [if_true]
  refine wpAny_bind (wpAny_holding (wpAny_runValue (codeAny_builtin entry_unchain ?_)))
  unfold Builtin.«proto.unchain»
  dsimp only
  refine wpAny_bind (wpAny_field hc hcd hc2 ?_)
  rw [if_pos (by decide)]
  refine wpAny_bind (wpAny_pure (wpAny_pure ?_))
  unfold updateField
  refine wpAny_bind (wpAny_bind (wpAny_load he ?_))
  rw [hd]
  dsimp only
  rw [if_pos hz]
  exact wpAny_update he (wpAny_throw h)

/-- raise of a new built-in exception while another is handled -/
theorem Raise_ctx {env : Env} {x : Expr} {c : Addr} {M : Model} (hM : M = model prog w) (hh : A.handled = some (.ref c))
    (h : wpAny M A (eval x env) (Raisable fun v s₁ => NoCtx c s₁.heap ∧ ∃ ee oe vs, v = .ref ee ∧ ee ≠ c ∧ s₁.heap.get? ee = some oe ∧ oe.data = .fields vs ∧ 2 < vs.size ∧ E v { s₁ with heap := s₁.heap.update ee (Obj.mapFields (·.setIfInBounds 2 (.ref c))) }) E s) :
    wpAny M A (exec (.Raise (some x) none pos) env) Q E s := by
  subst hM
  show wpAny _ A (do standAt pos; raiseStmt env (some (do let v ← eval x env; standAt pos; pure v)) none) Q E s
  refine wpAny_bind (wpAny_standAt ?_)
  unfold raiseStmt
  dsimp only
  refine wpAny_bind (wpAny_bind (wpAny_mono h (fun v s₁ h₁ => wpAny_bind (wpAny_standAt (wpAny_pure ?_))) fun _ _ x => x))
  obtain ⟨a, ob, vs, X, N, I, hc, rfl, ha, hcls, hd, h1, hN, ee, oe, ws, hv, hne, hee, hed, hz, hE⟩ := h₁
  obtain rfl : a = ee := Value.ref.inj hv
  rw [ha] at hee
  obtain rfl := Option.some.inj hee
  rw [hd] at hed
  have hed := Data.fields.inj hed
  subst hed
  have hT : s₁.TypeIs (.ref a) X := ⟨ob, ha, hcls⟩
  have hnt : ∀ {Q' : Bool → Shared → Prop}, Q' false s₁ → wpAny (model prog w) A (isType (.ref a)) Q' E s₁ := by
    intro Q' hq
    simp only [isType, loadHead]
    refine wpAny_bind (wpAny_loadPart ha ?_)
    rw [hd]; exact wpAny_pure hq
  refine wpAny_bind (wpAny_pure ?_)
  dsimp only
  refine wpAny_bind (wpAny_holding ?_)
  unfold excFromValue isExcClass
  refine wpAny_bind (wpAny_bind (hnt ?_))
  simp only [Bool.false_eq_true, if_false]
  refine wpAny_pure ?_
  simp only [Bool.false_eq_true, if_false]
  refine wpAny_bind (wpAny_isInstance hT hc.base ?_)
  simp only [if_true]
  refine wpAny_pure ?_
  refine wpAny_bind (hnt ?_)
  simp only [Bool.false_eq_true, if_false]
  unfold raisedInstance
  refine wpAny_bind (wpAny_bind (wpAny_typeOf hT (wpAny_bind (m := typeOf (.type X)) (wpAny_pure ?_))))
  rw [if_pos hc.metaType]
  refine wpAny_pure ?_
  refine wpAny_bind ?_
  unfold PySem.setFlight
  refine wpAny_bind (wpAny_field ha hd h1 ?_)
  rw [if_neg (by decide)]
  refine wpAny_pure ?_
  exact raiseNew_ctx hh hN hne ha hd hz hE

/-- an assertion that holds, wherever -/
theorem Assert_so {M : Model} {env : Env} {test : Expr} (h : wpAny M A (isTrue test env (eval test env)) (fun b s₁ => b = true ∧ Q .next s₁) E s) : wpAny M A (exec (.Assert test none pos) env) Q E s := by
  rw [arm_exec_Assert]
  refine wpAny_bind (wpAny_standAt (wpAny_bind (wpAny_mono h (fun b s₁ h₁ => ?_) fun _ _ x => x)))
  obtain ⟨rfl, h₁⟩ := h₁
  exact wpAny_pure h₁
end

section
variable {w : World}
theorem nm_stop : KtsName (hd.heap_39 w.params) (Str.ofString "StopIteration") (.type "StopIteration") := .inr ⟨by kernel_rfl, by boot_by_name, by decide⟩
theorem nm_index : KtsName (hd.heap_39 w.params) (Str.ofString "IndexError") (.type "IndexError") := .inr ⟨by kernel_rfl, by boot_by_name, by decide⟩
theorem nm_assert : KtsName (hd.heap_39 w.params) (Str.ofString "AssertionError") (.type "AssertionError") := .inr ⟨by kernel_rfl, by boot_by_name, by decide⟩
theorem nm_dec : KtsName (hd.heap_39 w.params) (Str.ofString "DecodingError") (.ref 46) := .inl (by kernel_rfl)
theorem ex_is : exmOne (hd.heap_39 w.params) (.type "IndexError") (.type "StopIteration") = some false := by kernel_rfl
theorem ex_as : exmOne (hd.heap_39 w.params) (.type "AssertionError") (.type "StopIteration") = some false := by kernel_rfl
theorem ex_ds : exmOne (hd.heap_39 w.params) (.ref 46) (.type "StopIteration") = some false := by kernel_rfl
theorem ex_ss : exmOne (hd.heap_39 w.params) (.type "StopIteration") (.type "StopIteration") = some true := by kernel_rfl
theorem ex_ii : exmOne (hd.heap_39 w.params) (.type "IndexError") (.type "IndexError") = some true := by kernel_rfl
theorem ex_ai : exmOne (hd.heap_39 w.params) (.type "AssertionError") (.type "IndexError") = some false := by kernel_rfl
theorem ex_di : exmOne (hd.heap_39 w.params) (.ref 46) (.type "IndexError") = some false := by kernel_rfl
theorem ex_aa : exmOne (hd.heap_39 w.params) (.type "AssertionError") (.type "AssertionError") = some true := by kernel_rfl
theorem ex_da : exmOne (hd.heap_39 w.params) (.ref 46) (.type "AssertionError") = some false := by kernel_rfl
theorem ex_dd : exmOne (hd.heap_39 w.params) (.ref 46) (.ref 46) = some true := by kernel_rfl
theorem ex3_i : exmAny (hd.heap_39 w.params) (.type "IndexError") [.type "IndexError", .type "AssertionError", .ref 46] = some true := by kernel_rfl
theorem ex3_a : exmAny (hd.heap_39 w.params) (.type "AssertionError") [.type "IndexError", .type "AssertionError", .ref 46] = some true := by kernel_rfl
theorem ex3_d : exmAny (hd.heap_39 w.params) (.ref 46) [.type "IndexError", .type "AssertionError", .ref 46] = some true := by kernel_rfl
end

section
variable {prog : Program} {w : World} {A A' : Around} {s : Shared} {H0 G : Heap} {l : List Env} {L a e : Addr} {m mg mb : Str → Option Value} {name : Str} {scope : Scope} {cd : Value} {f : Fault}
  {pos np : Pos} {Q : Flow → Shared → Prop} {body : List Stmt} {mean : ExcName → Option Value} {R1 : Value → Shared → Prop} {E2 : Value → Shared → Value → Shared → Prop}

/-- an «except StopIteration» lets the other faults pass -/
theorem tryPassStop (hA : A.frames = some (envOf name scope L a cd :: l)) (R : FlewF H0 G (envOf name scope L a cd :: l) e s.heap f) (hns : f ≠ .stop) (F : Fr H0 L G m) (X : (hd.heap_39 w.params).In H0) (T : TT mean mg mb H0)
    (k : ∀ h', (∀ G', Sub G' G → G'.get? L = none → FlewF H0 G' l e h' f) → R1 (.ref e) { s with heap := h' })
    (hk : scope.kind = .function := by rfl) (hx : (envOf name scope L a cd).kindOf (Str.ofString "StopIteration") = some .globalImplicit := by rfl) :
    wpAny (model prog w) A (noteFrame (.ref e) (envOf name scope L a cd))
      (fun _ s₂ => wpAny (model prog w) A (PySem.setFlight (.ref e) none) (fun _ s₃ =>
        wpAny (model prog w) A (handleBy (.ref e) (envOf name scope L a cd) [.ExceptHandler (some (.Name (Str.ofString "StopIteration") np)) none body pos]) Q (fun v s' => wpAny (model prog w) A' (leaving (envOf name scope L a cd) v) (fun _ s'' => R1 v s'') (E2 v s') s') s₃)
        (fun v s' => wpAny (model prog w) A' (leaving (envOf name scope L a cd) v) (fun _ s'' => R1 v s'') (E2 v s') s') s₂)
      (fun v s' => wpAny (model prog w) A' (leaving (envOf name scope L a cd) v) (fun _ s'' => R1 v s'') (E2 v s') s') s := by
  cases f with
  | stop => exact absurd rfl hns
  | index =>
    obtain ⟨a0, R⟩ := R
    exact landsOn hA rfl R fun h5 R5 => clauseMiss R5 F X T (test_name nm_stop ex_is hk hx (by decide)) fun h6 R6 => passLeave rfl R6 fun h7 hk => k h7 fun G' p q => ⟨a0, hk G' p q⟩
  | assert =>
    obtain ⟨a0, R⟩ := R
    exact landsOn hA rfl R fun h5 R5 => clauseMiss R5 F X T (test_name nm_stop ex_as hk hx (by decide)) fun h6 R6 => passLeave rfl R6 fun h7 hk => k h7 fun G' p q => ⟨a0, hk G' p q⟩
  | dec msg =>
    obtain ⟨t, tk, R⟩ := R
    exact landsOn hA rfl R fun h5 R5 => clauseMiss R5 F X T (test_name nm_stop ex_ds hk hx (by decide)) fun h6 R6 => passLeave rfl R6 fun h7 hk => k h7 fun G' p q => ⟨t, tk, hk G' p q⟩
end
end Mine

namespace Mine
set_option maxHeartbeats 1000000 in
theorem mod_idx {prog : Program} {w : World} {A : Around} {E : Value → Shared → Prop} {s : Shared} {i : Int} {t u : Tok} {Q : Value → Shared → Prop} (h0 : 0 ≤ i) (h1 : i ≤ 100)
    (h : ∀ T t' k, Q (.str T t') { s with toks := k }) : wpAny (model prog w) A (binaryOp .Mod (.str (Str.ofString "Index %s out of range") t) (.int i u)) Q E s := by
  refine' KPc.mod_int ?kpcF ?kpcl ?kpch ?kpcm ?_
  (case kpcF => kpc_eq)
  (case kpcl => omega)
  (case kpch => omega)
  (case kpcm => kpc_run)
  exact fun t' k => h _ t' k
end Mine

namespace Mine

def zAddrs (Z : List LZ) : List Addr := Z.flatMap LZ.addrs
def Fault.asked : Fault → Fault
  | .stop => .index
  | f => f

theorem Store.weaken {P : Params} {o : Array UInt8} {H0 h : Heap} {fl : List Addr} {L : Addr} {Z : List LZ} (S : Store P o H0 (L :: fl) h Z) : Store P o H0 fl h Z :=
  ⟨S.there, S.apart, fun z hz a ha => ⟨(S.own z hz a ha).1, fun q => (S.own z hz a ha).2 (.tail _ q)⟩, S.disj, S.runs⟩
theorem Store.enter {P : Params} {o : Array UInt8} {H0 h h' : Heap} {fl : List Addr} {Z : List LZ} (S : Store P o H0 fl h Z) (k : Sub h h') : Store P o H0 (h.objs.size :: fl) h' Z :=
  ⟨fun z hz p hp => k _ _ (S.there z hz p hp), S.apart, fun z hz a ha => ⟨(S.own z hz a ha).1, fun q => by
    rcases List.mem_cons.mp q with q | q
    · obtain ⟨ob, e⟩ := lzIn_at (S.there z hz) a ha
      have := Heap.lt_size e
      rw [q] at this; exact absurd this (Nat.lt_irrefl _)
    · exact (S.own z hz a ha).2 q⟩, S.disj, S.runs⟩
theorem Store.hide {P : Params} {o : Array UInt8} {H0 h : Heap} {fl : List Addr} {L : Addr} {Z : List LZ} (S : Store P o H0 (L :: fl) h Z) : Store P o H0 fl (hideAll h [L]) Z :=
  ⟨fun z hz p hp => hideAll_get _ (S.there z hz p hp) fun q => (S.own z hz p.1 (lzObjs_addr hp)).2 (by
    rw [List.mem_singleton.mp q]; exact .head _), S.apart, S.weaken.own, S.disj, S.runs⟩
theorem Store.len {P : Params} {o : Array UInt8} {H0 h : Heap} {fl : List Addr} {Z : List LZ} (S : Store P o H0 fl h Z) {z : LZ} (hz : z ∈ Z) : z.its.length ≤ (KBw.bInts o).length ∧ 0 ≤ z.idx := by
  obtain ⟨a, items, r, v⟩ := S.runs z hz
  rw [v.length]
  exact ⟨r.len a, by have := (r.go a).1; omega⟩
theorem get_map {P : Prop} {g h : Heap} {L : Addr} {m : Str → Option Value} (F : Fr g L h m) (k : ∀ m', m' = m → Fr g L h m' → P) : P := k m rfl F
theorem lz_news {P : Params} {o : Array UInt8} {g h : Heap} {L : Addr} {z : LZ} (H : LzIn P o h z) (hL : L ∉ z.addrs) (hg : ∀ a ∈ z.addrs, g.get? a = none) : News g L h (lzObjs P o z) := fun p hp =>
  ⟨H p hp, fun q => hL (q ▸ lzObjs_addr hp), hg _ (lzObjs_addr hp)⟩

theorem frSubX {g h h' : Heap} {L : Addr} {ws : List Addr} {m : Str → Option Value} (F : Fr g L h m) (k : SubX ws h h') (hL : L ∉ ws) (hg : ∀ a ∈ ws, g.get? a = none) : Fr g L h' m :=
  let ⟨o, es, ep, ho, r⟩ := F.ns; ⟨⟨o, es, ep, k _ _ ho hL, r⟩, fun b o e => k b o (F.keep b o e) (fun q => by rw [hg b q] at e; cases e), F.above⟩
theorem fr_there {g h : Heap} {L : Addr} {m : Str → Option Value} {A : Around} {H0 : Heap} {l : List Env} (F : Fr g L h m) (B : Below A H0 l g) : ∀ a ∈ L :: l.filterMap (·.frame), ∃ ob, h.get? a = some ob := by
  intro a ha
  rcases List.mem_cons.mp ha with rfl | ha
  · obtain ⟨o, _, _, e, _⟩ := F.ns; exact ⟨o, e⟩
  · obtain ⟨_, o, e, _⟩ := B.frames.mem ha; exact ⟨o, F.keep _ _ e⟩
/-- all but the addresses ws stays, and the frames fl but for their slots -/
def TurnX (ws fl : List Addr) (g h : Heap) : Prop := ∀ b o, g.get? b = some o → b ∉ ws → (b ∉ fl → h.get? b = some o) ∧ ∃ sl, h.get? b = some { o with slots := sl }
theorem TurnX.of_sub {ws fl : List Addr} {g h : Heap} (k : SubX ws g h) : TurnX ws fl g h := fun b o e n => ⟨fun _ => k b o e n, o.slots, k b o e n⟩
theorem TurnX.hide {ws fl : List Addr} {g h : Heap} {L : Addr} (k : TurnX ws fl g h) (hL : g.get? L = none) : TurnX ws fl g (hideAll h [L]) := fun b o e n => by
  obtain ⟨p, sl, q⟩ := k b o e n
  have hb : b ∉ [L] := fun m => by rw [List.mem_singleton.mp m, hL] at e; cases e
  exact ⟨fun f => hideAll_get _ (p f) hb, sl, hideAll_get _ q hb⟩
theorem turnX_of {ws : List Addr} {s G h : Heap} {l : List Env} {env : Env} {L : Addr} {A : Around} {H0 : Heap} (B0 : Below A H0 l s) (hsub : SubX ws s G) (T : Turn (env :: l) G h) (hf : env.frame = some L) (hL : s.get? L = none) : TurnX ws (l.filterMap (·.frame)) s h := fun b o e n => by
  have hG := hsub b o e n
  have key : b ∉ l.filterMap (·.frame) → h.get? b = some o := fun nb => T.2 b o hG fun q => by
    rcases mem_fra_cons hf q with z | z
    · rw [z, hL] at e; cases e
    · exact nb z
  refine ⟨key, ?_⟩
  by_cases hb : b ∈ l.filterMap (·.frame)
  · obtain ⟨_, o', e', nf⟩ := B0.frames.mem hb
    rw [e] at e'; obtain rfl := Option.some.inj e'
    exact T.1 b o hG nf
  · exact ⟨o.slots, key hb⟩
theorem Store.turn {P : Params} {o : Array UInt8} {H0 G h : Heap} {l : List Env} {env : Env} {Z : List LZ} {L : Addr} (hf : env.frame = some L) (S : Store P o H0 (L :: l.filterMap (·.frame)) G Z) (T : Turn (env :: l) G h) : Store P o H0 (L :: l.filterMap (·.frame)) h Z :=
  ⟨fun z hz p hp => T.2 _ _ (S.there z hz p hp) fun q => (S.own z hz _ (lzObjs_addr hp)).2 (by
    rcases mem_fra_cons hf q with z | z
    · rw [z]; exact .head _
    · exact .tail _ z), S.apart, S.own, S.disj, S.runs⟩
theorem nextFault_final {o : Array UInt8} {j : Int} {f f' : Fault} {found its : List Item} {z z' : LZ} (F : Final o z.b z.e found j f) (s : z.Same z') (R : Run o z'.e z'.b its z'.idx) (NF : NextFault o z' f') : its.length = found.length ∧ f' = f := by
  rw [s.b, s.e] at R
  unfold NextFault at NF
  rw [s.e] at NF
  obtain ⟨a, _, c, d⟩ := F.next R
  have el : its.length = found.length := by
    rcases Nat.lt_or_eq_of_le a with h | h
    · exfalso
      obtain ⟨u, k, v⟩ := d _ (List.getElem?_eq_getElem h)
      rcases NF with ⟨n, _⟩ | ⟨n, _⟩ | ⟨_, n⟩
      · omega
      · omega
      · rw [step_none_of_fault n] at v; cases v
    · exact h
  refine ⟨el, ?_⟩
  have := c el
  rw [this] at NF
  rcases NF with ⟨n, rfl⟩ | ⟨n, rfl⟩ | ⟨m, n⟩ <;> rcases F.2 with ⟨p, rfl⟩ | ⟨p, rfl⟩ | ⟨q, p⟩ <;> first | rfl | omega | (rw [n] at p; exact St.fault.inj p)
theorem step_octets {o : Array UInt8} {i b e : Int} (h : stretch o i = .octets b e) : step o i = some (.bs (KBy.picked o (some b) (some e)), e) := by unfold step; rw [h]
theorem step_lst {o : Array UInt8} {i b e : Int} (h : stretch o i = .lst b e) : step o i = some (.ls b e, e) := by unfold step; rw [h]

local macro_rules | `(tactic| k_room) => `(tactic| ((try simp only [depth_under_make, depth_under_kw, depth_in1, depth_deeper, depth_caller]); (try dsimp only [AT]); omega))
local macro_rules | `(tactic| walk_at "call builtin:len") => `(tactic| (k_here; (with_reducible show wpAny _ _ (call (Value.builtin "len") [Value.ref _]) _ _ _); (with_reducible rename News _ _ _ _ => N'); k_dflt (refine' len_list (items := List.toArray _) (News.isList N' ?k1) ?k2 ?_; (case k1 => k_mem); (case k2 => (rw [List.size_toArray]; omega)); k_whole); (try rw [List.size_toArray])))

local macro_rules | `(tactic| walk_at "exec While Compare cons nil") => `(tactic| (k_here; refine stop59 ?_))
local macro_rules | `(tactic| walk_at "call ref") => `(tactic| (k_here; (with_reducible show wpAny _ _ (call (Value.ref 106) _) _ _ _); refine stop59 ?_))
local macro_rules | `(tactic| walk_at "exec Assert") => `(tactic| (k_here; refine Assert_so ?_))
local macro_rules | `(tactic| walk_at "exec Raise some none") => `(tactic| (k_here; refine Raise_ctx rfl rfl ?_))
local macro_rules | `(tactic| walk_at "binaryOp Mod str int") => `(tactic| (k_here; k_dflt (refine mod_idx (by assumption) (by assumption) (fun T t' k => ?_))))
local macro_rules | `(tactic| walk_at "call type:IndexError") => `(tactic| (refine stop59 ?_))
local macro_rules | `(tactic| walk_at "call type") => `(tactic| (refine stop59 ?_))
theorem clpS_faults {o : Array UInt8} {i : Int} {f : Fault} (h : clpS o i = .fault f) : f = .index ∨ ∃ m, f = .dec m := by
  unfold clpS at h
  dsimp only at h
  split at h
  · injection h with e; exact .inl e.symm
  · split at h
    · cases h
    · split at h
      · split at h
        · split at h
          · injection h with e; exact .inl e.symm
          · split at h
            · injection h with e; exact .inr ⟨_, e.symm⟩
            · cases h
        · cases h
      · split at h
        · split at h
          · injection h with e; exact .inr ⟨_, e.symm⟩
          · split at h
            · injection h with e; exact .inr ⟨_, e.symm⟩
            · cases h
        · split at h
          · cases h
          · split at h
            · injection h with e; exact .inr ⟨_, e.symm⟩
            · split at h
              · injection h with e; exact .inr ⟨_, e.symm⟩
              · cases h
theorem stretch_faults {o : Array UInt8} {i : Int} {f : Fault} (h : stretch o i = .fault f) : f = .index ∨ ∃ m, f = .dec m := by
  unfold stretch at h
  split at h
  · rename_i q; injection h with e; subst e; exact clpS_faults q
  · cases h
  · cases h
theorem item_val {prog : Program} {w : World} {A : Around} {s : Shared} {Q : Value → Shared → Prop} {E : Value → Shared → Prop} {value slice : Expr} {l : Addr} {vs : List Value} {x : Value} {i : Int} {u : Tok} (hl : s.heap.IsList l vs.toArray) (h0 : 0 ≤ i) (hfit : i < 2 ^ 63) (hx : vs[i.toNat]? = some x) (h : Q x s)
    (hs : subscripted slice false (.ref l) (.int i u) = operate [.ref l, .int i u] (getItem (.ref l) (.int i u)) := by with_unfolding_all rfl) :
    wpAny (model prog w) A (subscriptTail value slice (.ref l) (.int i u)) Q E s := by
  exact tail_any hl.typeIs slot_list_getitem.lookup (wpAny_getItem_list hl h0 hfit (x := x) (by simpa using hx) h) hs
set_option maxHeartbeats 2000000 in
theorem get_spec : ∀ (w : World) (mean : ExcName → Option Value) (mg mb : Str → Option Value) (dp un : Nat) (gd : Option (List Code)) (l : List Env) (H0 : Heap) (s : Shared) (Q E : Value → Shared → Prop) (o : Array UInt8) (ks : List Int) (Z : List LZ) (z : LZ) (i : Int) (ti : Tok) (found : List Item) (j : Int) (f : Fault),
    Below (AT dp un gd l) H0 l s.heap → (hd.heap_39 w.params).In H0 → TT mean mg mb H0 → dp + 80 < recursionLimit → un + 400 < cLine → KBw.bInts o = ks → ks.length ≤ 100 →
    Store w.params o H0 (l.filterMap (·.frame)) s.heap Z → z ∈ Z → 0 ≤ i → i ≤ 100 → Final o z.b z.e found j f → H0.objs.size ≤ s.heap.objs.size →
    (∀ v Z' h' tk' it, found[i.toNat]? = some it → Store w.params o H0 (l.filterMap (·.frame)) h' Z' → Zle Z Z' → VIs Z' v it → SubX (zAddrs Z) s.heap h' → Q v { s with heap := h', toks := tk' }) →
    (∀ e Z' G h' tk', found[i.toNat]? = none → Store w.params o H0 (l.filterMap (·.frame)) G Z' → Zle Z Z' → TurnX (zAddrs Z) (l.filterMap (·.frame)) s.heap G → FlewF H0 G l e h' f.asked → E (.ref e) { s with heap := h', toks := tk' }) →
    wpAny (model PySem.Challenge.rw_ve0059_01.row.prog w) (AT dp un gd l) (call (.ref 113) [.ref z.x, .int i ti]) Q E s := by
  k_fill
  intro w mean mg mb dp un gd l H0 s Q E o ks Z z i ti found j f B0 X0 T0 hdp hun hb hks hS hzZ hi0 hi1 hFin hH0 hret hexc
  have X : (hd.heap_39 w.params).In s.heap := X0.keeps B0.stays
  have T : TT mean mg mb s.heap := T0.keeps B0.stays
  have hg : Sub (hideAll s.heap (zAddrs Z)) s.heap := fun _ _ e => of_hideAll _ e
  have hmem : ∀ a ∈ zAddrs Z, H0.get? a = none ∧ a ∉ l.filterMap (·.frame) := fun a ha => by
    obtain ⟨y, hy, hya⟩ := List.mem_flatMap.mp ha
    exact hS.own y hy a hya
  have st : Sub H0 (hideAll s.heap (zAddrs Z)) := fun b o e => hideAll_get _ (B0.stays b o e) fun q => by rw [(hmem b q).1] at e; cases e
  have B : Below (AT dp un gd l) H0 l (hideAll s.heap (zAddrs Z)) := ⟨B0.stack, st, funFrames_hideAll B0.frames fun env he a ha hf => (hmem a ha).2 (List.mem_filterMap.mpr ⟨env, he, hf⟩)⟩
  have XB : (hd.heap_39 w.params).In (hideAll s.heap (zAddrs Z)) := X0.keeps st
  have TB : TT mean mg mb (hideAll s.heap (zAddrs Z)) := T0.keeps st
  refine wpAny_call ?_
  k_dflt (refine' enterF [(Str.ofString "self", .ref z.x), (Str.ofString "i", .int i ti)] X T.nolimit ?ho ?hcd ?hroom ?hbind ?hloc (fun h₁ F0 => ?_) ?c1 ?c2 ?c3 ?c4; (case ho => k_is); (case hcd => k_is); (case hroom => show dp < _; omega); (case hbind => exact BindsTo.of_eq rfl); (case hloc => rfl); (case c1 => rfl); (case c2 => rfl); (case c3 => rfl); (case c4 => decide))
  dsimp only
  (show wpAny _ _ _ _ _ _)
  k_steps
  rename Fr _ _ _ _ => F0
  have hF1 : ∃ h m, Fr s.heap s.heap.objs.size h m := ⟨_, _, F0⟩
  have hK1 := F0.keep
  have F1 : Fr (hideAll s.heap (zAddrs Z)) s.heap.objs.size _ _ := ⟨F0.ns, hg.trans F0.keep, Nat.le_of_eq (hideAll_size _ _)⟩
  clear F0
  refine get_map F1 (fun m hm F2 => ?_)
  refine While_I (fun n s' => ∃ h' tk' Z' z', s' = { s with heap := h', toks := tk' } ∧ Fr (hideAll s.heap (zAddrs Z)) s.heap.objs.size h' m ∧ Store w.params o H0 (s.heap.objs.size :: l.filterMap (·.frame)) h' Z' ∧ z' ∈ Z' ∧ z.Same z' ∧ Zle Z Z' ∧ SubX (zAddrs Z) s.heap h' ∧ n = (i + 1).toNat - z'.its.length) (by passes_own) (fun n s' hI => ?_) ((i + 1).toNat - z.its.length) ?_
  · clear F1 F2
    obtain ⟨h', tk', Z', z', rfl, F, hS', hz', hsame, hle, hsub, hn⟩ := hI
    subst hm
    have N : News (hideAll s.heap (zAddrs Z)) s.heap.objs.size h' (lzObjs w.params o z') := lz_news (hS'.there z' hz') (fun q => (hS'.own z' hz' _ q).2 (.head _)) (fun a ha => hideAll_none _ (List.mem_flatMap.mpr ⟨z, hzZ, hsame.addrs ▸ ha⟩))
    have hln := (hS'.len hz').1
    rw [hb] at hln
    dsimp only [lzObjs, lzDict] at N
    rw [hsame.x] at N
    k_steps
    · (show wpAny _ _ (call (Value.ref 106) [.ref z.x]) _ _ _)
      refine (congrArg (fun v => wpAny _ _ (call (Value.ref 106) [Value.ref v]) _ _ _) hsame.x).mp ?_
      have hwm : ∀ a ∈ z'.addrs, (hideAll s.heap (zAddrs Z)).get? a = none := fun a ha => hideAll_none _ (List.mem_flatMap.mpr ⟨z, hzZ, hsame.addrs ▸ ha⟩)
      have hLm : s.heap.objs.size ∉ z'.addrs := fun q => (hS'.own z' hz' _ q).2 (.head _)
      obtain ⟨hb0, items, hrun, hval⟩ := hS'.runs z' hz'
      have hsz : z'.its.toArray.size = z'.its.length := List.size_toArray
      refine next_spec _ _ _ _ _ _ _ _ _ _ _ _ _ ks z' (B.push F) X0 T0 (by dsimp only [Around.deeper]; omega) (by dsimp only [Around.deeper]; omega) hb hks (hS'.there z' hz') (hS'.apart z' hz') (hS'.own z' hz') (hS'.len hz').2 (by omega) (fun b e tb z'' h'' tk'' hin hlt hst hsm hidx hits hsx => ?_) (fun b e y z'' h'' tk'' hin hlt hst hsm hidx hits hnew hsx => ?_) (fun f' e z'' G h'' tk'' hin hnf hsm hidx hits hsx hfl => ?_)
      · dsimp only
        refine wpAny_execs_nil ?_
        refine ⟨(i + 1).toNat - z''.its.length, by rw [hits, hn, List.length_append, List.length_singleton]; omega, h'', tk'', _, z'', rfl, frSubX F hsx hLm hwm,
          hS'.upd (ys := []) (Sub.trans st F.keep) (fr_there F B) hz' hsm hin hsx (fun _ q => nomatch q) .nil ⟨items ++ [_], by rw [hsm.e, hsm.b, hidx]; exact .snoc hrun hlt (step_octets hst), by rw [hits]; exact (hval.mono ((putZ_le hS' hz' hsm).trans (Zle.append _ _))).snoc (show VIs _ _ (.bs _) from ⟨_, rfl⟩)⟩,
          List.mem_append_left _ (putZ_in hz' hsm.x.symm), hsame.trans hsm, hle.trans ((putZ_le hS' hz' hsm).trans (Zle.append _ _)), hsub.trans (hsx.mono fun a ha => List.mem_flatMap.mpr ⟨z, hzZ, hsame.addrs ▸ ha⟩), rfl⟩
      · dsimp only
        refine wpAny_execs_nil ?_
        obtain ⟨n1, n2, n3, i1, i2, i3, i4, i5⟩ := hnew
        have hy0 : 0 ≤ y.b := by rw [i1]; exact ((step_go (hS'.len hz').2 (step_lst hst)).2.2 b e rfl).1
        have hsize : 0 < 1 := Nat.one_pos
        refine ⟨(i + 1).toNat - z''.its.length, by rw [hits, hn, List.length_append, List.length_singleton]; omega, h'', tk'', _, z'', rfl, frSubX F hsx hLm hwm,
          hS'.upd (ys := [y]) (Sub.trans st F.keep) (fr_there F B) hz' hsm hin hsx (fun u q => by obtain rfl := List.mem_singleton.mp q; exact ⟨⟨n1, n2, n3, rfl, rfl, by rw [i3, i1], i4, i5⟩, hy0⟩) (List.pairwise_singleton _ _) ⟨items ++ [_], by rw [hsm.e, hsm.b, hidx]; exact .snoc hrun hlt (step_lst hst), by rw [hits]; exact (hval.mono ((putZ_le hS' hz' hsm).trans (Zle.append _ _))).snoc (show VIs _ _ (.ls _ _) from ⟨y, List.mem_append_right _ (.head _), rfl, i1, i2⟩)⟩,
          List.mem_append_left _ (putZ_in hz' hsm.x.symm), hsame.trans hsm, hle.trans ((putZ_le hS' hz' hsm).trans (Zle.append _ _)), hsub.trans (hsx.mono fun a ha => List.mem_flatMap.mpr ⟨z, hzZ, hsame.addrs ▸ ha⟩), rfl⟩
      · obtain ⟨hlen, rfl⟩ := nextFault_final hFin hsame hrun hnf
        have hSG := hS'.upd (ys := []) (Sub.trans st F.keep) (fr_there F B) hz' hsm hin hsx (fun _ q => nomatch q) .nil ⟨items, by rw [hsm.e, hsm.b, hidx]; exact hrun, by rw [hits]; exact hval.mono ((putZ_le hS' hz' hsm).trans (Zle.append _ _))⟩
        have FG := frSubX F hsx hLm hwm
        have hleG : Zle Z _ := hle.trans ((putZ_le hS' hz' hsm).trans (Zle.append _ []))
        have hsubG : SubX (zAddrs Z) s.heap G := hsub.trans (hsx.mono fun a ha => List.mem_flatMap.mpr ⟨z, hzZ, hsame.addrs ▸ ha⟩)
        have hnone : found[i.toNat]? = none := List.getElem?_eq_none (by rw [← hlen, ← hval.length]; omega)
        have FGH : Fr H0 s.heap.objs.size G _ := ⟨FG.ns, Sub.trans st FG.keep, hH0⟩
        have hsubL : SubX (zAddrs Z) s.heap (hideAll G [s.heap.objs.size]) := fun b o e n => hideAll_get _ (hsubG b o e n) fun q => by
          rw [List.mem_singleton.mp q] at e; exact absurd (Heap.lt_size e) (Nat.lt_irrefl _)
        by_cases hstop : f' = .stop
        · subst hstop
          obtain ⟨a0, R⟩ := hfl
          have hidxe : z''.idx = z''.e := by rw [hidx, hsm.e]; rcases hnf with ⟨q, _⟩ | ⟨_, q⟩ | ⟨_, q⟩; exact q; cases q; rcases stretch_faults q with q | ⟨_, q⟩ <;> cases q
          refine landsOn (by exact (B.push F).stack) rfl R fun h5 R5 => clauseHit R5 FGH X0 T0 (test_name nm_stop ex_ss rfl rfl (by decide)) (fun h6 R6 => ?_)
          refine wpAny_passesOwnAt (by passes_own) ?_
          have F6 := R6.fr FGH
          have hz6 : z'' ∈ putZ Z' z'' ++ [] := List.mem_append_left _ (putZ_in hz' hsm.x.symm)
          have N6 : News H0 s.heap.objs.size h6 (lzObjs w.params o z'') := lz_news (fun p hp => R6.turn.2 _ _ (hSG.there _ hz6 p hp) (hSG.own _ hz6 _ (lzObjs_addr hp)).2) (fun q => (hSG.own _ hz6 _ q).2 (.head _)) (fun a ha => (hSG.own _ hz6 _ ha).1)
          dsimp only [lzObjs, lzDict] at N6
          rw [hsm.x, hsame.x] at N6
          clear B F XB TB
          try (rename News (hideAll _ _) _ _ _ => Nx; clear Nx)
          k_steps
          refine (?_ : wpAny _ _ (call (Value.type "IndexError") _) _ _ _)
          refine call_exc excClass_IndexError (fun h7 e7 hx7 => raisable_of_new excClass_IndexError hx7 ?_) (hrest := by show 1 ≤ _; decide)
          have k7 : Sub h6 h7 := hx7.keeps
          have nc := R6.1 rfl
          obtain ⟨oc, vc, hc1, hc2, hc3⟩ := nc
          have hne7 : e7 ≠ e := fun q => by have := hx7.new; rw [q, hc1] at this; cases this
          obtain ⟨ob, tp, he7, hcl7, hd7⟩ := hx7.there
          have hL0 : s.heap.get? s.heap.objs.size = none := Heap.get?_none_of_le (Nat.le_refl _)
          have other : ∀ b, b ≠ e7 → (h7.update e7 (Obj.mapFields (·.setIfInBounds 2 (.ref e)))).get? b = h7.get? b := fun b hb => Heap.get?_update_other _ _ (Ne.symm hb)
          have k8 : Sub h6 (h7.update e7 (Obj.mapFields (·.setIfInBounds 2 (.ref e)))) := fun b o q => (other b fun z => by rw [z, hx7.new] at q; cases q).trans (k7 b o q)
          refine ⟨(R6.1 rfl).sub k7, e7, ob, _, rfl, hne7, he7, hd7, by simp, ?_⟩
          have T6 := R6.turn
          obtain ⟨_, _, F0⟩ := hF1
          refine leaveRaw (H0 := H0) (B0.push F0).stack (fun b o q => k8 b o (R6.stays b o q)) (R6.frames.of_keeps fun b o q _ => ⟨o, k8 b o q, rfl⟩) rfl (Heap.get?_update_self _ he7 (Obj.isFreed_of_fields (Obj.data_mapFields hd7 _))) (Obj.data_mapFields hd7 _) (a0 := tp) (by simp) (by simp) (fun q => ?_) (Sub.none R6.stays hx7.new) fun h9 hF => ?_
          · rw [Obj.cls_mapFields, hcl7] at q; exact absurd (Value.type.inj q) (by decide)
          · rw [Obj.cls_mapFields, hcl7] at hF
            exact hexc _ _ (hideAll h6 [s.heap.objs.size]) _ _ hnone (Store.turn rfl hSG T6).hide hleG ((turnX_of B0 hsubG T6 rfl hL0).hide hL0) ⟨tp, hF _ [] (fun b o q => k8 b o (of_hideAll _ q)) (hide_none _ _) (Sub.none (fun b o q => of_hideAll [s.heap.objs.size] q) hx7.new) (fun _ q => nomatch q)⟩
        · have hask : f'.asked = f' := by cases f' <;> first | rfl | exact absurd rfl hstop
          refine tryPassStop (by exact (B.push F).stack) hfl hstop FGH X0 T0 (fun h7 hk7 => ?_)
          exact hexc _ _ _ _ _ hnone hSG.hide hleG (.of_sub hsubL) (by rw [hask]; exact hk7 _ (hide_sub _ _) (hide_none _ _))
    · obtain ⟨hb0, items, hrun, hval⟩ := hS'.runs z' hz'
      rw [hsame.e, hsame.b] at hrun
      obtain ⟨p1, p2, _, _⟩ := hFin.next hrun
      by_cases hin : i.toNat < z'.its.length
      · have hf : ∃ it, found[i.toNat]? = some it := ⟨_, List.getElem?_eq_getElem (by have := hval.length; omega)⟩
        obtain ⟨it, hit⟩ := hf
        have hit2 : items[i.toNat]? = some it := by rw [p2, List.getElem?_take_of_lt (by have := hval.length; omega)]; exact hit
        obtain ⟨v, hv1, hv2⟩ := hval.get hit2
        refine item_val (News.isList (by assumption) (.tail _ (.tail _ (.head _)))) hi0 (by omega) hv1 ?_
        dsimp only
        exact hret v Z' h' _ it hit hS'.weaken hle hv2 hsub
      · exfalso; have hsz : z'.its.toArray.size = z'.its.length := List.size_toArray; omega
  · refine ⟨_, _, Z, z, rfl, F2, hS.enter hK1, hzZ, .refl z, fun w hw => ⟨w, hw, .refl w⟩, fun b o e _ => hK1 b o e, rfl⟩
end Mine

namespace Mine

local macro_rules | `(tactic| k_room) => `(tactic| ((try simp only [depth_under_make, depth_under_kw, depth_in1, depth_deeper, depth_caller]); (try dsimp only [AT]); omega))
local macro_rules | `(tactic| walk_at "call builtin:len") => `(tactic| (k_here; (with_reducible show wpAny _ _ (call (Value.builtin "len") [Value.ref _]) _ _ _); (with_reducible rename News _ _ _ _ => N'); k_dflt (refine' len_list (items := List.toArray _) (News.isList N' ?k1) ?k2 ?_; (case k1 => k_mem); (case k2 => (rw [List.size_toArray]; omega)); k_whole); (try rw [List.size_toArray])))
local macro_rules | `(tactic| walk_at "exec While") => `(tactic| (k_here; refine stop59 ?_))
local macro_rules | `(tactic| walk_at "exec While Constant cons nil") => `(tactic| (k_here; refine stop59 ?_))
local macro_rules | `(tactic| walk_at "call ref") => `(tactic| (k_here; (with_reducible show wpAny _ _ (call (Value.ref 106) _) _ _ _); refine stop59 ?_))
/-- a heap's first n places -/
def cut (h : Heap) (n : Nat) : Heap := { h with objs := h.objs.extract 0 n }
theorem cut_size (h : Heap) (n : Nat) : (cut h n).objs.size ≤ n := by unfold cut; simp [Array.size_extract]; omega
theorem cut_lo {h : Heap} {n b : Nat} (hb : b < n) : (cut h n).get? b = h.get? b := by
  unfold cut Heap.get?
  dsimp only
  rw [Array.getElem?_extract]
  rcases Nat.lt_or_ge b h.objs.size with q | q
  · rw [if_pos (by omega), Nat.zero_add]
  · rw [if_neg (by omega), Array.getElem?_eq_none q]
theorem of_cut {h : Heap} {n b : Nat} {o : Obj} (e : (cut h n).get? b = some o) : h.get? b = some o := by
  rw [← cut_lo (Nat.lt_of_lt_of_le (Heap.lt_size e) (cut_size h n))]; exact e
theorem TurnX.cut {ws fl : List Addr} {g h h' : Heap} {n : Nat} (k : TurnX ws fl g h) (hn : g.objs.size ≤ n) (s : Sub (hideAll (cut h n) ws) h') : TurnX ws fl g h' := fun b o e nb => by
  obtain ⟨p, sl, q⟩ := k b o e nb
  have hb : b < n := Nat.lt_of_lt_of_le (Heap.lt_size e) hn
  exact ⟨fun f => s b o (hideAll_get _ ((cut_lo hb).trans (p f)) nb), sl, s _ _ (hideAll_get _ ((cut_lo hb).trans q) nb)⟩
set_option maxHeartbeats 2000000 in
theorem len_spec : ∀ (w : World) (mean : ExcName → Option Value) (mg mb : Str → Option Value) (dp un : Nat) (gd : Option (List Code)) (l : List Env) (H0 : Heap) (s : Shared) (Q E : Value → Shared → Prop) (o : Array UInt8) (ks : List Int) (Z : List LZ) (z : LZ) (found : List Item) (j : Int) (f : Fault),
    Below (AT dp un gd l) H0 l s.heap → (hd.heap_39 w.params).In H0 → TT mean mg mb H0 → dp + 80 < recursionLimit → un + 400 < cLine → KBw.bInts o = ks → ks.length ≤ 100 →
    Store w.params o H0 (l.filterMap (·.frame)) s.heap Z → z ∈ Z → z.len = .none → Final o z.b z.e found j f → H0.objs.size ≤ s.heap.objs.size →
    (∀ h' tk' t, f = .stop → TurnX (zAddrs Z) (l.filterMap (·.frame)) s.heap h' → Q (.int found.length t) { s with heap := h', toks := tk' }) →
    (∀ e G h' tk', f ≠ .stop → TurnX (zAddrs Z) (l.filterMap (·.frame)) s.heap G → FlewF H0 G l e h' f → E (.ref e) { s with heap := h', toks := tk' }) →
    wpAny (model PySem.Challenge.rw_ve0059_01.row.prog w) (AT dp un gd l) (call (.ref 120) [.ref z.x]) Q E s := by
  k_fill
  intro w mean mg mb dp un gd l H0 s Q E o ks Z z found j f B0 X0 T0 hdp hun hb hks hS hzZ hzl hFin hH0 hret hexc
  have X : (hd.heap_39 w.params).In s.heap := X0.keeps B0.stays
  have T : TT mean mg mb s.heap := T0.keeps B0.stays
  have hg : Sub (hideAll s.heap (zAddrs Z)) s.heap := fun _ _ e => of_hideAll _ e
  have hmem : ∀ a ∈ zAddrs Z, H0.get? a = none ∧ a ∉ l.filterMap (·.frame) := fun a ha => by
    obtain ⟨y, hy, hya⟩ := List.mem_flatMap.mp ha
    exact hS.own y hy a hya
  have st : Sub H0 (hideAll s.heap (zAddrs Z)) := fun b o e => hideAll_get _ (B0.stays b o e) fun q => by rw [(hmem b q).1] at e; cases e
  have B : Below (AT dp un gd l) H0 l (hideAll s.heap (zAddrs Z)) := ⟨B0.stack, st, funFrames_hideAll B0.frames fun env he a ha hf => (hmem a ha).2 (List.mem_filterMap.mpr ⟨env, he, hf⟩)⟩
  have XB : (hd.heap_39 w.params).In (hideAll s.heap (zAddrs Z)) := X0.keeps st
  have TB : TT mean mg mb (hideAll s.heap (zAddrs Z)) := T0.keeps st
  refine wpAny_call ?_
  k_dflt (refine' enterF [(Str.ofString "self", .ref z.x)] X T.nolimit ?ho ?hcd ?hroom ?hbind ?hloc (fun h₁ F0 => ?_) ?c1 ?c2 ?c3 ?c4; (case ho => k_is); (case hcd => k_is); (case hroom => show dp < _; omega); (case hbind => exact BindsTo.of_eq rfl); (case hloc => rfl); (case c1 => rfl); (case c2 => rfl); (case c3 => rfl); (case c4 => decide))
  have hF1 : ∃ h m, Fr s.heap s.heap.objs.size h m := ⟨_, _, F0⟩
  have hK1 := F0.keep
  have F1 : Fr (hideAll s.heap (zAddrs Z)) s.heap.objs.size _ _ := ⟨F0.ns, hg.trans F0.keep, Nat.le_of_eq (hideAll_size _ _)⟩
  have N : News (hideAll s.heap (zAddrs Z)) s.heap.objs.size h₁ (lzObjs w.params o z) := fun p hp => ⟨F0.keep _ _ (hS.there z hzZ p hp), Nat.ne_of_lt (Heap.lt_size (hS.there z hzZ p hp)), hideAll_none _ (List.mem_flatMap.mpr ⟨z, hzZ, lzObjs_addr hp⟩)⟩
  dsimp only [lzObjs, lzDict] at N
  rw [hzl] at N
  clear F0
  dsimp only
  (show wpAny _ _ _ _ _ _)
  k_steps
  (show wpAny _ _ _ _ _ _)
  rename Fr _ _ _ _ => F1
  refine get_map F1 (fun m hm F2 => ?_)
  refine While_I (fun n s' => ∃ h' tk' Z' z', s' = { s with heap := h', toks := tk' } ∧ Fr (hideAll s.heap (zAddrs Z)) s.heap.objs.size h' m ∧ Store w.params o H0 (s.heap.objs.size :: l.filterMap (·.frame)) h' Z' ∧ z' ∈ Z' ∧ z.Same z' ∧ Zle Z Z' ∧ SubX (zAddrs Z) s.heap h' ∧ n = found.length - z'.its.length) (by passes_own) (fun n s' hI => ?_) (found.length - z.its.length) ?_
  · clear F1 F2
    try (rename News _ _ _ _ => Nx; clear Nx)
    obtain ⟨h', tk', Z', z', rfl, F, hS', hz', hsame, hle, hsub, hn⟩ := hI
    subst hm
    have N : News (hideAll s.heap (zAddrs Z)) s.heap.objs.size h' (lzObjs w.params o z') := lz_news (hS'.there z' hz') (fun q => (hS'.own z' hz' _ q).2 (.head _)) (fun a ha => hideAll_none _ (List.mem_flatMap.mpr ⟨z, hzZ, hsame.addrs ▸ ha⟩))
    have hln := (hS'.len hz').1
    rw [hb] at hln
    dsimp only [lzObjs, lzDict] at N
    rw [hsame.x] at N
    k_steps
    (show wpAny _ _ (call (Value.ref 106) [.ref z.x]) _ _ _)
    refine (congrArg (fun v => wpAny _ _ (call (Value.ref 106) [Value.ref v]) _ _ _) hsame.x).mp ?_
    have hwm : ∀ a ∈ z'.addrs, (hideAll s.heap (zAddrs Z)).get? a = none := fun a ha => hideAll_none _ (List.mem_flatMap.mpr ⟨z, hzZ, hsame.addrs ▸ ha⟩)
    have hLm : s.heap.objs.size ∉ z'.addrs := fun q => (hS'.own z' hz' _ q).2 (.head _)
    obtain ⟨hb0, items, hrun, hval⟩ := hS'.runs z' hz'
    have hvl := hval.length
    refine next_spec _ _ _ _ _ _ _ _ _ _ _ _ _ ks z' (B.push F) X0 T0 (by dsimp only [Around.deeper]; omega) (by dsimp only [Around.deeper]; omega) hb hks (hS'.there z' hz') (hS'.apart z' hz') (hS'.own z' hz') (hS'.len hz').2 (by omega) (fun b e tb z'' h'' tk'' hin hlt hst hsm hidx hits hsx => ?_) (fun b e y z'' h'' tk'' hin hlt hst hsm hidx hits hnew hsx => ?_) (fun f' e z'' G h'' tk'' hin hnf hsm hidx hits hsx hfl => ?_)
    · dsimp only
      refine wpAny_execs_nil ?_
      have hrun2 : Run o z'.e z'.b (items ++ [_]) e := .snoc hrun hlt (step_octets hst)
      have hle2 : (items ++ [_]).length ≤ found.length := (hFin.next (by rw [← hsame.b, ← hsame.e]; exact hrun2)).1
      rw [List.length_append, List.length_singleton] at hle2
      refine ⟨found.length - z''.its.length, by rw [hits, hn, List.length_append, List.length_singleton]; omega, h'', tk'', _, z'', rfl, frSubX F hsx hLm hwm,
        hS'.upd (ys := []) (Sub.trans st F.keep) (fr_there F B) hz' hsm hin hsx (fun _ q => nomatch q) .nil ⟨items ++ [_], by rw [hsm.e, hsm.b, hidx]; exact hrun2, by rw [hits]; exact (hval.mono ((putZ_le hS' hz' hsm).trans (Zle.append _ _))).snoc (show VIs _ _ (.bs _) from ⟨_, rfl⟩)⟩,
        List.mem_append_left _ (putZ_in hz' hsm.x.symm), hsame.trans hsm, hle.trans ((putZ_le hS' hz' hsm).trans (Zle.append _ _)), hsub.trans (hsx.mono fun a ha => List.mem_flatMap.mpr ⟨z, hzZ, hsame.addrs ▸ ha⟩), rfl⟩
    · dsimp only
      refine wpAny_execs_nil ?_
      obtain ⟨n1, n2, n3, i1, i2, i3, i4, i5⟩ := hnew
      have hrun2 : Run o z'.e z'.b (items ++ [_]) e := .snoc hrun hlt (step_lst hst)
      have hle2 : (items ++ [_]).length ≤ found.length := (hFin.next (by rw [← hsame.b, ← hsame.e]; exact hrun2)).1
      rw [List.length_append, List.length_singleton] at hle2
      have hy0 : 0 ≤ y.b := by rw [i1]; exact ((step_go (hS'.len hz').2 (step_lst hst)).2.2 b e rfl).1
      refine ⟨found.length - z''.its.length, by rw [hits, hn, List.length_append, List.length_singleton]; omega, h'', tk'', _, z'', rfl, frSubX F hsx hLm hwm,
        hS'.upd (ys := [y]) (Sub.trans st F.keep) (fr_there F B) hz' hsm hin hsx (fun u q => by obtain rfl := List.mem_singleton.mp q; exact ⟨⟨n1, n2, n3, rfl, rfl, by rw [i3, i1], i4, i5⟩, hy0⟩) (List.pairwise_singleton _ _) ⟨items ++ [_], by rw [hsm.e, hsm.b, hidx]; exact hrun2, by rw [hits]; exact (hval.mono ((putZ_le hS' hz' hsm).trans (Zle.append _ _))).snoc (show VIs _ _ (.ls _ _) from ⟨y, List.mem_append_right _ (.head _), rfl, i1, i2⟩)⟩,
        List.mem_append_left _ (putZ_in hz' hsm.x.symm), hsame.trans hsm, hle.trans ((putZ_le hS' hz' hsm).trans (Zle.append _ _)), hsub.trans (hsx.mono fun a ha => List.mem_flatMap.mpr ⟨z, hzZ, hsame.addrs ▸ ha⟩), rfl⟩
    · obtain ⟨hlen, rfl⟩ := nextFault_final hFin hsame hrun hnf
      have hSG := hS'.upd (ys := []) (Sub.trans st F.keep) (fr_there F B) hz' hsm hin hsx (fun _ q => nomatch q) .nil ⟨items, by rw [hsm.e, hsm.b, hidx]; exact hrun, by rw [hits]; exact hval.mono ((putZ_le hS' hz' hsm).trans (Zle.append _ _))⟩
      have FG := frSubX F hsx hLm hwm
      have hsubG : SubX (zAddrs Z) s.heap G := hsub.trans (hsx.mono fun a ha => List.mem_flatMap.mpr ⟨z, hzZ, hsame.addrs ▸ ha⟩)
      have FGH : Fr H0 s.heap.objs.size G _ := ⟨FG.ns, Sub.trans st FG.keep, hH0⟩
      have hsubL : SubX (zAddrs Z) s.heap (hideAll G [s.heap.objs.size]) := fun b o e n => hideAll_get _ (hsubG b o e n) fun q => by
        rw [List.mem_singleton.mp q] at e; exact absurd (Heap.lt_size e) (Nat.lt_irrefl _)
      by_cases hstop : f' = .stop
      · subst hstop
        obtain ⟨a0, R⟩ := hfl
        refine landsOn (by exact (B.push F).stack) rfl R fun h5 R5 => clauseHit R5 FGH X0 T0 (test_name nm_stop ex_ss rfl rfl (by decide)) (fun h6 R6 => ?_)
        refine wpAny_passesOwnAt (by passes_own) ?_
        have F6 := R6.fr FGH
        have hz6 : z'' ∈ putZ Z' z'' ++ [] := List.mem_append_left _ (putZ_in hz' hsm.x.symm)
        have st6 : Sub H0 (hideAll (cut h6 s.heap.objs.size) (zAddrs Z)) := fun b o e => hideAll_get _ ((cut_lo (Nat.lt_of_lt_of_le (Heap.lt_size e) hH0)).trans (R6.stays b o e)) fun q => by rw [(hmem b q).1] at e; cases e
        have F7 : Fr (hideAll (cut h6 s.heap.objs.size) (zAddrs Z)) s.heap.objs.size h6 _ := ⟨F6.ns, fun b o e => of_cut (of_hideAll _ e), by rw [hideAll_size]; exact cut_size _ _⟩
        have X6 : (hd.heap_39 w.params).In (hideAll (cut h6 s.heap.objs.size) (zAddrs Z)) := X0.keeps st6
        have T7 : TT mean mg mb (hideAll (cut h6 s.heap.objs.size) (zAddrs Z)) := T0.keeps st6
        have hL0 : s.heap.get? s.heap.objs.size = none := Heap.get?_none_of_le (Nat.le_refl _)
        have TX := turnX_of B0 hsubG R6.turn rfl hL0
        try (rename News (hideAll _ _) _ _ _ => Nx; clear Nx)
        have N6 : News (hideAll (cut h6 s.heap.objs.size) (zAddrs Z)) s.heap.objs.size h6 (lzObjs w.params o z'') := lz_news (fun p hp => R6.turn.2 _ _ (hSG.there _ hz6 p hp) (hSG.own _ hz6 _ (lzObjs_addr hp)).2) (fun q => (hSG.own _ hz6 _ q).2 (.head _)) (fun a ha => hideAll_none _ (List.mem_flatMap.mpr ⟨z, hzZ, (hsame.trans hsm).addrs ▸ ha⟩))
        have hln2 : z''.its.length ≤ ks.length := by rw [hits]; exact hln
        dsimp only [lzObjs, lzDict] at N6
        rw [hsm.x, hsame.x] at N6
        have ap6 := hSG.apart _ hz6
        unfold LZ.apart at ap6
        rw [hsm.x, hsame.x] at ap6
        have a1 := neN ap6.1
        have a2 := neN ap6.2.1
        have a3 := neN ap6.2.2
        clear B F XB TB F6 FGH FG
        k_steps
        dsimp only
        rename Fr _ _ _ _ => F9
        have e7 : (z''.its.toArray.size : Int) = (found.length : Int) := by rw [List.size_toArray, hits, hvl, hlen]
        rw [e7]
        exact hret _ _ _ rfl (TX.cut (Nat.le_refl _) F9.keep)
      · refine tryPassStop (by exact (B.push F).stack) hfl hstop FGH X0 T0 (fun h7 hk7 => ?_)
        exact hexc _ _ _ _ hstop (.of_sub hsubL) (hk7 _ (hide_sub _ _) (hide_none _ _))
  · refine ⟨_, _, Z, z, rfl, F2, hS.enter hK1, hzZ, .refl z, fun w hw => ⟨w, hw, .refl w⟩, fun b o e _ => hK1 b o e, rfl⟩
end Mine

namespace Mine

local macro_rules | `(tactic| k_room) => `(tactic| ((try simp only [depth_under_make, depth_under_kw, depth_in1, depth_deeper, depth_caller]); (try dsimp only [AT]); omega))
local macro_rules | `(tactic| walk_at "exec Raise some none") => `(tactic| (k_here; refine Raise_dec rfl ?_))
local macro_rules | `(tactic| walk_at "call ref") => `(tactic| (k_here; (with_reducible show wpAny _ _ (call (Value.ref 46) _) _ _ _); k_dflt (refine' mkDec ?k1 ?k2 ?k3 ?k4 ?_; (case k1 => k_in); (case k2 => exact Top.keeps (by k_asm) (Fr.keep (by k_asm))); (case k3 => (dsimp only [Around.deeper]; omega)); (case k4 => (dsimp only [Around.deeper]; omega)); k_whole); intro h' e' t' tk' hx'))
local macro_rules | `(tactic| walk_at "call ref") => `(tactic| (k_here; (with_reducible show wpAny _ _ (call (Value.ref 84) _) _ _ _); refine stop59 ?_))
local macro_rules | `(tactic| walk_at "leaving ref") => `(tactic| (k_here; (with_reducible rename Fr _ _ _ _ => F'); (with_reducible rename Below _ _ _ _ => B'); ((with_reducible rename MadeD _ _ _ _ _ => x'); k_dflt (refine leaveDec B' F' x' (fun h' hF => ?_)); k_dflt (replace hF := hF _ (hide_sub _ _) (hide_none _ _)))))
local macro_rules | `(tactic| walk_at "noteFrame ref") => `(tactic| (k_here; refine stop59 ?_))
def LZ.setKd (z : LZ) (k : Value) : LZ := ⟨z.x, z.dx, z.el, k, z.b, z.e, z.idx, z.its, z.len, z.k0, z.k1, z.k2, z.k3, z.k4, z.k5, z.k6, z.k7, z.k8, z.k9, z.k10, z.k11, z.ep⟩
theorem lzNew_kd {P : Params} {o : Array UInt8} {g h : Heap} {L : Addr} {news : List (Addr × Obj)} {z : LZ} {kd : Value} {b e : Int} (N : News g L h news) (h1 : (z.x, instObj 123 z.dx) ∈ news) (h2 : (z.dx, lzDict P o (LZ.setKd z kd)) ∈ news)
    (h3 : (z.el, W.listOf z.its.toArray z.ep) ∈ news) (hp : z.apart) (hi : z.b = b ∧ z.e = e ∧ z.idx = b ∧ z.its = [] ∧ z.len = .none) : ∃ y, y.x = z.x ∧ LzNew P o g h b e y :=
  ⟨LZ.setKd z kd, rfl, lzIn_of N h1 h2 h3, ⟨N.fresh h1, N.fresh h2, N.fresh h3⟩, hp, hi⟩
set_option maxHeartbeats 2000000 in
theorem whole_spec : ∀ (w : World) (mean : ExcName → Option Value) (mg mb : Str → Option Value) (dp un : Nat) (gd : Option (List Code)) (l : List Env) (H0 : Heap) (s : Shared) (Q E : Value → Shared → Prop) (o : Array UInt8) (t : Tok) (ks : List Int) (e : Int),
    Below (AT dp un gd l) H0 l s.heap → (hd.heap_39 w.params).In H0 → TT mean mg mb H0 → dp + 80 < recursionLimit → un + 400 < cLine → KBw.bInts o = ks → ks.length ≤ 100 →
    stretch o 0 = .lst 1 e → H0.objs.size ≤ s.heap.objs.size →
    (∀ h' tk', e ≠ ks.length → TurnX [] (l.filterMap (·.frame)) s.heap h' → Q .none { s with heap := h', toks := tk' }) →
    (∀ y h' tk', e = ks.length → LzNew w.params o s.heap h' 1 e y → Sub s.heap h' → Q (.ref y.x) { s with heap := h', toks := tk' }) →
    wpAny (model PySem.Challenge.rw_ve0059_01.row.prog w) (AT dp un gd l) (call (.ref 176) [.bytes o t]) Q E s := by
  k_fill
  intro w mean mg mb dp un gd l H0 s Q E o t ks e B X0 T0 hdp hun hb hks hst hH0 hbad hret
  have X : (hd.heap_39 w.params).In s.heap := X0.keeps B.stays
  have T : TT mean mg mb s.heap := T0.keeps B.stays
  refine wpAny_call ?_
  k_dflt (refine' enterF [(Str.ofString "octets", .bytes o t)] X T.nolimit ?ho ?hcd ?hroom ?hbind ?hloc (fun h₁ F => ?_) ?c1 ?c2 ?c3 ?c4; (case ho => k_is); (case hcd => k_is); (case hroom => show dp < _; omega); (case hbind => exact BindsTo.of_eq rfl); (case hloc => rfl); (case c1 => rfl); (case c2 => rfl); (case c3 => rfl); (case c4 => decide))
  have N : News s.heap s.heap.objs.size h₁ [] := News.nil
  dsimp only
  (show wpAny _ _ _ _ _ _)
  k_steps
  (show wpAny _ _ _ _ _ _)
  (with_reducible rename Fr _ _ _ _ => F'); (with_reducible rename Below _ _ _ _ => B'); (with_reducible rename News _ _ _ _ => N')
  k_dflt (refine' cil_spec _ _ _ _ _ _ _ _ _ _ _ _ _ _ _ _ _ (B'.push F') (by assumption) (by assumption) ?k1 ?k2 (by assumption) ?k3 ?k4 ?_ ?_ ?_; (case k1 => (dsimp only [Around.deeper]; omega)); (case k2 => (dsimp only [Around.deeper]; omega)); (case k3 => (first | assumption | omega)); (case k4 => assumption))
  · intro b e' q tb te h' tk' h1; exact nomatch (hst.symm.trans h1)
  · intro b e' q z te h' tk' h1 hs' hq1 hq2 hz
    obtain ⟨rfl, rfl⟩ := St.lst.inj (hst.symm.trans h1)
    have hN := News.addL _ F' N' hs' (hz.adds hq1 hq2)
    replace F' := Fr.ofSub F' hs'
    obtain ⟨N2, hne⟩ := hN
    clear N'
    replace hne := allNe_of hne
    have b1 := neN hz.apart.1
    have b2 := neN hz.apart.2.1
    have b3 := neN hz.apart.2.2
    dsimp only [AllNe, AllNe1, tupOf, lzObjs] at hne
    dsimp only [tupOf, lzObjs, lzDict, List.cons_append, List.nil_append] at N2
    have c1 := neN (show q ≠ z.dx from fun ee => by
      have h9 := hz.there (z.dx, lzDict w.params o z) (.tail _ (.head _))
      dsimp only at h9
      rw [← ee, hq2] at h9
      exact absurd (Value.type.inj (congrArg Obj.cls (Option.some.inj h9))) (by decide))
    obtain ⟨⟨d1, d2, d3, d4, _⟩, _⟩ := hne
    dsimp only
    k_steps
    · (show wpAny _ _ _ _ _ _)
      rename FlewF _ _ _ _ _ _ => hf
      obtain ⟨t9, tk9, R⟩ := hf
      (with_reducible rename Fr _ _ _ _ => F2)
      have k9 := hide_keep F2
      clear F2
      clear F
      rename Fr s.heap _ _ _ => FG
      have FGH := Fr.ofSub FG k9
      have FH : Fr H0 _ _ _ := ⟨FGH.ns, Sub.trans B.stays FGH.keep, hH0⟩
      have hsub : SubX [] s.heap _ := fun b o q _ => FGH.keep b o q
      have hL0 : s.heap.get? s.heap.objs.size = none := Heap.get?_none_of_le (Nat.le_refl _)
      refine landsOn (by exact (B.push FG).stack) rfl R fun h5 R5 => clauseHit R5 FH X0 T0 (test_name nm_dec ex_dd rfl rfl (by decide)) (fun h6 R6 => ?_)
      refine wpAny_passesOwnAt (by passes_own) ?_
      have F6 := R6.fr FH
      have N6 : News H0 s.heap.objs.size h6 [] := News.nil
      have TX := turnX_of B hsub R6.turn rfl hL0
      clear FGH FH FG
      k_steps
      exact hbad _ _ (by assumption) TX
    · clear N F
      rename News s.heap _ _ _ => N9
      rename Fr s.heap _ _ _ => F9
      obtain ⟨y, hy, hn⟩ := lzNew_kd N9 (by k_mem) (by dsimp only [LZ.setKd, lzDict]; k_mem) (by k_mem) hz.apart hz.is
      rw [← hy]
      exact hret y _ _ (by assumption) hn (Fr.keep F9)
  · intro f e' h' tk' h1; exact nomatch (hst.symm.trans h1)
end Mine

namespace Mine

/-- a DecodingError of one text, as it lies -/
def DecAt (h : Heap) (e : Addr) (m : Str) (tk : Tok) : Prop := ∃ (od : Option Addr) (vs : Array Value) (t : Addr) (oe : Obj), h.get? e = some oe ∧ oe.cls = .ref 46 ∧ oe.data = .fields vs ∧ oe.dict = od ∧ vs[0]? = some (.ref t) ∧ h.get? t = some (tupOf [.str m tk])
theorem DecAt.type {M : Model} {h : Heap} {e : Addr} {m : Str} {tk : Tok} (D : DecAt h e m tk) : Looks M h (typeOf (.ref e)) (.ref 46) := by
  obtain ⟨od, vs, t, oe, he, hc, _⟩ := D
  rw [← hc]
  exact (Looks.ld he).andThen .now
section
variable {prog : Program} {w : World} {A : Around} {E : Value → Shared → Prop} {s : Shared} {e : Addr} {m : Str} {tk : Tok} {P : Params}
theorem dec_bexcArgs {M : Model} {Q : Value × List Value → Shared → Prop} (D : DecAt s.heap e m tk) (hq : ∀ t, Q (.ref t, [.str m tk]) s) : wpAny M A (PySem.Builtin.BaseException.bexcArgs (.ref e)) Q E s := by
  obtain ⟨od, vs, t, oe, he, hc, hd, _, h0, ht⟩ := D
  unfold PySem.Builtin.BaseException.bexcArgs
  refine wpAny_bind (wpAny_field he hd h0 (wpAny_bind (wpAny_seqItems ht rfl ?_)))
  exact wpAny_pure (hq t)
theorem dec_strCall {Q : Value → Shared → Prop} (X : (hd.heap_39 P).In s.heap) (D : DecAt s.heap e m tk) (hB : mroIn (hd.heap_39 P) 46 (.type "BaseException") = some true) (hq : Q (.str m tk) s) :
    wpAny (model prog w) A (call (.builtin "BaseException.__str__") [.ref e]) Q E s := by
  have sub : Looks (model prog w) s.heap (isInstance (.ref e) (.type "BaseException")) true := D.type.andThen (looks_mroIn X hB)
  refine wpAny_call (codeAny_call_builtin PySem.F.excStr_Exception.str.plain PySem.F.entry_bexc_str (@check_slot (model prog w) _ _ s "BaseException.__str__" "BaseException" "__str__" (.ref e) [] [] _ (by decide +kernel) (by decide +kernel) sub (PySem.F.args_bexc_str _) ?_))
  unfold Builtin.«BaseException.__str__»
  repeat (first | (with_reducible refine dec_bexcArgs D (fun t => ?_)) | wp_step)
  exact hq
theorem dec_callSpecial {Q : Option Value → Shared → Prop} (X : (hd.heap_39 P).In s.heap) (D : DecAt s.heap e m tk) (hB : mroIn (hd.heap_39 P) 46 (.type "BaseException") = some true)
    (hf : findIn (hd.heap_39 P) (.ref 46) "__str__" = some (some (.builtin "BaseException.__str__"))) (hq : Q (some (.str m tk)) s) :
    wpAny (model prog w) A (callSpecial? (.ref e) "__str__" [] []) Q E s := by
  unfold callSpecial? specialOf
  refine wpAny_bind (wpAny_bind (D.type.here ((looks_findIn X hf).here ?_)))
  simp only [PySem.F.excStr_Exception.str.bind]
  exact wpAny_holding (wpAny_bind (wpAny_pure (wpAny_bind (wpAny_mono (dec_strCall X D hB (Q := fun v s' => Q (some v) s') hq) (fun v s' h' => wpAny_pure h') fun _ _ h' => h'))))
theorem dec_strOf {Q : Value → Shared → Prop} (X : (hd.heap_39 P).In s.heap) (D : DecAt s.heap e m tk) (hB : mroIn (hd.heap_39 P) 46 (.type "BaseException") = some true)
    (hf : findIn (hd.heap_39 P) (.ref 46) "__str__" = some (some (.builtin "BaseException.__str__"))) (hu : A.units < cLine) (hq : Q (.str m tk) s) :
    wpAny (model prog w) A (PySem.Builtin.Str.strOf (.ref e)) Q E s := by
  unfold PySem.Builtin.Str.strOf
  repeat (first | with_reducible refine wpAny_cRoomFor hu ?_ | with_reducible refine dec_callSpecial X D hB hf ?_ | wp_step)
  exact hq
theorem dec_str {Q : Value → Shared → Prop} (X : (hd.heap_39 P).In s.heap) (D : DecAt s.heap e m tk) (hB : mroIn (hd.heap_39 P) 46 (.type "BaseException") = some true)
    (hf : findIn (hd.heap_39 P) (.ref 46) "__str__" = some (some (.builtin "BaseException.__str__"))) (hu : A.units + 2 < cLine) (hq : Q (.str m tk) s) :
    wpAny (model prog w) A (call (.type "str") [.ref e]) Q E s :=
  callType_new PySem.F.called_str (by decide) (PySem.F.typeCall_str_1 _) (PySem.F.newCall_str_1 _) (fun obj => PySem.F.args_object_init_2 obj _) PySem.F.entry_str_new
    (PySem.meets_str_new (S := fun A' R s' => A'.units + 1 < cLine ∧ (hd.heap_39 P).In s'.heap ∧ DecAt s'.heap e m tk ∧ R (.ok (.ret (.str m tk))) s')
      fun _ _ A' _ _ hq => dec_strOf (A := A'.in1) hq.2.1 hq.2.2.1 hB hf hq.1 hq.2.2.2)
    ⟨(show A.units + 1 + 1 < cLine from hu), X, D, typeIs_str _ _ _, hq⟩
end
end Mine

namespace Mine

theorem lzAddr_obj {P : Params} {o : Array UInt8} {z : LZ} {a : Addr} (ha : a ∈ z.addrs) : ∃ p ∈ lzObjs P o z, p.1 = a := by
  unfold LZ.addrs at ha
  rcases List.mem_cons.mp ha with rfl | ha
  · exact ⟨_, .head _, rfl⟩
  · rcases List.mem_cons.mp ha with rfl | ha
    · exact ⟨_, .tail _ (.head _), rfl⟩
    · rw [List.mem_singleton.mp ha]; exact ⟨_, .tail _ (.tail _ (.head _)), rfl⟩
theorem subX_end {P : Params} {o : Array UInt8} {Z Z' : List LZ} {s h' h'' : Heap} (k : SubX (zAddrs Z) s h') (S' : ∀ z ∈ Z', LzIn P o h' z) (S'' : ∀ z ∈ Z', LzIn P o h'' z) (k9 : Sub (hideAll s (zAddrs Z')) h'') : SubX (zAddrs Z) s h'' := fun b ob e nb => by
  by_cases hb : b ∈ zAddrs Z'
  · obtain ⟨y, hy, hyb⟩ := List.mem_flatMap.mp hb
    obtain ⟨p, hp, rfl⟩ := lzAddr_obj (P := P) (o := o) hyb
    have h1 := S' y hy p hp
    rw [k _ ob e nb] at h1
    rw [Option.some.inj h1]
    exact S'' y hy p hp
  · exact k9 b ob (hideAll_get _ e hb)
def zObjs (P : Params) (o : Array UInt8) (Z : List LZ) : List (Addr × Obj) := Z.flatMap (lzObjs P o)
theorem Store.news {P : Params} {o : Array UInt8} {H0 h g : Heap} {fl : List Addr} {L : Addr} {Z : List LZ} (S : Store P o H0 (L :: fl) h Z) : News (hideAll g (zAddrs Z)) L h (zObjs P o Z) := fun p hp => by
  obtain ⟨z, hz, hzp⟩ := List.mem_flatMap.mp hp
  exact ⟨S.there z hz p hzp, fun q => (S.own z hz _ (lzObjs_addr hzp)).2 (q ▸ .head _), hideAll_none _ (List.mem_flatMap.mpr ⟨z, hz, lzObjs_addr hzp⟩)⟩
theorem Store.again {P : Params} {o : Array UInt8} {H0 h h' : Heap} {fl : List Addr} {Z : List LZ} (S : Store P o H0 fl h Z) (k : ∀ z ∈ Z, LzIn P o h' z) : Store P o H0 fl h' Z := ⟨k, S.apart, S.own, S.disj, S.runs⟩
theorem frTurnX {H0 h G : Heap} {L : Addr} {m : Str → Option Value} {ws fl : List Addr} (F : Fr H0 L h m) (k : TurnX ws fl h G) (hL : L ∉ ws) (hws : ∀ a ∈ ws, H0.get? a = none) (hfl : ∀ a ∈ fl, H0.get? a = none) : Fr H0 L G m := by
  obtain ⟨o, es, ep, ho, hd, r⟩ := F.ns
  obtain ⟨_, sl, q⟩ := k L o ho hL
  exact ⟨⟨_, es, ep, q, hd, r⟩, fun b ob e => (k b ob (F.keep b ob e) (fun z => by rw [hws b z] at e; cases e)).1 (fun z => by rw [hfl b z] at e; cases e), F.above⟩
theorem turnX_of2 {ws : List Addr} {s h1 G h : Heap} {l : List Env} {env : Env} {L : Addr} {A : Around} {H0 : Heap} (B0 : Below A H0 l s) (hs : Sub s h1) (k : TurnX ws (L :: l.filterMap (·.frame)) h1 G) (T : Turn (env :: l) G h) (hf : env.frame = some L) (hL : s.get? L = none) : TurnX ws (l.filterMap (·.frame)) s h := fun b o e n => by
  obtain ⟨p, sl, q⟩ := k b o (hs b o e) n
  have hbL : b ≠ L := fun z => by rw [z, hL] at e; cases e
  have key : b ∉ l.filterMap (·.frame) → h.get? b = some o := fun nb => T.2 b o (p fun z => (List.mem_cons.mp z).elim hbL nb) fun z => by
    rcases mem_fra_cons hf z with z | z
    · exact hbL z
    · exact nb z
  refine ⟨key, ?_⟩
  by_cases hb : b ∈ l.filterMap (·.frame)
  · obtain ⟨_, o', e', nf⟩ := B0.frames.mem hb
    rw [e] at e'; obtain rfl := Option.some.inj e'
    exact T.1 b { o with slots := sl } q nf
  · exact ⟨o.slots, key hb⟩

theorem below_in1 {A : Around} {H0 h : Heap} {l : List Env} (B : Below A H0 l h) : Below A.in1 H0 l h := ⟨B.stack, B.stays, B.frames⟩
theorem zAddrs_le {Z Z' : List LZ} (h : Zle Z Z') {a : Addr} (ha : a ∈ zAddrs Z) : a ∈ zAddrs Z' := by
  obtain ⟨y, hy, hya⟩ := List.mem_flatMap.mp ha
  obtain ⟨y', hy', s⟩ := h y hy
  exact List.mem_flatMap.mpr ⟨y', hy', by rw [s.addrs]; exact hya⟩
theorem there_of {P : Params} {o : Array UInt8} {g h : Heap} {L : Addr} {news : List (Addr × Obj)} {Z : List LZ} (N : News g L h news) (k : ∀ p ∈ zObjs P o Z, p ∈ news) : ∀ z ∈ Z, LzIn P o h z := fun z hz p hp => (N p (k p (List.mem_flatMap.mpr ⟨z, hz, hp⟩))).1
theorem frAfter {s h1 h' : Heap} {L : Addr} {m : Str → Option Value} {Z Z' : List LZ} (F : Fr s L h1 m) (hle : Zle Z Z') (k : SubX (zAddrs Z) h1 h') (hL : L ∉ zAddrs Z) : Fr (hideAll s (zAddrs Z')) L h' m := by
  obtain ⟨o, es, ep, ho, hd, r⟩ := F.ns
  refine ⟨⟨o, es, ep, k _ _ ho hL, hd, r⟩, fun b ob e => ?_, by rw [hideAll_size]; exact F.above⟩
  refine k b ob (F.keep b ob (of_hideAll _ e)) fun z => ?_
  rw [hideAll_none _ (zAddrs_le hle z)] at e; cases e
theorem TurnX.but {ws fl : List Addr} {s h h'' : Heap} {L : Addr} (k : TurnX ws fl s h) (hL : s.get? L = none) (hs : ∀ b, b ≠ L → h''.get? b = h.get? b) : TurnX ws fl s h'' := fun b o e n => by
  have hb : b ≠ L := fun z => by rw [z, hL] at e; cases e
  obtain ⟨p, sl, q⟩ := k b o e n
  exact ⟨fun f => (hs b hb).trans (p f), sl, (hs b hb).trans q⟩
theorem Store.but {P : Params} {o : Array UInt8} {H0 h h'' : Heap} {fl : List Addr} {L : Addr} {Z : List LZ} (S : Store P o H0 (L :: fl) h Z) (hs : ∀ b, b ≠ L → h''.get? b = h.get? b) : Store P o H0 (L :: fl) h'' Z :=
  S.again fun z hz p hp => (hs _ fun q => (S.own z hz _ (lzObjs_addr hp)).2 (q ▸ .head _)).trans (S.there z hz p hp)
theorem ns_ne {h : Heap} {L b : Addr} {m : Str → Option Value} {ob : Obj} (hn : h.Ns L m) (hb : h.get? b = some ob) (hd : ∀ es ep, ob.data ≠ .dict es ep) : b ≠ L := fun z => by
  obtain ⟨o, es, ep, ho, hod, _⟩ := hn
  rw [z, ho] at hb
  exact hd es ep ((Option.some.inj hb) ▸ hod)
theorem Flew.decAt {H0 G h : Heap} {l : List Env} {e t : Addr} {m : Str} {tk : Tok} {L : Addr} {h' : Heap} {mm : Str → Option Value} (R : Flew H0 G [(t, tupOf [.str m tk])] l e (.ref 46) (.ref t) h) (hn : h.Ns L mm) (hs : ∀ b, b ≠ L → h'.get? b = h.get? b) : DecAt h' e m tk := by
  have ht := R.extra (.head _)
  obtain ⟨_, _, B, _, _, _, _, _, _, f4⟩ := R
  obtain ⟨oe, vs, T, oT, ts, he, ⟨hcls, h0⟩, hd, _⟩ := f4
  have e1 : e ≠ L := ns_ne hn he fun es ep z => by rw [hd] at z; cases z
  have e2 : t ≠ L := ns_ne hn ht fun es ep z => by cases z
  exact ⟨_, vs, t, oe, (hs e e1).trans he, hcls, hd, rfl, h0, (hs t e2).trans ht⟩
def word : Fault → Str
  | .index => Str.ofString "over"
  | .stop => Str.ofString "over"
  | .assert => Str.ofString "beyond"
  | .dec m => m
def ToldV (g h : Heap) (v : Value) (f : Fault) : Option Item → Prop
  | some (.bs b) => ∃ t, v = .bytes b t
  | some (.ls b e) => ∃ q t1 t2, v = .ref q ∧ g.get? q = none ∧ h.get? q = some (tupOf [.int b t1, .int e t2])
  | none => ∃ t, v = .str (word f) t

section
variable {prog : Program} {w : World} {A : Around} {E : Value → Shared → Prop} {s : Shared} {H0 G : Heap} {xs : List (Addr × Obj)} {l : List Env} {L a e : Addr} {m mg mb : Str → Option Value} {name : Str} {scope : Scope} {cd cls a0 : Value}
  {n x : Str} {b₀ : Stmt} {suite : List Stmt} {pos : Pos} {rest hs : List ExceptHandler} {Q : Flow → Shared → Prop} {KF : Frag} {tt : Expr} {nm : Option Str} {body : List Stmt} {p : Program} {loose : List Str} {mean : ExcName → Option Value}
/-- a clause with a name that matches -/
theorem clauseHitAs (R : Flew H0 G xs (envOf name scope L a cd :: l) e cls a0 s.heap) (F : Fr H0 L G m) (X : KF.In H0) (T : Top p loose mean mg mb H0) (C : KtsTest prog w KF p loose mg mb name scope L a cd cls tt true)
    (k : ∀ h', Flew H0 G xs (envOf name scope L a cd :: l) e cls a0 h' →
      wpAny (model prog w) (A.mark (some (.ref e))) (storeName (envOf name scope L a cd) x (.ref e)) (fun _ s₃ => wpAny (model prog w) (A.mark (some (.ref e))) (execs (b₀ :: suite) (envOf name scope L a cd))
        (fun f s₄ => wpAny (model prog w) A (do bindName (envOf name scope L a cd) x .none; unbindBehindTheSuite (envOf name scope L a cd) x pos) (fun _ s₅ => Q f s₅) E s₄) (fun _ _ => False) s₃) (fun _ _ => False) { s with heap := h' }) :
    wpAny (model prog w) A (handleBy (.ref e) (envOf name scope L a cd) (.ExceptHandler (some tt) (some x) (b₀ :: suite) pos :: rest)) Q E s := by
  refine wpAny_handleBy_cons (codeAny_handlers_test (C _ _ _ _ H0 e m (R.fr F) X (topRead_of T) R.ty fun h' kp => ?_)) (by intro q; cases q)
  exact codeAny_handlers_suite_as (landsAgain (R.keeps kp) fun h'' R'' => wpAny_mono (k h'' R'') (fun _ s₃ h₃ => wpAny_mono h₃ (fun _ _ y => y) fun _ _ z => z.elim) fun _ _ z => z.elim)
end

local macro_rules | `(tactic| k_room) => `(tactic| ((try simp only [depth_under_make, depth_under_kw, depth_in1, depth_deeper, depth_caller]); (try dsimp only [AT]); omega))
local macro_rules | `(tactic| walk_at "call ref") => `(tactic| (k_here; (with_reducible show wpAny _ _ (call (Value.ref 113) _) _ _ _); refine stop59 ?_))
local macro_rules | `(tactic| walk_at "call type:str") => `(tactic| (k_here; refine stop59 ?_))
set_option maxHeartbeats 2000000 in
theorem told_spec : ∀ (w : World) (mean : ExcName → Option Value) (mg mb : Str → Option Value) (dp un : Nat) (gd : Option (List Code)) (l : List Env) (H0 : Heap) (s : Shared) (Q E : Value → Shared → Prop) (o : Array UInt8) (ks : List Int) (Z : List LZ) (z : LZ) (i : Int) (ti : Tok) (found : List Item) (j : Int) (f : Fault),
    Below (AT dp un gd l) H0 l s.heap → (hd.heap_39 w.params).In H0 → TT mean mg mb H0 → dp + 100 < recursionLimit → un + 500 < cLine → KBw.bInts o = ks → ks.length ≤ 100 →
    Store w.params o H0 (l.filterMap (·.frame)) s.heap Z → z ∈ Z → 0 ≤ i → i ≤ 100 → Final o z.b z.e found j f → H0.objs.size ≤ s.heap.objs.size →
    (∀ v Z' h' tk', Store w.params o H0 (l.filterMap (·.frame)) h' Z' → Zle Z Z' → TurnX (zAddrs Z) (l.filterMap (·.frame)) s.heap h' → ToldV H0 h' v f found[i.toNat]? → Q v { s with heap := h', toks := tk' }) →
    wpAny (model PySem.Challenge.rw_ve0059_01.row.prog w) (AT dp un gd l) (call (.ref 162) [.ref z.x, .int i ti]) Q E s := by
  k_fill
  intro w mean mg mb dp un gd l H0 s Q E o ks Z z i ti found j f B0 X0 T0 hdp hun hb hks hS hzZ hi0 hi1 hFin hH0 hret
  have X : (hd.heap_39 w.params).In s.heap := X0.keeps B0.stays
  have T : TT mean mg mb s.heap := T0.keeps B0.stays
  have hg : Sub (hideAll s.heap (zAddrs Z)) s.heap := fun _ _ e => of_hideAll _ e
  have hmem : ∀ a ∈ zAddrs Z, H0.get? a = none ∧ a ∉ l.filterMap (·.frame) := fun a ha => by
    obtain ⟨y, hy, hya⟩ := List.mem_flatMap.mp ha
    exact hS.own y hy a hya
  have st : Sub H0 (hideAll s.heap (zAddrs Z)) := fun b o e => hideAll_get _ (B0.stays b o e) fun q => by rw [(hmem b q).1] at e; cases e
  have XB : (hd.heap_39 w.params).In (hideAll s.heap (zAddrs Z)) := X0.keeps st
  have TB : TT mean mg mb (hideAll s.heap (zAddrs Z)) := T0.keeps st
  refine wpAny_call ?_
  k_dflt (refine' enterF [(Str.ofString "row", .ref z.x), (Str.ofString "place", .int i ti)] X T.nolimit ?ho ?hcd ?hroom ?hbind ?hloc (fun h₁ F0 => ?_) ?c1 ?c2 ?c3 ?c4; (case ho => k_is); (case hcd => k_is); (case hroom => show dp < _; omega); (case hbind => exact BindsTo.of_eq rfl); (case hloc => rfl); (case c1 => rfl); (case c2 => rfl); (case c3 => rfl); (case c4 => decide))
  have hF1 := And.intro F0 True.intro
  have hK1 := F0.keep
  have F1 : Fr (hideAll s.heap (zAddrs Z)) s.heap.objs.size _ _ := ⟨F0.ns, hg.trans F0.keep, Nat.le_of_eq (hideAll_size _ _)⟩
  have N : News (hideAll s.heap (zAddrs Z)) s.heap.objs.size h₁ (lzObjs w.params o z) := fun p hp => ⟨F0.keep _ _ (hS.there z hzZ p hp), Nat.ne_of_lt (Heap.lt_size (hS.there z hzZ p hp)), hideAll_none _ (List.mem_flatMap.mpr ⟨z, hzZ, lzObjs_addr hp⟩)⟩
  dsimp only [lzObjs, lzDict] at N
  have hS1 := hS.enter hK1
  clear F0
  dsimp only
  (show wpAny _ _ _ _ _ _)
  k_steps
  (show wpAny _ _ (call (Value.ref 113) [.ref z.x, .int i ti]) _ _ _)
  obtain ⟨FS, _⟩ := hF1
  have hF0 := FS
  have hL0 : s.heap.get? s.heap.objs.size = none := Heap.get?_none_of_le (Nat.le_refl _)
  refine get_spec _ _ _ _ _ _ _ _ _ _ _ _ _ ks Z z i ti found j f (below_in1 (B0.push FS)) X0 T0 ?_ ?_ hb hks hS1 hzZ hi0 hi1 hFin ?_ (fun v Z' h' tk' it hit hS' hle hv hsx => ?_) (fun e Z' G h' tk' hnone hS' hle htx hfl => ?_)
  · dsimp only [Around.deeper]; omega
  · dsimp only [Around.deeper]; omega
  · exact Nat.le_trans hH0 (Nat.le_of_lt FS.ns.lt)
  · have hLZ : s.heap.objs.size ∉ zAddrs Z := fun q => by
      obtain ⟨y, hy, hya⟩ := List.mem_flatMap.mp q
      exact (hS1.own y hy _ hya).2 (.head _)
    have FX := frAfter FS hle hsx hLZ
    have NX := hS'.news (g := s.heap)
    have stX : Sub H0 (hideAll s.heap (zAddrs Z')) := fun b ob e => hideAll_get _ (B0.stays b ob e) fun q => by
      obtain ⟨y, hy, hya⟩ := List.mem_flatMap.mp q
      rw [(hS'.own y hy _ hya).1] at e; cases e
    have XX : (hd.heap_39 w.params).In (hideAll s.heap (zAddrs Z')) := X0.keeps stX
    have TX : TT mean mg mb (hideAll s.heap (zAddrs Z')) := T0.keeps stX
    have hend : ∀ h'' news, News (hideAll s.heap (zAddrs Z')) s.heap.objs.size h'' news → (∀ p ∈ zObjs w.params o Z', p ∈ news) → Sub (hideAll s.heap (zAddrs Z')) h'' → Store w.params o H0 (l.filterMap (·.frame)) h'' Z' ∧ TurnX (zAddrs Z) (l.filterMap (·.frame)) s.heap h'' := fun h'' news N9 k9 s9 =>
      ⟨(hS'.again (there_of N9 k9)).weaken, .of_sub (subX_end (fun b ob e n => hsx b ob (hK1 b ob e) n) hS'.there (there_of N9 k9) s9)⟩
    cases it with
    | bs b =>
      obtain ⟨t9, rfl⟩ := hv
      obtain ⟨R, hR⟩ : ∃ R, R = zObjs w.params o Z' := ⟨_, rfl⟩
      rw [← hR] at NX hend
      clear FS F1 XB TB hS' hS1
      try (rename News _ _ h₁ _ => Nx; clear Nx)
      k_steps
      rename Fr _ _ _ _ => F9
      rename News _ _ _ _ => N9
      obtain ⟨e1, e2⟩ := hend _ _ N9 (fun p hp => hp) F9.keep
      exact hret _ _ _ _ e1 hle e2 (by rw [hit]; exact ⟨_, rfl⟩)
    | ls b e =>
      obtain ⟨y, hy, rfl, hyb, hye⟩ := hv
      obtain ⟨R, hR⟩ : ∃ R, R = zObjs w.params o Z' := ⟨_, rfl⟩
      have hyR : ∀ p ∈ lzObjs w.params o y, p ∈ R := fun p hp => hR ▸ List.mem_flatMap.mpr ⟨y, hy, hp⟩
      rw [← hR] at NX hend
      have NY : News (hideAll s.heap (zAddrs Z')) s.heap.objs.size h' (lzObjs w.params o y ++ R) := fun p hp => (List.mem_append.mp hp).elim (fun q => NX p (hyR p q)) (NX p)
      clear NX
      dsimp only [lzObjs, lzDict, List.cons_append, List.nil_append] at NY
      clear FS F1 XB TB hS' hS1
      try (rename News _ _ h₁ _ => Nx; clear Nx)
      k_steps
      rename Fr _ _ _ _ => F9
      rename News _ _ _ _ => N9
      obtain ⟨e1, e2⟩ := hend _ _ N9 (fun p hp => .tail _ (.tail _ (.tail _ (.tail _ hp)))) F9.keep
      exact hret _ _ _ _ e1 hle e2 (by rw [hit]; exact ⟨_, _, _, rfl, Sub.none stX (N9.fresh (.head _)), by rw [← hyb, ← hye]; exact N9.get (.head _)⟩)
  · have hLZ : s.heap.objs.size ∉ zAddrs Z := fun q => by
      obtain ⟨y, hy, hya⟩ := List.mem_flatMap.mp q
      exact (hS1.own y hy _ hya).2 (.head _)
    have FH : Fr H0 s.heap.objs.size h₁ _ := ⟨FS.ns, Sub.trans B0.stays hK1, hH0⟩
    have FG := frTurnX FH htx hLZ (fun a ha => (hmem a ha).1) (fun a ha => by
      rcases List.mem_cons.mp ha with rfl | ha
      · exact Heap.get?_none_of_le hH0
      · exact (B0.frames.mem ha).1)
    have hS2 : Store w.params o H0 (s.heap.objs.size :: l.filterMap (·.frame)) G Z' := hS'
    have htx2 : TurnX (zAddrs Z) (s.heap.objs.size :: l.filterMap (·.frame)) h₁ G := htx
    have hfin : ∀ (env : Env) h6 v tk6, env.frame = some s.heap.objs.size → Turn (env :: l) G h6 → (∃ t, v = .str (word f) t) → Q v { s with heap := h6, toks := tk6 } := fun env h6 v tk6 he T6 hv =>
      hret v Z' h6 tk6 (Store.turn he hS2 T6).weaken hle (turnX_of2 B0 hK1 htx2 T6 he hL0) (by rw [hnone]; exact hv)
    have hfin2 : ∀ (env : Env) h6 h7 v tk6, env.frame = some s.heap.objs.size → Turn (env :: l) G h6 → (∀ b, b ≠ s.heap.objs.size → h7.get? b = h6.get? b) → (∃ t, v = .str (word f) t) → Q v { s with heap := h7, toks := tk6 } := fun env h6 h7 v tk6 he T6 hss hv =>
      hret v Z' h7 tk6 ((Store.turn he hS2 T6).but hss).weaken hle ((turnX_of2 B0 hK1 htx2 T6 he hL0).but hL0 hss) (by rw [hnone]; exact hv)
    clear F1 XB TB FS FH hS1 hS' hS2 htx htx2
    try (rename News _ _ h₁ _ => Nx; clear Nx)
    (show wpAny _ _ _ _ _ _)
    cases f with
    | index =>
      obtain ⟨a0, R⟩ := hfl
      refine landsOn (by exact (B0.push hF0).stack) rfl R fun h5 R5 => clauseHit R5 FG X0 T0 (test_name nm_index ex_ii rfl rfl (by decide)) (fun h6 R6 => ?_)
      refine wpAny_passesOwnAt (by passes_own) ?_
      have F6 := R6.fr FG
      have N6 : News H0 s.heap.objs.size h6 [] := News.nil
      k_steps
      exact hfin _ _ _ _ rfl R6.turn ⟨_, rfl⟩
    | stop =>
      obtain ⟨a0, R⟩ := hfl
      refine landsOn (by exact (B0.push hF0).stack) rfl R fun h5 R5 => clauseHit R5 FG X0 T0 (test_name nm_index ex_ii rfl rfl (by decide)) (fun h6 R6 => ?_)
      refine wpAny_passesOwnAt (by passes_own) ?_
      have F6 := R6.fr FG
      have N6 : News H0 s.heap.objs.size h6 [] := News.nil
      k_steps
      exact hfin _ _ _ _ rfl R6.turn ⟨_, rfl⟩
    | assert =>
      obtain ⟨a0, R⟩ := hfl
      refine landsOn (by exact (B0.push hF0).stack) rfl R fun h5 R5 => clauseMiss R5 FG X0 T0 (test_name nm_index ex_ai rfl rfl (by decide)) (fun h6 R6 => clauseHit R6 FG X0 T0 (test_name nm_assert ex_aa rfl rfl (by decide)) (fun h7 R7 => ?_))
      refine wpAny_passesOwnAt (by passes_own) ?_
      have F6 := R7.fr FG
      have N6 : News H0 s.heap.objs.size h7 [] := News.nil
      k_steps
      exact hfin _ _ _ _ rfl R7.turn ⟨_, rfl⟩
    | dec m =>
      obtain ⟨t9, tk9, R⟩ := hfl
      refine landsOn (by exact (B0.push hF0).stack) rfl R fun h5 R5 => clauseMiss R5 FG X0 T0 (test_name nm_index ex_di rfl rfl (by decide)) (fun h6 R6 => clauseMiss R6 FG X0 T0 (test_name nm_assert ex_da rfl rfl (by decide)) (fun h7 R7 => clauseHitAs R7 FG X0 T0 (test_name nm_dec ex_dd rfl rfl (by decide)) (fun h8 R8 => ?_)))
      have F8 := R8.fr FG
      refine wpAny_storeName_local rfl F8.ns (fun h9 hn9 hs9 => ?_) rfl
      have F9 := F8.set hn9 hs9
      have D9 := R8.decAt F8.ns hs9.2
      have N9 : News H0 s.heap.objs.size h9 [] := News.nil
      clear F8 FG
      k_steps
      (show wpAny _ _ (call (Value.type "str") [.ref e]) _ _ _)
      refine dec_str (P := w.params) (X0.keeps F9.keep) D9 (by k_is) (by k_is) (by dsimp only [Around.deeper, Around.mark]; omega) ?_
      refine wpAny_nameGoes rfl F9.ns rfl (fun h10 m10 hn10 hs10 => ?_)
      have hss : ∀ b, b ≠ s.heap.objs.size → h10.get? b = h8.get? b := fun b hb => (hs10.2 b hb).trans (hs9.2 b hb)
      exact hfin2 _ _ _ _ _ rfl R8.turn hss ⟨_, rfl⟩
end Mine

namespace Mine

local macro_rules | `(tactic| k_room) => `(tactic| ((try simp only [depth_under_make, depth_under_kw, depth_in1, depth_deeper, depth_caller]); (try dsimp only [AT]); omega))
local macro_rules | `(tactic| walk_at "call ref") => `(tactic| (k_here; (with_reducible show wpAny _ _ (call (Value.ref 120) _) _ _ _); refine stop59 ?_))
theorem many_found {o : Array UInt8} {ks : List Int} {z : LZ} {found : List Item} {j : Int} {f : Fault} (hb : KBw.bInts o = ks) (h0 : 0 ≤ z.b) (h : Final o z.b z.e found j f) : found.length ≤ ks.length := by
  subst hb
  exact h.1.len h0
theorem turnX_drop {ws fl : List Addr} {s h1 h : Heap} {L : Addr} (hs : Sub s h1) (k : TurnX ws (L :: fl) h1 h) (hL : s.get? L = none) : TurnX ws fl s h := fun b o e n => by
  obtain ⟨p, q⟩ := k b o (hs b o e) n
  exact ⟨fun f => p fun z => (List.mem_cons.mp z).elim (fun y => by rw [y, hL] at e; cases e) f, q⟩
set_option maxHeartbeats 2000000 in
theorem many_spec : ∀ (w : World) (mean : ExcName → Option Value) (mg mb : Str → Option Value) (dp un : Nat) (gd : Option (List Code)) (l : List Env) (H0 : Heap) (s : Shared) (Q E : Value → Shared → Prop) (o : Array UInt8) (ks : List Int) (Z : List LZ) (z : LZ) (found : List Item) (j : Int) (f : Fault),
    Below (AT dp un gd l) H0 l s.heap → (hd.heap_39 w.params).In H0 → TT mean mg mb H0 → dp + 100 < recursionLimit → un + 500 < cLine → KBw.bInts o = ks → ks.length ≤ 100 →
    Store w.params o H0 (l.filterMap (·.frame)) s.heap Z → z ∈ Z → z.len = .none → Final o z.b z.e found j f → H0.objs.size ≤ s.heap.objs.size →
    (∀ h' tk' t, f = .stop → TurnX (zAddrs Z) (l.filterMap (·.frame)) s.heap h' → Q (.int found.length t) { s with heap := h', toks := tk' }) →
    (∀ h' tk', f ≠ .stop → TurnX (zAddrs Z) (l.filterMap (·.frame)) s.heap h' → Q .none { s with heap := h', toks := tk' }) →
    wpAny (model PySem.Challenge.rw_ve0059_01.row.prog w) (AT dp un gd l) (call (.ref 169) [.ref z.x]) Q E s := by
  k_fill
  intro w mean mg mb dp un gd l H0 s Q E o ks Z z found j f B0 X0 T0 hdp hun hb hks hS hzZ hzl hFin hH0 hret hnon
  have X : (hd.heap_39 w.params).In s.heap := X0.keeps B0.stays
  have T : TT mean mg mb s.heap := T0.keeps B0.stays
  have hg : Sub (hideAll s.heap (zAddrs Z)) s.heap := fun _ _ e => of_hideAll _ e
  have hmem : ∀ a ∈ zAddrs Z, H0.get? a = none ∧ a ∉ l.filterMap (·.frame) := fun a ha => by
    obtain ⟨y, hy, hya⟩ := List.mem_flatMap.mp ha
    exact hS.own y hy a hya
  have st : Sub H0 (hideAll s.heap (zAddrs Z)) := fun b o e => hideAll_get _ (B0.stays b o e) fun q => by rw [(hmem b q).1] at e; cases e
  have XB : (hd.heap_39 w.params).In (hideAll s.heap (zAddrs Z)) := X0.keeps st
  have TB : TT mean mg mb (hideAll s.heap (zAddrs Z)) := T0.keeps st
  have hfl := many_found hb (hS.runs z hzZ).1 hFin
  refine wpAny_call ?_
  k_dflt (refine' enterF [(Str.ofString "row", .ref z.x)] X T.nolimit ?ho ?hcd ?hroom ?hbind ?hloc (fun h₁ F0 => ?_) ?c1 ?c2 ?c3 ?c4; (case ho => k_is); (case hcd => k_is); (case hroom => show dp < _; omega); (case hbind => exact BindsTo.of_eq rfl); (case hloc => rfl); (case c1 => rfl); (case c2 => rfl); (case c3 => rfl); (case c4 => decide))
  have hF1 := And.intro F0 True.intro
  have hK1 := F0.keep
  have F1 : Fr (hideAll s.heap (zAddrs Z)) s.heap.objs.size _ _ := ⟨F0.ns, hg.trans F0.keep, Nat.le_of_eq (hideAll_size _ _)⟩
  have N : News (hideAll s.heap (zAddrs Z)) s.heap.objs.size h₁ (lzObjs w.params o z) := fun p hp => ⟨F0.keep _ _ (hS.there z hzZ p hp), Nat.ne_of_lt (Heap.lt_size (hS.there z hzZ p hp)), hideAll_none _ (List.mem_flatMap.mpr ⟨z, hzZ, lzObjs_addr hp⟩)⟩
  dsimp only [lzObjs, lzDict] at N
  have hS1 := hS.enter hK1
  clear F0
  dsimp only
  (show wpAny _ _ _ _ _ _)
  k_steps
  (show wpAny _ _ (call (Value.ref 120) [.ref z.x]) _ _ _)
  obtain ⟨FS, _⟩ := hF1
  have hF0 := FS
  have hL0 : s.heap.get? s.heap.objs.size = none := Heap.get?_none_of_le (Nat.le_refl _)
  have hLZ : s.heap.objs.size ∉ zAddrs Z := fun q => by
    obtain ⟨y, hy, hya⟩ := List.mem_flatMap.mp q
    exact (hS1.own y hy _ hya).2 (.head _)
  have FH : Fr H0 s.heap.objs.size h₁ _ := ⟨FS.ns, Sub.trans B0.stays hK1, hH0⟩
  refine len_spec _ _ _ _ _ _ _ _ _ _ _ _ _ ks Z z found j f (below_in1 (B0.push FS)) X0 T0 ?_ ?_ hb hks hS1 hzZ hzl hFin ?_ (fun h' tk' t9 hst htx => ?_) (fun e G h' tk' hst htx hfl => ?_)
  · dsimp only [Around.deeper]; omega
  · dsimp only [Around.deeper]; omega
  · exact Nat.le_trans hH0 (Nat.le_of_lt FS.ns.lt)
  · show (0 ≤ (found.length : Int) ∧ (found.length : Int) < 2 ^ 63) ∧ Q _ _
    exact ⟨⟨by omega, by omega⟩, hret _ _ _ hst (turnX_drop hK1 htx hL0)⟩
  · have FG := frTurnX FH htx hLZ (fun a ha => (hmem a ha).1) (fun a ha => by
      rcases List.mem_cons.mp ha with rfl | ha
      · exact Heap.get?_none_of_le hH0
      · exact (B0.frames.mem ha).1)
    have htx2 : TurnX (zAddrs Z) (s.heap.objs.size :: l.filterMap (·.frame)) h₁ G := htx
    clear F1 XB TB FS FH hS1 htx
    try (rename News _ _ h₁ _ => Nx; clear Nx)
    (show wpAny _ _ _ _ _ _)
    cases f with
    | stop => exact absurd rfl hst
    | index =>
      obtain ⟨a0, R⟩ := hfl
      refine landsOn (by exact (B0.push hF0).stack) rfl R fun h5 R5 => clauseHit R5 FG X0 T0 (test_tup3 nm_index nm_assert nm_dec ex3_i rfl rfl (by decide) rfl (by decide) rfl (by decide)) (fun h6 R6 => ?_)
      refine wpAny_passesOwnAt (by passes_own) ?_
      have F6 := R6.fr FG
      have N6 : News H0 s.heap.objs.size h6 [] := News.nil
      k_steps
      exact hnon _ _ hst (turnX_of2 B0 hK1 htx2 R6.turn rfl hL0)
    | assert =>
      obtain ⟨a0, R⟩ := hfl
      refine landsOn (by exact (B0.push hF0).stack) rfl R fun h5 R5 => clauseHit R5 FG X0 T0 (test_tup3 nm_index nm_assert nm_dec ex3_a rfl rfl (by decide) rfl (by decide) rfl (by decide)) (fun h6 R6 => ?_)
      refine wpAny_passesOwnAt (by passes_own) ?_
      have F6 := R6.fr FG
      have N6 : News H0 s.heap.objs.size h6 [] := News.nil
      k_steps
      exact hnon _ _ hst (turnX_of2 B0 hK1 htx2 R6.turn rfl hL0)
    | dec m =>
      obtain ⟨t9, tk9, R⟩ := hfl
      refine landsOn (by exact (B0.push hF0).stack) rfl R fun h5 R5 => clauseHit R5 FG X0 T0 (test_tup3 nm_index nm_assert nm_dec ex3_d rfl rfl (by decide) rfl (by decide) rfl (by decide)) (fun h6 R6 => ?_)
      refine wpAny_passesOwnAt (by passes_own) ?_
      have F6 := R6.fr FG
      have N6 : News H0 s.heap.objs.size h6 [] := News.nil
      k_steps
      exact hnon _ _ hst (turnX_of2 B0 hK1 htx2 R6.turn rfl hL0)
end Mine

namespace Mine
theorem toList_of_ints {a b : Array UInt8} (h : KBw.bInts a = KBw.bInts b) : a.toList = b.toList := by
  unfold KBw.bInts at h
  refine (List.map_inj_right (f := fun c : UInt8 => (c.toNat : Int)) ?_).mp h
  intro x y e
  exact UInt8.toNat_inj.mp (Int.ofNat.inj e)
theorem zero_eq {o : Array UInt8} {i b : Int} (hi : 0 ≤ i) (hb : i + 1 < b) : (KBy.picked (KBy.picked o (some (i + 1)) (some b)) none (some 1)).toList = (KBy.picked o (some (i + 1)) (some (i + 2))).toList := by
  refine toList_of_ints ?_
  rw [KBc.ints_picked (KBc.ints_picked rfl _ _), KBc.ints_picked rfl]
  simp only [Option.elim, List.drop_zero, Nat.sub_zero]
  generalize KBw.bInts o = ks
  have e1 : clipAt ks.length (i + 1) = min (i + 1).toNat ks.length := by unfold clipAt; omega
  have e2 : clipAt ks.length (i + 2) = min (i + 2).toNat ks.length := by unfold clipAt; omega
  have e3 : clipAt ks.length b = min b.toNat ks.length := by unfold clipAt; omega
  rw [List.take_take, e1, e2, e3]
  have e4 : ∀ n, clipAt n 1 = min 1 n := fun n => by unfold clipAt; omega
  rw [e4, List.length_take, List.length_drop]
  rcases Nat.lt_or_ge (i + 1).toNat ks.length with h | h
  · congr 1
    omega
  · rw [List.drop_eq_nil_of_le (by omega)]
    simp
theorem val_eq (o : Array UInt8) (i X : Int) : List.foldl (fun a' => HAdd.hAdd (a' * 256)) 0 (List.take (clipAt (KBw.bInts o).length X - clipAt (KBw.bInts o).length (i + 1)) (List.drop (clipAt (KBw.bInts o).length (i + 1)) (KBw.bInts o))) = KFB.value (KBw.bInts (KBy.picked o (some (i + 1)) (some X))) := by
  rw [KBc.ints_picked rfl]
  rfl
theorem fmod_head (b : Int) (h1 : 128 ≤ b) (h2 : b < 256) : (b < 192 ∧ (b - 128).fmod 64 = b - 128) ∨ (192 ≤ b ∧ (b - 128).fmod 64 = b - 192) := by
  rw [Int.fmod_eq_emod_of_nonneg _ (by decide)]
  omega
end Mine

namespace Mine

def told (o : Array UInt8) (i : Int) : Str × Int × Int := match stretch o i with
  | .fault .index => (Str.ofString "over", 0, 0)
  | .fault .assert => (Str.ofString "over", 0, 0)
  | .fault .stop => (Str.ofString "over", 0, 0)
  | .fault (.dec m) => (m, 0, 0)
  | .octets b e => (Str.ofString "octets", b, e)
  | .lst b e => (Str.ofString "list", b, e)

theorem trip {K : Str} {a b c d : Int} (h1 : a = c) (h2 : b = d) : (K, a, b) = (K, c, d) := by rw [h1, h2]
theorem tup_told {o : Array UInt8} {i : Int} {h : Heap} {q : Addr} {K : Str} {a b : Int} {t1 t2 t3 : Tok} (ht : told o i = (K, a, b)) (e : h.get? q = some { cls := .type "tuple", data := .seq #[.str K t1, .int a t2, .int b t3] }) :
    h.get? q = some (tupOf [.str (told o i).1 t1, .int (told o i).2.1 t2, .int (told o i).2.2 t3]) := by rw [ht]; exact e
local macro_rules | `(tactic| k_room) => `(tactic| ((try simp only [depth_under_make, depth_under_kw, depth_in1, depth_deeper, depth_caller]); (try dsimp only [AT]); omega))
local macro_rules | `(tactic| walk_at "subscriptTail") => `(tactic| (k_here; (with_reducible show wpAny _ _ (subscriptTail _ _ (Value.bytes _ _) (Value.int _ _)) _ _ _); (refine item_or (by kba_ints) rfl (by omega) (by omega) (fun hin t' k kLo kHi => ?_) (fun hout h' tk e hx => ?_))))
set_option maxHeartbeats 2000000 in
theorem str_spec : ∀ (w : World) (mean : ExcName → Option Value) (mg mb : Str → Option Value) (dp un : Nat) (gd : Option (List Code)) (l : List Env) (H0 : Heap) (s : Shared) (Q E : Value → Shared → Prop) (o : Array UInt8) (t : Tok) (i : Int) (ti : Tok) (ks : List Int),
    Below (AT dp un gd l) H0 l s.heap → (hd.heap_39 w.params).In H0 → TT mean mg mb H0 → dp + 20 < recursionLimit → un + 100 < cLine → KBw.bInts o = ks → 0 ≤ i → ks.length ≤ 100 →
    (∀ q h' tk' t1 t2 t3, Sub s.heap h' → s.heap.get? q = none → h'.get? q = some (tupOf [.str (told o i).1 t1, .int (told o i).2.1 t2, .int (told o i).2.2 t3]) → Q (.ref q) { s with heap := h', toks := tk' }) →
    wpAny (model PySem.Challenge.rw_ve0059_01.row.prog w) (AT dp un gd l) (call (.ref 148) [.bytes o t, .int i ti]) Q E s := by
  k_fill
  intro w mean mg mb dp un gd l H0 s Q E o t i ti ks B X0 T0 hdp hun hb hi ho hret
  have X : (hd.heap_39 w.params).In s.heap := X0.keeps B.stays
  have T : TT mean mg mb s.heap := T0.keeps B.stays
  refine wpAny_call ?_
  k_dflt (refine' enterF [(Str.ofString "octets", .bytes o t), (Str.ofString "start", .int i ti)] X T.nolimit ?ho ?hcd ?hroom ?hbind ?hloc (fun h₁ F => ?_) ?c1 ?c2 ?c3 ?c4; (case ho => k_is); (case hcd => k_is); (case hroom => show dp < _; omega); (case hbind => exact BindsTo.of_eq rfl); (case hloc => rfl); (case c1 => rfl); (case c2 => rfl); (case c3 => rfl); (case c4 => decide))
  have N : News s.heap s.heap.objs.size h₁ [] := News.nil
  dsimp only
  (show wpAny _ _ _ _ _ _); (try k_fold)
  k_steps
  all_goals (try (k_unfold; try dsimp only))
  all_goals first
    | (exfalso; omega)
    | (refine hret _ _ _ _ _ _ (Fr.keep (by assumption)) (News.fresh (by assumption) (.head _)) (tup_told ?_ (News.get (by assumption) (.head _))))
  all_goals (clear hret B X0 T0 X T; (try (rename Fr _ _ _ _ => F9; clear F9)); (try (rename News _ _ _ _ => N9; clear N9)); (try (rename Fr _ _ _ _ => F9; clear F9)); (try (rename News _ _ _ _ => N9; clear N9)))
  all_goals first
    | ((have hf : 128 ≤ ks.getD i.toNat 0 := by omega); (have hf2 := fmod_head (ks.getD i.toNat 0) hf (by omega)); rcases hf2 with ⟨hq1, hq2⟩ | ⟨hq1, hq2⟩)
    | skip
  all_goals subst hb
  all_goals (generalize hc : clpS o i = r; unfold told stretch; rw [hc]; unfold clpS at hc; dsimp only at hc; (repeat' split at hc) <;> subst hc <;> dsimp only <;> first | rfl | (exfalso; omega) | skip)
  all_goals first
    | (exact trip (by omega) (by omega))
    | skip
  all_goals (try simp only [val_eq] at *)
  all_goals (have hz := zero_eq (o := o) (b := i + ((KBw.bInts o).getD i.toNat 0 - 128).fmod 64 - 54) hi (by omega))
  all_goals (try simp only [hz] at *)
  all_goals first
    | (exfalso; simp_all; done)
    | ((have hX : i + ((KBw.bInts o).getD i.toNat 0 - 128).fmod 64 - 54 = i + 1 + ((KBw.bInts o).getD i.toNat 0 - 183) := by omega); simp only [hX] at *; first | done | (exfalso; omega) | (exact trip (by omega) (by omega)))
    | ((have hX : i + ((KBw.bInts o).getD i.toNat 0 - 128).fmod 64 - 54 = i + 1 + ((KBw.bInts o).getD i.toNat 0 - 192 - 56 + 1) := by omega); simp only [hX] at *; first | done | (exfalso; omega) | (exact trip (by omega) (by omega)))
end Mine

namespace Mine

theorem clpS_msgs {o : Array UInt8} {i : Int} {m : Str} (h : clpS o i = .fault (.dec m)) : m = Str.ofString "Encoded as short string although single byte was possible" ∨ m = Str.ofString "Length starts with zero bytes" ∨ m = Str.ofString "Long string prefix used for short string" ∨ m = Str.ofString "Long list prefix used for short list" := by
  unfold clpS at h
  dsimp only at h
  (repeat' split at h) <;> first | (exact .inl (Fault.dec.inj (ClpR.fault.inj h)).symm) | (exact .inr (.inl (Fault.dec.inj (ClpR.fault.inj h)).symm)) | (exact .inr (.inr (.inl (Fault.dec.inj (ClpR.fault.inj h)).symm))) | (exact .inr (.inr (.inr (Fault.dec.inj (ClpR.fault.inj h)).symm))) | cases h
inductive ToldC (o : Array UInt8) (i : Int) : Prop
  | over : told o i = (Str.ofString "over", 0, 0) → stretch o i = .fault .index → ToldC o i
  | m1 : told o i = (Str.ofString "Encoded as short string although single byte was possible", 0, 0) → stretch o i = .fault (.dec (Str.ofString "Encoded as short string although single byte was possible")) → ToldC o i
  | m2 : told o i = (Str.ofString "Length starts with zero bytes", 0, 0) → stretch o i = .fault (.dec (Str.ofString "Length starts with zero bytes")) → ToldC o i
  | m3 : told o i = (Str.ofString "Long string prefix used for short string", 0, 0) → stretch o i = .fault (.dec (Str.ofString "Long string prefix used for short string")) → ToldC o i
  | m4 : told o i = (Str.ofString "Long list prefix used for short list", 0, 0) → stretch o i = .fault (.dec (Str.ofString "Long list prefix used for short list")) → ToldC o i
  | oct (b e : Int) : told o i = (Str.ofString "octets", b, e) → stretch o i = .octets b e → ToldC o i
  | lst (b e : Int) : told o i = (Str.ofString "list", b, e) → stretch o i = .lst b e → ToldC o i
theorem toldC (o : Array UInt8) (i : Int) : ToldC o i := by
  cases hs : stretch o i with
  | octets b e => exact .oct b e (by unfold told; rw [hs]) hs
  | lst b e => exact .lst b e (by unfold told; rw [hs]) hs
  | fault f =>
    rcases stretch_faults hs with rfl | ⟨m, rfl⟩
    · exact .over (by unfold told; rw [hs]) hs
    · have hc : clpS o i = .fault (.dec m) := by
        unfold stretch at hs
        split at hs
        · rename_i q; rw [q]; exact congrArg _ (St.fault.inj hs)
        · cases hs
        · cases hs
      have ht : told o i = (m, 0, 0) := by unfold told; rw [hs]
      rcases clpS_msgs hc with rfl | rfl | rfl | rfl
      · exact .m1 ht hs
      · exact .m2 ht hs
      · exact .m3 ht hs
      · exact .m4 ht hs

def RV (R : List (Addr × Obj)) (v : Value) : Item → Prop
  | .bs b => ∃ t, v = .bytes b t
  | .ls b e => ∃ q t1 t2, v = .ref q ∧ (q, tupOf [.int b t1, .int e t2]) ∈ R
theorem RV.mono {R R' : List (Addr × Obj)} {v : Value} {i : Item} (h : RV R v i) (k : ∀ p ∈ R, p ∈ R') : RV R' v i := by
  cases i with
  | bs b => exact h
  | ls b e => obtain ⟨q, t1, t2, a, b⟩ := h; exact ⟨q, t1, t2, a, k _ b⟩
def RAll (R : List (Addr × Obj)) : List Value → List Item → Prop
  | [], [] => True
  | v :: vs, i :: is => RV R v i ∧ RAll R vs is
  | _, _ => False
theorem RAll.mono {R R' : List (Addr × Obj)} (k : ∀ p ∈ R, p ∈ R') : ∀ {vs : List Value} {is : List Item}, RAll R vs is → RAll R' vs is
  | [], [], _ => trivial
  | _ :: _, _ :: _, h => ⟨h.1.mono k, RAll.mono k h.2⟩
  | [], _ :: _, h => h.elim
  | _ :: _, [], h => h.elim
theorem RAll.length {R : List (Addr × Obj)} : ∀ {vs : List Value} {is : List Item}, RAll R vs is → vs.length = is.length
  | [], [], _ => rfl
  | _ :: _, _ :: _, h => congrArg (· + 1) (RAll.length h.2)
  | [], _ :: _, h => h.elim
  | _ :: _, [], h => h.elim
theorem RAll.snoc {R : List (Addr × Obj)} {v : Value} {i : Item} (hv : RV R v i) : ∀ {vs : List Value} {is : List Item}, RAll R vs is → RAll R (vs ++ [v]) (is ++ [i])
  | [], [], _ => ⟨hv, trivial⟩
  | _ :: _, _ :: _, h => ⟨h.1, RAll.snoc hv h.2⟩
  | [], _ :: _, h => h.elim
  | _ :: _, [], h => h.elim
theorem RAll.get {R : List (Addr × Obj)} : ∀ {vs : List Value} {is : List Item} {n : Nat} {i : Item}, RAll R vs is → is[n]? = some i → ∃ v, vs[n]? = some v ∧ RV R v i
  | v :: _, i :: _, 0, j, h, e => ⟨v, rfl, by have : i = j := by simpa using e
                                              subst this; exact h.1⟩
  | _ :: vs, _ :: is, n + 1, j, h, e => by
    obtain ⟨w, a, b⟩ := RAll.get (n := n) h.2 (by simpa using e)
    exact ⟨w, by simpa using a, b⟩
  | [], [], _, _, _, e => by simp at e
  | [], _ :: _, _, _, h, _ => h.elim
  | _ :: _, [], _, _, h, _ => h.elim
theorem Fr.ext {g h : Heap} {L : Addr} {m m' : Str → Option Value} (F : Fr g L h m) (e : ∀ y, m y = m' y) : Fr g L h m' := (funext e : m = m') ▸ F
def Fewer (I : Nat → Shared → Prop) (n : Nat) (s : Shared) : Prop := ∃ m, m < n ∧ I m s
section
variable {prog : Program} {w : World} {A : Around} {E : Value → Shared → Prop} {s : Shared} {Q : Flow → Shared → Prop} {pos : Pos}
theorem While_J {env : Env} {test : Expr} {body : List Stmt} (I : Nat → Shared → Prop) (hE : PassesOwn (model prog w) A env E)
    (turn : ∀ n s, I n s → wpAny (model prog w) A (isTrue test env (eval test env)) (fun b s₂ => if b then wpAny (model prog w) A (execs body env) (fun f s₃ => match f with
            | .next | .cont => Fewer I n s₃
            | .brk => Q .next s₃
            | .ret v => Q (.ret v) s₃) E s₂ else Q .next s₂) E s)
    (n : Nat) (h : I n s) : wpAny (model prog w) A (exec (.While test body [] pos) env) Q E s := While_I I hE turn n h
end
theorem mem3 {α : Type} {D l q F p : α} {R : List α} (h : p ∈ D :: F :: R) : p ∈ D :: l :: q :: F :: R := by
  rcases List.mem_cons.mp h with rfl | h
  · exact .head _
  · exact .tail _ (.tail _ (.tail _ h))
/-- what lies new -/
def NewIn (g h : Heap) (news : List (Addr × Obj)) : Prop := ∀ p ∈ news, h.get? p.1 = some p.2 ∧ g.get? p.1 = none

local macro_rules | `(tactic| k_all) => `(tactic| with_reducible assumption)
local macro_rules | `(tactic| k_room) => `(tactic| ((try simp only [depth_under_make, depth_under_kw, depth_in1, depth_deeper, depth_caller]); (try dsimp only [AT]); omega))
local macro_rules | `(tactic| walk_at "exec While Compare cons nil") => `(tactic| (k_here; refine stop59 ?_))
local macro_rules | `(tactic| walk_at "exec While") => `(tactic| (k_here; refine stop59 ?_))
local macro_rules | `(tactic| walk_at "call ref") => `(tactic| (k_here; (with_reducible show wpAny _ _ (call (Value.ref 148) _) _ _ _); refine stop59 ?_))
def rowMap (F : Addr) (place : Int) (tp : Tok) (w1 w2 w3 : Option Value) (o : Array UInt8) (to : Tok) (b e : Int) (tb te : Tok) : Str → Option Value := fun y =>
  if y = Str.ofString "place" then some (.int place tp) else if y = Str.ofString "stop" then w3 else if y = Str.ofString "start" then w2 else if y = Str.ofString "kind" then w1 else if y = Str.ofString "found" then some (.ref F) else
  List.lookup y [(Str.ofString "octets", Value.bytes o to), (Str.ofString "begin", Value.int b tb), (Str.ofString "end", Value.int e te)].reverse
theorem rowMap_turn {F : Addr} {place place' : Int} {tp tp' : Tok} {w1 w2 w3 : Option Value} {k s st : Value} {o : Array UInt8} {to : Tok} {b e : Int} {tb te : Tok} (y : Str) :
    (if y = Str.ofString "place" then some (.int place' tp') else if y = Str.ofString "stop" then some st else if y = Str.ofString "start" then some s else if y = Str.ofString "kind" then some k else rowMap F place tp w1 w2 w3 o to b e tb te y) =
      rowMap F place' tp' (some k) (some s) (some st) o to b e tb te y := by
  unfold rowMap
  by_cases h1 : y = Str.ofString "place"
  · subst h1; rfl
  · rw [if_neg h1, if_neg h1]
    by_cases h2 : y = Str.ofString "stop"
    · subst h2; rfl
    · rw [if_neg h2, if_neg h2]
      by_cases h3 : y = Str.ofString "start"
      · subst h3; rfl
      · rw [if_neg h3, if_neg h3]
        by_cases h4 : y = Str.ofString "kind"
        · subst h4; rfl
        · simp only [if_neg h1, if_neg h2, if_neg h3, if_neg h4]
theorem newsF2 {g h : Heap} {L F : Addr} {vs : List Value} {v : Value} {c : Nat} {x1 x2 : Addr × Obj} {R : List (Addr × Obj)} (N : News g L h (x1 :: x2 :: (F, W.listOf (vs.toArray.push v) c) :: R)) : News g L h ((F, W.listOf (vs ++ [v]).toArray c) :: R) := by
  rw [List.push_toArray] at N
  exact fun p hp => N p (.tail _ (.tail _ hp))
theorem newsF3 {g h : Heap} {L F : Addr} {vs : List Value} {v : Value} {c : Nat} {x0 x1 x2 : Addr × Obj} {R : List (Addr × Obj)} (N : News g L h (x0 :: x1 :: x2 :: (F, W.listOf (vs.toArray.push v) c) :: R)) : News g L h ((F, W.listOf (vs ++ [v]).toArray c) :: x0 :: R) := by
  rw [List.push_toArray] at N
  intro p hp
  rcases List.mem_cons.mp hp with rfl | hp
  · exact N _ (.tail _ (.tail _ (.tail _ (.head _))))
  · rcases List.mem_cons.mp hp with rfl | hp
    · exact N _ (.head _)
    · exact N p (.tail _ (.tail _ (.tail _ (.tail _ hp))))
set_option maxHeartbeats 2000000 in
theorem row_spec : ∀ (w : World) (mean : ExcName → Option Value) (mg mb : Str → Option Value) (dp un : Nat) (gd : Option (List Code)) (l : List Env) (H0 : Heap) (s : Shared) (Q E : Value → Shared → Prop) (o : Array UInt8) (to : Tok) (ks : List Int) (b e : Int) (tb te : Tok),
    Below (AT dp un gd l) H0 l s.heap → (hd.heap_39 w.params).In H0 → TT mean mg mb H0 → dp + 100 < recursionLimit → un + 500 < cLine → KBw.bInts o = ks → ks.length ≤ 100 → 0 ≤ b →
    (∀ items j f D F R vs n t h' tk', Final o b e items j f → Sub s.heap h' → NewIn s.heap h' ((D, tupOf [.ref F, .str (word f) t]) :: (F, W.listOf vs.toArray n) :: R) → RAll R vs items → Q (.ref D) { s with heap := h', toks := tk' }) →
    wpAny (model PySem.Challenge.rw_ve0059_01.row.prog w) (AT dp un gd l) (call (.ref 155) [.bytes o to, .int b tb, .int e te]) Q E s := by
  k_fill
  intro w mean mg mb dp un gd l H0 s Q E o to ks b e tb te B X0 T0 hdp hun hb hks hb0 hret
  have X : (hd.heap_39 w.params).In s.heap := X0.keeps B.stays
  have T : TT mean mg mb s.heap := T0.keeps B.stays
  refine wpAny_call ?_
  k_dflt (refine' enterF [(Str.ofString "octets", .bytes o to), (Str.ofString "begin", .int b tb), (Str.ofString "end", .int e te)] X T.nolimit ?ho ?hcd ?hroom ?hbind ?hloc (fun h₁ F => ?_) ?c1 ?c2 ?c3 ?c4; (case ho => k_is); (case hcd => k_is); (case hroom => show dp < _; omega); (case hbind => exact BindsTo.of_eq rfl); (case hloc => rfl); (case c1 => rfl); (case c2 => rfl); (case c3 => rfl); (case c4 => decide))
  have N : News s.heap s.heap.objs.size h₁ [] := News.nil
  dsimp only
  (show wpAny _ _ _ _ _ _)
  k_steps
  (show wpAny _ _ _ _ _ _)
  rename News _ _ _ _ => N1
  rename Fr _ _ _ _ => F1
  obtain ⟨F9, hF9⟩ : ∃ F9 : Addr, News s.heap s.heap.objs.size _ [(F9, W.listOf #[] 0)] ∧ Fr s.heap s.heap.objs.size _ (rowMap F9 b tb none none none o to b e tb te) := ⟨_, N1, Fr.ext F1 (fun y => by
    unfold rowMap
    by_cases h1 : y = Str.ofString "place"
    · rw [if_pos h1, if_pos h1]
    · rw [if_neg h1, if_neg h1]
      by_cases h2 : y = Str.ofString "stop"
      · subst h2; rfl
      · rw [if_neg h2]
        by_cases h3 : y = Str.ofString "start"
        · subst h3; rfl
        · rw [if_neg h3]
          by_cases h4 : y = Str.ofString "kind"
          · subst h4; rfl
          · rw [if_neg h4])⟩
  clear F1 N1
  refine While_J (fun n s' => ∃ h' tk' place tp w1 w2 w3 vs c R items, s' = { s with heap := h', toks := tk' } ∧ Fr s.heap s.heap.objs.size h' (rowMap F9 place tp w1 w2 w3 o to b e tb te) ∧ News s.heap s.heap.objs.size h' ((F9, W.listOf (List.toArray vs) c) :: R) ∧ RAll R vs items ∧ Run o e b items place ∧ (∀ p ∈ R, p.1 ≠ F9) ∧ n = (e - place).toNat) (by passes_own) (fun n s' hI => ?_) (e - b).toNat ?_
  · obtain ⟨h', tk', place, tp, w1, w2, w3, vs, c, R, items, rfl, F2, N2, hR, hrun, hRF, hn⟩ := hI
    clear hF9
    have hgo := hrun.go hb0
    have hvl : vs.length ≤ 100 := by have h1 := hR.length; have h2 := hrun.len hb0; rw [hb] at h2; omega
    unfold rowMap at F2
    k_steps
    · (show wpAny _ _ (call (Value.ref 148) [.bytes o to, .int place tp]) _ _ _)
      refine str_spec _ _ _ _ _ _ _ _ _ _ _ _ o _ place _ ks (B.push F2) X0 T0 (by dsimp only [Around.deeper]; omega) (by dsimp only [Around.deeper]; omega) hb (by omega) hks (fun q h'' tk'' t1 t2 t3 hs hq1 hq2 => ?_)
      obtain ⟨N3, hne⟩ := News.add F2 N2 hs hq1 hq2
      have F3 := Fr.ofSub F2 hs
      have hqF := neN (hne _ (.head _))
      have hqR : ∀ p ∈ R, p.1 ≠ q := fun p hp => hne p (.tail _ hp)
      clear F2 N2 hne
      dsimp only at hqF
      rcases toldC o place with ⟨ht, hst⟩ | ⟨ht, hst⟩ | ⟨ht, hst⟩ | ⟨ht, hst⟩ | ⟨ht, hst⟩ | ⟨bb, ee, ht, hst⟩ | ⟨bb, ee, ht, hst⟩ <;> rw [ht] at N3 <;> dsimp only [tupOf] at N3
      · k_steps
        rename News _ _ _ _ => N9
        rename Fr _ _ _ _ => F10
        exact hret items place .index _ _ _ vs c _ _ _ ⟨hrun, .inr (.inr ⟨by omega, hst⟩)⟩ F10.keep (fun p hp => ⟨(N9 p (mem3 hp)).1, (N9 p (mem3 hp)).2.2⟩) hR
      · k_steps
        rename News _ _ _ _ => N9
        rename Fr _ _ _ _ => F10
        exact hret items place (.dec _) _ _ _ vs c _ _ _ ⟨hrun, .inr (.inr ⟨by omega, hst⟩)⟩ F10.keep (fun p hp => ⟨(N9 p (mem3 hp)).1, (N9 p (mem3 hp)).2.2⟩) hR
      · k_steps
        rename News _ _ _ _ => N9
        rename Fr _ _ _ _ => F10
        exact hret items place (.dec _) _ _ _ vs c _ _ _ ⟨hrun, .inr (.inr ⟨by omega, hst⟩)⟩ F10.keep (fun p hp => ⟨(N9 p (mem3 hp)).1, (N9 p (mem3 hp)).2.2⟩) hR
      · k_steps
        rename News _ _ _ _ => N9
        rename Fr _ _ _ _ => F10
        exact hret items place (.dec _) _ _ _ vs c _ _ _ ⟨hrun, .inr (.inr ⟨by omega, hst⟩)⟩ F10.keep (fun p hp => ⟨(N9 p (mem3 hp)).1, (N9 p (mem3 hp)).2.2⟩) hR
      · k_steps
        rename News _ _ _ _ => N9
        rename Fr _ _ _ _ => F10
        exact hret items place (.dec _) _ _ _ vs c _ _ _ ⟨hrun, .inr (.inr ⟨by omega, hst⟩)⟩ F10.keep (fun p hp => ⟨(N9 p (mem3 hp)).1, (N9 p (mem3 hp)).2.2⟩) hR
      · k_steps
        rename News _ _ _ _ => N9
        rename Fr _ _ _ _ => F10
        have go := step_go (by omega) (step_octets hst)
        exact ⟨(e - ee).toNat, by omega, _, _, ee, _, _, _, _, _, _, R, _, rfl, Fr.ext F10 rowMap_turn, newsF2 N9, RAll.snoc (show RV _ _ (.bs _) from ⟨_, rfl⟩) hR, .snoc hrun (by assumption) (step_octets hst), hRF, rfl⟩
      · k_steps
        rename News _ _ _ _ => N9
        rename Fr _ _ _ _ => F10
        have go := step_go (by omega) (step_lst hst)
        rename (_ ∧ _ ∧ _ ∧ AllLt _ R) => hlt
        exact ⟨(e - ee).toNat, by omega, _, _, ee, _, _, _, _, _, _, _ :: R, _, rfl, Fr.ext F10 rowMap_turn, newsF3 N9, RAll.snoc (show RV _ _ (.ls _ _) from ⟨_, _, _, rfl, .head _⟩) (hR.mono fun p hp => .tail _ hp), .snoc hrun (by assumption) (step_lst hst), fun p hp => (List.mem_cons.mp hp).elim (fun q => by rw [q]; exact Ne.symm (Nat.ne_of_lt hlt.2.2.1)) (hRF p), rfl⟩
    · rename News _ _ _ _ => N9
      rename Fr _ _ _ _ => F10
      exact hret items place .stop _ _ R vs c _ _ _ ⟨hrun, .inl ⟨by omega, rfl⟩⟩ F10.keep (fun p hp => ⟨(N9 p hp).1, (N9 p hp).2.2⟩) hR
    · rename News _ _ _ _ => N9
      rename Fr _ _ _ _ => F10
      exact hret items place .assert _ _ R vs c _ _ _ ⟨hrun, .inr (.inl ⟨by omega, rfl⟩)⟩ F10.keep (fun p hp => ⟨(N9 p hp).1, (N9 p hp).2.2⟩) hR
  · exact ⟨_, _, b, tb, none, none, none, [], 0, [], [], rfl, hF9.2, hF9.1, trivial, .nil, (fun _ q => nomatch q), rfl⟩
end Mine

namespace Mine

def AgainJ (h₀ : Heap) (L I : Addr) (own : List (Addr × Obj)) (J : (Str → Option Value) → List (Addr × Obj) → Prop) (s₁ s₂ : Shared) : Prop :=
  ∃ h' tk' m' nx, s₂ = { s₁ with heap := h', toks := tk' } ∧ Fr h₀ L h' m' ∧ News h₀ L h' (own ++ nx) ∧ (∀ p ∈ nx, p.1 ≠ I) ∧ J m' nx
def StepJ (h₀ : Heap) (L I : Addr) (own : List (Addr × Obj)) (J : (Str → Option Value) → List (Addr × Obj) → Prop) (s₁ : Shared) (Q : Flow → Shared → Prop) (f : Flow) (s₂ : Shared) : Prop :=
  match f with
  | .ret v => Q (.ret v) s₂
  | .brk => Q .next s₂
  | _ => AgainJ h₀ L I own J s₁ s₂

section
variable {prog : Program} {w : World} {A : Around} {E : Value → Shared → Prop} {s : Shared} {env : Env} {h₀ : Heap} {x : Str} {body : List Stmt} {Q : Flow → Shared → Prop}
theorem iter_range59 {r : Addr} {a₀ b₀ : Int} {t₀ u₀ v₀ : Tok} {n : Nat} {m₀ : Str → Option Value} {news : List (Addr × Obj)} (J : Nat → (Str → Option Value) → List (Addr × Obj) → Prop)
    (hh : A.handled = none) (hr : IsRange s.heap r a₀ b₀ 1 t₀ u₀ v₀) (hsmall : Builtin.Range.small a₀ b₀ 1 = true) (hn : Builtin.Range.rangeSize a₀ b₀ 1 = (n : Int)) (F : Fr h₀ env.locals s.heap m₀) (N : News h₀ env.locals s.heap news) (h0 : J 0 m₀ news)
    (turn : ∀ i t m₁ nx h tk I own, i < n → J i m₁ nx → (∀ p ∈ nx, p.1 ≠ I) → (∀ p ∈ own, p.1 = I) → Fr h₀ env.locals h (fun y => if y = x then some (.int (a₀ + (i : Nat)) t) else m₁ y) → News h₀ env.locals h (own ++ nx) →
      wpAny (model prog w) A (execs body env) (StepJ h₀ env.locals I own (J (i + 1)) { s with heap := h, toks := tk } Q) E { s with heap := h, toks := tk })
    (done : ∀ m₁ nx h tk, J n m₁ nx → Fr h₀ env.locals h m₁ → News h₀ env.locals h nx → Q .next { s with heap := h, toks := tk }) :
    wpAny (model prog w) A (pyIter (.ref r)) (fun it s₂ => LoopAtV prog w A h₀ env x body Q E it s₂) E s := by
  refine wpAny_pyIter_range hr hsmall ?_
  refine ⟨s.heap.objs.size, [s.heap.objs.size], [s.heap.objs.size], n, _, _, m₀, news, J, rfl, Walks.range hh _ a₀ 1 n, ?_, ?_, ?_, (by show IsRangeIter _ _ _ _ _; rw [hn]; simpa using Heap.get?_push_size _ rfl), F.push _, (fun p hp => ⟨Heap.get?_push_of_some _ (N p hp).1, (N p hp).2⟩), h0, ?_, ?_⟩
  · intro hm
    exact absurd F.ns.lt ((List.mem_singleton.mp hm) ▸ Nat.lt_irrefl _)
  · intro b hb
    rw [List.mem_singleton.mp hb]
    exact next_is_new F
  · intro p hp hI
    exact absurd (Heap.lt_size (N p hp).1) ((List.mem_singleton.mp hI) ▸ Nat.lt_irrefl _)
  · rintro i v m₁ nx s₁ own ⟨h, tk, rfl⟩ hi ⟨t, rfl⟩ hJ hoff hsub hget hall hst F' N'
    have e : a₀ + (i : Int) * 1 = a₀ + (i : Nat) := by omega
    rw [e] at F'
    refine wpAny_mono (turn i t m₁ nx h tk s.heap.objs.size own hi hJ (fun p hp q => hoff p hp (q ▸ .head _)) (fun p hp => List.mem_singleton.mp (hsub p hp)) F' N') (fun f s' hf => ?_) fun _ _ y => y
    cases f with
    | ret v => exact hf
    | brk => exact hf
    | next => obtain ⟨h', tk', m', nx', rfl, a, b, c, d⟩ := hf; exact ⟨rfl, h', tk', m', nx', rfl, a, b, fun p hp q => c p hp (List.mem_singleton.mp q), d⟩
    | cont => obtain ⟨h', tk', m', nx', rfl, a, b, c, d⟩ := hf; exact ⟨rfl, h', tk', m', nx', rfl, a, b, fun p hp q => c p hp (List.mem_singleton.mp q), d⟩
  · intro h' tk m' news' F' N' hoff hJ
    exact done m' news' h' tk hJ F' N'
end
end Mine

namespace Mine

theorem told_step {o : Array UInt8} {i k : Int} {it : Item} (h : step o i = some (it, k)) : (told o i).2.2 = k := by
  unfold step at h
  unfold told
  cases hs : stretch o i with
  | fault f => rw [hs] at h; cases h
  | octets b e => rw [hs] at h; injection h with h; injection h with _ h
  | lst b e => rw [hs] at h; injection h with h; injection h with _ h
theorem Final.turn {o : Array UInt8} {b fin j pl : Int} {items : List Item} {f : Fault} {i : Nat} (F : Final o b fin items j f) (hi : i < items.length) (R : Run o fin b (items.take i) pl) : Run o fin b (items.take (i + 1)) (told o pl).2.2 := by
  have hl : (items.take i).length = i := by rw [List.length_take]; omega
  obtain ⟨_, _, _, d⟩ := F.next R
  obtain ⟨u, k, v⟩ := d (items[i]) (by rw [hl]; exact List.getElem?_eq_getElem hi)
  rw [told_step v, List.take_add_one, List.getElem?_eq_getElem hi]
  exact .snoc R u v
def endsMap (F : Addr) (pl : Int) (tp : Tok) (w1 : Option Value) (o : Array UInt8) (to : Tok) : Str → Option Value := fun y =>
  if y = Str.ofString "place" then some (.int pl tp) else if y = Str.ofString "k" then w1 else List.lookup y [(Str.ofString "octets", Value.bytes o to), (Str.ofString "found", Value.ref F)].reverse

theorem endsMap_start {F : Addr} {tp : Tok} {o : Array UInt8} {to : Tok} : (fun y => if y = Str.ofString "place" then some (Value.int 1 tp) else List.lookup y [(Str.ofString "octets", Value.bytes o to), (Str.ofString "found", Value.ref F)].reverse) = endsMap F 1 tp none o to := by
  funext y
  unfold endsMap
  by_cases h1 : y = Str.ofString "place"
  · subst h1; rfl
  · rw [if_neg h1, if_neg h1]
    by_cases h2 : y = Str.ofString "k"
    · subst h2; rfl
    · rw [if_neg h2]
theorem endsMap_turn {F : Addr} {pl pl' : Int} {tp tp' : Tok} {v : Value} {w1 : Option Value} {o : Array UInt8} {to : Tok} : (fun y => if y = Str.ofString "place" then some (Value.int pl' tp') else if y = Str.ofString "k" then some v else endsMap F pl tp w1 o to y) = endsMap F pl' tp' (some v) o to := by
  funext y
  unfold endsMap
  by_cases h1 : y = Str.ofString "place"
  · subst h1; rfl
  · rw [if_neg h1, if_neg h1]
    by_cases h2 : y = Str.ofString "k"
    · subst h2; rfl
    · simp only [if_neg h1, if_neg h2]
theorem small59 {n : Nat} (h : n ≤ 1000) : Builtin.Range.small 0 (n : Int) 1 = true := by
  have e : Builtin.Range.rangeSize 0 (n : Int) 1 = (n : Int) := by rw [rangeSize_nat]; omega
  have f : ∀ k : Int, 0 ≤ k → k ≤ 1000 → Builtin.Range.rangeFitsLong k = true := fun k h0 h1 => by
    unfold Builtin.Range.rangeFitsLong
    simp
    omega
  unfold Builtin.Range.small
  rw [e, f 0 (by omega) (by omega), f n (by omega) (by omega), f 1 (by omega) (by omega), if_pos (by decide), f _ (by omega) (by omega)]
  simp
local macro_rules | `(tactic| k_room) => `(tactic| ((try simp only [depth_under_make, depth_under_kw, depth_in1, depth_deeper, depth_caller]); (try dsimp only [AT]); omega))
local macro_rules | `(tactic| walk_at "call builtin:len") => `(tactic| (k_here; (with_reducible show wpAny _ _ (call (Value.builtin "len") [Value.ref _]) _ _ _); (with_reducible rename News _ _ _ _ => N'); k_dflt (refine' len_list (items := List.toArray _) (News.isList N' ?k1) ?k2 ?_; (case k1 => k_mem); (case k2 => (rw [List.size_toArray]; omega)); k_whole); (try rw [List.size_toArray])))
local macro_rules | `(tactic| walk_at "exec For") => `(tactic| (k_here; refine stop59 ?_))
local macro_rules | `(tactic| walk_at "exec For Name Call cons nil") => `(tactic| (k_here; refine stop59 ?_))
local macro_rules | `(tactic| walk_at "pyIter ref") => `(tactic| (k_here; refine stop59 ?_))
local macro_rules | `(tactic| walk_at "call ref") => `(tactic| (k_here; (with_reducible show wpAny _ _ (call (Value.ref 148) _) _ _ _); refine stop59 ?_))
set_option maxHeartbeats 2000000 in
theorem ends_spec : ∀ (w : World) (mean : ExcName → Option Value) (mg mb : Str → Option Value) (dp un : Nat) (gd : Option (List Code)) (l : List Env) (H0 : Heap) (s : Shared) (Q E : Value → Shared → Prop) (o : Array UInt8) (to : Tok) (ks : List Int) (F9 : Addr) (vs : List Value) (c : Nat) (items : List Item) (e j : Int) (f : Fault),
    Below (AT dp un gd l) H0 l s.heap → (hd.heap_39 w.params).In H0 → TT mean mg mb H0 → dp + 100 < recursionLimit → un + 500 < cLine → KBw.bInts o = ks → ks.length ≤ 100 →
    s.heap.get? F9 = some (W.listOf vs.toArray c) → H0.get? F9 = none → F9 ∉ l.filterMap (·.frame) → vs.length = items.length → Final o 1 e items j f →
    (∀ h' tk' , Sub s.heap h' → Q (.bool (j == (ks.length : Int))) { s with heap := h', toks := tk' }) →
    wpAny (model PySem.Challenge.rw_ve0059_01.row.prog w) (AT dp un gd l) (call (.ref 190) [.bytes o to, .ref F9]) Q E s := by
  k_fill
  intro w mean mg mb dp un gd l H0 s Q E o to ks F9 vs c items e j f B0 X0 T0 hdp hun hb hks hF hF0 hFl hvl hFin hret
  have X : (hd.heap_39 w.params).In s.heap := X0.keeps B0.stays
  have T : TT mean mg mb s.heap := T0.keeps B0.stays
  have hil := hFin.1.len (by decide)
  rw [hb] at hil
  have hg : Sub (hideAll s.heap [F9]) s.heap := fun _ _ e => of_hideAll _ e
  have st : Sub H0 (hideAll s.heap [F9]) := fun b o e => hideAll_get _ (B0.stays b o e) fun q => by rw [List.mem_singleton.mp q, hF0] at e; cases e
  have B : Below (AT dp un gd l) H0 l (hideAll s.heap [F9]) := ⟨B0.stack, st, funFrames_hideAll B0.frames fun env he a ha hf => hFl (List.mem_filterMap.mpr ⟨env, he, by rw [hf, List.mem_singleton.mp ha]⟩)⟩
  have XB : (hd.heap_39 w.params).In (hideAll s.heap [F9]) := X0.keeps st
  have TB : TT mean mg mb (hideAll s.heap [F9]) := T0.keeps st
  refine wpAny_call ?_
  k_dflt (refine' enterF [(Str.ofString "octets", .bytes o to), (Str.ofString "found", .ref F9)] X T.nolimit ?ho ?hcd ?hroom ?hbind ?hloc (fun h₁ F0 => ?_) ?c1 ?c2 ?c3 ?c4; (case ho => k_is); (case hcd => k_is); (case hroom => show dp < _; omega); (case hbind => exact BindsTo.of_eq rfl); (case hloc => rfl); (case c1 => rfl); (case c2 => rfl); (case c3 => rfl); (case c4 => decide))
  have F : Fr (hideAll s.heap [F9]) s.heap.objs.size _ _ := ⟨F0.ns, hg.trans F0.keep, Nat.le_of_eq (hideAll_size _ _)⟩
  have N : News (hideAll s.heap [F9]) s.heap.objs.size h₁ [(F9, W.listOf vs.toArray c)] := fun p hp => by
    rw [List.mem_singleton.mp hp]
    exact ⟨F0.keep _ _ hF, Nat.ne_of_lt (Heap.lt_size hF), hideAll_none _ (.head _)⟩
  clear F0
  dsimp only
  (show wpAny _ _ _ _ _ _)
  k_steps
  (show wpAny _ _ _ _ _ _)
  refine For_invV (hideAll s.heap [F9]) rfl rfl ?_
  k_steps
  (show wpAny _ _ _ _ _ _)
  have hsz : vs.toArray.size = vs.length := List.size_toArray
  refine iter_range59 (n := vs.toArray.size) (fun i m nx => nx = [(F9, W.listOf vs.toArray c)] ∧ ∃ pl tp w1, m = endsMap F9 pl tp w1 o to ∧ Run o e 1 (items.take i) pl) rfl (by assumption) (small59 (by omega)) (by rw [rangeSize_nat]; omega) (by assumption) (by assumption) ⟨rfl, 1, _, none, endsMap_start, .nil⟩ ?_ ?_
  · rintro i t m₁ nx h tk I own hi ⟨rfl, pl, tp, w1, rfl, hrun⟩ hoff hown F3 N3
    have N4 : News (hideAll s.heap [F9]) s.heap.objs.size h ((F9, W.listOf vs.toArray c) :: own) := fun p hp => N3 p ((List.mem_cons.mp hp).elim (fun q => List.mem_append_right _ (q ▸ .head _)) (List.mem_append_left _))
    clear N3
    try (rename News _ _ _ [_] => Nx; clear Nx)
    try (rename News _ _ _ [_] => Nx; clear Nx)
    have hgo := hrun.go (by decide)
    unfold endsMap at F3
    k_steps
    (show wpAny _ _ (call (Value.ref 148) [.bytes o to, .int pl tp]) _ _ _)
    refine str_spec _ _ _ _ _ _ _ _ _ _ _ _ o _ pl _ ks (B.push F3) X0 T0 (by dsimp only [Around.deeper]; omega) (by dsimp only [Around.deeper]; omega) hb (by omega) hks (fun q h'' tk'' t1 t2 t3 hs hq1 hq2 => ?_)
    obtain ⟨N5, hne⟩ := News.add F3 N4 hs hq1 hq2
    have F5 := Fr.ofSub F3 hs
    clear F3 N4
    dsimp only [tupOf] at N5
    k_steps
    rename News _ _ _ _ => N6
    rename Fr _ _ _ _ => F6
    refine ⟨_, _, _, [(F9, W.listOf vs.toArray c)], rfl, F6, (fun p hp => N6 p (.tail _ ((List.mem_append.mp hp).elim (fun q => .tail _ q) (fun q => List.mem_singleton.mp q ▸ .head _)))), hoff, rfl, _, _, _, endsMap_turn, hFin.turn (by omega) hrun⟩
  · rintro m₁ nx h tk ⟨rfl, pl, tp, w1, rfl, hrun⟩ F3 N3
    unfold endsMap at F3
    k_steps
    rename Fr _ _ _ _ => F6
    rw [List.take_of_length_le (by omega)] at hrun
    obtain rfl := hrun.det hFin.1
    rename News _ _ _ _ => N6
    refine hret _ _ fun b ob q => ?_
    by_cases hbF : b = F9
    · subst hbF
      rw [hF] at q
      cases q
      exact (N6 _ (.head _)).1
    · exact F6.keep b ob (hideAll_get _ q fun z => hbF (List.mem_singleton.mp z))
end Mine

namespace Mine

local macro_rules | `(tactic| k_room) => `(tactic| ((try simp only [depth_under_make, depth_under_kw, depth_in1, depth_deeper, depth_caller]); (try dsimp only [AT]); omega))
local macro_rules | `(tactic| walk_at "call builtin:len") => `(tactic| (k_here; (with_reducible show wpAny _ _ (call (Value.builtin "len") [Value.ref _]) _ _ _); (with_reducible rename News _ _ _ _ => N'); k_dflt (refine' len_list (items := List.toArray _) (News.isList N' ?k1) ?k2 ?_; (case k1 => k_mem); (case k2 => (rw [List.size_toArray]; omega)); k_whole); (try rw [List.size_toArray])))
set_option maxHeartbeats 2000000 in
theorem draw_spec : ∀ (w : World) (mean : ExcName → Option Value) (mg mb : Str → Option Value) (dp un : Nat) (gd : Option (List Code)) (l : List Env) (H0 : Heap) (s : Shared) (Q E : Value → Shared → Prop) (S SL : Addr) (c : Int) (tc : Tok) (cap cap2 : Nat) (vs : List Value) (ns : List Int) (lim : Int) (tl : Tok),
    Below (AT dp un gd l) H0 l s.heap → (hd.heap_39 w.params).In H0 → TT mean mg mb H0 → dp + 100 < recursionLimit → un + 500 < cLine →
    s.heap.get? S = some (W.listOf #[.ref SL, .int c tc] cap) → s.heap.get? SL = some (W.listOf vs.toArray cap2) → S ≠ SL → H0.get? S = none → H0.get? SL = none → S ∉ l.filterMap (·.frame) → SL ∉ l.filterMap (·.frame) →
    IntsAre vs ns → vs.length ≤ 100 → 0 ≤ c → c ≤ 1000 → 0 < lim → lim ≤ 100 →
    (∀ r t tc' cap' h' tk', 0 ≤ r → r < lim → SubX [S] s.heap h' → h'.get? S = some (W.listOf #[.ref SL, .int (c + 1) tc'] cap') → Q (.int r t) { s with heap := h', toks := tk' }) →
    wpAny (model PySem.Challenge.rw_ve0059_01.row.prog w) (AT dp un gd l) (call (.ref 141) [.ref S, .int lim tl]) Q E s := by
  k_fill
  intro w mean mg mb dp un gd l H0 s Q E S SL c tc cap cap2 vs ns lim tl B0 X0 T0 hdp hun hSt hSl hne hS0 hSl0 hSf hSlf hints hvl hc0 hc1 hl0 hl1 hret
  have X : (hd.heap_39 w.params).In s.heap := X0.keeps B0.stays
  have T : TT mean mg mb s.heap := T0.keeps B0.stays
  have hnN := neN hne
  have hg : Sub (hideAll s.heap [S, SL]) s.heap := fun _ _ e => of_hideAll _ e
  have hnone : ∀ a ∈ [S, SL], H0.get? a = none ∧ a ∉ l.filterMap (·.frame) := fun a ha => by
    rcases List.mem_cons.mp ha with rfl | ha
    · exact ⟨hS0, hSf⟩
    · rw [List.mem_singleton.mp ha]; exact ⟨hSl0, hSlf⟩
  have st : Sub H0 (hideAll s.heap [S, SL]) := fun b o e => hideAll_get _ (B0.stays b o e) fun q => by rw [(hnone b q).1] at e; cases e
  have B : Below (AT dp un gd l) H0 l (hideAll s.heap [S, SL]) := ⟨B0.stack, st, funFrames_hideAll B0.frames fun env he a ha hf => (hnone a ha).2 (List.mem_filterMap.mpr ⟨env, he, hf⟩)⟩
  have XB : (hd.heap_39 w.params).In (hideAll s.heap [S, SL]) := X0.keeps st
  have TB : TT mean mg mb (hideAll s.heap [S, SL]) := T0.keeps st
  refine wpAny_call ?_
  k_dflt (refine' enterF [(Str.ofString "state", .ref S), (Str.ofString "limit", .int lim tl)] X T.nolimit ?ho ?hcd ?hroom ?hbind ?hloc (fun h₁ F0 => ?_) ?c1 ?c2 ?c3 ?c4; (case ho => k_is); (case hcd => k_is); (case hroom => show dp < _; omega); (case hbind => exact BindsTo.of_eq rfl); (case hloc => rfl); (case c1 => rfl); (case c2 => rfl); (case c3 => rfl); (case c4 => decide))
  have F : Fr (hideAll s.heap [S, SL]) s.heap.objs.size h₁ _ := ⟨F0.ns, hg.trans F0.keep, Nat.le_of_eq (hideAll_size _ _)⟩
  have N : News (hideAll s.heap [S, SL]) s.heap.objs.size h₁ [(S, W.listOf #[.ref SL, .int c tc] cap), (SL, W.listOf vs.toArray cap2)] := fun p hp => by
    rcases List.mem_cons.mp hp with rfl | hp
    · exact ⟨F0.keep _ _ hSt, Nat.ne_of_lt (Heap.lt_size hSt), hideAll_none _ (.head _)⟩
    · rw [List.mem_singleton.mp hp]; exact ⟨F0.keep _ _ hSl, Nat.ne_of_lt (Heap.lt_size hSl), hideAll_none _ (.tail _ (.head _))⟩
  clear F0
  dsimp only
  (show wpAny _ _ _ _ _ _)
  k_steps
  all_goals (rename News _ _ _ _ => N9)
  all_goals (rename Fr _ _ _ _ => F9)
  all_goals (have hsx : SubX [S] s.heap _ := fun b ob q nb => (by
    by_cases hb : b = SL
    · subst hb
      rw [hSl] at q
      cases q
      exact (N9 _ (.tail _ (.head _))).1
    · exact F9.keep b ob (hideAll_get _ q fun z => (List.mem_cons.mp z).elim (fun y => nb (y ▸ .head _)) fun y => hb (List.mem_singleton.mp y))))
  · exact hret 0 _ _ _ _ _ (by omega) hl0 hsx (N9 _ (.head _)).1
  · refine hret ((ns.getD (c + 1 - 1).toNat 0).fmod lim) _ _ _ _ _ (Int.fmod_nonneg_of_pos _ hl0) (Int.fmod_lt_of_pos _ hl0) hsx (N9 _ (.head _)).1
end Mine

namespace Mine
theorem head_lst {o : Array UInt8} {ks : List Int} {n : Int} (hk : KBw.bInts o = (192 + n) :: ks) (h0 : 0 ≤ n) (h1 : n ≤ 55) : stretch o 0 = .lst 1 (1 + n) := by
  have hc : clpS o 0 = .ok true n 1 := by
    unfold clpS
    rw [hk]
    dsimp only
    have e : ((192 + n) :: ks).getD (0 : Int).toNat 0 = 192 + n := rfl
    rw [e, if_neg (by rw [List.length_cons]; omega), if_neg (by omega), if_neg (by omega), if_neg (by omega), if_pos (by omega)]
    congr 1
    omega
  unfold stretch
  rw [hc]
end Mine

namespace Mine

theorem flOne {env : Env} {L : Addr} (he : env.frame = some L) : ([env].filterMap (·.frame) : List Addr) = [L] := by
  rw [List.filterMap_cons, he]; rfl
theorem turnNews {g h h' : Heap} {L : Addr} {ws fl : List Addr} {news : List (Addr × Obj)} (N : News g L h news) (k : TurnX ws fl h h') (hw : ∀ p ∈ news, p.1 ∉ ws) (hfl : fl = [L]) : News g L h' news := fun p hp =>
  ⟨(k _ _ (N p hp).1 (hw p hp)).1 fun q => (N p hp).2.1 (by rw [hfl] at q; exact List.mem_singleton.mp q), (N p hp).2⟩
theorem turnFr {g h h' : Heap} {L : Addr} {ws fl : List Addr} {m : Str → Option Value} (F : Fr g L h m) (k : TurnX ws fl h h') (hL : L ∉ ws) (hw : ∀ a ∈ ws, g.get? a = none) (hfl : fl = [L]) : Fr g L h' m :=
  frTurnX F k hL hw fun a ha => by rw [hfl] at ha; rw [List.mem_singleton.mp ha]; exact Fr.none F
theorem told_after {P : Params} {o : Array UInt8} {g h h' : Heap} {L : Addr} {m : Str → Option Value} {A0 : List (Addr × Obj)} {Z Z' : List LZ} {fl : List Addr} (F : Fr g L h m) (N : News g L h A0) (hA : ∀ p ∈ A0, p.1 ∉ zAddrs Z)
    (S : Store P o g [L] h Z) (hfl : fl = [L]) (S' : Store P o (hideAll h (L :: zAddrs Z)) fl h' Z') (k : TurnX (zAddrs Z) fl h h') :
    Fr g L h' m ∧ News g L h' A0 ∧ (∀ p ∈ A0, p.1 ∉ zAddrs Z') ∧ Store P o g [L] h' Z' := by
  subst hfl
  have hZ : ∀ a ∈ zAddrs Z, g.get? a = none ∧ a ≠ L := fun a ha => by
    obtain ⟨y, hy, hya⟩ := List.mem_flatMap.mp ha
    obtain ⟨p, q⟩ := S.own y hy a hya
    exact ⟨p, fun e => q (by rw [e]; exact .head _)⟩
  refine ⟨turnFr F k (fun q => (hZ _ q).2 rfl) (fun a ha => (hZ a ha).1) rfl, turnNews N k hA rfl, fun p hp q => ?_, S'.there, S'.apart, fun z hz a ha => ?_, S'.disj, S'.runs⟩
  · obtain ⟨y, hy, hya⟩ := List.mem_flatMap.mp q
    have e1 := (S'.own y hy _ hya).1
    rw [hideAll_get _ (N p hp).1 (fun z => (List.mem_cons.mp z).elim (N p hp).2.1 (hA p hp))] at e1
    cases e1
  · obtain ⟨e1, e2⟩ := S'.own z hz a ha
    refine ⟨?_, e2⟩
    cases hg : g.get? a with
    | none => rfl
    | some ob =>
      rw [hideAll_get _ (F.keep _ _ hg) (fun q => (List.mem_cons.mp q).elim (fun z => e2 (by rw [z]; exact .head _)) (fun z => by rw [(hZ a z).1] at hg; cases hg))] at e1
      cases e1
theorem base_hide {P : Params} {o : Array UInt8} {A : Around} {g h : Heap} {env : Env} {L : Addr} {Z : List LZ} (B : Below A g [env] h) (he : env.frame = some L) (hgL : g.get? L = none) (S : Store P o g [L] h Z) :
    Below A (hideAll h (L :: zAddrs Z)) [env] h ∧ Sub g (hideAll h (L :: zAddrs Z)) ∧ Store P o (hideAll h (L :: zAddrs Z)) ([env].filterMap (·.frame)) h Z ∧ (hideAll h (L :: zAddrs Z)).objs.size ≤ h.objs.size := by
  refine ⟨⟨B.stack, fun b ob q => of_hideAll _ q, funFrames_hide B.frames fun e hh a ha => ?_⟩, fun b ob q => hideAll_get _ (B.stays b ob q) fun z => ?_, ⟨S.there, S.apart, fun z hz a ha => ⟨hideAll_none _ (.tail _ (List.mem_flatMap.mpr ⟨z, hz, ha⟩)), (flOne he).symm ▸ (S.own z hz a ha).2⟩, S.disj, S.runs⟩, Nat.le_of_eq (hideAll_size _ _)⟩
  · rw [List.mem_singleton.mp hh, he] at ha
    obtain rfl := Option.some.inj ha
    exact .head _
  · rcases List.mem_cons.mp z with z | z
    · rw [z, hgL] at q; cases q
    · obtain ⟨y, hy, hya⟩ := List.mem_flatMap.mp z
      rw [(S.own y hy b hya).1] at q; cases q
theorem newsAdd {g h h' : Heap} {L : Addr} {m : Str → Option Value} {news X : List (Addr × Obj)} (F : Fr g L h m) (N : News g L h news) (k : Sub h h') (hX : NewIn h h' X) : Fr g L h' m ∧ News g L h' (X ++ news) ∧ ∀ p ∈ X, ∀ ob q, h.get? q = some ob → p.1 ≠ q := by
  refine ⟨Fr.ofSub F k, fun p hp => ?_, fun p hp ob q hq e => ?_⟩
  · rcases List.mem_append.mp hp with hp | hp
    · refine ⟨(hX p hp).1, fun e => ?_, Sub.none F.keep (hX p hp).2⟩
      obtain ⟨o, _, _, ho, _⟩ := F.ns
      have := (hX p hp).2
      rw [e, ho] at this; cases this
    · exact ⟨k _ _ (N p hp).1, (N p hp).2⟩
  · have := (hX p hp).2
    rw [e, hq] at this; cases this
def parOf {P : Params} {o : Array UInt8} {h h' : Heap} {b e : Int} {z : LZ} (_ : LzNew P o h h' b e z) : Params := P
theorem zAddrs_obj {P : Params} {o : Array UInt8} {Z : List LZ} {a : Addr} (h : a ∈ zAddrs Z) : ∃ p ∈ zObjs P o Z, p.1 = a := by
  obtain ⟨z, hz, ha⟩ := List.mem_flatMap.mp h
  obtain ⟨p, hp, e⟩ := lzAddr_obj (P := P) (o := o) ha
  exact ⟨p, List.mem_flatMap.mpr ⟨z, hz, hp⟩, e⟩
theorem newsZ {P : Params} {o : Array UInt8} {g h : Heap} {L : Addr} {Z : List LZ} (S : Store P o g [L] h Z) : News g L h (zObjs P o Z) := fun p hp => by
  obtain ⟨z, hz, hzp⟩ := List.mem_flatMap.mp hp
  obtain ⟨a, b⟩ := S.own z hz _ (lzObjs_addr hzp)
  exact ⟨S.there z hz p hzp, fun q => b (q ▸ .head _), a⟩
theorem newsApp {g h : Heap} {L : Addr} {a b : List (Addr × Obj)} (x : News g L h a) (y : News g L h b) : News g L h (a ++ b) := fun p hp => (List.mem_append.mp hp).elim (x p) (y p)
theorem mem4 {α : Type} {p a b c d : α} {R RZ : List α} (h : p ∈ a :: b :: c :: d :: (R ++ RZ)) : p ∈ (a :: b :: R) ++ (c :: d :: RZ) := by
  simp only [List.mem_append, List.mem_cons] at h ⊢
  rcases h with h | h | h | h | h | h
  · exact .inl (.inl h)
  · exact .inl (.inr (.inl h))
  · exact .inr (.inl h)
  · exact .inr (.inr (.inl h))
  · exact .inl (.inr (.inr h))
  · exact .inr (.inr (.inr h))
theorem memT {α : Type} {p a b c : α} {own R Zs : List α} (h : p ∈ a :: b :: c :: ((own ++ R) ++ Zs)) : p ∈ own ++ (a :: b :: c :: (R ++ Zs)) := by
  simp only [List.mem_append, List.mem_cons] at h ⊢
  rcases h with h | h | h | (h | h) | h
  · exact .inr (.inl h)
  · exact .inr (.inr (.inl h))
  · exact .inr (.inr (.inr (.inl h)))
  · exact .inl h
  · exact .inr (.inr (.inr (.inr (.inl h))))
  · exact .inr (.inr (.inr (.inr (.inr h))))
theorem memE {α : Type} {p a b c : α} {own R Zs : List α} (h : p ∈ own ++ (a :: b :: c :: (R ++ Zs))) : p ∈ a :: b :: c :: ((own ++ R) ++ Zs) := by
  simp only [List.mem_append, List.mem_cons] at h ⊢
  rcases h with h | h | h | h | h | h
  · exact .inr (.inr (.inr (.inl (.inl h))))
  · exact .inl h
  · exact .inr (.inl h)
  · exact .inr (.inr (.inl h))
  · exact .inr (.inr (.inr (.inl (.inr h))))
  · exact .inr (.inr (.inr (.inr h)))
theorem offE {P : Params} {o : Array UInt8} {F S SL I : Addr} {a b c a' b' c' : Obj} {R Zs : List (Addr × Obj)} {Z2 : List LZ} (h : ∀ p ∈ (F, a) :: (S, b) :: (SL, c) :: (R ++ Zs), p.1 ≠ I) (hZ : I ∉ zAddrs Z2) : ∀ p ∈ (F, a') :: (S, b') :: (SL, c') :: (R ++ zObjs P o Z2), p.1 ≠ I := fun p hp => by
  rcases List.mem_cons.mp hp with rfl | hp
  · exact h (F, a) (.head _)
  · rcases List.mem_cons.mp hp with rfl | hp
    · exact h (S, b) (.tail _ (.head _))
    · rcases List.mem_cons.mp hp with rfl | hp
      · exact h (SL, c) (.tail _ (.tail _ (.head _)))
      · rcases List.mem_append.mp hp with hp | hp
        · exact h p (.tail _ (.tail _ (.tail _ (List.mem_append_left _ hp))))
        · intro e
          obtain ⟨z, hz, hzp⟩ := List.mem_flatMap.mp hp
          exact hZ (e ▸ List.mem_flatMap.mpr ⟨z, hz, lzObjs_addr hzp⟩)
theorem mem5 {α : Type} {p a b c d e : α} {R2 RO Zs : List α} (h : p ∈ a :: b :: c :: d :: e :: ((R2 ++ RO) ++ Zs)) : p ∈ (a :: b :: R2) ++ (c :: d :: e :: (RO ++ Zs)) := by
  simp only [List.mem_append, List.mem_cons] at h ⊢
  rcases h with h | h | h | h | h | (h | h) | h
  · exact .inl (.inl h)
  · exact .inl (.inr (.inl h))
  · exact .inr (.inl h)
  · exact .inr (.inr (.inl h))
  · exact .inr (.inr (.inr (.inl h)))
  · exact .inl (.inr (.inr h))
  · exact .inr (.inr (.inr (.inr (.inl h))))
  · exact .inr (.inr (.inr (.inr (.inr h))))
theorem mem5E {α : Type} {p a b c d e : α} {R2 own R Zs : List α} (h : p ∈ own ++ (c :: d :: e :: (R ++ Zs))) : p ∈ a :: b :: c :: d :: e :: ((R2 ++ (own ++ R)) ++ Zs) := by
  simp only [List.mem_append, List.mem_cons] at h ⊢
  rcases h with h | h | h | h | h | h
  · exact .inr (.inr (.inr (.inr (.inr (.inl (.inr (.inl h)))))))
  · exact .inr (.inr (.inl h))
  · exact .inr (.inr (.inr (.inl h)))
  · exact .inr (.inr (.inr (.inr (.inl h))))
  · exact .inr (.inr (.inr (.inr (.inr (.inl (.inr (.inr h)))))))
  · exact .inr (.inr (.inr (.inr (.inr (.inr h)))))
theorem all5 {p : Addr × Obj → Prop} {a b c d e : Addr × Obj} {r : List (Addr × Obj)} (ha : p a) (hb : p b) (hc : p c) (hd : p d) (he : p e) (hr : ∀ x ∈ r, p x) : ∀ x ∈ a :: b :: c :: d :: e :: r, p x := fun x h => by
  rcases List.mem_cons.mp h with rfl | h
  · exact ha
  · rcases List.mem_cons.mp h with rfl | h
    · exact hb
    · rcases List.mem_cons.mp h with rfl | h
      · exact hc
      · rcases List.mem_cons.mp h with rfl | h
        · exact hd
        · rcases List.mem_cons.mp h with rfl | h
          · exact he
          · exact hr x h
theorem run_ls {o : Array UInt8} {fin i j : Int} {l : List Item} {n : Nat} {b e : Int} (h : Run o fin i l j) (hi : 0 ≤ i) (hn : l[n]? = some (.ls b e)) : 0 ≤ b := by
  have hl : n < l.length := (List.getElem?_eq_some_iff.mp hn).1
  obtain ⟨k, r, s, _⟩ := h.take n (Nat.le_of_lt hl)
  obtain ⟨_, m, hm, _⟩ := s _ hn
  have := (r.go hi).1
  exact ((step_go (by omega) hm).2.2 b e rfl).1
theorem final_stop {o : Array UInt8} {b fin j : Int} {l : List Item} (h : Final o b fin l j .stop) : j = fin := by
  rcases h.2 with h | h | h
  · exact h.1
  · exact nomatch h.2
  · rcases stretch_faults h.2 with q | ⟨_, q⟩ <;> cases q
theorem final_dec {o : Array UInt8} {b fin j : Int} {l : List Item} {m : Str} (h : Final o b fin l j (.dec m)) : m = Str.ofString "Encoded as short string although single byte was possible" ∨ m = Str.ofString "Length starts with zero bytes" ∨ m = Str.ofString "Long string prefix used for short string" ∨ m = Str.ofString "Long list prefix used for short list" := by
  rcases h.2 with h | h | h
  · exact nomatch h.2
  · exact nomatch h.2
  · cases toldC o j with
    | over _ q => rw [h.2] at q; cases q
    | m1 _ q => rw [h.2] at q; exact .inl (Fault.dec.inj (St.fault.inj q))
    | m2 _ q => rw [h.2] at q; exact .inr (.inl (Fault.dec.inj (St.fault.inj q)))
    | m3 _ q => rw [h.2] at q; exact .inr (.inr (.inl (Fault.dec.inj (St.fault.inj q))))
    | m4 _ q => rw [h.2] at q; exact .inr (.inr (.inr (Fault.dec.inj (St.fault.inj q))))
    | oct b e _ q => rw [h.2] at q; cases q
    | lst b e _ q => rw [h.2] at q; cases q
theorem final_index {o : Array UInt8} {b fin j : Int} {l : List Item} (h : Final o b fin l j .index) : j < fin := by
  rcases h.2 with h | h | h
  · exact nomatch h.2
  · exact nomatch h.2
  · exact h.1
theorem all3 {p : Addr × Obj → Prop} {a b c : Addr × Obj} {r : List (Addr × Obj)} (ha : p a) (hb : p b) (hc : p c) (hr : ∀ x ∈ r, p x) : ∀ x ∈ a :: b :: c :: r, p x := fun x h => by
  rcases List.mem_cons.mp h with rfl | h
  · exact ha
  · rcases List.mem_cons.mp h with rfl | h
    · exact hb
    · rcases List.mem_cons.mp h with rfl | h
      · exact hc
      · exact hr x h
/-- one list, newly made, is a store -/
theorem newStore {P : Params} {o : Array UInt8} {g h h' : Heap} {L : Addr} {m : Str → Option Value} {b e : Int} {y : LZ} (F : Fr g L h m) (hy : LzNew P o h h' b e y) (hb : 0 ≤ b) : Store P o g [L] h' [y] := by
  have fr : ∀ a ∈ y.addrs, h.get? a = none := fun a ha => by
    obtain ⟨_, ⟨f1, f2, f3⟩, _, _⟩ := hy
    unfold LZ.addrs at ha
    rcases List.mem_cons.mp ha with rfl | ha
    · exact f1
    · rcases List.mem_cons.mp ha with rfl | ha
      · exact f2
      · rw [List.mem_singleton.mp ha]; exact f3
  obtain ⟨y1, y2, y3, e1, e2, e3, e4, e5⟩ := hy
  refine ⟨fun z hz => List.mem_singleton.mp hz ▸ y1, fun z hz => List.mem_singleton.mp hz ▸ y3, fun z hz a ha => ?_, List.pairwise_singleton _ _, fun z hz => ?_⟩
  · rw [List.mem_singleton.mp hz] at ha
    refine ⟨Sub.none F.keep (fr a ha), fun q => ?_⟩
    obtain ⟨o, _, _, ho, _⟩ := F.ns
    have := fr a ha
    rw [List.mem_singleton.mp q, ho] at this; cases this
  · rw [List.mem_singleton.mp hz]
    exact ⟨by rw [e1]; exact hb, [], by rw [e3, e1]; exact .nil, by rw [e4]; trivial⟩
theorem newStore_off {P : Params} {o : Array UInt8} {g h h' : Heap} {L : Addr} {b e : Int} {y : LZ} {news : List (Addr × Obj)} (N : News g L h news) (hy : LzNew P o h h' b e y) : ∀ p ∈ news, p.1 ∉ zAddrs [y] := fun p hp q => by
  obtain ⟨z, hz, ha⟩ := List.mem_flatMap.mp q
  rw [List.mem_singleton.mp hz] at ha
  have fr : ∀ a ∈ y.addrs, h.get? a = none := fun a ha => by
    obtain ⟨_, ⟨f1, f2, f3⟩, _, _⟩ := hy
    unfold LZ.addrs at ha
    rcases List.mem_cons.mp ha with rfl | ha
    · exact f1
    · rcases List.mem_cons.mp ha with rfl | ha
      · exact f2
      · rw [List.mem_singleton.mp ha]; exact f3
  have := fr _ ha
  rw [(N p hp).1] at this; cases this

section
variable {prog : Program} {w : World} {A : Around} {E : Value → Shared → Prop} {s : Shared} {env : Env} {h₀ : Heap} {x : Str} {body : List Stmt} {Q : Flow → Shared → Prop}
/-- a range's loop, its iterator known to lie in the heap -/
theorem iter_rangeI {r : Addr} {a₀ b₀ : Int} {t₀ u₀ v₀ : Tok} {n : Nat} {m₀ : Str → Option Value} {news : List (Addr × Obj)} (J : Nat → (Str → Option Value) → List (Addr × Obj) → Prop)
    (hh : A.handled = none) (hr : IsRange s.heap r a₀ b₀ 1 t₀ u₀ v₀) (hsmall : Builtin.Range.small a₀ b₀ 1 = true) (hn : Builtin.Range.rangeSize a₀ b₀ 1 = (n : Int)) (F : Fr h₀ env.locals s.heap m₀) (N : News h₀ env.locals s.heap news) (h0 : J 0 m₀ news)
    (turn : ∀ i t m₁ nx h tk I oI own, i < n → J i m₁ nx → (∀ p ∈ nx, p.1 ≠ I) → (∀ p ∈ own, p.1 = I) → (I, oI) ∈ own → Fr h₀ env.locals h (fun y => if y = x then some (.int (a₀ + (i : Nat)) t) else m₁ y) → News h₀ env.locals h (own ++ nx) →
      wpAny (model prog w) A (execs body env) (StepJ h₀ env.locals I own (J (i + 1)) { s with heap := h, toks := tk } Q) E { s with heap := h, toks := tk })
    (done : ∀ m₁ nx h tk, J n m₁ nx → Fr h₀ env.locals h m₁ → News h₀ env.locals h nx → Q .next { s with heap := h, toks := tk }) :
    wpAny (model prog w) A (pyIter (.ref r)) (fun it s₂ => LoopAtV prog w A h₀ env x body Q E it s₂) E s := by
  refine wpAny_pyIter_range hr hsmall ?_
  refine ⟨s.heap.objs.size, [s.heap.objs.size], [s.heap.objs.size], n, _, _, m₀, news, J, rfl, Walks.range hh _ a₀ 1 n, ?_, ?_, ?_, (by show IsRangeIter _ _ _ _ _; rw [hn]; simpa using Heap.get?_push_size _ rfl), F.push _, (fun p hp => ⟨Heap.get?_push_of_some _ (N p hp).1, (N p hp).2⟩), h0, ?_, ?_⟩
  · intro hm
    exact absurd F.ns.lt ((List.mem_singleton.mp hm) ▸ Nat.lt_irrefl _)
  · intro b hb
    rw [List.mem_singleton.mp hb]
    exact next_is_new F
  · intro p hp hI
    exact absurd (Heap.lt_size (N p hp).1) ((List.mem_singleton.mp hI) ▸ Nat.lt_irrefl _)
  · rintro i v m₁ nx s₁ own ⟨h, tk, rfl⟩ hi ⟨t, rfl⟩ hJ hoff hsub hget hall hst F' N'
    have e : a₀ + (i : Int) * 1 = a₀ + (i : Nat) := by omega
    rw [e] at F'
    refine wpAny_mono (turn i t m₁ nx h tk s.heap.objs.size _ own hi hJ (fun p hp q => hoff p hp (q ▸ .head _)) (fun p hp => List.mem_singleton.mp (hsub p hp)) (hall _ (.head _) (next_is_new F) _ hst) F' N') (fun f s' hf => ?_) fun _ _ y => y
    cases f with
    | ret v => exact hf
    | brk => exact hf
    | next => obtain ⟨h', tk', m', nx', rfl, a, b, c, d⟩ := hf; exact ⟨rfl, h', tk', m', nx', rfl, a, b, fun p hp q => c p hp (List.mem_singleton.mp q), d⟩
    | cont => obtain ⟨h', tk', m', nx', rfl, a, b, c, d⟩ := hf; exact ⟨rfl, h', tk', m', nx', rfl, a, b, fun p hp q => c p hp (List.mem_singleton.mp q), d⟩
  · intro h' tk m' news' F' N' hoff hJ
    exact done m' news' h' tk hJ F' N'
/-- two pairs of the same numbers are not unequal -/
theorem ne_pair {QV : Value → Shared → Prop} {q r : Addr} {a b : Int} {t1 t2 t3 t4 : Tok} (h1 : s.heap.get? q = some (tupOf [.int a t1, .int b t2])) (h2 : s.heap.get? r = some (tupOf [.int a t3, .int b t4])) (hu : A.units < cLine) (h : QV (.bool false) s) :
    wpAny (model prog w) A (compareOp .NotEq (.ref q) (.ref r)) QV E s := by
  refine SeqAt.RcNeAt.tuples (items := #[.int a t1, .int b t2]) (items2 := #[.int a t3, .int b t4]) (e := fun _ => true) ⟨_, h1, rfl, _, rfl⟩ ⟨_, h2, rfl, _, rfl⟩ hu (fun j j1 j2 => ?_) prog w E QV h
  have hj : j = 0 ∨ j = 1 := by simp at j1; omega
  rcases hj with rfl | rfl
  · have := SeqAt.EqAt.int_int (A := A.in1) (s := s) a t1 a t3
    rw [beq_self_eq_true] at this; exact this
  · have := SeqAt.EqAt.int_int (A := A.in1) (s := s) b t2 b t4
    rw [beq_self_eq_true] at this; exact this
end
def ToldL (g : Heap) (L : Addr) (h : Heap) (v : Value) (f : Fault) : Option Item → Prop
  | some (.bs b) => ∃ t, v = .bytes b t
  | some (.ls b e) => ∃ q t1 t2, v = .ref q ∧ News g L h [(q, tupOf [.int b t1, .int e t2])]
  | none => ∃ t, v = .str (word f) t
theorem told_law (w : World) (mean : ExcName → Option Value) (mg mb : Str → Option Value) (dp un : Nat) (gd : Option (List Code)) (env : Env) (g : Heap) (s : Shared) (Q E : Value → Shared → Prop) (o : Array UInt8) (ks : List Int) (Z : List LZ) (z0 : LZ) (i : Int) (ti : Tok) (found : List Item) (j : Int) (f : Fault) (L : Addr) (m : Str → Option Value) (A0 : List (Addr × Obj))
    (B : Below (AT dp un gd [env]) g [env] s.heap) (he : env.frame = some L) (X : (hd.heap_39 w.params).In g) (T : TT mean mg mb g) (hdp : dp + 100 < recursionLimit) (hun : un + 500 < cLine) (hks : KBw.bInts o = ks) (hkl : ks.length ≤ 100)
    (F : Fr g L s.heap m) (N : News g L s.heap A0) (hA : ∀ p ∈ A0, p.1 ∉ zAddrs Z) (hS : Store w.params o g [L] s.heap Z) (hz : ∃ z ∈ Z, z0.Same z) (hi0 : 0 ≤ i) (hi1 : i ≤ 100) (hF : Final o z0.b z0.e found j f)
    (k : ∀ v Z' h' tk', Fr g L h' m → News g L h' A0 → (∀ p ∈ A0, p.1 ∉ zAddrs Z') → Store w.params o g [L] h' Z' → Zle Z Z' → ToldL g L h' v f found[i.toNat]? → Q v { s with heap := h', toks := tk' }) :
    wpAny (model PySem.Challenge.rw_ve0059_01.row.prog w) (AT dp un gd [env]) (call (.ref 162) [.ref z0.x, .int i ti]) Q E s := by
  obtain ⟨B2, sub2, S2, sz2⟩ := base_hide B he (Fr.none F) hS
  obtain ⟨z, hz, sm⟩ := hz
  rw [← sm.x]
  refine told_spec _ _ _ _ _ _ _ _ _ _ _ _ o ks Z z i _ found j f B2 (X.keeps sub2) (T.keeps sub2) hdp hun hks hkl S2 hz hi0 hi1 (by rw [sm.b, sm.e]; exact hF) sz2 (fun v Z2 h3 tk3 hS2 hle2 htx2 hv => ?_)
  obtain ⟨F4, NA4, hA4, S4⟩ := told_after F N hA hS (flOne he) hS2 htx2
  refine k v Z2 h3 tk3 F4 NA4 hA4 S4 hle2 ?_
  cases hit : found[i.toNat]? with
  | none => rw [hit] at hv; exact hv
  | some it =>
    rw [hit] at hv
    cases it with
    | bs b => exact hv
    | ls b e =>
      obtain ⟨q, t1, t2, rfl, e1, e2⟩ := hv
      exact ⟨q, t1, t2, rfl, fun p hp => by rw [List.mem_singleton.mp hp]; exact ⟨e2, ns_ne F4.ns e2 (fun es ep z => by cases z), Sub.none sub2 e1⟩⟩
theorem get_law (w : World) (mean : ExcName → Option Value) (mg mb : Str → Option Value) (dp un : Nat) (gd : Option (List Code)) (env : Env) (g : Heap) (s : Shared) (Q E : Value → Shared → Prop) (o : Array UInt8) (ks : List Int) (Z : List LZ) (z0 : LZ) (i : Int) (ti : Tok) (found : List Item) (j : Int) (f : Fault) (L : Addr) (m : Str → Option Value) (A0 : List (Addr × Obj)) (b e : Int)
    (B : Below (AT dp un gd [env]) g [env] s.heap) (he : env.frame = some L) (X : (hd.heap_39 w.params).In g) (T : TT mean mg mb g) (hdp : dp + 80 < recursionLimit) (hun : un + 400 < cLine) (hks : KBw.bInts o = ks) (hkl : ks.length ≤ 100)
    (F : Fr g L s.heap m) (N : News g L s.heap A0) (hA : ∀ p ∈ A0, p.1 ∉ zAddrs Z) (hS : Store w.params o g [L] s.heap Z) (hz : ∃ z ∈ Z, z0.Same z) (hi0 : 0 ≤ i) (hi1 : i ≤ 100) (hF : Final o z0.b z0.e found j f) (hit : found[i.toNat]? = some (.ls b e))
    (k : ∀ y Z' h' tk', Fr g L h' m → News g L h' A0 → (∀ p ∈ A0, p.1 ∉ zAddrs Z') → Store w.params o g [L] h' Z' → Zle Z Z' → y ∈ Z' → y.b = b → y.e = e → Q (.ref y.x) { s with heap := h', toks := tk' }) :
    wpAny (model PySem.Challenge.rw_ve0059_01.row.prog w) (AT dp un gd [env]) (call (.ref 113) [.ref z0.x, .int i ti]) Q E s := by
  obtain ⟨B2, sub2, S2, sz2⟩ := base_hide B he (Fr.none F) hS
  obtain ⟨z, hz, sm⟩ := hz
  rw [← sm.x]
  refine get_spec _ _ _ _ _ _ _ _ _ _ _ _ o ks Z z i _ found j f B2 (X.keeps sub2) (T.keeps sub2) hdp hun hks hkl S2 hz hi0 hi1 (by rw [sm.b, sm.e]; exact hF) sz2 (fun v Z2 h3 tk3 it hit2 hS2 hle2 hv hsx => ?_) (fun e Z' G h' tk' hno => ?_)
  · obtain ⟨F4, NA4, hA4, S4⟩ := told_after F N hA hS (flOne he) hS2 (.of_sub hsx)
    rw [hit] at hit2
    obtain rfl := Option.some.inj hit2
    obtain ⟨y, hy, rfl, e1, e2⟩ := hv
    exact k y Z2 h3 tk3 F4 NA4 hA4 S4 hle2 hy e1 e2
  · rw [hit] at hno; cases hno
theorem many_law (w : World) (mean : ExcName → Option Value) (mg mb : Str → Option Value) (dp un : Nat) (gd : Option (List Code)) (env : Env) (g : Heap) (s : Shared) (Q E : Value → Shared → Prop) (o : Array UInt8) (ks : List Int) (Z : List LZ) (z : LZ) (found : List Item) (j : Int) (f : Fault) (L : Addr) (m : Str → Option Value) (A0 : List (Addr × Obj))
    (B : Below (AT dp un gd [env]) g [env] s.heap) (he : env.frame = some L) (X : (hd.heap_39 w.params).In g) (T : TT mean mg mb g) (hdp : dp + 100 < recursionLimit) (hun : un + 500 < cLine) (hks : KBw.bInts o = ks) (hkl : ks.length ≤ 100)
    (F : Fr g L s.heap m) (N : News g L s.heap A0) (hA : ∀ p ∈ A0, p.1 ∉ zAddrs Z) (hS : Store w.params o g [L] s.heap Z) (hz : z ∈ Z) (hzl : z.len = .none) (hF : Final o z.b z.e found j f)
    (k1 : ∀ h' tk' t, f = .stop → Fr g L h' m → News g L h' A0 → Q (.int found.length t) { s with heap := h', toks := tk' })
    (k2 : ∀ h' tk', f ≠ .stop → Fr g L h' m → News g L h' A0 → Q .none { s with heap := h', toks := tk' }) :
    wpAny (model PySem.Challenge.rw_ve0059_01.row.prog w) (AT dp un gd [env]) (call (.ref 169) [.ref z.x]) Q E s := by
  have hown : ∀ a ∈ zAddrs Z, g.get? a = none ∧ a ∉ [L] := fun a ha => by
    obtain ⟨y, hy, hya⟩ := List.mem_flatMap.mp ha
    exact hS.own y hy a hya
  refine many_spec _ _ _ _ _ _ _ _ _ _ _ _ o ks Z z found j f B X T hdp hun hks hkl ((flOne he).symm ▸ hS) hz hzl hF (Nat.le_of_lt (Nat.lt_of_le_of_lt F.above F.ns.lt)) (fun h6 tk6 t6 hfs htx => k1 h6 tk6 t6 hfs ?_ (turnNews N htx hA (flOne he))) (fun h6 tk6 hfs htx => k2 h6 tk6 hfs ?_ (turnNews N htx hA (flOne he)))
  · exact turnFr F htx (fun q => (hown _ q).2 (.head _)) (fun a ha => (hown a ha).1) (flOne he)
  · exact turnFr F htx (fun q => (hown _ q).2 (.head _)) (fun a ha => (hown a ha).1) (flOne he)
def Skips (s : Shared) (b : Bool) (s₁ : Shared) : Prop := b = false ∧ ∃ tk, s₁ = { s with toks := tk }
theorem If_skip {M : Model} {A : Around} {E : Value → Shared → Prop} {s : Shared} {env : Env} {Q : Flow → Shared → Prop} {test : Expr} {body orelse : List Stmt} {pos : Pos} (ht : wpAny M A (isTrue test env (eval test env)) (Skips s) E s) (hr : ∀ tk, wpAny M A (execs orelse env) Q E { s with toks := tk }) :
    wpAny M A (exec (.If test body orelse pos) env) Q E s :=
  wpAny_If (wpAny_mono ht (fun b s₁ h => by obtain ⟨rfl, tk, rfl⟩ := h; exact hr tk) fun _ _ x => x)
theorem bne_same {α : Type} [BEq α] [LawfulBEq α] (a : α) : (a != a) = false := by rw [bne, beq_self_eq_true]; rfl
theorem ne_bytes_same {prog : Program} {w : World} {A : Around} {E : Value → Shared → Prop} {s : Shared} {b : Array UInt8} {t u : Tok} {Q : Value → Shared → Prop} (h : Q (.bool false) s) : wpAny (model prog w) A (compareOp .NotEq (.bytes b t) (.bytes b u)) Q E s :=
  ne_bytes (by rw [bne_same]; exact h)
theorem ne_str_same {prog : Program} {w : World} {A : Around} {E : Value → Shared → Prop} {s : Shared} {b : Str} {t u : Tok} {Q : Value → Shared → Prop} (h : Q (.bool false) s) : wpAny (model prog w) A (compareOp .NotEq (.str b t) (.str b u)) Q E s :=
  ne_str (by rw [bne_same]; exact h)
theorem oct_ints {b : UInt8} {inner : Array UInt8} {kin : List Int} {v : Int} (h : KBw.bInts (#[b] ++ inner) = List.map (fun c : UInt8 => (c.toNat : Int)) [b] ++ kin) (hb : (b.toNat : Int) = v) : KBw.bInts (#[b] ++ inner) = v :: kin := by
  rw [h, ← hb]; rfl
def lawMap2 (x F S : Addr) (fs : Str) (ft : Tok) (o : Array UInt8) (ot : Tok) (m : Str → Option Value) : Str → Option Value := fun y =>
  if y = Str.ofString "row" then some (.ref x) else if y = Str.ofString "found" then some (.ref F) else if y = Str.ofString "fault" then some (.str fs ft) else if y = Str.ofString "octets" then some (.bytes o ot) else if y = Str.ofString "state" then some (.ref S) else m y
theorem lawMap2_of {x F S : Addr} {fs : Str} {ft : Tok} {o : Array UInt8} {ot : Tok} {m : Str → Option Value} (h1 : m (Str.ofString "row") = some (.ref x)) (h2 : m (Str.ofString "found") = some (.ref F)) (h3 : m (Str.ofString "fault") = some (.str fs ft))
    (h4 : m (Str.ofString "octets") = some (.bytes o ot)) (h5 : m (Str.ofString "state") = some (.ref S)) : m = lawMap2 x F S fs ft o ot m := by
  funext y
  unfold lawMap2
  by_cases e1 : y = Str.ofString "row"
  · subst e1; exact h1
  · rw [if_neg e1]
    by_cases e2 : y = Str.ofString "found"
    · subst e2; exact h2
    · rw [if_neg e2]
      by_cases e3 : y = Str.ofString "fault"
      · subst e3; exact h3
      · rw [if_neg e3]
        by_cases e4 : y = Str.ofString "octets"
        · subst e4; exact h4
        · rw [if_neg e4]
          by_cases e5 : y = Str.ofString "state"
          · subst e5; exact h5
          · rw [if_neg e5]
end Mine

namespace Mine

theorem draw_after {g h h' : Heap} {L S : Addr} {m : Str → Option Value} {news news' : List (Addr × Obj)} {o' : Obj} (F : Fr g L h m) (N : News g L h news) (k : SubX [S] h h') (e : h'.get? S = some o') (hg : g.get? S = none) (hL : S ≠ L)
    (hn : ∀ p ∈ news', p = (S, o') ∨ (p ∈ news ∧ p.1 ≠ S)) : Fr g L h' m ∧ News g L h' news' := by
  refine ⟨?_, fun p hp => ?_⟩
  · obtain ⟨o, es, ep, ho, r⟩ := F.ns
    exact ⟨⟨o, es, ep, k _ _ ho (fun q => hL (List.mem_singleton.mp q).symm), r⟩, fun b ob q => k b ob (F.keep b ob q) (fun z => by rw [List.mem_singleton.mp z, hg] at q; cases q), F.above⟩
  · rcases hn p hp with rfl | ⟨hp, hne⟩
    · exact ⟨e, hL, hg⟩
    · exact ⟨k _ _ (N p hp).1 (fun q => hne (List.mem_singleton.mp q)), (N p hp).2⟩

theorem ints_len {vs : List Value} {ns : List Int} {n : Nat} (h : IntsAre vs (ns.take 40)) (_ : (ns.take 40).length = n) : vs.length ≤ 100 := by
  have := h.length
  rw [List.length_take] at this
  omega
theorem wrong3 {r : Int} (h0 : 0 ≤ r) (h1 : r < 6) : ([0, 0, 0, 0, 1, -1] : List Int).getD r.toNat 0 = 0 ∨ ([0, 0, 0, 0, 1, -1] : List Int).getD r.toNat 0 = 1 ∨ ([0, 0, 0, 0, 1, -1] : List Int).getD r.toNat 0 = -1 := by
  have h : r = 0 ∨ r = 1 ∨ r = 2 ∨ r = 3 ∨ r = 4 ∨ r = 5 := by omega
  rcases h with rfl | rfl | rfl | rfl | rfl | rfl <;> decide
def adr1 {g h : Heap} {L : Addr} {x1 : Addr × Obj} {r : List (Addr × Obj)} (_ : News g L h (x1 :: r)) : Addr := x1.1
def adr2 {g h : Heap} {L : Addr} {x1 x2 : Addr × Obj} {r : List (Addr × Obj)} (_ : News g L h (x1 :: x2 :: r)) : Addr := x2.1
def adr3 {g h : Heap} {L : Addr} {x1 x2 x3 : Addr × Obj} {r : List (Addr × Obj)} (_ : News g L h (x1 :: x2 :: x3 :: r)) : Addr := x3.1
def baseOf {g h : Heap} {L : Addr} {m : Str → Option Value} (_ : Fr g L h m) : Heap := g
def heapOf {g h : Heap} {L : Addr} {m : Str → Option Value} (_ : Fr g L h m) : Heap := h
theorem frames_one {env : Env} {L a : Addr} (he : env.frame = some L) (h : a ≠ L) : a ∉ ([env].filterMap (·.frame) : List Addr) := fun q => by
  rw [List.filterMap_cons, he] at q
  exact h (List.mem_singleton.mp q)

local macro_rules | `(tactic| walk_at "call ref") => `(tactic| (k_here; (with_reducible show wpAny _ _ (call (Value.ref 141) _) _ _ _); refine stop59 ?_))
def lawMap1 (S lst : Addr) (inner : Array UInt8) (ti : Tok) (wr : Int) (tw : Tok) (w1 w2 : Option Value) : Str → Option Value := fun y =>
  if y = Str.ofString "inner" then some (.bytes inner ti) else if y = Str.ofString "pick" then w1 else if y = Str.ofString "k" then w2 else if y = Str.ofString "wrong" then some (.int wr tw) else if y = Str.ofString "state" then some (.ref S) else
  List.lookup y [(Str.ofString "script", Value.ref lst)].reverse
theorem lawMap1_start {S lst : Addr} {inner : Array UInt8} {ti : Tok} {wr : Int} {tw : Tok} : (fun y => if y = Str.ofString "inner" then some (Value.bytes inner ti) else if y = Str.ofString "wrong" then some (Value.int wr tw) else if y = Str.ofString "state" then some (Value.ref S) else
  List.lookup y [(Str.ofString "script", Value.ref lst)].reverse) = lawMap1 S lst inner ti wr tw none none := by
  funext y
  unfold lawMap1
  by_cases h1 : y = Str.ofString "inner"
  · subst h1; rfl
  · rw [if_neg h1, if_neg h1]
    by_cases h2 : y = Str.ofString "pick"
    · subst h2; rfl
    · rw [if_neg h2]
      by_cases h3 : y = Str.ofString "k"
      · subst h3; rfl
      · rw [if_neg h3]
theorem lawMap1_turn {S lst : Addr} {inner inner' : Array UInt8} {ti ti' : Tok} {wr : Int} {tw : Tok} {w1 w2 : Option Value} {v k : Value} : (fun y => if y = Str.ofString "inner" then some (Value.bytes inner' ti') else if y = Str.ofString "pick" then some v else if y = Str.ofString "k" then some k else lawMap1 S lst inner ti wr tw w1 w2 y) = lawMap1 S lst inner' ti' wr tw (some v) (some k) := by
  funext y
  unfold lawMap1
  by_cases h1 : y = Str.ofString "inner"
  · subst h1; rfl
  · rw [if_neg h1, if_neg h1]
    by_cases h2 : y = Str.ofString "pick"
    · subst h2; rfl
    · rw [if_neg h2, if_neg h2]
      by_cases h3 : y = Str.ofString "k"
      · subst h3; rfl
      · simp only [if_neg h1, if_neg h2, if_neg h3]
theorem memJ0 {α : Type} {p a b : α} {own : List α} (h : p ∈ own ++ [a, b]) : p ∈ a :: b :: own := by
  rcases List.mem_append.mp h with h | h
  · exact .tail _ (.tail _ h)
  · rcases List.mem_cons.mp h with rfl | h
    · exact .head _
    · rw [List.mem_singleton.mp h]; exact .tail _ (.head _)
theorem memJ2 {α : Type} {p x y a b : α} {own : List α} (h : p ∈ own ++ [a, b]) : p ∈ x :: y :: a :: b :: own := by
  rcases List.mem_append.mp h with h | h
  · exact .tail _ (.tail _ (.tail _ (.tail _ h)))
  · rcases List.mem_cons.mp h with rfl | h
    · exact .tail _ (.tail _ (.head _))
    · rw [List.mem_singleton.mp h]; exact .tail _ (.tail _ (.tail _ (.head _)))
theorem off2 {S SL I : Addr} {o o1 o' o1' : Obj} (h : ∀ p ∈ [(S, o), (SL, o1)], p.1 ≠ I) : ∀ p ∈ [(S, o'), (SL, o1')], p.1 ≠ I := fun p hp => by
  rcases List.mem_cons.mp hp with rfl | hp
  · exact h (S, o) (.head _)
  · rw [List.mem_singleton.mp hp]; exact h (SL, o1) (.tail _ (.head _))
local macro_rules | `(tactic| walk_at "call ref") => `(tactic| (k_here; (with_reducible show wpAny _ _ (call (Value.ref 176) _) _ _ _); refine stop59 ?_))
local macro_rules | `(tactic| walk_at "call ref") => `(tactic| (k_here; (with_reducible show wpAny _ _ (call (Value.ref 155) _) _ _ _); refine stop59 ?_))
local macro_rules | `(tactic| walk_at "call ref") => `(tactic| (k_here; (with_reducible show wpAny _ _ (call (Value.ref 162) _) _ _ _); refine stop59 ?_))
local macro_rules | `(tactic| walk_at "call ref") => `(tactic| (k_here; (with_reducible show wpAny _ _ (call (Value.ref 169) _) _ _ _); refine stop59 ?_))
local macro_rules | `(tactic| walk_at "call ref") => `(tactic| (k_here; (with_reducible show wpAny _ _ (call (Value.ref 190) _) _ _ _); refine stop59 ?_))
local macro_rules | `(tactic| walk_at "call ref") => `(tactic| (k_here; (with_reducible show wpAny _ _ (call (Value.ref 113) _) _ _ _); refine stop59 ?_))
local macro_rules | `(tactic| walk_at "pyIter ref") => `(tactic| (k_here; refine stop59 ?_))
local macro_rules | `(tactic| walk_at "exec For Name Call cons nil") => `(tactic| (k_here; refine stop59 ?_))
local macro_rules | `(tactic| walk_at "exec If") => `(tactic| (k_here; (with_reducible show wpAny _ _ (exec (.If (.BoolOp _ (.Compare (.Name (Str.ofString "wrong") _) _ _ _ :: _) _) _ _ _) _) _ _ _); refine stop59 ?_))
local macro_rules | `(tactic| walk_at "call builtin:len") => `(tactic| (k_here; (with_reducible show wpAny _ _ (call (Value.builtin "len") [Value.ref _]) _ _ _); (with_reducible rename News _ _ _ _ => N'); k_dflt (refine' len_list (items := List.toArray _) (News.isList N' ?k1) ?k2 ?_; (case k1 => k_mem); (case k2 => (rw [List.size_toArray]; omega)); k_whole); (try rw [List.size_toArray])))
local macro_rules | `(tactic| walk_at "compareOp NotEq str str") => `(tactic| (k_here; with_reducible refine ne_str_same ?_))
local macro_rules | `(tactic| walk_at "compareOp NotEq bytes bytes") => `(tactic| (k_here; with_reducible refine ne_bytes_same ?_))
local macro_rules | `(tactic| walk_at "compareOp NotEq ref ref") => `(tactic| (k_here; refine stop59 ?_))
local macro_rules | `(tactic| walk_at "subscriptTail") => `(tactic| (k_here; (with_reducible show wpAny _ _ (subscriptTail _ _ (Value.ref _) (Value.int _ _)) _ _ _); (with_reducible rename News _ _ _ _ => N'); k_dflt (refine' item_val (News.isList N' ?k1) ?k2 ?k3 ?k4 ?_; (case k1 => k_mem); (case k2 => omega); (case k3 => omega); (case k4 => assumption); k_whole)))
local macro_rules | `(tactic| walk_at "subscriptTail") => `(tactic| (k_here; (with_reducible show wpAny _ _ (subscriptTail _ _ (Value.ref (LZ.x _)) (Value.int _ _)) _ _ _); refine stop59 ?_))
local macro_rules | `(tactic| k_in) => `(tactic| exact Frag.In.keeps (by with_reducible assumption) (Fr.keep (by with_reducible assumption)))
set_option maxHeartbeats 4000000 in
theorem law59 : PySem.Challenge.rw_ve0059_01.Holds := hd (by
  w_strict (k_go0; k_steps)
  all_goals (
    (show wpAny _ _ _ _ _ _)
    rename Below callerA _ _ _ => K0
    rename Fr _ _ _ _ => F1
    rename News _ _ _ _ => N1
    rename IntsAre _ (List.take 40 _) => hI
    rename (List.take 40 _).length = _ => hC
    rename Frag.In _ _ => XX
    rename Top _ _ _ _ _ _ => TX
    rename Heap.CodeRec _ _ _ => c1; clear c1
    rename Dflts _ _ _ _ _ _ => c1; clear c1
    rename ReadsAll _ _ _ _ => c1; clear c1
    rename Well _ _ _ _ => c1; clear c1
    rename Reads _ _ _ _ => c1; clear c1
    rename ReadsAllW _ _ _ _ _ _ => c1; clear c1
    rename Tables _ _ _ _ => c1; clear c1
    rename TopE _ _ _ _ => c1; clear c1
    rename TopW _ _ _ => c1; clear c1
    rename LooseAre _ _ _ => c1; clear c1
    obtain ⟨S, hSe⟩ : ∃ S, S = adr2 N1 := ⟨_, rfl⟩
    obtain ⟨SL, hSLe⟩ : ∃ S, S = adr3 N1 := ⟨_, rfl⟩
    obtain ⟨C1, hC1e⟩ : ∃ S, S = adr1 N1 := ⟨_, rfl⟩
    dsimp only [adr1, adr2, adr3] at hSe hSLe hC1e
    subst hSe hSLe hC1e
    have hC1 : S < C1 ∧ SL < C1 := by assumption
    have hSSL : S ≠ SL := Nat.ne_of_gt (show SL < S by assumption)
    have hS0 := (N1 _ (.tail _ (.head _))).2
    have hSL0 := (N1 _ (.tail _ (.tail _ (.head _)))).2
    have hvl := ints_len hI hC
    refine draw_spec _ _ _ _ _ _ _ _ _ _ _ _ S SL _ _ _ _ _ _ _ _ (K0.push F1) XX TX (by decide) (by decide) (N1 _ (.tail _ (.head _))).1 (N1 _ (.tail _ (.tail _ (.head _)))).1 hSSL hS0.2 hSL0.2 (frames_one rfl hS0.1) (frames_one rfl hSL0.1) hI hvl (by decide) (by decide) (by decide) (by decide) (fun r tr tc' cap' h' tk' hr0 hr1 hsx hS' => ?_)
    obtain ⟨F2, N2⟩ := draw_after F1 N1 hsx hS' hS0.2 hS0.1 (news' := [(S, _), (SL, _), (C1, _)]) (fun p hp => by
      rcases List.mem_cons.mp hp with rfl | hp
      · exact .inl rfl
      · rcases List.mem_cons.mp hp with rfl | hp
        · exact .inr ⟨.tail _ (.tail _ (.head _)), Ne.symm hSSL⟩
        · rw [List.mem_singleton.mp hp]; exact .inr ⟨.head _, Nat.ne_of_gt hC1.1⟩)
    clear F1 N1
    k_steps
    (show wpAny _ _ _ _ _ _)
    rename Fr _ _ _ _ => F1
    refine For_invV (baseOf F1) rfl rfl ?_
    dsimp only [baseOf]
    k_steps
    (show wpAny _ _ _ _ _ _)
    rename Fr _ _ _ _ => F1
    rename News _ _ _ _ => N1
    have N3 : News _ _ _ [(S, _), (SL, _)] := fun p hp => N1 p ((List.mem_cons.mp hp).elim (fun q => q ▸ .head _) fun q => .tail _ (List.mem_singleton.mp q ▸ .head _))
    clear N1
    refine draw_spec _ _ _ _ _ _ _ _ _ _ _ _ S SL _ _ _ _ _ _ _ _ (K0.push F1) XX TX (by decide) (by decide) (N3 _ (.head _)).1 (N3 _ (.tail _ (.head _))).1 hSSL hS0.2 hSL0.2 (frames_one rfl hS0.1) (frames_one rfl hSL0.1) hI hvl (by decide) (by decide) (by decide) (by decide) (fun rn trn tcn capn hn tkn hrn0 hrn1 hsxn hSn => ?_)
    obtain ⟨F2, N2⟩ := draw_after F1 N3 hsxn hSn hS0.2 hS0.1 (news' := [(S, _), (SL, _)]) (fun p hp => by
      rcases List.mem_cons.mp hp with rfl | hp
      · exact .inl rfl
      · rw [List.mem_singleton.mp hp]; exact .inr ⟨.tail _ (.head _), Ne.symm hSSL⟩)
    clear F1 N3
    k_steps
    (show wpAny _ _ _ _ _ _)
    rename Fr _ _ _ _ => F1
    rename News _ _ _ _ => N1
    rename IsRange _ _ _ _ _ _ _ _ => hR
    generalize hwr : ([0, 0, 0, 0, 1, -1] : List Int).getD r.toNat 0 = wr at F1
    have hwr3 : wr = 0 ∨ wr = 1 ∨ wr = -1 := by subst hwr; exact wrong3 hr0 hr1
    refine iter_range59 (n := rn.toNat) (fun i m nx => ∃ c tc cap inner ti w1 w2, nx = [(S, W.listOf #[.ref SL, .int c tc] cap), (SL, _)] ∧ m = lawMap1 S _ inner ti wr _ w1 w2 ∧ 0 ≤ c ∧ c ≤ 10 + 2 * i ∧ (KBw.bInts inner).length ≤ 5 * i) rfl hR (by rw [← Int.toNat_of_nonneg hrn0]; exact small59 (by omega)) (by rw [rangeSize_nat]; omega) F1 N1 ⟨_, _, _, _, _, none, none, rfl, lawMap1_start, by decide, by decide, by decide⟩ ?_ ?_
    · clear F1 N1 hR
      rintro i t m₁ nx h tk I own hi ⟨c, tc, cap, inner, ti, w1, w2, rfl, rfl, hc0, hc1, hil⟩ hoff hown F3 N3
      have hownS : ∀ p ∈ own, p.1 ≠ S := fun p hp => by rw [hown p hp]; exact Ne.symm (hoff _ (.head _))
      have N4 : News _ _ h ((S, _) :: (SL, _) :: own) := fun p hp => N3 p ((List.mem_cons.mp hp).elim (fun q => List.mem_append_right _ (q ▸ .head _)) fun q => (List.mem_cons.mp q).elim (fun q => List.mem_append_right _ (q ▸ .tail _ (.head _))) (List.mem_append_left _))
      clear N3
      obtain ⟨kin, hkin⟩ : ∃ k, KBw.bInts inner = k := ⟨_, rfl⟩
      rw [hkin] at hil
      have hkl : kin.length ≤ 45 := by omega
      unfold lawMap1 at F3
      k_steps
      (show wpAny _ _ _ _ _ _)
      rename Fr _ _ _ _ => F1
      rename News _ _ _ _ => N1
      refine draw_spec _ _ _ _ _ _ _ _ _ _ _ _ S SL _ _ _ _ _ _ _ _ (K0.push F1) XX TX (by decide) (by decide) (N1 _ (.head _)).1 (N1 _ (.tail _ (.head _))).1 hSSL hS0.2 hSL0.2 (frames_one rfl hS0.1) (frames_one rfl hSL0.1) hI hvl hc0 (by omega) (by decide) (by decide) (fun rp trp tcp capp hp' tkp hrp0 hrp1 hsxp hSp => ?_)
      obtain ⟨F2, N2⟩ := draw_after F1 N1 hsxp hSp hS0.2 hS0.1 (news' := (S, _) :: (SL, _) :: own) (fun p hp => by
        rcases List.mem_cons.mp hp with rfl | hp
        · exact .inl rfl
        · rcases List.mem_cons.mp hp with rfl | hp
          · exact .inr ⟨.tail _ (.head _), Ne.symm hSSL⟩
          · exact .inr ⟨.tail _ (.tail _ hp), hownS p hp⟩)
      clear F1 N1
      obtain ⟨ho1, ho2⟩ := KBw.getD_in (ks := [2, 192, 0, 127, 128, 129, 130, 131, 133, 183, 184, 185, 1, 193, 194, 195, 197, 247, 248, 249, 7, 56, 60, 255]) (j := rp.toNat) (by decide)
      k_steps
      · rename Fr _ _ _ _ => F8
        rename News _ _ _ _ => N8
        refine ⟨_, _, _, [(S, W.listOf #[.ref SL, .int (c + 1) tcp] capp), (SL, _)], rfl, F8, (fun p hp => N8 p ?_), off2 hoff, c + 1, tcp, capp, _, _, _, _, rfl, lawMap1_turn, by omega, by omega, ?_⟩
        · exact memJ2 hp
        · rw [KBw.ints_length, Array.size_append, ← KBw.ints_length inner, hkin]
          show kin.length + 1 ≤ _
          omega
      · (show wpAny _ _ _ _ _ _)
        rename Fr _ _ _ _ => F1
        rename News _ _ _ _ => N1
        refine draw_spec _ _ _ _ _ _ _ _ _ _ _ _ S SL _ _ _ _ _ _ _ _ (K0.push F1) XX TX (by decide) (by decide) (N1 _ (.tail _ (.head _))).1 (N1 _ (.tail _ (.tail _ (.head _)))).1 hSSL hS0.2 hSL0.2 (frames_one rfl hS0.1) (frames_one rfl hSL0.1) hI hvl (by omega) (by omega) (by decide) (by decide) (fun rq trq tcq capq hq' tkq hrq0 hrq1 hsxq hSq => ?_)
        obtain ⟨F2, N2⟩ := draw_after F1 N1 hsxq hSq hS0.2 hS0.1 (news' := (S, _) :: (SL, _) :: own) (fun p hp => by
          rcases List.mem_cons.mp hp with rfl | hp
          · exact .inl rfl
          · rcases List.mem_cons.mp hp with rfl | hp
            · exact .inr ⟨.tail _ (.tail _ (.head _)), Ne.symm hSSL⟩
            · exact .inr ⟨.tail _ (.tail _ (.tail _ hp)), hownS p hp⟩)
        clear F1 N1
        obtain ⟨k5, hk5⟩ : ∃ k, KBw.bInts (List.replicate (1 + rq).toNat [Nat.toUInt8 5]).flatten.toArray = k := ⟨_, rfl⟩
        have hk5l : k5.length ≤ 5 := by
          rw [← hk5, KBw.ints_length]
          simp
          omega
        k_steps
        rename Fr _ _ _ _ => F8
        rename News _ _ _ _ => N8
        refine ⟨_, _, _, [(S, W.listOf #[.ref SL, .int (c + 1 + 1) tcq] capq), (SL, _)], rfl, F8, (fun p hp => N8 p (memJ0 hp)), off2 hoff, c + 1 + 1, tcq, capq, _, _, _, _, rfl, lawMap1_turn, by omega, by omega, ?_⟩
        rw [KBw.ints_length, Array.size_append, ← KBw.ints_length inner, hkin, ← KBw.ints_length, hk5]
        omega
    · clear F1 N1 hR
      rintro m₁ nx h tk ⟨c, tc, cap, inner, ti, w1, w2, rfl, rfl, hc0, hc1, hil⟩ F3 N3
      obtain ⟨kin, hkin⟩ : ∃ k, KBw.bInts inner = k := ⟨_, rfl⟩
      rw [hkin] at hil
      have hkl : kin.length ≤ 45 := by omega
      unfold lawMap1 at F3
      k_steps
      (show wpAny _ _ _ _ _ _)
      rename Fr _ _ _ _ => F1
      rename News _ _ _ _ => N1
      rename KBw.bInts (_ ++ _) = _ => hka
      rename ((UInt8.toNat _ : Nat) : Int) = _ => hb9
      replace hka := oct_ints hka hb9
      generalize hn : (if (kin.length : Int) + wr > 0 then (kin.length : Int) + wr else 0) = n at hka F1 N1 hb9 ⊢
      have hn3 : (wr = 0 ∧ n = kin.length) ∨ (wr = 1 ∧ n = kin.length + 1) ∨ (wr = -1 ∧ n = kin.length - 1 ∧ 0 < kin.length) ∨ (wr = -1 ∧ kin.length = 0 ∧ n = 0) := by split at hn <;> omega
      clear hn hb9
      generalize hoc : (#[(192 + n).toNat.toUInt8] ++ inner : Array UInt8) = oc at hka F1 ⊢
      have N3 : News _ _ _ [(S, _), (SL, _)] := fun p hp => N1 p (.tail _ hp)
      clear N1 hoc
      have hst := head_lst hka (by omega) (by omega)
      generalize hks : (192 + n) :: kin = ks at hka
      have hksl : ks.length = kin.length + 1 := by rw [← hks]; rfl
      have hkl1 : ks.length ≤ 100 := by omega
      clear hks hwr
      refine whole_spec _ _ _ _ _ _ _ _ _ _ _ _ oc _ _ _ (K0.push F1) XX TX (by decide) (by decide) hka hkl1 hst (Nat.le_of_lt (Nat.lt_of_le_of_lt F1.above F1.ns.lt)) (fun h' tk' hne htx => ?_) (fun y h' tk' heq hy hsub => ?_)
      · rw [hksl] at hne
        have F2 := turnFr F1 htx (fun q => nomatch q) (fun _ q => nomatch q) (flOne rfl)
        have N2 := turnNews N3 htx (fun _ _ q => nomatch q) (flOne rfl)
        clear F1 N3 htx
        k_steps
        (show wpAny _ _ _ _ _ _)
        refine wpAny_If ?_
        k_steps
        exfalso; omega
      · have F2 := Fr.ofSub F1 hsub
        have hS := newStore F1 hy (by decide)
        have hoffZ := newStore_off N3 hy
        obtain ⟨RZ, hRZ⟩ : ∃ R, R = zObjs (parOf hy) oc [y] := ⟨_, rfl⟩
        dsimp only [parOf] at hRZ
        have N2 : News _ _ _ ((S, _) :: (SL, _) :: RZ) := newsApp (News.ofSub N3 hsub) (hRZ ▸ newsZ hS)
        have hyb : y.b = 1 := hy.is.1
        have hye : y.e = 1 + n := hy.is.2.1
        clear F1 N3 hsub
        k_steps
        (show wpAny _ _ _ _ _ _)
        refine If_skip ?_ (fun tk9 => ?_)
        · k_steps
          all_goals exact ⟨rfl, _, rfl⟩
        k_steps
        (show wpAny _ _ _ _ _ _)
        rename Fr _ _ _ _ => F1
        rename News _ _ _ _ => N1
        refine row_spec _ _ _ _ _ _ _ _ _ _ _ _ oc _ ks _ _ _ _ (K0.push F1) XX TX (by decide) (by decide) hka hkl1 (by decide) (fun items j f D F R vs nF tF h2 tk2 hfin hsub2 hnew hR => ?_)
        obtain ⟨F3, N3, hne3⟩ := newsAdd F1 N1 hsub2 hnew
        have N4 : News _ _ _ ((D, _) :: (F, _) :: (S, _) :: (SL, _) :: (R ++ RZ)) := fun p hp => N3 p (mem4 hp)
        have hFS : F ≠ S := hne3 _ (.tail _ (.head _)) _ _ (N1 _ (.head _)).1
        have hFZ : F ∉ zAddrs [y] := fun q => by
          obtain ⟨p, hp, e⟩ := zAddrs_obj (P := World.params _) (o := oc) q
          exact hne3 _ (.tail _ (.head _)) _ _ (N1 p (.tail _ (.tail _ (hRZ ▸ hp)))).1 e.symm
        have hRS0 : ∀ p ∈ R, p.1 ≠ S := fun p hp => hne3 _ (.tail _ (.tail _ hp)) _ _ (N1 _ (.head _)).1
        have hRZo : ∀ p ∈ R, p.1 ∉ zAddrs [y] := fun p hp q => by
          obtain ⟨p', hp', e⟩ := zAddrs_obj (P := parOf hy) (o := oc) q
          exact hne3 _ (.tail _ (.tail _ hp)) _ _ (N1 p' (.tail _ (.tail _ (hRZ ▸ hp')))).1 e.symm
        have hS3 := hS.again (there_of N4 fun p hp => .tail _ (.tail _ (.tail _ (.tail _ (List.mem_append_right _ (hRZ ▸ hp))))))
        have hvl2 := hR.length
        have hil2 := hfin.1.len (by decide)
        rw [hka] at hil2
        clear F1 N1 N3 hS
        obtain ⟨RR, hRR⟩ : ∃ q, R ++ RZ = q := ⟨_, rfl⟩
        rw [hRR] at N4
        dsimp only [tupOf] at N4
        k_steps
        (show wpAny _ _ _ _ _ _)
        rename Fr _ _ _ _ => F1
        refine For_invV (baseOf F1) rfl rfl ?_
        dsimp only [baseOf]
        k_steps
        (show wpAny _ _ _ _ _ _)
        rename Fr _ _ _ _ => F1
        rename News _ _ _ _ => N1
        rename IsRange _ _ _ _ _ _ _ _ => hRg
        have hRS : ∀ p ∈ R, p.1 ≠ S := fun p hp => hRS0 p hp
        have N5 : News _ _ _ ((F, _) :: (S, _) :: (SL, _) :: (R ++ zObjs (parOf hy) oc [y])) := fun p hp => N1 p (.tail _ (by rw [← hRR, hRZ]; exact hp))
        refine iter_rangeI (n := 6) (fun i m nx => ∃ c tc cap Z h0 m0, nx = (F, W.listOf vs.toArray nF) :: (S, W.listOf #[.ref SL, .int c tc] cap) :: (SL, _) :: (R ++ zObjs (parOf hy) oc Z) ∧ m = lawMap2 y.x F S (word f) tF oc _ m0 ∧ 0 ≤ c ∧ c ≤ 100 + 2 * i ∧
            Store (parOf hy) oc _ _ h0 Z ∧ Zle [y] Z ∧ F ∉ zAddrs Z ∧ S ∉ zAddrs Z ∧ SL ∉ zAddrs Z ∧ ∀ p ∈ R, p.1 ∉ zAddrs Z) rfl hRg (by decide) (by decide) F1 N5
          ⟨_, _, _, [y], _, _, rfl, lawMap2_of rfl rfl rfl rfl rfl, hc0, by omega, hS3, Zle.refl _, hFZ, hoffZ _ (.head _), hoffZ _ (.tail _ (.head _)), hRZo⟩ ?_ ?_
        · clear F1 N1 N5 hRg
          rintro i t m₁ nx h tk I oI own hi ⟨c', tc', cap', Z, h0, m0, rfl, rfl, hc0', hc1', hSt, hle, hzF, hzS, hzSL, hzR⟩ hoff hown hIo F3 N3
          dsimp only [parOf] at hoff N3 hSt
          obtain ⟨RO, hRO⟩ : ∃ q, own ++ R = q := ⟨_, rfl⟩
          have hzRO : ∀ p ∈ RO, p.1 ∉ zAddrs Z := fun p hp q => by
            subst hRO
            rcases List.mem_append.mp hp with hp | hp
            · obtain ⟨p', hp', e⟩ := zAddrs_obj (P := parOf hy) (o := oc) q
              exact hoff p' (.tail _ (.tail _ (.tail _ (List.mem_append_right _ hp')))) (e.trans (hown p hp))
            · exact hzR p hp q
          have hROS : ∀ p ∈ RO, p.1 ≠ S := fun p hp => by
            subst hRO
            rcases List.mem_append.mp hp with hp | hp
            · rw [hown p hp]; exact Ne.symm (hoff _ (.tail _ (.head _)))
            · exact hRS p hp
          have hA := all3 (p := fun p => p.1 ∉ zAddrs Z) (a := (F, W.listOf vs.toArray nF)) (b := (S, W.listOf #[.ref SL, .int c' tc'] cap')) (c := (SL, W.listOf #[] 0)) hzF hzS hzSL hzRO
          have hTS : ∀ p ∈ zObjs (parOf hy) oc Z, p.1 ≠ S := fun p hp q => hzS (by obtain ⟨z, hz, hzp⟩ := List.mem_flatMap.mp hp; exact q ▸ List.mem_flatMap.mpr ⟨z, hz, lzObjs_addr hzp⟩)
          dsimp only [parOf] at hTS
          have N4 := fun p hp => N3 p (memT hp)
          rw [hRO] at N4
          obtain ⟨RT, hRT⟩ : ∃ q, RO ++ zObjs (parOf hy) oc Z = q := ⟨_, rfl⟩
          dsimp only [parOf] at hRT
          rw [hRT] at N4
          replace N4 : News _ _ _ _ := N4
          unfold lawMap2 at F3
          clear N3
          k_steps
          (show wpAny _ _ _ _ _ _)
          rename Fr _ _ _ _ => F1
          rename News _ _ _ _ => N1
          have hTT : ∀ p ∈ RT, p.1 ≠ S := fun p hp => by
            rw [← hRT] at hp
            exact (List.mem_append.mp hp).elim (hROS p) (hTS p)
          refine draw_spec _ _ _ _ _ _ _ _ _ _ _ _ S SL _ _ _ _ _ _ _ _ (K0.push F1) XX TX (by decide) (by decide) (N1 _ (.tail _ (.head _))).1 (N1 _ (.tail _ (.tail _ (.head _)))).1 hSSL hS0.2 hSL0.2 (frames_one rfl hS0.1) (frames_one rfl hSL0.1) hI hvl hc0' (by omega) (by decide) (by decide) (fun rp trp tcp capp hp' tkp hrp0 hrp1 hsxp hSp => ?_)
          obtain ⟨F2, N2⟩ := draw_after F1 N1 hsxp hSp hS0.2 hS0.1 (news' := (F, _) :: (S, _) :: (SL, _) :: RT) (fun p hp => by
            rcases List.mem_cons.mp hp with rfl | hp
            · exact .inr ⟨.head _, hFS⟩
            · rcases List.mem_cons.mp hp with rfl | hp
              · exact .inl rfl
              · rcases List.mem_cons.mp hp with rfl | hp
                · exact .inr ⟨.tail _ (.tail _ (.head _)), Ne.symm hSSL⟩
                · exact .inr ⟨.tail _ (.tail _ (.tail _ hp)), hTT p hp⟩)
          clear F1 N1
          k_steps
          (show wpAny _ _ _ _ _ _)
          rename Fr _ _ _ _ => F1
          rename News _ _ _ _ => N1
          have hSt1 := hSt.again (there_of N1 (fun p hp => .tail _ (.tail _ (.tail _ (hRT ▸ List.mem_append_right _ hp)))))
          have NA : News _ _ _ ((F, _) :: (S, _) :: (SL, _) :: RO) := fun p hp => N1 p (by
            rw [← hRT]
            exact all3 (p := fun p => p ∈ (_ :: _ :: _ :: (RO ++ _) : List (Addr × Obj))) (.head _) (.tail _ (.head _)) (.tail _ (.tail _ (.head _))) (fun x hx => .tail _ (.tail _ (.tail _ (List.mem_append_left _ hx)))) p hp)
          refine told_law _ _ _ _ _ _ _ _ _ _ _ _ oc ks Z y rp _ items j f _ _ _ (K0.push F1) rfl XX TX (by decide) (by decide) hka hkl1 F1 NA (all3 hzF hzS hzSL hzRO) hSt1 (hle y (.head _)) hrp0 (by omega) (by rw [hyb, hye, heq]; exact hfin) (fun v Z2 h3 tk3 F4 NA4 hA4 S4 hle2 hv => ?_)
          clear F1 N1 NA
          obtain ⟨RT2, hRT2⟩ : ∃ q, RO ++ zObjs (parOf hy) oc Z2 = q := ⟨_, rfl⟩
          dsimp only [parOf] at hRT2
          have N4 := newsApp NA4 (newsZ S4)
          dsimp only [List.cons_append] at N4
          rw [hRT2] at N4
          have hRO2 : ∀ p ∈ R, p.1 ∉ zAddrs Z2 := fun p hp => hA4 p (.tail _ (.tail _ (.tail _ (hRO ▸ List.mem_append_right _ hp))))
          have hIZ2 : I ∉ zAddrs Z2 := hA4 (I, oI) (.tail _ (.tail _ (.tail _ (hRO ▸ List.mem_append_left _ hIo))))
          have hEnd : ∀ (a b c p : Addr × Obj), p ∈ own ++ (a :: b :: c :: (R ++ zObjs (parOf hy) oc Z2)) → p ∈ a :: b :: c :: RT2 := fun a b c p hp => by rw [← hRT2, ← hRO]; exact memE hp
          cases hit : items[rp.toNat]? with
          | none =>
            rw [hit] at hv
            obtain ⟨t9, rfl⟩ := hv
            have hge := List.getElem?_eq_none_iff.mp hit
            rw [← hvl2] at hge
            k_steps
            rename Fr _ _ _ _ => F8
            rename News _ _ _ _ => N8
            refine ⟨_, _, _, (F, W.listOf vs.toArray nF) :: (S, W.listOf #[.ref SL, .int (c' + 1) tcp] capp) :: (SL, _) :: (R ++ zObjs (parOf hy) oc Z2), rfl, F8, (fun p hp => N8 p (hEnd _ _ _ p hp)), offE hoff hIZ2, c' + 1, tcp, capp, Z2, _, _, rfl, lawMap2_of rfl rfl rfl rfl rfl, by omega, by omega, S4, hle.trans hle2, hA4 _ (.head _), hA4 _ (.tail _ (.head _)), hA4 _ (.tail _ (.tail _ (.head _))), hRO2⟩
          | some it =>
            rw [hit] at hv
            obtain ⟨hge, _⟩ := List.getElem?_eq_some_iff.mp hit
            rw [← hvl2] at hge
            obtain ⟨v9, hv9, hr9⟩ := hR.get hit
            cases it with
            | bs b =>
              obtain ⟨t9, rfl⟩ := hv
              obtain ⟨t8, rfl⟩ := hr9
              k_steps
              rename Fr _ _ _ _ => F8
              rename News _ _ _ _ => N8
              refine ⟨_, _, _, (F, W.listOf vs.toArray nF) :: (S, W.listOf #[.ref SL, .int (c' + 1) tcp] capp) :: (SL, _) :: (R ++ zObjs (parOf hy) oc Z2), rfl, F8, (fun p hp => N8 p (hEnd _ _ _ p hp)), offE hoff hIZ2, c' + 1, tcp, capp, Z2, _, _, rfl, lawMap2_of rfl rfl rfl rfl rfl, by omega, by omega, S4, hle.trans hle2, hA4 _ (.head _), hA4 _ (.tail _ (.head _)), hA4 _ (.tail _ (.tail _ (.head _))), hRO2⟩
            | ls b e =>
              obtain ⟨q, t8, t9, rfl, hq⟩ := hv
              obtain ⟨q', t6, t7, rfl, hq'⟩ := hr9
              have hqR : (q', tupOf [.int b t6, .int e t7]) ∈ RT2 := hRT2 ▸ List.mem_append_left _ (hRO ▸ List.mem_append_right _ hq')
              have N6 : News _ _ _ ((q, _) :: (q', _) :: (F, _) :: (S, _) :: (SL, _) :: RT2) := newsApp hq fun p hp => N4 p ((List.mem_cons.mp hp).elim (fun z => z ▸ .tail _ (.tail _ (.tail _ hqR))) id)
              dsimp only [tupOf] at N6
              clear N4
              k_steps
              (show wpAny _ _ _ _ _ _)
              rename Fr _ _ _ _ => F1
              rename News _ _ _ _ => N1
              refine ne_pair (N1 _ (.head _)).1 (N1 _ (.tail _ (.head _))).1 (by dsimp only [Around.deeper, callerA]; decide) ?_
              k_steps
              (show wpAny _ _ _ _ _ _)
              rename Fr _ _ _ _ => F1
              rename News _ _ _ _ => N1
              have N5 : News _ _ _ ((F, _) :: (S, _) :: (SL, _) :: (RO ++ zObjs (parOf hy) oc Z2)) := fun p hp => N1 p (.tail _ (.tail _ (by rw [← hRT2]; exact hp)))
              dsimp only [parOf] at N5
              clear N1
              have hb0 := run_ls hfin.1 (by decide) hit
              refine row_spec _ _ _ _ _ _ _ _ _ _ _ _ oc _ ks _ _ _ _ (K0.push F1) XX TX (by decide) (by decide) hka hkl1 hb0 (fun items2 j2 f2 D2 G2 R2 vs2 nF2 tF2 h2 tk2 hfin2 hsub2 hnew2 hR2 => ?_)
              obtain ⟨F5, N6, hne5⟩ := newsAdd F1 N5 hsub2 hnew2
              have N7 : News _ _ _ ((D2, _) :: (G2, _) :: (F, _) :: (S, _) :: (SL, _) :: ((R2 ++ RO) ++ zObjs (parOf hy) oc Z2)) := fun p hp => N6 p (mem5 hp)
              have hSat := (N5 _ (.tail _ (.head _))).1
              have hDS : D2 ≠ S := hne5 _ (.head _) _ _ hSat
              have hGS : G2 ≠ S := hne5 _ (.tail _ (.head _)) _ _ hSat
              have hRS2 : ∀ p ∈ R2 ++ RO, p.1 ≠ S := fun p hp => (List.mem_append.mp hp).elim (fun q => hne5 _ (.tail _ (.tail _ q)) _ _ hSat) (hROS p)
              have hoffZ2 : ∀ p ∈ (D2, tupOf [.ref G2, .str (word f2) tF2]) :: (G2, W.listOf vs2.toArray nF2) :: R2, p.1 ∉ zAddrs Z2 := fun p hp q => by
                obtain ⟨p', hp', e'⟩ := zAddrs_obj (P := parOf hy) (o := oc) q
                exact hne5 p hp _ _ (N5 p' (.tail _ (.tail _ (.tail _ (List.mem_append_right _ hp'))))).1 e'.symm
              have hzF2 : F ∉ zAddrs Z2 := hA4 (F, _) (.head _)
              have hzS2 : S ∉ zAddrs Z2 := hA4 (S, _) (.tail _ (.head _))
              have hzL2 : SL ∉ zAddrs Z2 := hA4 (SL, _) (.tail _ (.tail _ (.head _)))
              have hA5 := all5 (p := fun p => p.1 ∉ zAddrs Z2) (a := (D2, tupOf [.ref G2, .str (word f2) tF2])) (b := (G2, W.listOf vs2.toArray nF2)) (c := (F, W.listOf vs.toArray nF)) (d := (S, W.listOf #[] 0)) (e := (SL, W.listOf #[] 0)) (r := R2 ++ RO)
                (hoffZ2 _ (.head _)) (hoffZ2 _ (.tail _ (.head _))) hzF2 hzS2 hzL2 (fun x hx => (List.mem_append.mp hx).elim (fun q => hoffZ2 x (.tail _ (.tail _ q))) (fun q => hA4 x (.tail _ (.tail _ (.tail _ q)))))
              have hvl3 := hR2.length
              have hil3 := hfin2.1.len hb0
              rw [hka] at hil3
              obtain ⟨RO2, hRO5⟩ : ∃ q, R2 ++ RO = q := ⟨_, rfl⟩
              rw [hRO5] at N7 hRS2 hA5
              obtain ⟨RT3, hRT3⟩ : ∃ q, RO2 ++ zObjs (parOf hy) oc Z2 = q := ⟨_, rfl⟩
              have hTT3 : ∀ p ∈ RT3, p.1 ≠ S := fun p hp => by
                rw [← hRT3] at hp
                refine (List.mem_append.mp hp).elim (hRS2 p) fun hp q => hzS2 ?_
                obtain ⟨z, hz, hzp⟩ := List.mem_flatMap.mp hp
                exact q ▸ List.mem_flatMap.mpr ⟨z, hz, lzObjs_addr hzp⟩
              rw [hRT3] at N7
              dsimp only [parOf] at hRT3
              dsimp only [tupOf] at N7
              clear F1 N5 N6
              k_steps
              (show wpAny _ _ _ _ _ _)
              rename Fr _ _ _ _ => F1
              rename News _ _ _ _ => N1
              refine draw_spec _ _ _ _ _ _ _ _ _ _ _ _ S SL _ _ _ _ _ _ _ _ (K0.push F1) XX TX (by decide) (by decide) (N1 _ (.tail _ (.tail _ (.tail _ (.head _))))).1 (N1 _ (.tail _ (.tail _ (.tail _ (.tail _ (.head _)))))).1 hSSL hS0.2 hSL0.2 (frames_one rfl hS0.1) (frames_one rfl hSL0.1) hI hvl (by omega) (by omega) (by decide) (by decide) (fun rd trd tcd capd hd' tkd hrd0 hrd1 hsxd hSd => ?_)
              obtain ⟨F2, N2⟩ := draw_after F1 N1 hsxd hSd hS0.2 hS0.1 (news' := (D2, _) :: (G2, _) :: (F, _) :: (S, _) :: (SL, _) :: RT3) (fun p hp => by
                rcases List.mem_cons.mp hp with rfl | hp
                · exact .inr ⟨.head _, hDS⟩
                · rcases List.mem_cons.mp hp with rfl | hp
                  · exact .inr ⟨.tail _ (.head _), hGS⟩
                  · rcases List.mem_cons.mp hp with rfl | hp
                    · exact .inr ⟨.tail _ (.tail _ (.head _)), hFS⟩
                    · rcases List.mem_cons.mp hp with rfl | hp
                      · exact .inl rfl
                      · rcases List.mem_cons.mp hp with rfl | hp
                        · exact .inr ⟨.tail _ (.tail _ (.tail _ (.tail _ (.head _)))), Ne.symm hSSL⟩
                        · exact .inr ⟨.tail _ (.tail _ (.tail _ (.tail _ (.tail _ hp)))), hTT3 p hp⟩)
              clear F1 N1
              obtain ⟨y3, hy3, sm3⟩ := hle.trans hle2 y (.head _)
              k_steps
              (show wpAny _ _ _ _ _ _)
              rename Fr _ _ _ _ => F1
              rename News _ _ _ _ => N1
              have hmem3 : ∀ p ∈ lzObjs (parOf hy) oc y3, p ∈ RT3 := fun p hp => hRT3 ▸ List.mem_append_right _ (List.mem_flatMap.mpr ⟨y3, hy3, hp⟩)
              dsimp only [parOf] at hmem3
              have hx3 := (N1 _ (.tail _ (.tail _ (.tail _ (.tail _ (.tail _ (hmem3 _ (.head _)))))))).1
              have hd3 := (N1 _ (.tail _ (.tail _ (.tail _ (.tail _ (.tail _ (hmem3 _ (.tail _ (.head _))))))))).1
              rw [sm3.x] at hx3
              have hSt3 := S4.again (there_of N1 (fun p hp => .tail _ (.tail _ (.tail _ (.tail _ (.tail _ (hRT3 ▸ List.mem_append_right _ hp)))))))
              have NA : News _ _ _ ((D2, _) :: (G2, _) :: (F, _) :: (S, _) :: (SL, _) :: RO2) := fun p hp => N1 p (by
                rw [← hRT3]
                exact all5 (p := fun p => p ∈ (_ :: _ :: _ :: _ :: _ :: (RO2 ++ _) : List (Addr × Obj))) (.head _) (.tail _ (.head _)) (.tail _ (.tail _ (.head _))) (.tail _ (.tail _ (.tail _ (.head _)))) (.tail _ (.tail _ (.tail _ (.tail _ (.head _))))) (fun x hx => .tail _ (.tail _ (.tail _ (.tail _ (.tail _ (List.mem_append_left _ hx)))))) p hp)
              refine sub_K F1 XX (ox := instObj 123 y3.dx) (od := some (lzDict (parOf hy) oc y3)) (C := 123) (f := 113) ⟨hx3, rfl, rfl, hd3⟩ (by k_is) (by k_is) (by k_is) ?_
              refine get_law _ _ _ _ _ _ _ _ _ _ _ _ oc ks Z2 y rp _ items j f _ _ _ b e (below_in1 (K0.push F1)) rfl XX TX (by dsimp only [Around.deeper, Around.in1, callerA]; decide) (by dsimp only [Around.deeper, Around.in1, callerA]; decide) hka hkl1 F1 NA (all5 (hoffZ2 (D2, _) (.head _)) (hoffZ2 (G2, _) (.tail _ (.head _))) hzF2 hzS2 hzL2 (fun x hx => hA5 x (.tail _ (.tail _ (.tail _ (.tail _ (.tail _ hx))))))) hSt3 (hle.trans hle2 y (.head _)) hrp0 (by omega) (by rw [hyb, hye, heq]; exact hfin) hit (fun y4 Z3 h4 tk4 F6 NA6 hA6 S6 hle3 hy4 hy4b hy4e => ?_)
              clear F1 N1 NA
              obtain ⟨RT4, hRT4⟩ : ∃ q, RO2 ++ zObjs (parOf hy) oc Z3 = q := ⟨_, rfl⟩
              dsimp only [parOf] at hRT4
              have N9 := newsApp NA6 (newsZ S6)
              dsimp only [List.cons_append] at N9
              rw [hRT4] at N9
              clear NA6
              k_steps
              (show wpAny _ _ _ _ _ _)
              rename Fr _ _ _ _ => F1
              rename News _ _ _ _ => N1
              have hSt5 := S6.again (there_of N1 (fun p hp => .tail _ (.tail _ (.tail _ (.tail _ (.tail _ (hRT4 ▸ List.mem_append_right _ hp)))))))
              have NA : News _ _ _ ((D2, _) :: (G2, _) :: (F, _) :: (S, _) :: (SL, _) :: RO2) := fun p hp => N1 p (by
                rw [← hRT4]
                exact all5 (p := fun p => p ∈ (_ :: _ :: _ :: _ :: _ :: (RO2 ++ _) : List (Addr × Obj))) (.head _) (.tail _ (.head _)) (.tail _ (.tail _ (.head _))) (.tail _ (.tail _ (.tail _ (.head _)))) (.tail _ (.tail _ (.tail _ (.tail _ (.head _))))) (fun x hx => .tail _ (.tail _ (.tail _ (.tail _ (.tail _ (List.mem_append_left _ hx)))))) p hp)
              refine told_law _ _ _ _ _ _ _ _ _ _ _ _ oc ks Z3 y4 rd _ items2 j2 f2 _ _ _ (K0.push F1) rfl XX TX (by decide) (by decide) hka hkl1 F1 NA hA6 hSt5 ⟨y4, hy4, .refl _⟩ hrd0 (by omega) (by rw [hy4b, hy4e]; exact hfin2) (fun v4 Z4 h7 tk7 F7 NA7 hA7 S7 hle4 hv4 => ?_)
              clear F1 N1 NA
              obtain ⟨RT5, hRT5⟩ : ∃ q, RO2 ++ zObjs (parOf hy) oc Z4 = q := ⟨_, rfl⟩
              dsimp only [parOf] at hRT5
              have N9 := newsApp NA7 (newsZ S7)
              dsimp only [List.cons_append] at N9
              rw [hRT5] at N9
              have hRO7 : ∀ p ∈ R, p.1 ∉ zAddrs Z4 := fun p hp => hA7 p (.tail _ (.tail _ (.tail _ (.tail _ (.tail _ (by rw [← hRO5, ← hRO]; exact List.mem_append_right _ (List.mem_append_right _ hp)))))))
              have hIZ4 : I ∉ zAddrs Z4 := hA7 (I, oI) (.tail _ (.tail _ (.tail _ (.tail _ (.tail _ (by rw [← hRO5, ← hRO]; exact List.mem_append_right _ (List.mem_append_left _ hIo)))))))
              have hEnd4 : ∀ (a a' b c d p : Addr × Obj), p ∈ own ++ (b :: c :: d :: (R ++ zObjs (parOf hy) oc Z4)) → p ∈ a :: a' :: b :: c :: d :: RT5 := fun a a' b c d p hp => by rw [← hRT5, ← hRO5, ← hRO]; exact mem5E hp
              clear NA7
              cases hit2 : items2[rd.toNat]? with
              | none =>
                rw [hit2] at hv4
                obtain ⟨t9, rfl⟩ := hv4
                have hge2 := List.getElem?_eq_none_iff.mp hit2
                rw [← hvl3] at hge2
                k_steps
                rename Fr _ _ _ _ => F8
                rename News _ _ _ _ => N8
                refine ⟨_, _, _, (F, W.listOf vs.toArray nF) :: (S, W.listOf #[.ref SL, .int (c' + 1 + 1) tcd] capd) :: (SL, _) :: (R ++ zObjs (parOf hy) oc Z4), rfl, F8, (fun p hp => N8 p (hEnd4 _ _ _ _ _ p hp)), offE hoff hIZ4, c' + 1 + 1, tcd, capd, Z4, _, _, rfl, lawMap2_of rfl rfl rfl rfl rfl, by omega, by omega, S7, ((hle.trans hle2).trans hle3).trans hle4, hA7 (F, _) (.tail _ (.tail _ (.head _))), hA7 (S, _) (.tail _ (.tail _ (.tail _ (.head _)))), hA7 (SL, _) (.tail _ (.tail _ (.tail _ (.tail _ (.head _))))), hRO7⟩
              | some it2 =>
                rw [hit2] at hv4
                obtain ⟨hge2, _⟩ := List.getElem?_eq_some_iff.mp hit2
                rw [← hvl3] at hge2
                obtain ⟨v9, hv9, hr9⟩ := hR2.get hit2
                cases it2 with
                | bs b =>
                  obtain ⟨t9, rfl⟩ := hv4
                  obtain ⟨t8, rfl⟩ := hr9
                  k_steps
                  rename Fr _ _ _ _ => F8
                  rename News _ _ _ _ => N8
                  refine ⟨_, _, _, (F, W.listOf vs.toArray nF) :: (S, W.listOf #[.ref SL, .int (c' + 1 + 1) tcd] capd) :: (SL, _) :: (R ++ zObjs (parOf hy) oc Z4), rfl, F8, (fun p hp => N8 p (hEnd4 _ _ _ _ _ p hp)), offE hoff hIZ4, c' + 1 + 1, tcd, capd, Z4, _, _, rfl, lawMap2_of rfl rfl rfl rfl rfl, by omega, by omega, S7, ((hle.trans hle2).trans hle3).trans hle4, hA7 (F, _) (.tail _ (.tail _ (.head _))), hA7 (S, _) (.tail _ (.tail _ (.tail _ (.head _)))), hA7 (SL, _) (.tail _ (.tail _ (.tail _ (.tail _ (.head _))))), hRO7⟩
                | ls b2 e2 =>
                  obtain ⟨q2, t8, t9, rfl, hq2⟩ := hv4
                  obtain ⟨q3, t6, t7, rfl, hq3⟩ := hr9
                  have hqR2 : (q3, tupOf [.int b2 t6, .int e2 t7]) ∈ RT5 := by
                    rw [← hRT5, ← hRO5]
                    exact List.mem_append_left _ (List.mem_append_left _ hq3)
                  have N6 : News _ _ _ ((q2, _) :: (q3, _) :: (D2, _) :: (G2, _) :: (F, _) :: (S, _) :: (SL, _) :: RT5) := newsApp hq2 fun p hp => N9 p ((List.mem_cons.mp hp).elim (fun z => z ▸ .tail _ (.tail _ (.tail _ (.tail _ (.tail _ hqR2))))) id)
                  dsimp only [tupOf] at N6
                  clear N9
                  k_steps
                  (show wpAny _ _ _ _ _ _)
                  rename Fr _ _ _ _ => F1
                  rename News _ _ _ _ => N1
                  refine ne_pair (N1 _ (.head _)).1 (N1 _ (.tail _ (.head _))).1 (by dsimp only [Around.deeper, callerA]; decide) ?_
                  k_steps
                  rename Fr _ _ _ _ => F8
                  rename News _ _ _ _ => N8
                  refine ⟨_, _, _, (F, W.listOf vs.toArray nF) :: (S, W.listOf #[.ref SL, .int (c' + 1 + 1) tcd] capd) :: (SL, _) :: (R ++ zObjs (parOf hy) oc Z4), rfl, F8, (fun p hp => N8 p (.tail _ (.tail _ (hEnd4 _ _ _ _ _ p hp)))), offE hoff hIZ4, c' + 1 + 1, tcd, capd, Z4, _, _, rfl, lawMap2_of rfl rfl rfl rfl rfl, by omega, by omega, S7, ((hle.trans hle2).trans hle3).trans hle4, hA7 (F, _) (.tail _ (.tail _ (.head _))), hA7 (S, _) (.tail _ (.tail _ (.tail _ (.head _)))), hA7 (SL, _) (.tail _ (.tail _ (.tail _ (.tail _ (.head _))))), hRO7⟩
        · clear F1 N1 N5 hRg
          rintro m₁ nx h tk ⟨c', tc', cap', Z, h0, m0, rfl, rfl, hc0', hc1', hSt, hle, hzF, hzS, hzSL, hzR⟩ F3 N3
          have N4 : News _ _ _ [(F, _)] := fun p hp => N3 p (List.mem_singleton.mp hp ▸ .head _)
          unfold lawMap2 at F3
          clear N3
          k_steps
          (show wpAny _ _ _ _ _ _)
          rename Fr _ _ _ _ => F1
          rename News _ _ _ _ => N1
          refine whole_spec _ _ _ _ _ _ _ _ _ _ _ _ oc _ _ _ (K0.push F1) XX TX (by decide) (by decide) hka hkl1 hst (Nat.le_of_lt (Nat.lt_of_le_of_lt F1.above F1.ns.lt)) (fun h5 tk5 hne5 _ => absurd heq hne5) (fun y5 h5 tk5 _ hy5 hsub5 => ?_)
          have F2 := Fr.ofSub F1 hsub5
          have N2 := newsApp (News.ofSub N1 hsub5) (newsZ (newStore F1 hy5 (by decide)))
          have hoff5 := newStore_off N1 hy5
          obtain ⟨RZ5, hRZ5⟩ : ∃ R, R = zObjs (parOf hy5) oc [y5] := ⟨_, rfl⟩
          have hS5 := newStore F1 hy5 (by decide)
          dsimp only [parOf, List.cons_append, List.nil_append] at hRZ5 N2
          rw [← hRZ5] at N2
          clear F1 N1
          k_steps
          (show wpAny _ _ _ _ _ _)
          rename Fr _ _ _ _ => F1
          rename News _ _ _ _ => N1
          have hS6 := hS5.again (there_of N1 (fun p hp => .tail _ (hRZ5 ▸ hp)))
          have hF5 : F ∉ zAddrs [y5] := hoff5 (F, _) (.head _)
          refine many_law _ _ _ _ _ _ _ _ _ _ _ _ oc ks [y5] y5 items j f _ _ [(F, _)] (K0.push F1) rfl XX TX (by decide) (by decide) hka hkl1 F1 (fun p hp => N1 p (List.mem_singleton.mp hp ▸ .head _)) (fun p hp => by rw [List.mem_singleton.mp hp]; exact hF5) hS6 (.head _) hy5.is.2.2.2.2 (by rw [hy5.is.1, hy5.is.2.1, heq]; exact hfin) (fun h6 tk6 t6 hfs F2 N2 => ?_) (fun h6 tk6 hfs F2 N2 => ?_)
          · subst hfs
            dsimp only [word] at F2
            clear F1 N1
            k_steps
            (show wpAny _ _ _ _ _ _)
            rename Fr _ _ _ _ => F1
            rename News _ _ _ _ => N1
            refine ends_spec _ _ _ _ _ _ _ _ _ _ _ _ oc _ ks F vs nF items _ j .stop (K0.push F1) XX TX (by decide) (by decide) hka hkl1 (N1 _ (.head _)).1 (N1 _ (.head _)).2.2 (frames_one rfl (N1 _ (.head _)).2.1) hvl2 hfin (fun h8 tk8 hs8 => ?_)
            have F3 := Fr.ofSub F1 hs8
            have N3 := News.ofSub N1 hs8
            clear F1 N1
            rw [final_stop hfin, beq_self_eq_true]
            k_steps
          · clear F1 N1
            cases f with
            | stop => exact absurd rfl hfs
            | assert =>
              dsimp only [word] at F2
              k_steps
            | index =>
              dsimp only [word] at F2
              k_steps
              (show wpAny _ _ _ _ _ _)
              rename Fr _ _ _ _ => F1
              rename News _ _ _ _ => N1
              refine ends_spec _ _ _ _ _ _ _ _ _ _ _ _ oc _ ks F vs nF items _ j .index (K0.push F1) XX TX (by decide) (by decide) hka hkl1 (N1 _ (.head _)).1 (N1 _ (.head _)).2.2 (frames_one rfl (N1 _ (.head _)).2.1) hvl2 hfin (fun h8 tk8 hs8 => ?_)
              have F3 := Fr.ofSub F1 hs8
              have N3 := News.ofSub N1 hs8
              clear F1 N1
              rw [beq_eq_false_iff_ne.mpr (Int.ne_of_lt (final_index hfin))]
              k_steps
            | dec mm =>
              rcases final_dec hfin with rfl | rfl | rfl | rfl
              all_goals (
                dsimp only [word] at F2
                k_steps)
              )
  done)
end Mine

theorem PySem.Challenge.cw_ve0059_01_holds : PySem.Challenge.rw_ve0059_01.Holds :=
  Mine.law59
