import PyProof.Rows.All
import Wide.All
import OpenK.AllK
import Wide.FinOn
import Lean
import PySem.Challenge.RW_gq5008_01
open PySem PySem.W PyProof.Rows
set_option Elab.async false
set_option maxRecDepth 100000
set_option maxHeartbeats 8000000
namespace Mine
open_top hd for PySem.Challenge.rw_gq5008_01
end Mine
set_option maxHeartbeats 8000000
open PySem PySem.W PySem.Spec PySem.Calls PyProof.Rows
set_option Elab.async false
set_option maxRecDepth 100000
namespace Mine

def dictB (o : Obj) : Bool := match o.data with | .dict .. => true | _ => false
def tabB (o : Obj) : Bool := match o.data with | .fields _ => o.cls == .none | _ => false
def solid (o : Obj) : Bool := !dictB o && !tabB o

structure Ev (h h' : Heap) : Prop where
  sol : ∀ b o, h.get? b = some o → solid o = true → h'.get? b = some o
  dic : ∀ b o, h.get? b = some o → dictB o = true → ∃ sl, h'.get? b = some { o with slots := sl }

theorem dictB_slots {o : Obj} {sl} (h : dictB o = true) : dictB { o with slots := sl } = true := h
theorem Ev.refl (h : Heap) : Ev h h := ⟨fun _ _ e _ => e, fun _ o e _ => ⟨o.slots, e⟩⟩
theorem Ev.trans {a b c : Heap} (x : Ev a b) (y : Ev b c) : Ev a c :=
  ⟨fun p o e s => y.sol p o (x.sol p o e s) s, fun p o e s => by
    obtain ⟨s1, h1⟩ := x.dic p o e s
    obtain ⟨s2, h2⟩ := y.dic p _ h1 s
    exact ⟨s2, h2⟩⟩
theorem Ev.of_keeps {h h' : Heap} (k : ∀ b o, h.get? b = some o → h'.get? b = some o) : Ev h h' :=
  ⟨fun b o e _ => k b o e, fun b o e _ => ⟨o.slots, k b o e⟩⟩
theorem dict_not_fields {o : Obj} (h : dictB o = true) : ∀ vs, o.data ≠ .fields vs := fun vs q => by
  unfold dictB at h; rw [q] at h; cases h
theorem Ev.ns {h h' : Heap} {a : Addr} {m : Str → Option Value} (x : Ev h h') (hn : h.Ns a m) : h'.Ns a m := by
  obtain ⟨o, es, ep, ho, hd, r⟩ := hn
  obtain ⟨sl, hs⟩ := x.dic a o ho (by unfold dictB; rw [hd])
  exact ⟨_, es, ep, hs, hd, r⟩

def unsolid (b0 h : Heap) : List Addr := (List.range h.objs.size).filter fun b => match h.get? b with
  | some o => !solid o && (b0.get? b).isNone
  | none => false
def sh (b0 h : Heap) : Heap := hideAll h (unsolid b0 h)
theorem sh_of {b0 h : Heap} {b : Addr} {o : Obj} (e : (sh b0 h).get? b = some o) : h.get? b = some o := of_hideAll _ e
theorem sh_get {b0 h : Heap} {b : Addr} {o : Obj} (e : h.get? b = some o) (k : solid o = true ∨ b0.get? b ≠ none) : (sh b0 h).get? b = some o := by
  refine hideAll_get _ e fun hm => ?_
  have := (List.mem_filter.mp hm).2
  rw [e] at this
  simp only [Bool.and_eq_true, Bool.not_eq_true', Option.isNone_iff_eq_none] at this
  rcases k with k | k
  · rw [k] at this; exact absurd this.1 (by decide)
  · exact k this.2
theorem sh_none {b0 h : Heap} {b : Addr} {o : Obj} (e : h.get? b = some o) (k : solid o = false) (k0 : b0.get? b = none) : (sh b0 h).get? b = none := by
  refine hideAll_none _ (List.mem_filter.mpr ⟨List.mem_range.mpr (Heap.lt_size e), ?_⟩)
  rw [e]; show (!solid o && (b0.get? b).isNone) = true
  rw [k, k0]; rfl
theorem sh_fresh {b0 h : Heap} {b : Addr} (e : h.get? b = none) : (sh b0 h).get? b = none := by
  cases q : (sh b0 h).get? b with
  | none => rfl
  | some o => rw [sh_of q] at e; cases e
theorem sh_case {b0 h : Heap} {b : Addr} {o : Obj} (e : (sh b0 h).get? b = some o) : h.get? b = some o ∧ (solid o = true ∨ b0.get? b ≠ none) := by
  have e' := sh_of e
  refine ⟨e', ?_⟩
  cases k : solid o with
  | true => exact .inl rfl
  | false => exact .inr fun q => by rw [sh_none e' k q] at e; cases e
theorem sh_mono {b0 h h' : Heap} (x : Ev h h') (k : b0.StaysIn h) (k' : b0.StaysIn h') : (sh b0 h).StaysIn (sh b0 h') := fun b o e => by
  obtain ⟨e1, c⟩ := sh_case e
  rcases c with c | c
  · exact sh_get (x.sol b o e1 c) (.inl c)
  · cases q : b0.get? b with
    | none => exact absurd q c
    | some o' =>
      have := k b o' q
      rw [e1] at this
      cases this
      exact sh_get (k' b o q) (.inr c)
theorem sh_base {b0 h : Heap} (k : b0.StaysIn h) : b0.StaysIn (sh b0 h) := fun b o e => sh_get (k b o e) (.inr (by rw [e]; exact fun q => by cases q))

/-- the qualified name of a lambda made in code of that name -/
def lam (q : Str) : Str := q ++ ".<locals>." ++ "<lambda>"

structure Inv (b0 : Heap) (Ty : Addr → Option Str) (h : Heap) : Prop where
  tb : Ty 46 = some (Str.ofString "_law_try") ∧ Ty 58 = some (Str.ofString "law")
  all : ∀ P q, Ty P = some q → b0.get? P = none ∧ ∃ ps, h.get? P = some (tabObj ps) ∧ TriplesOk ps.toList ∧
    ∀ pos cv, codeAmong pos ps.toList = some cv → ∃ c' P', cv = .ref c' ∧ h.CodeRec (.ref c') (lam q) ∧ CodeHd h c' P' ∧ Ty P' = some (lam q)

theorem codeRec_keeps {h h' : Heap} {c : Addr} {q : Str} (x : h.CodeRec (.ref c) q) (k : ∀ b o, h.get? b = some o → h'.get? b = some o) : h'.CodeRec (.ref c) q :=
  let ⟨c2, o, vs, t, e, ho, r⟩ := x; ⟨c2, o, vs, t, e, k _ _ ho, r⟩
theorem Inv.keeps {b0 h h' : Heap} {Ty : Addr → Option Str} (x : Inv b0 Ty h) (k : ∀ b o, h.get? b = some o → h'.get? b = some o) : Inv b0 Ty h' := ⟨x.tb, fun P q e => by
  obtain ⟨n, ps, h1, h2, h3⟩ := x.all P q e
  refine ⟨n, ps, k _ _ h1, h2, fun pos cv e => ?_⟩
  obtain ⟨c', P', a1, a2, a3, a4⟩ := h3 pos cv e
  exact ⟨c', P', a1, codeRec_keeps a2 k, a3.keeps k, a4⟩⟩

def TyLe (a b : Addr → Option Str) : Prop := ∀ P q, a P = some q → b P = some q
theorem TyLe.refl (a) : TyLe a a := fun _ _ e => e
theorem TyLe.trans {a b c} (x : TyLe a b) (y : TyLe b c) : TyLe a c := fun P q e => y P q (x P q e)

/-- frames of a list of activations: dicts, none of the ground -/
structure Frames (b0 : Heap) (l : List Env) (h : Heap) : Prop where
  ff : h.FunFrames b0 l
  dict : ∀ b ∈ l.filterMap (·.frame), ∃ o, h.get? b = some o ∧ dictB o = true
theorem Frames.ev {b0 h h' : Heap} {l : List Env} (x : Frames b0 l h) (y : Ev h h') : Frames b0 l h' := by
  refine ⟨?_, fun b hb => ?_⟩
  · have : ∀ {l : List Env}, h.FunFrames b0 l → (∀ b ∈ l.filterMap (·.frame), ∃ o, h.get? b = some o ∧ dictB o = true) → h'.FunFrames b0 l := by
      intro l
      induction l with
      | nil => intros; trivial
      | cons env r ih =>
        intro hl hd
        obtain ⟨hk, ⟨L, o, hf, hn, ho, _⟩, hr⟩ := hl
        obtain ⟨o2, ho2, hd2⟩ := hd L (by rw [List.filterMap_cons, hf]; exact .head _)
        rw [ho] at ho2; cases ho2
        obtain ⟨sl, hs⟩ := y.dic L o ho hd2
        exact ⟨hk, ⟨L, _, hf, hn, hs, dict_not_fields (dictB_slots hd2)⟩, ih hr fun b hb => hd b (by rw [List.filterMap_cons, hf]; exact .tail _ hb)⟩
    exact this x.ff x.dict
  · obtain ⟨o, ho, hd⟩ := x.dict b hb
    obtain ⟨sl, hs⟩ := y.dic b o ho hd
    exact ⟨_, hs, dictB_slots hd⟩
theorem Frames.none {b0 h : Heap} {l : List Env} (x : Frames b0 l h) {b : Addr} (hb : b ∈ l.filterMap (·.frame)) : b0.get? b = none := (x.ff.mem hb).1
theorem solid_dict {o : Obj} (h : dictB o = true) : solid o = false := by unfold solid; rw [h]; rfl

/-- FunFrames over another base: the frames are not in it -/
theorem funFrames_base {h base base' : Heap} : ∀ {l : List Env}, h.FunFrames base l → (∀ b ∈ l.filterMap (·.frame), base'.get? b = none) → h.FunFrames base' l
  | [], _, _ => trivial
  | env :: r, hl, k => by
    obtain ⟨hk, ⟨L, o, hf, hn, ho, hd⟩, hr⟩ := hl
    exact ⟨hk, ⟨L, o, hf, k L (by rw [List.filterMap_cons, hf]; exact .head _), ho, hd⟩, funFrames_base hr fun b hb => k b (by rw [List.filterMap_cons, hf]; exact .tail _ hb)⟩

structure World' (b0 : Heap) (Ty : Addr → Option Str) (l : List Env) (h : Heap) : Prop where
  fr : Frames b0 l h
  st : b0.StaysIn h
  inv : Inv b0 Ty h

structure Fly (b0 : Heap) (Ty : Addr → Option Str) (hc : Heap) (l : List Env) (e : Addr) (h' : Heap) : Prop where
  ev : Ev hc h'
  fly : ∃ base cls a0, b0.StaysIn base ∧ Inv b0 Ty base ∧ (sh b0 hc).StaysIn base ∧ Heap.FlyingW base l e cls a0 h'
theorem Fly.st {b0 hc h'} {Ty l e} (x : Fly b0 Ty hc l e h') : b0.StaysIn h' := by
  obtain ⟨base, cls, a0, k, _, _, f⟩ := x.fly
  exact fun b o e => f.1 b o (k b o e)
theorem Fly.inv {b0 hc h'} {Ty l e} (x : Fly b0 Ty hc l e h') : Inv b0 Ty h' := by
  obtain ⟨base, cls, a0, _, k, _, f⟩ := x.fly
  exact k.keeps f.1
theorem Fly.mono {b0 h1 hc h'} {Ty l e} (x : Fly b0 Ty hc l e h') (y : Ev h1 hc) (k : b0.StaysIn h1) (k' : b0.StaysIn hc) : Fly b0 Ty h1 l e h' := by
  obtain ⟨base, cls, a0, a1, a2, a3, f⟩ := x.fly
  exact ⟨y.trans x.ev, base, cls, a0, a1, a2, fun b o e => a3 b o (sh_mono y k k' b o e), f⟩

/-- the heap without its dicts, but for the ground's -/
def nodict (b0 h : Heap) : Heap := hideAll h ((List.range h.objs.size).filter fun b => match h.get? b with
  | some o => dictB o && (b0.get? b).isNone
  | none => false)
theorem nodict_get {b0 h : Heap} {b : Addr} {o : Obj} (e : h.get? b = some o) (k : dictB o = false ∨ b0.get? b ≠ none) : (nodict b0 h).get? b = some o := by
  refine hideAll_get _ e fun hm => ?_
  have := (List.mem_filter.mp hm).2
  rw [e] at this
  simp only [Bool.and_eq_true, Option.isNone_iff_eq_none] at this
  rcases k with k | k
  · rw [k] at this; exact absurd this.1 (by decide)
  · exact k this.2
theorem nodict_none {b0 h : Heap} {b : Addr} {o : Obj} (e : h.get? b = some o) (k : dictB o = true) (k0 : b0.get? b = none) : (nodict b0 h).get? b = none := by
  refine hideAll_none _ (List.mem_filter.mpr ⟨List.mem_range.mpr (Heap.lt_size e), ?_⟩)
  rw [e]; show (dictB o && (b0.get? b).isNone) = true
  rw [k, k0]; rfl
theorem nodict_of {b0 h : Heap} {b : Addr} {o : Obj} (e : (nodict b0 h).get? b = some o) : h.get? b = some o := of_hideAll _ e
theorem nodict_inv {b0 h : Heap} {Ty} (x : Inv b0 Ty h) : Inv b0 Ty (nodict b0 h) := ⟨x.tb, fun P q e => by
  obtain ⟨n, ps, h1, h2, h3⟩ := x.all P q e
  refine ⟨n, ps, nodict_get h1 (.inl rfl), h2, fun pos cv e => ?_⟩
  obtain ⟨c', P', a1, a2, a3, a4⟩ := h3 pos cv e
  refine ⟨c', P', a1, ?_, ?_, a4⟩
  · obtain ⟨c2, o, vs, t, e2, ho, hd, r⟩ := a2
    exact ⟨c2, o, vs, t, e2, nodict_get ho (.inl (by unfold dictB; rw [hd])), hd, r⟩
  · obtain ⟨o, vs, file, tf, flags, tg, inF, text, tt, ho, hc, hd, r⟩ := a3
    exact ⟨o, vs, file, tf, flags, tg, inF, text, tt, nodict_get ho (.inl (by unfold dictB; rw [hd])), hc, hd, r⟩⟩
end Mine
open PySem PySem.W PySem.Spec PySem.Calls PyProof.Rows
set_option Elab.async false
set_option maxRecDepth 100000
set_option linter.unusedVariables false
namespace Mine

theorem Ev.keepsND {h h' : Heap} (k : ∀ b o, h.get? b = some o → dictB o = false → h'.get? b = some o) (kd : ∀ b o, h.get? b = some o → dictB o = true → ∃ sl, h'.get? b = some { o with slots := sl }) : Ev h h' :=
  ⟨fun b o e s => k b o e (by unfold solid at s; cases q : dictB o with | false => rfl | true => rw [q] at s; cases s), kd⟩
theorem Inv.keepsND {b0 h h' : Heap} {Ty : Addr → Option Str} (x : Inv b0 Ty h) (k : ∀ b o, h.get? b = some o → dictB o = false → h'.get? b = some o) : Inv b0 Ty h' := by
  refine ⟨x.tb, ?_⟩
  intro P q e
  obtain ⟨n, ps, h1, h2, h3⟩ := x.all P q e
  refine ⟨n, ps, k _ _ h1 rfl, h2, fun pos cv e => ?_⟩
  obtain ⟨c', P', a1, a2, a3, a4⟩ := h3 pos cv e
  refine ⟨c', P', a1, ?_, ?_, a4⟩
  · obtain ⟨c2, o, vs, t, e2, ho, hd, r⟩ := a2
    exact ⟨c2, o, vs, t, e2, k _ _ ho (by unfold dictB; rw [hd]), hd, r⟩
  · obtain ⟨o, vs, file, tf, flags, tg, inF, text, tt, ho, hc, hd, r⟩ := a3
    exact ⟨o, vs, file, tf, flags, tg, inF, text, tt, k _ _ ho (by unfold dictB; rw [hd]), hc, hd, r⟩

/-- all that a heap holds, but for one place and the ground -/
def ledger (b0 : Heap) (L : Addr) (h : Heap) : List (Addr × Obj) := (List.range h.objs.size).filterMap fun b => match h.get? b with
  | some o => if b ≠ L ∧ b0.get? b = none then some (b, o) else none
  | none => none
theorem mem_ledger {b0 h : Heap} {L : Addr} {p : Addr × Obj} : p ∈ ledger b0 L h ↔ h.get? p.1 = some p.2 ∧ p.1 ≠ L ∧ b0.get? p.1 = none := by
  obtain ⟨b, o⟩ := p
  constructor
  · intro hm
    obtain ⟨x, _, hx⟩ := List.mem_filterMap.mp hm
    cases hg : h.get? x with
    | none => rw [hg] at hx; cases hx
    | some ox =>
      rw [hg] at hx
      dsimp only at hx
      split at hx
      · rename_i hc
        cases hx
        exact ⟨hg, hc⟩
      · cases hx
  · rintro ⟨h1, h2⟩
    refine List.mem_filterMap.mpr ⟨b, List.mem_range.mpr (Heap.lt_size h1), ?_⟩
    rw [h1]
    dsimp only
    rw [if_pos h2]

structure InF (b0 : Heap) (Ty : Addr → Option Str) (l : List Env) (env : Env) (hE : Heap) (L : Addr) (m : Str → Option Value) (h : Heap) (nw : List (Addr × Obj)) : Prop where
  F : Fr b0 L h m
  N : News b0 L h nw
  full : ∀ b o, h.get? b = some o → b ≠ L → b0.get? b = none → (b, o) ∈ nw
  fr : Frames b0 l h
  inv : Inv b0 Ty h
  ev : Ev hE h
  stE : b0.StaysIn hE
  apart : L ∉ l.filterMap (·.frame)
  newL : hE.get? L = none
  szE : hE.objs.size ≤ L
  envF : env.frame = some L
  envK : env.scope.kind = .function

section
variable {b0 : Heap} {Ty Ty' : Addr → Option Str} {l : List Env} {env : Env} {hE h h₂ : Heap} {L : Addr} {m m₂ : Str → Option Value} {nw nw₂ : List (Addr × Obj)}
theorem InF.st (I : InF b0 Ty l env hE L m h nw) : b0.StaysIn h := I.F.keep
theorem InF.dictL (I : InF b0 Ty l env hE L m h nw) : ∃ o, h.get? L = some o ∧ dictB o = true := by
  obtain ⟨o, es, ep, ho, hd, _⟩ := I.F.ns
  exact ⟨o, ho, by unfold dictB; rw [hd]⟩
theorem InF.noL (I : InF b0 Ty l env hE L m h nw) : b0.get? L = none := by
  cases q : b0.get? L with
  | none => rfl
  | some o => exact absurd (Nat.lt_of_lt_of_le (Heap.lt_size q) I.F.above) (Nat.lt_irrefl _)
/-- over a step that keeps all but the frame's own names -/
theorem InF.ext (I : InF b0 Ty l env hE L m h nw) (F₂ : Fr b0 L h₂ m₂) (hx : Heap.ExtBut L h h₂) : InF b0 Ty l env hE L m₂ h₂ (ledger b0 L h₂) where
  F := F₂
  N := fun p hp => mem_ledger.mp hp
  full := fun b o e n1 n2 => mem_ledger.mpr ⟨e, n1, n2⟩
  fr := by
    have hk : ∀ b ∈ l.filterMap (·.frame), ∀ o, h.get? b = some o → h₂.get? b = some o := fun b hb o e => hx b o (fun q => I.apart (q ▸ hb)) e
    refine ⟨?_, fun b hb => ?_⟩
    · have : ∀ {l : List Env}, h.FunFrames b0 l → (∀ b ∈ l.filterMap (·.frame), ∀ o, h.get? b = some o → h₂.get? b = some o) → h₂.FunFrames b0 l := by
        intro l
        induction l with
        | nil => intros; trivial
        | cons env r ih =>
          intro hl hd
          obtain ⟨hk, ⟨L', o, hf, hn, ho, hnf⟩, hr⟩ := hl
          exact ⟨hk, ⟨L', o, hf, hn, hd L' (by rw [List.filterMap_cons, hf]; exact .head _) o ho, hnf⟩, ih hr fun b hb => hd b (by rw [List.filterMap_cons, hf]; exact .tail _ hb)⟩
      exact this I.fr.ff hk
    · obtain ⟨o, ho, hd⟩ := I.fr.dict b hb
      exact ⟨o, hk b hb o ho, hd⟩
  inv := I.inv.keepsND fun b o e hd => hx b o (fun q => by
    obtain ⟨oL, hL, hLd⟩ := I.dictL
    rw [q, hL] at e; cases e
    rw [hLd] at hd; cases hd) e
  ev := ⟨fun b o e s => hx b o (fun q => by rw [q, I.newL] at e; cases e) (I.ev.sol b o e s), fun b o e d => by
    obtain ⟨sl, hs⟩ := I.ev.dic b o e d
    exact ⟨sl, hx b _ (fun q => by rw [q, I.newL] at e; cases e) hs⟩⟩
  stE := I.stE
  apart := I.apart
  newL := I.newL
  szE := I.szE
  envF := I.envF
  envK := I.envK
theorem InF.adv (I : InF b0 Ty l env hE L m h nw) (F₂ : Fr b0 L h₂ m₂) (N₂ : News b0 L h₂ nw₂) (hs : ∀ p ∈ nw, p ∈ nw₂) :
    InF b0 Ty l env hE L m₂ h₂ (ledger b0 L h₂) ∧ ∀ p ∈ nw₂, p ∈ ledger b0 L h₂ := by
  refine ⟨I.ext F₂ fun b o hb e => ?_, fun p hp => mem_ledger.mpr (N₂ p hp)⟩
  cases q : b0.get? b with
  | none => exact (N₂ _ (hs _ (I.full b o e hb q))).1
  | some o' =>
    have h1 := I.F.keep b o' q
    rw [e] at h1; cases h1
    exact F₂.keep b o q
/-- over a call or whatever leads on -/
theorem InF.on (I : InF b0 Ty l env hE L m h nw) (ev : Ev h h₂) (st : b0.StaysIn h₂) (inv : Inv b0 Ty' h₂) : InF b0 Ty' l env hE L m h₂ (ledger b0 L h₂) where
  F := ⟨ev.ns I.F.ns, st, I.F.above⟩
  N := fun p hp => mem_ledger.mp hp
  full := fun b o e n1 n2 => mem_ledger.mpr ⟨e, n1, n2⟩
  fr := I.fr.ev ev
  inv := inv
  ev := I.ev.trans ev
  stE := I.stE
  apart := I.apart
  newL := I.newL
  szE := I.szE
  envF := I.envF
  envK := I.envK
theorem InF.kept (I : InF b0 Ty l env hE L m h nw) (ev : Ev h h₂) {p : Addr × Obj} (hp : p ∈ nw) (hs : solid p.2 = true) : p ∈ ledger b0 L h₂ :=
  mem_ledger.mpr ⟨ev.sol _ _ (I.N p hp).1 hs, (I.N p hp).2⟩
theorem InF.frames (I : InF b0 Ty l env hE L m h nw) : Frames b0 (env :: l) h := by
  obtain ⟨o, ho, hd⟩ := I.dictL
  refine ⟨⟨by rw [I.envK]; decide, ⟨L, o, I.envF, I.noL, ho, dict_not_fields hd⟩, I.fr.ff⟩, fun b hb => ?_⟩
  rw [List.filterMap_cons, I.envF] at hb
  rcases List.mem_cons.mp hb with rfl | hb
  · exact ⟨o, ho, hd⟩
  · exact I.fr.dict b hb
end

structure Pre (b0 : Heap) (Ty : Addr → Option Str) (l : List Env) (A : Around) (h : Heap) : Prop where
  hA : A.frames = some l
  hh : A.handled = none
  fr : Frames b0 l h
  st : b0.StaysIn h
  inv : Inv b0 Ty h
  sz : b0.objs.size ≤ h.objs.size
structure Post (b0 : Heap) (Ty : Addr → Option Str) (h : Heap) (Ty' : Addr → Option Str) (h' : Heap) : Prop where
  le : TyLe Ty Ty'
  ev : Ev h h'
  st : b0.StaysIn h'
  inv : Inv b0 Ty' h'
def Room (A : Around) (d : Nat) : Prop := A.depth + d < recursionLimit ∧ A.units + 10 * d + 100 < cLine
theorem Room.deeper {A : Around} {d : Nat} {env : Env} (r : Room A (d + 1)) : Room (A.deeper env) d := by
  obtain ⟨a, b⟩ := r
  refine ⟨?_, ?_⟩
  · show A.depth + 1 + d < recursionLimit; omega
  · show A.units + 3 + 10 * d + 100 < cLine; omega
theorem Room.le {A : Around} {d d' : Nat} (r : Room A d) (h : d' ≤ d) : Room A d' := ⟨by have := r.1; omega, by have := r.2; omega⟩

section
variable {M : Model} {A : Around} {E : Value → Shared → Prop} {s : Shared} {b0 : Heap} {Ty Ty' : Addr → Option Str} {l : List Env} {env : Env} {hE hc h₀ : Heap} {L e : Addr} {m : Str → Option Value} {nw : List (Addr × Obj)} {Q : Unit → Shared → Prop}
theorem leave_new {cls : Value} {args : List Value} (hA : A.frames = some l) (I : InF b0 Ty l env hE L m h₀ nw) (hx : Heap.MadeExcOf h₀ s.heap e cls args)
    (hQ : ∀ h', Fly b0 Ty hE l e h' → Q () { s with heap := h' }) : wpAny M (A.deeper env) (leaving env (.ref e)) Q E s := by
  have FR := I.frames
  have hl : h₀.FunFrames (nodict b0 h₀) (env :: l) := funFrames_base FR.ff fun b hb => by
    obtain ⟨o, ho, hd⟩ := FR.dict b hb
    exact nodict_none ho hd (FR.none hb)
  refine wpAny_leaves_madeW (base := nodict b0 h₀) (Around.frames_deeper hA) I.envF (fun b o q => nodict_of q) hl hx fun h' t x1 x2 x3 x4 => hQ h' ⟨⟨fun b o q sd => ?_, fun b o q d => ?_⟩, nodict b0 h₀, cls, .ref t, fun b o q => nodict_get (I.st b o q) (.inr (by rw [q]; exact fun z => by cases z)), nodict_inv I.inv, fun b o q => ?_, x1⟩
  · refine x1.1 b o (nodict_get (I.ev.sol b o q sd) (.inl ?_))
    unfold solid at sd
    cases z : dictB o with
    | false => rfl
    | true => rw [z] at sd; cases sd
  · obtain ⟨sl, hs⟩ := I.ev.dic b o q d
    obtain ⟨sl2, hs2⟩ := x4 b _ (hx.keeps _ _ hs) (dict_not_fields (dictB_slots d))
    exact ⟨sl2, hs2⟩
  · obtain ⟨q1, c⟩ := sh_case q
    rcases c with c | c
    · refine nodict_get (I.ev.sol b o q1 c) (.inl ?_)
      unfold solid at c
      cases z : dictB o with
      | false => rfl
      | true => rw [z] at c; cases c
    · cases z : b0.get? b with
      | none => exact absurd z c
      | some o' =>
        have := I.stE b o' z
        rw [q1] at this; cases this
        exact nodict_get (I.st b o z) (.inr c)
theorem leave_on (hA : A.frames = some l) (I : InF b0 Ty l env hE L m hc nw) (hx : Fly b0 Ty' hc (env :: l) e s.heap)
    (hQ : ∀ h', Fly b0 Ty' hE l e h' → Q () { s with heap := h' }) : wpAny M (A.deeper env) (leaving env (.ref e)) Q E s := by
  obtain ⟨ev, base, cls, a0, k1, k2, k3, f⟩ := hx
  refine wpAny_leaves_onW (Around.frames_deeper hA) I.envF f fun h' x1 x2 => hQ h' ?_
  refine Fly.mono (hc := hc) ⟨⟨fun b o q sd => x1.1 b o (k3 b o (sh_get q (.inl sd))), fun b o q d => ?_⟩, base, cls, a0, k1, k2, k3, x1⟩ I.ev I.stE I.st
  obtain ⟨sl, hs⟩ := ev.dic b o q d
  obtain ⟨sl2, hs2⟩ := x2 b _ hs (dict_not_fields (dictB_slots d))
  exact ⟨sl2, hs2⟩

structure Sees (Ty0 : Addr → Option Str) (h0 : Heap) (Ty : Addr → Option Str) (h : Heap) : Prop where
  le : TyLe Ty0 Ty
  ev : Ev h0 h
theorem Sees.refl (Ty h) : Sees Ty h Ty h := ⟨TyLe.refl _, Ev.refl _⟩
theorem Sees.trans {a b c : Addr → Option Str} {x y z : Heap} (u : Sees a x b y) (v : Sees b y c z) : Sees a x c z := ⟨u.le.trans v.le, u.ev.trans v.ev⟩
theorem Sees.on {a b : Addr → Option Str} {x y z : Heap} (u : Sees a x b y) (v : Ev y z) : Sees a x b z := ⟨u.le, u.ev.trans v⟩
/-- a call that gives back the int N where ok holds, and raises where it does not -/
def OkCall (M : Model) (b0 : Heap) (N : Int) (f : Value) (args : List Value) (d : Nat) (Ty0 : Addr → Option Str) (h0 : Heap) (ok : Prop) : Prop :=
  ∀ {A : Around} {l : List Env} {Ty : Addr → Option Str} {s : Shared} {Q E : Value → Shared → Prop}, Sees Ty0 h0 Ty s.heap → Pre b0 Ty l A s.heap → Room A d →
    (ok → ∀ Ty' h' tk tok, Post b0 Ty s.heap Ty' h' → Q (.int N tok) { s with heap := h', toks := tk }) →
    (¬ ok → ∀ Ty' h' tk e, TyLe Ty Ty' → Fly b0 Ty' s.heap l e h' → E (.ref e) { s with heap := h', toks := tk }) →
    wpAny M A (call f args) Q E s

theorem OkCall.mono {N : Int} {f : Value} {args : List Value} {d d' : Nat} {Ty0 Ty1 : Addr → Option Str} {h0 h1 : Heap} {ok : Prop} (C : OkCall M b0 N f args d Ty0 h0 ok) (ev : Sees Ty0 h0 Ty1 h1) (hd : d ≤ d') : OkCall M b0 N f args d' Ty1 h1 ok :=
  fun ev1 P r q e => C (ev.trans ev1) P (r.le hd) q e
theorem OkCall.iff {N : Int} {f : Value} {args : List Value} {d : Nat} {Ty0 : Addr → Option Str} {h0 : Heap} {ok ok' : Prop} (C : OkCall M b0 N f args d Ty0 h0 ok) (e : ok ↔ ok') : OkCall M b0 N f args d Ty0 h0 ok' :=
  fun ev1 P r q e' => C ev1 P r (fun o => q (e.mp o)) (fun o => e' (fun o' => o (e.mpr o')))
theorem InF.pre (I : InF b0 Ty l env hE L m h₀ nw) (hA : A.frames = some l) (hh : A.handled = none) : Pre b0 Ty (env :: l) (A.deeper env) h₀ :=
  ⟨Around.frames_deeper hA, hh, I.frames, I.st, I.inv, Nat.le_of_lt (Nat.lt_of_le_of_lt I.F.above I.F.ns.lt)⟩

/-- a call within a frame, its raise passed on out of the frame -/
theorem call_in {N : Int} {f : Value} {args : List Value} {d : Nat} {Ty0 : Addr → Option Str} {h0 : Heap} {ok : Prop} {Q' : Value → Shared → Prop} {E0 E1 : Value → Shared → Prop}
    (C : OkCall M b0 N f args d Ty0 h0 ok) (ev : Sees Ty0 h0 Ty s.heap) (I : InF b0 Ty l env hE L m s.heap nw) (hA : A.frames = some l) (hh : A.handled = none) (r : Room (A.deeper env) d)
    (hq : ok → ∀ Ty' h' tk tok, TyLe Ty Ty' → InF b0 Ty' l env hE L m h' (ledger b0 L h') → Ev s.heap h' → Q' (.int N tok) { s with heap := h', toks := tk })
    (he : ¬ ok → ∀ Ty' h' tk e, TyLe Ty Ty' → Fly b0 Ty' hE l e h' → E0 (.ref e) { s with heap := h', toks := tk }) :
    wpAny M (A.deeper env) (call f args) Q' (fun e s' => wpAny M (A.deeper env) (leaving env e) (fun _ s'' => E0 e s'') E1 s') s :=
  C ev (I.pre hA hh) r (fun o Ty' h' tk tok p => hq o Ty' h' tk tok p.le (I.on p.ev p.st p.inv) p.ev)
    (fun o Ty' h' tk e le fl => leave_on hA I fl fun h'' fl' => he o Ty' h'' tk e le fl')
end
section
variable {prog : Program} {w : World} {A : Around} {E : Value → Shared → Prop} {s : Shared} {b0 : Heap} {Ty Ty' : Addr → Option Str} {l : List Env} {env : Env} {hE hc h₀ : Heap} {L e : Addr} {m : Str → Option Value} {nw : List (Addr × Obj)} {Q : Flow → Shared → Prop}
/-- what a bare except meets -/
theorem catch_bare {b₀ : Stmt} {suite : List Stmt} {pos : Pos} (hA : A.frames = some l) (I : InF b0 Ty l env hE L m hc nw) (hx : Fly b0 Ty' hc (env :: l) e s.heap)
    (k : ∀ h', Ev hc h' → InF b0 Ty' l env hE L m h' (ledger b0 L h') → wpAny (model prog w) ((A.deeper env).mark (some (.ref e))) (execs (b₀ :: suite) env) Q E { s with heap := h' })
    (hp : PassesOwnAt (model prog w) ((A.deeper env).mark (some (.ref e))) (A.deeper env) env E) :
    wpAny (model prog w) (A.deeper env) (noteFrame (.ref e) env) (fun _ s₂ => wpAny (model prog w) (A.deeper env) (setFlight (.ref e) none) (fun _ s₃ =>
      wpAny (model prog w) (A.deeper env) (handleBy (.ref e) env (.ExceptHandler none none (b₀ :: suite) pos :: [])) Q E s₃) E s₂) E s := by
  obtain ⟨ev, base, cls, a0, k1, k2, k3, f⟩ := hx
  refine wpAny_looks_onW (Around.frames_deeper hA) I.envF f fun h₄ x1 x2 => ?_
  refine wpAny_landsW x1 fun h₅ y1 y2 => ?_
  refine handleBy_bare (by intro q; cases q) ?_
  refine lands_againW y1 fun h₆ z1 z2 => ?_
  have up := (x2.trans y2).trans z2
  have ev6 : Ev hc h₆ := ⟨fun b o q sd => z1.1 b o (k3 b o (sh_get q (.inl sd))), fun b o q d => by
    obtain ⟨sl, hs⟩ := ev.dic b o q d
    obtain ⟨sl2, hs2⟩ := up b _ hs (dict_not_fields (dictB_slots d))
    exact ⟨sl2, hs2⟩⟩
  exact wpAny_passesOwnAt hp (k h₆ ev6 (I.on ev6 (fun b o q => z1.1 b o (k1 b o q)) (k2.keeps z1.1)))
end
end Mine
open PySem PySem.W PySem.Spec PySem.Calls PyProof.Rows
set_option Elab.async false
set_option maxRecDepth 100000
set_option linter.unusedVariables false
namespace Mine

structure Sta (w : World) (b0 : Heap) (mg mb : Str → Option Value) (mean : ExcName → Option Value) (p : Program) (loose : List Str) : Prop where
  X : (hd.heap_39 w.params).In b0
  T : Top p loose mean mg mb b0
  C1 : CodeHd b0 50 46
  C2 : CodeHd b0 60 58

section
variable {M : Model} {A : Around} {E : Value → Shared → Prop} {s : Shared} {name qual : Str} {params : Arguments} {body : Expr} {scope : Scope} {env : Env} {c P : Addr} {ps : Array Value} {pos : Pos} {firstLine : Nat} {mg : Str → Option Value}
  {clos : List (Str × Addr)} {Q : Value → Shared → Prop}

theorem lam_tail (hcl : closureFor scope env = pure clos) (hge0 : env.globals = mainGlobals) (hg : s.heap.Ns mainGlobals mg) (hcode : env.code = .ref c) (C : CodeHd s.heap c P) (hP : s.heap.get? P = some (tabObj ps)) (ht : TriplesOk ps.toList)
    (hnf : codeAmong pos ps.toList = none) (hgP : mainGlobals ≠ P) (hb : s.heap.BuiltinsAt mg P)
    (h : ∀ c' P' ctv h' tk, Heap.ExtBut P s.heap h' → h'.CodeRec (.ref c') qual → h'.get? P = some (tabObj (ps ++ #[rawInt pos.line, rawInt pos.col, .ref c'])) →
      TriplesOk (ps ++ #[rawInt pos.line, rawInt pos.col, .ref c']).toList → s.heap.get? P' = none → CodeHd h' c' P' → h'.get? P' = some (tabObj #[]) → s.heap.objs.size ≤ h'.objs.size →
      Q (.ref h'.objs.size) { s with heap := h'.push (kla_obj name qual params body scope clos ((mg "__name__").getD .none) c' ctv), toks := tk }) :
    wpAny M A (makeTail name qual params (.expr body) scope env .none .none none pos firstLine) Q E s := by
  obtain ⟨bm, ob, hbm, hne0, _, hneP, hbo, hcls, hdict, hdata⟩ := hb
  unfold makeTail
  rw [hcl, hge0]
  refine wpAny_bind (wpAny_pure ?_)
  cases clos with
  | nil =>
    refine wpAny_bind (wpAny_pure ?_)
    refine wpAny_bind (wpAny_functionCodeX hcode (C.code hP ht) (C.tab hP) hnf fun c' h' tk hx hge hlt hco hrec htb hnew => ?_)
    obtain ⟨P', hP1, hP2, hP3⟩ := hnew
    have hg' := hg.extBut hx hgP
    refine wpAny_bind (wpAny_builtinsFor hg' hbm hne0 (hx _ _ hneP hbo) hcls hdict hdata (wpAny_bind (wpAny_nsGet hg' ?_)))
    refine wpAny_bind (wpAny_pure (wpAny_newObj_type (h c' P' .none h' tk hx hrec htb.2 ?_ (Heap.get?_none_of_le hP1) (CodeHd.of hP2 hP3) hP3.2 (by omega)) (by size_fits)))
    rw [Array.toList_append]
    exact TriplesOk_snoc _ _ _ _ ht
  | cons q r =>
    refine wpAny_bind (wpAny_newTextTuple ?_)
    have kp : ∀ b o, s.heap.get? b = some o → (s.heap.push { cls := .type "tuple", data := .seq (((q :: r).mergeSort fun a b => a.1.cps.toList ≤ b.1.cps.toList).map (.ref ·.2)).toArray }).get? b = some o := fun b o e => Heap.get?_push_of_some _ e
    refine wpAny_bind (wpAny_functionCodeX hcode ((C.keeps kp).code (kp _ _ hP) ht) ((C.keeps kp).tab (kp _ _ hP)) hnf fun c' h' tk hx hge hlt hco hrec htb hnew => ?_)
    obtain ⟨P', hP1, hP2, hP3⟩ := hnew
    have hg' := (hg.push _).extBut hx hgP
    have hx' : Heap.ExtBut P s.heap h' := fun b o hb' e => hx b o hb' (kp _ _ e)
    have hs : s.heap.objs.size + 1 ≤ P' := by rw [← Heap.size_push]; exact hP1
    have hs2 : s.heap.objs.size + 1 ≤ c' := by rw [← Heap.size_push]; exact hge
    refine wpAny_bind (wpAny_builtinsFor hg' hbm hne0 (hx' _ _ hneP hbo) hcls hdict hdata (wpAny_bind (wpAny_nsGet hg' ?_)))
    refine wpAny_bind (wpAny_pure (wpAny_newObj_type (h c' P' _ h' tk hx' hrec htb.2 ?_ (Heap.get?_none_of_le (Nat.le_of_succ_le hs)) (CodeHd.of hP2 hP3) hP3.2 (by omega)) (by size_fits)))
    rw [Array.toList_append]
    exact TriplesOk_snoc _ _ _ _ ht
end

theorem codeAmong_snoc_other {pos pos' : Pos} {c : Value} {l : List Value} (h : TriplesOk l) {v : Value}
    (e : codeAmong pos' (l ++ [rawInt pos.line, rawInt pos.col, c]) = some v) : codeAmong pos' l = some v ∨ v = c := by
  fun_induction TriplesOk l with
  | case1 =>
    simp only [List.nil_append, codeAmong, rawInt] at e
    split at e
    · exact .inr (Option.some.inj e).symm
    · cases e
  | case2 a' t b' u x rest ih =>
    simp only [List.cons_append, codeAmong] at e ⊢
    split at e
    · rename_i q; rw [if_pos q]; exact .inl e
    · rename_i q; rw [if_neg q]; exact ih h e
  | case3 => exact h.elim

section
variable {w : World} {A : Around} {E : Value → Shared → Prop} {s : Shared} {M : Model} {b0 : Heap} {mg mb : Str → Option Value} {mean : ExcName → Option Value} {p : Program} {loose : List Str}
  {Ty : Addr → Option Str} {l : List Env} {env : Env} {hE : Heap} {L c P : Addr} {m : Str → Option Value} {nw : List (Addr × Obj)} {q : Str}
  {params : Arguments} {body : Expr} {scope : Scope} {pos : Pos} {clos : List (Str × Addr)} {Q : Value → Shared → Prop}

theorem mk_lam (S : Sta w b0 mg mb mean p loose) (I : InF b0 Ty l env hE L m s.heap nw) (hcode : env.code = .ref c) (C : CodeHd s.heap c P) (hTy : Ty P = some q) (hq : env.qual = q ++ ".<locals>.") (hge0 : env.globals = mainGlobals)
    (hcl : closureFor scope env = pure clos) (hdef : defaultsOf params env = ([], []))
    (h : ∀ f c' P' ctv h' tk Ty', TyLe Ty Ty' → InF b0 Ty' l env hE L m h' (ledger b0 L h') → Ev s.heap h' → s.heap.get? f = none → (f, kla_obj "<lambda>" (lam q) params body scope clos ((mg "__name__").getD .none) c' ctv) ∈ ledger b0 L h' →
      h'.CodeRec (.ref c') (lam q) → CodeHd h' c' P' → Ty' P' = some (lam q) → Q (.ref f) { s with heap := h', toks := tk }) :
    wpAny M A (eval (.Lambda params body scope pos) env) Q E s := by
  refine kla_eval hdef ?_
  have hql : env.qual ++ "<lambda>" = lam q := by rw [hq]; rfl
  rw [hql]
  obtain ⟨n, ps, hP, ht, hin⟩ := I.inv.all P q hTy
  have hgs := S.T.g.keeps I.F.keep
  obtain ⟨bm, ob, b1, b2, b3, b4, b5, b6⟩ := S.T.bmain
  have hgP : mainGlobals ≠ P := fun z => by
    obtain ⟨o, es, ep, e, hd, _⟩ := hgs
    rw [z, hP] at e; cases e; cases hd
  have hbP : bm ≠ P := fun z => by
    have e := I.F.keep _ _ b3
    rw [z, hP] at e; cases e; cases b4
  have hbG : bm ≠ mainGlobals := fun z => by
    obtain ⟨o, es, ep, e, hd, _⟩ := S.T.g
    rw [z, e] at b3; cases b3; rw [hd] at b6; cases b6
  have hB : s.heap.BuiltinsAt mg P := ⟨bm, ob, b1, b2, hbG, hbP, I.F.keep _ _ b3, b4, b5, b6⟩
  have hLP : L ≠ P := fun z => by
    obtain ⟨o, ho, hd⟩ := I.dictL
    rw [z, hP] at ho; cases ho; cases hd
  have base : ∀ f : Addr, s.heap.objs.size ≤ f → f ≠ L ∧ b0.get? f = none ∧ s.heap.get? f = none := fun f hf => by
    have hL := I.F.ns.lt
    refine ⟨fun z => ?_, ?_, Heap.get?_none_of_le hf⟩
    · have := Nat.lt_of_lt_of_le hL hf; rw [z] at this; exact Nat.lt_irrefl _ this
    · exact Heap.get?_none_of_le (Nat.le_trans I.F.above (Nat.le_of_lt (Nat.lt_of_lt_of_le hL hf)))
  cases hf : codeAmong pos ps.toList with
  | some cv =>
    obtain ⟨c', P', rfl, a2, a3, a4⟩ := hin pos cv hf
    refine kla_makeFunctionHit (mg := mg) hcl hge0 hgs hcode C hP ht hf hB fun ctv h' tk hk hsz => ?_
    have hk' : ∀ (o : Obj) b o', s.heap.get? b = some o' → (h'.push o).get? b = some o' := fun o b o' e => Heap.get?_push_of_some _ (hk b o' e)
    obtain ⟨f1, f2, f3⟩ := base h'.objs.size hsz
    refine h _ c' P' ctv _ tk Ty (TyLe.refl _) (I.on (Ev.of_keeps (hk' _)) (fun b o e => hk' _ b o (I.st b o e)) (I.inv.keeps (hk' _))) (Ev.of_keeps (hk' _)) f3
      (mem_ledger.mpr ⟨Heap.get?_push_size _ rfl, f1, f2⟩) (codeRec_keeps a2 (hk' _)) (a3.keeps (hk' _)) a4
  | none =>
    rw [makeFunction_eq]
    simp only [List.zip_nil_right, List.filterMap_nil, List.isEmpty_nil, if_true, pure_bind]
    refine lam_tail hcl hge0 hgs hcode C hP ht hf hgP hB fun c' P' ctv h' tk hx hrec hP2 ht2 hPn hcd hPt hsz => ?_
    obtain ⟨f1, f2, f3⟩ := base h'.objs.size hsz
    have hk : ∀ (o : Obj) b o', b ≠ P → s.heap.get? b = some o' → (h'.push o).get? b = some o' := fun o b o' hb e => Heap.get?_push_of_some _ (hx b o' hb e)
    have hpu : ∀ (o : Obj) b o', h'.get? b = some o' → (h'.push o).get? b = some o' := fun o b o' e => Heap.get?_push_of_some _ e
    have hnP : ∀ b o, s.heap.get? b = some o → tabB o = false → b ≠ P := fun b o e t z => by
      rw [z, hP] at e; cases e; cases t
    have ev : ∀ o, Ev s.heap (h'.push o) := fun o => ⟨fun b o' e sd => hk o b o' (hnP b o' e (by
        unfold solid at sd
        cases z : tabB o' with
        | false => rfl
        | true => rw [z] at sd; simp at sd)) e, fun b o' e d => ⟨o'.slots, hk o b o' (hnP b o' e (by
        unfold tabB
        unfold dictB at d
        split at d
        · rename_i q; rw [q]
        · cases d)) e⟩⟩
    let Ty' : Addr → Option Str := fun a => if a = P' then some (lam q) else Ty a
    have le : TyLe Ty Ty' := fun a x e => by
      show (if a = P' then some (lam q) else Ty a) = some x
      by_cases z : a = P'
      · obtain ⟨_, ps', e2, _⟩ := I.inv.all a x e
        rw [z, hPn] at e2; cases e2
      · rw [if_neg z]; exact e
    have hTP : Ty' P' = some (lam q) := if_pos rfl
    have nP' : P' ≠ P := fun z => by rw [z, hP] at hPn; cases hPn
    have hcr : ∀ {c2 x}, s.heap.CodeRec (.ref c2) x → h'.CodeRec (.ref c2) x := fun y => by
      obtain ⟨c3, o, vs, t, e3, ho, hd, hv⟩ := y
      refine ⟨c3, o, vs, t, e3, hx _ _ (fun z => ?_) ho, hd, hv⟩
      rw [z, hP] at ho; cases ho; cases hd
      exact triples_no_str ht _ _ (by rw [← Array.getElem?_toList] at hv; exact hv)
    have hch : ∀ {c2 P2}, CodeHd s.heap c2 P2 → CodeHd h' c2 P2 := fun y => by
      obtain ⟨o, vs, file, tf, flags, tg, inF, text, tt, ho, hcl, hd, r⟩ := y
      refine ⟨o, vs, file, tf, flags, tg, inF, text, tt, hx _ _ (fun z => ?_) ho, hcl, hd, r⟩
      rw [z, hP] at ho; cases ho; cases hcl
    have inv' : Inv b0 Ty' h' := ⟨⟨le _ _ I.inv.tb.1, le _ _ I.inv.tb.2⟩, fun a x e => by
      by_cases z : a = P'
      · subst z
        rw [hTP] at e
        obtain rfl := Option.some.inj e
        refine ⟨?_, #[], hPt, trivial, fun pos' cv e => nomatch (show (none : Option Value) = some cv from e)⟩
        cases z : b0.get? a with
        | none => rfl
        | some o => have := I.st a o z; rw [hPn] at this; cases this
      · have e' : Ty a = some x := by
          have e2 : (if a = P' then some (lam q) else Ty a) = some x := e
          rw [if_neg z] at e2; exact e2
        obtain ⟨n', ps', g1, g2, g3⟩ := I.inv.all a x e'
        refine ⟨n', ?_⟩
        by_cases y : a = P
        · subst y
          rw [hTy] at e'; cases e'
          refine ⟨_, hP2, ht2, fun pos' cv e3 => ?_⟩
          rw [Array.toList_append] at e3
          rcases codeAmong_snoc_other ht e3 with e4 | e4
          · obtain ⟨c2, P2, a1, a2, a3, a4⟩ := hin pos' cv e4
            exact ⟨c2, P2, a1, hcr a2, hch a3, le _ _ a4⟩
          · exact ⟨c', P', e4, hrec, hcd, hTP⟩
        · refine ⟨ps', hx _ _ y g1, g2, fun pos' cv e3 => ?_⟩
          obtain ⟨c2, P2, a1, a2, a3, a4⟩ := g3 pos' cv e3
          exact ⟨c2, P2, a1, hcr a2, hch a3, le _ _ a4⟩⟩
    refine h _ c' P' ctv _ tk Ty' le (I.on (ev _) (fun b o e => ?_) (inv'.keeps (hpu _))) (ev _) f3 (mem_ledger.mpr ⟨Heap.get?_push_size _ rfl, f1, f2⟩) (codeRec_keeps hrec (hpu _)) (hcd.keeps (hpu _)) hTP
    exact hk _ b o (fun z => by rw [z, n] at e; cases e) (I.st b o e)
end
end Mine
open PySem PySem.W PySem.Spec PySem.Calls PyProof.Rows
set_option Elab.async false
set_option maxRecDepth 100000
set_option linter.unusedVariables false
namespace Mine

section
variable {b0 : Heap} {Ty : Addr → Option Str} {l : List Env} {env : Env} {h h₁ : Heap} {A : Around} {m : Str → Option Value}
theorem InF.enter (P : Pre b0 Ty l A h) (keep : ∀ b o, h.get? b = some o → h₁.get? b = some o) (hn : h₁.Ns h.objs.size m) (hf : env.frame = some h.objs.size) (hk : env.scope.kind = .function) :
    InF b0 Ty l env h h.objs.size m h₁ (ledger b0 h.objs.size h₁) where
  F := ⟨hn, fun b o e => keep b o (P.st b o e), P.sz⟩
  N := fun p hp => mem_ledger.mp hp
  full := fun b o e n1 n2 => mem_ledger.mpr ⟨e, n1, n2⟩
  fr := P.fr.ev (Ev.of_keeps keep)
  inv := P.inv.keeps keep
  ev := Ev.of_keeps keep
  stE := P.st
  apart := fun hm => by
    obtain ⟨o, ho, _⟩ := P.fr.dict _ hm
    exact Nat.lt_irrefl _ (Heap.lt_size ho)
  newL := Heap.get?_none_of_le (Nat.le_refl _)
  szE := Nat.le_refl _
  envF := hf
  envK := hk
end

abbrev Escapes (M : Model) (A : Around) (env : Env) (E : Value → Shared → Prop) : Value → Shared → Prop :=
  fun e s' => wpAny M (A.deeper env) (leaving env e) (fun _ s'' => E e s'') (fun e' s'' => E e' s'') s'

section
variable {prog : Program} {w : World} {A : Around} {Q E : Value → Shared → Prop} {s : Shared} {b0 : Heap} {mg mb : Str → Option Value} {mean : ExcName → Option Value} {p : Program} {loose : List Str}
  {Ty : Addr → Option Str} {l : List Env} {f : Addr} {o : Obj} {name qual : Str} {params : Arguments} {scope : Scope} {cl : List (Str × Addr)} {dV kV doc pm cdv ct : Value} {an : Option Addr} {vals : List Value} {binds : List (Str × Value)} {d : Nat}

theorem enter_def {body : List Stmt} {m : Str → Option Value} (S : Sta w b0 mg mb mean p loose) (P : Pre b0 Ty l A s.heap) (r : Room A (d + 1)) (ho : s.heap.get? f = some o) (hd : o.data = .func (fnX name qual params body scope cl dV kV doc pm an cdv ct)) (hcd : s.heap.CodeRec cdv qual)
    (hbind : BindsTo s (fnX name qual params body scope cl dV kV doc pm an cdv ct) ⟨vals, []⟩ binds) (hcell : ∀ x ∈ scope.names, x.2 ≠ .cell) (hloc : (binds.all fun x => decide (scope.names.lookup x.1 = some .local)) = true) (hm : (fun y => binds.reverse.lookup y) = m)
    (h : ∀ L h₁ tk, InF b0 Ty l (envX qual scope L f cdv cl) s.heap L m h₁ (ledger b0 L h₁) → (∀ b o, s.heap.get? b = some o → h₁.get? b = some o) →
      wpAny (model prog w) (A.deeper (envX qual scope L f cdv cl)) (execs body (envX qual scope L f cdv cl)) (fun fl s' => Q (match fl with | .ret v => v | _ => .none) s') (Escapes (model prog w) A (envX qual scope L f cdv cl) E) { s with heap := h₁, toks := tk })
    (hco : scope.isCoroutine = false := by rfl) (hgen : scope.isGenerator = false := by rfl) (hk : scope.kind = .function := by rfl) :
    wpAny (model prog w) A (call (.ref f) vals) Q E s := by
  refine wpAny_call (codeAny_call_def (fd := fnX name qual params body scope cl dV kV doc pm an cdv ct) (body := body) (binds := binds) (Nat.lt_of_le_of_lt (Nat.le_add_right _ _) r.1) ho hd (S.T.nolimit.keeps P.st) hcd rfl hbind hcell (locs hloc) (fun h₁ hns hk₁ => ?_) hco hgen hk)
  subst hm
  exact wpAny_mono (h s.heap.objs.size h₁ _ (InF.enter P hk₁ hns rfl hk) hk₁) (fun fl s' x => x) fun _ _ x => x

theorem enter_cells {body : List Stmt} {m cm : Str → Option Value} {cells : Addr → List (Str × Addr)} (S : Sta w b0 mg mb mean p loose) (P : Pre b0 Ty l A s.heap) (r : Room A (d + 1)) (ho : s.heap.get? f = some o) (hd : o.data = .func (fnX name qual params body scope [] dV kV doc pm an cdv ct)) (hcd : s.heap.CodeRec cdv qual)
    (hbind : BindsTo s (fnX name qual params body scope [] dV kV doc pm an cdv ct) ⟨vals, []⟩ binds)
    (hkind : (binds.all fun y => scope.names.lookup y.1 == some .local || scope.names.lookup y.1 == some .cell) = true)
    (hm : bindL (fun n => scope.names.lookup n) binds (fun _ => none) = m) (hcm : bindC (fun n => scope.names.lookup n) binds (fun _ => none) = cm) (hcs : ∀ L, cellsFrom (L + 1) scope.names [] = cells L)
    (h : ∀ L h₁ tk, InF b0 Ty l (envX qual scope L f cdv (cells L)) s.heap L m h₁ (ledger b0 L h₁) → (∀ b o, s.heap.get? b = some o → h₁.get? b = some o) →
      (∀ n c, (cells L).lookup n = some c → ∃ o, (c, o) ∈ ledger b0 L h₁ ∧ o.data = .cell (cm n) ∧ s.heap.get? c = none) →
      wpAny (model prog w) (A.deeper (envX qual scope L f cdv (cells L))) (execs body (envX qual scope L f cdv (cells L)))
        (fun fl s' => Q (match fl with | .ret v => v | _ => .none) s') (Escapes (model prog w) A (envX qual scope L f cdv (cells L)) E) { s with heap := h₁, toks := tk })
    (hco : scope.isCoroutine = false := by rfl) (hgen : scope.isGenerator = false := by rfl) (hk : scope.kind = .function := by rfl) :
    wpAny (model prog w) A (call (.ref f) vals) Q E s := by
  refine wpAny_call (codeAny_call_function (Nat.lt_of_le_of_lt (Nat.le_add_right _ _) r.1) ho hd hco hgen rfl hcd (hbind _ _ _ _ ?_))
  refine wpAny_newFunctionEnv_cells hk (kindsX hkind _) fun env' he s' x => ?_
  subst he
  refine ⟨(S.T.nolimit.keeps P.st).keeps x.toInCall.keep, codeAny_func ?_⟩
  obtain ⟨h₁, tk, rfl, _⟩ := x.done
  have hk₁ := x.toInCall.keep
  have ecs := hcs s.heap.objs.size
  have I0 : InF b0 Ty l (envX qual scope s.heap.objs.size f cdv (cellsFrom (s.heap.objs.size + 1) scope.names [])) s.heap s.heap.objs.size (bindL (fun n => scope.names.lookup n) binds (fun _ => none)) h₁ (ledger b0 s.heap.objs.size h₁) := InF.enter P hk₁ x.toInCall.ns rfl hk
  have C0 : ∀ n c, (cellsFrom (s.heap.objs.size + 1) scope.names []).lookup n = some c → ∃ o, (c, o) ∈ ledger b0 s.heap.objs.size h₁ ∧ o.data = .cell (bindC (fun n => scope.names.lookup n) binds (fun _ => none) n) ∧ s.heap.get? c = none := fun n c hc => by
    obtain ⟨oc, hoc, hdc⟩ := x.cell n c hc
    have hab := x.above n c (mem_of_lookup hc)
    have hab' : s.heap.objs.size < c := hab
    refine ⟨oc, mem_ledger.mpr ⟨hoc, fun z => ?_, Heap.get?_none_of_le (Nat.le_trans P.sz (Nat.le_of_lt hab'))⟩, hdc, Heap.get?_none_of_le (Nat.le_of_lt hab')⟩
    exact Nat.ne_of_gt hab' z
  rw [hm, ecs] at I0
  rw [hcm, ecs] at C0
  have h0 := h s.heap.objs.size h₁ tk I0 hk₁ C0
  rw [← ecs] at h0
  exact wpAny_mono h0 (fun fl s' x => x) fun _ _ x => x

theorem enter_lam {body : Expr} {c' : Addr} {m : Str → Option Value} (S : Sta w b0 mg mb mean p loose) (P : Pre b0 Ty l A s.heap) (r : Room A (d + 1)) (ho : s.heap.get? f = some (kla_obj name qual params body scope cl pm c' ct)) (hcd : s.heap.CodeRec (.ref c') qual)
    (hbind : bindArgs (kla_fn name qual params body scope cl pm (.ref c') ct) ⟨vals, []⟩ = pure binds) (hcell : ∀ x ∈ scope.names, x.2 ≠ .cell) (hloc : (binds.all fun x => decide (scope.names.lookup x.1 = some .local)) = true) (hm : (fun y => binds.reverse.lookup y) = m)
    (h : ∀ L h₁ tk, InF b0 Ty l (envX qual scope L f (.ref c') cl) s.heap L m h₁ (ledger b0 L h₁) → (∀ b o, s.heap.get? b = some o → h₁.get? b = some o) →
      wpAny (model prog w) (A.deeper (envX qual scope L f (.ref c') cl)) (eval body (envX qual scope L f (.ref c') cl)) Q (Escapes (model prog w) A (envX qual scope L f (.ref c') cl) E) { s with heap := h₁, toks := tk })
    (hco : scope.isCoroutine = false := by rfl) (hgen : scope.isGenerator = false := by rfl) (hk : scope.kind = .function := by rfl) :
    wpAny (model prog w) A (call (.ref f) vals) Q E s := by
  refine wpAny_call (kla_callFunE (Nat.lt_of_le_of_lt (Nat.le_add_right _ _) r.1) ho rfl hco hgen rfl hcd ?_)
  rw [hbind]
  subst hm
  refine wpAny_pure (wpAny_newFunctionEnv hcell (locs hloc) (fun h₁ hns hsb => ⟨(S.T.nolimit.keeps P.st).fresh _ hsb, ?_⟩) hk)
  have hk₁ : ∀ b o, s.heap.get? b = some o → h₁.get? b = some o := fun b o e => hsb.extBut b o (Nat.ne_of_lt (Heap.lt_size e)) (Heap.get?_push_of_some _ e)
  exact kla_codeExpr (wpAny_mono (h s.heap.objs.size h₁ _ (InF.enter P hk₁ hns rfl hk) hk₁) (fun v s' x => x) fun _ _ x => x)

/-- a lambda of one argument that an inner one keeps -/
theorem enter_lam1 {body : Expr} {c' : Addr} {k : Str} {v : Value} (S : Sta w b0 mg mb mean p loose) (P : Pre b0 Ty l A s.heap) (r : Room A (d + 1)) (ho : s.heap.get? f = some (kla_obj name qual params body scope cl pm c' ct)) (hcd : s.heap.CodeRec (.ref c') qual)
    (hbind : bindArgs (kla_fn name qual params body scope cl pm (.ref c') ct) ⟨vals, []⟩ = pure [(k, v)])
    (hcf : ∀ n acc, cellsFrom n scope.names acc = (k, n) :: acc) (hpc : ∀ h : Heap, pushCells h scope.names = h.push { cls := .type "cell", data := .cell none }) (hkc : scope.names.lookup k = some .cell)
    (h : ∀ L h₁ tk, InF b0 Ty l (envX qual scope L f (.ref c') ((k, L + 1) :: cl)) s.heap L (fun _ => none) h₁ (ledger b0 L h₁) → (∀ b o, s.heap.get? b = some o → h₁.get? b = some o) →
      (∃ o, (L + 1, o) ∈ ledger b0 L h₁ ∧ o.data = .cell (some v)) →
      wpAny (model prog w) (A.deeper (envX qual scope L f (.ref c') ((k, L + 1) :: cl))) (eval body (envX qual scope L f (.ref c') ((k, L + 1) :: cl))) Q (Escapes (model prog w) A (envX qual scope L f (.ref c') ((k, L + 1) :: cl)) E) { s with heap := h₁, toks := tk })
    (hco : scope.isCoroutine = false := by rfl) (hgen : scope.isGenerator = false := by rfl) (hk : scope.kind = .function := by rfl) :
    wpAny (model prog w) A (call (.ref f) vals) Q E s := by
  refine wpAny_call (kla_callFunE (Nat.lt_of_le_of_lt (Nat.le_add_right _ _) r.1) ho rfl hco hgen rfl hcd ?_)
  rw [hbind]
  refine wpAny_pure ?_
  simp only [newFunctionEnv, Option.isSome_none, Bool.false_eq_true, if_false]
  refine wpAny_bind (wpAny_alloc ?_)
  refine wpAny_bind (wpAny_layCells _ (fun name kind cells => by cases hkc : kind == NameKind.cell <;> simp) _ _ _ _ ?_)
  rw [hcf, hpc]
  have e1 : ({ s with heap := s.heap.push { cls := .type "frame", data := .dict #[] } } : Shared).heap.objs.size = s.heap.objs.size + 1 := Heap.size_push ..
  rw [e1]
  have hcellv : ((s.heap.push { cls := .type "frame", data := .dict #[] }).push { cls := .type "cell", data := .cell none }).IsCell (s.heap.objs.size + 1) none :=
    ⟨{ cls := .type "cell", data := .cell none }, by rw [← Heap.size_push]; exact Heap.get?_push_size _ rfl, rfl⟩
  have hns0 : ((s.heap.push { cls := .type "frame", data := .dict #[] }).push { cls := .type "cell", data := .cell none }).Ns s.heap.objs.size (fun _ => none) := (Heap.Ns.new s.heap (.type "frame")).push _
  refine wpAny_bind ?_
  rw [List.forIn_cons]
  refine wpAny_bind (wpAny_bind ?_)
  refine wpAny_storeName_cell (c := s.heap.objs.size + 1) (v₀ := none) hk hkc (by simp) hcellv fun h₁ hv hs => ?_
  refine wpAny_pure ?_
  dsimp only
  rw [List.forIn_nil]
  refine wpAny_pure (wpAny_pure ?_)
  have hne : ∀ b o, s.heap.get? b = some o → b ≠ s.heap.objs.size + 1 := fun b o e z => by
    have := Heap.lt_size e; rw [z] at this; exact Nat.lt_irrefl _ (Nat.lt_of_succ_lt this)
  have hk₁ : ∀ b o, s.heap.get? b = some o → h₁.get? b = some o := fun b o e => (hs.2 b (hne b o e)).trans (Heap.get?_push_of_some _ (Heap.get?_push_of_some _ e))
  refine ⟨(S.T.nolimit.keeps P.st).keeps hk₁, ?_⟩
  obtain ⟨oc, hoc, hdc⟩ := hv
  refine kla_codeExpr (wpAny_mono (h s.heap.objs.size h₁ _ (InF.enter P hk₁ (hns0.sameBut hs (Nat.ne_of_lt (Nat.lt_succ_self _))) rfl hk) hk₁ ⟨oc, mem_ledger.mpr ⟨hoc, Nat.succ_ne_self _, Heap.get?_none_of_le (Nat.le_succ_of_le P.sz)⟩, hdc⟩) (fun v s' x => x) fun _ _ x => x)
end
end Mine
open PySem PySem.W PySem.Spec PySem.Calls PyProof.Rows
set_option Elab.async false
set_option maxRecDepth 100000
set_option linter.unusedVariables false
namespace Mine
theorem fillRaise : PySem.Challenge.rw_gq5008_01 = PySem.Challenge.rw_gq5008_01 ∧ hd.heap_39 = hd.heap_39 := by k_fill; exact ⟨rfl, rfl⟩
def Stop (P : Prop) : Prop := P
theorem stop {P : Prop} (h : Stop P) : P := h

theorem raise_VE {prog : Program} {w : World} {A : Around} {E : Value → Shared → Prop} {Q : Flow → Shared → Prop} {s : Shared} {b0 : Heap} {mg mb : Str → Option Value} {mean : ExcName → Option Value} {p : Program} {loose : List Str}
    {Ty : Addr → Option Str} {l : List Env} {hE : Heap} {L a : Addr} {m : Str → Option Value} {nw : List (Addr × Obj)} {cn : Str} {cs : Scope} {ccd : Value} {cl : List (Str × Addr)} {np p0 cpos pos : Pos} {k0 : Nat} {x : Str}
    (S : Sta w b0 mg mb mean p loose) (I : InF b0 Ty l (envX cn cs L a ccd cl) hE L m s.heap nw) (hA : A.frames = some l) (hh : A.handled = none) (hk : cs.kind = .function) (hx : cs.names.lookup (Str.ofString "ValueError") = some .globalImplicit)
    (he : ∀ h' tk e, Fly b0 Ty hE l e h' → E (.ref e) { s with heap := h', toks := tk }) (hxl : x.length ≤ sizeLine) :
    wpAny (model prog w) (A.deeper (envX cn cs L a ccd cl)) (exec (.Raise (some (.Call (.Name (Str.ofString "ValueError") np) [.Constant (.str x) k0 p0] [] cpos)) none pos) (envX cn cs L a ccd cl)) Q (Escapes (model prog w) A (envX cn cs L a ccd cl) E) s := by
  refine Raise_madeB PySem.F.excCall_ValueError PySem.F.excRaise_ValueError hh ?_
  have T2 := topRead_of S.T
  have X := S.X
  refine nameX_B I.F X T2 (v := .type "ValueError") (by k_is) PyProof.Rows.Boot.«ValueError» (by decide) ⟨rfl, ?_⟩ hk hx (by decide)
  repeat' (first | (k_unfold; (try dsimp only)) | walk1)
  rename_i h' e hm
  exact leave_new (M := model prog w) hA I hm.of fun h'' fl => he h'' _ e fl
end Mine
open PySem PySem.W PySem.Spec PySem.Calls PyProof.Rows
set_option Elab.async false
set_option maxRecDepth 100000
set_option linter.unusedVariables false
namespace Mine

inductive Pat where
  | sgn (x : Str)
  | seq (a b : Pat)
  | alt (a b : Pat)
  | star (a : Pat)
def Pat.null : Pat → Bool
  | .sgn _ => false
  | .seq a b => a.null && b.null
  | .alt a b => a.null || b.null
  | .star _ => true
def hit (t x : Str) (i : Nat) : Prop := Txt.slice t (some (i : Int)) (some ((i : Int) + 1)) = x
inductive Ends (t : Str) : Pat → Nat → Nat → Prop
  | sgn {x i} : hit t x i → Ends t (.sgn x) i (i + 1)
  | seq {a b i j e} : Ends t a i j → Ends t b j e → Ends t (.seq a b) i e
  | altl {a b i e} : Ends t a i e → Ends t (.alt a b) i e
  | altr {a b i e} : Ends t b i e → Ends t (.alt a b) i e
  | nil {a i} : Ends t (.star a) i i
  | step {a i j e} : Ends t a i j → i < j → Ends t (.star a) j e → Ends t (.star a) i e
def Pat.Wf : Pat → Prop
  | .sgn x => x.length = 1
  | .seq a b => a.Wf ∧ b.Wf
  | .alt a b => a.Wf ∧ b.Wf
  | .star a => a.Wf
def Pat.cA : Pat → Nat
  | .sgn _ => 1
  | .seq a b => a.cA + b.cA + 2
  | .alt a b => a.cA + b.cA + 3
  | .star a => a.cA + 5
def Pat.cB : Pat → Nat
  | .sgn _ => 0
  | .seq a b => a.cB + b.cB
  | .alt a b => a.cB + b.cB
  | .star a => a.cA + a.cB + 5
def cost (p : Pat) (k : Nat) : Nat := p.cA + p.cB * k

theorem cost_seq (a b : Pat) (k1 k2 : Nat) : cost a k1 + cost b k2 + 2 ≤ cost (.seq a b) (k1 + k2) := by
  simp only [cost, Pat.cA, Pat.cB, Nat.add_mul, Nat.mul_add]; omega
theorem cost_altl (a b : Pat) (k : Nat) : cost a k + 3 ≤ cost (.alt a b) k := by
  simp only [cost, Pat.cA, Pat.cB, Nat.add_mul]; omega
theorem cost_altr (a b : Pat) (k : Nat) : cost b k + 3 ≤ cost (.alt a b) k := by
  simp only [cost, Pat.cA, Pat.cB, Nat.add_mul]; omega
theorem cost_star (a : Pat) (k1 k2 : Nat) (h : 1 ≤ k1) : cost a k1 + 5 + cost (.star a) k2 ≤ cost (.star a) (k1 + k2) := by
  simp only [cost, Pat.cA, Pat.cB, Nat.add_mul, Nat.mul_add]
  have h1 : a.cA * 1 ≤ a.cA * k1 := Nat.mul_le_mul_left _ h
  omega
theorem cost_star0 (a : Pat) : cost a 0 + 5 ≤ cost (.star a) 0 := by
  simp only [cost, Pat.cA, Pat.cB]; omega
theorem cost_pos (p : Pat) (k : Nat) : 1 ≤ cost p k := by
  cases p <;> simp only [cost, Pat.cA] <;> omega

theorem hit_len {t x : Str} {i : Nat} (hx : x.length = 1) (h : hit t x i) : i < t.length := by
  refine Classical.byContradiction fun hn => ?_
  have hn' : t.length ≤ i := Nat.le_of_not_lt hn
  unfold hit at h
  have e0 : Builtin.Str.strSliceIndices (some (i : Int)) (some ((i : Int) + 1)) 1 t.length = [] := by
    unfold Builtin.Str.strSliceIndices PySem.sliceRange
    simp only [show (1 : Int) > 0 by decide, if_true]
    rw [if_neg (by omega : ¬ ((i : Int) < 0)), if_neg (by omega : ¬ ((i : Int) + 1 < 0))]
    have a1 : max 0 (min (i : Int) (t.length : Int)) = t.length := by omega
    have a2 : max 0 (min ((i : Int) + 1) (t.length : Int)) = t.length := by omega
    rw [a1, a2]
    simp
  have e := congrArg Str.length h
  rw [hx] at e
  unfold Txt.slice at e
  rw [e0] at e
  split at e
  · rename_i q
    simp at q
    omega
  · cases e
theorem Ends.bound {t : Str} {p : Pat} {i e : Nat} (h : Ends t p i e) (w : p.Wf) (hi : i ≤ t.length) : i ≤ e ∧ e ≤ t.length := by
  induction h with
  | sgn h => have := hit_len w h; omega
  | seq _ _ ih1 ih2 => have a := ih1 w.1 hi; have b := ih2 w.2 a.2; omega
  | altl _ ih => exact ih w.1 hi
  | altr _ ih => exact ih w.2 hi
  | nil => omega
  | step _ _ _ ih1 ih2 => have a := ih1 w hi; have b := ih2 w a.2; omega

/-- the heap bears the pattern at v -/
inductive PatIn (b0 h : Heap) : Value → Pat → Prop
  | sgn {a : Addr} {t0 t1 : Tok} {x : Str} {n : Nat} : h.get? a = some { cls := .type "tuple", data := .seq #[.int 0 t0, .str x t1, .none, .bool false] n } → b0.get? a = none → PatIn b0 h (.ref a) (.sgn x)
  | seq {a : Addr} {t0 : Tok} {v1 v2 : Value} {p1 p2 : Pat} {b : Bool} {n : Nat} : h.get? a = some { cls := .type "tuple", data := .seq #[.int 1 t0, v1, v2, .bool b] n } → b0.get? a = none → PatIn b0 h v1 p1 → PatIn b0 h v2 p2 → b = (p1.null && p2.null) → PatIn b0 h (.ref a) (.seq p1 p2)
  | alt {a : Addr} {t0 : Tok} {v1 v2 : Value} {p1 p2 : Pat} {b : Bool} {n : Nat} : h.get? a = some { cls := .type "tuple", data := .seq #[.int 2 t0, v1, v2, .bool b] n } → b0.get? a = none → PatIn b0 h v1 p1 → PatIn b0 h v2 p2 → b = (p1.null || p2.null) → PatIn b0 h (.ref a) (.alt p1 p2)
  | star {a : Addr} {t0 : Tok} {v1 : Value} {p1 : Pat} {n : Nat} : h.get? a = some { cls := .type "tuple", data := .seq #[.int 3 t0, v1, .none, .bool true] n } → b0.get? a = none → PatIn b0 h v1 p1 → PatIn b0 h (.ref a) (.star p1)
theorem PatIn.ev {b0 h h' : Heap} (x : Ev h h') {v : Value} {p : Pat} (y : PatIn b0 h v p) : PatIn b0 h' v p := by
  induction y with
  | sgn e n => exact .sgn (x.sol _ _ e rfl) n
  | seq e n _ _ q ih1 ih2 => exact .seq (x.sol _ _ e rfl) n ih1 ih2 q
  | alt e n _ _ q ih1 ih2 => exact .alt (x.sol _ _ e rfl) n ih1 ih2 q
  | star e n _ ih => exact .star (x.sol _ _ e rfl) n ih
theorem PatIn.ref {b0 h : Heap} {v : Value} {p : Pat} (y : PatIn b0 h v p) : ∃ a, v = .ref a := by cases y <;> exact ⟨_, rfl⟩
end Mine
open PySem PySem.W PySem.Spec PySem.Calls PyProof.Rows
set_option Elab.async false
set_option maxRecDepth 100000
namespace Mine
theorem fn_typeOf : typeOf (.builtin "function.__name__") = pure (.type "getset_descriptor") := by kernel_rfl
theorem fn_entry : entryFor table "function.__name__" = some Builtin.«function.__name__» := entryFor_of_tree (by kernel_rfl)
theorem fn_owner : (".".intercalate ("function.__name__".cutAt '.').dropLast) = "function" := by
  have e0 : "function.__name__".cutAt '.' = ["function", "__name__"] := by first | rfl | decide +kernel
  rw [e0]; decide +kernel
theorem fn_ga : Slot "function" "__getattribute__" "object.__getattribute__" := .of (owner := "object") (n := "__getattribute__") (by rw [typeLookup_type, builtinLookup_eq_fast]; kernel_rfl) (by decide +kernel) (by decide +kernel) (by decide +kernel)
    (by first | exact .inl (by decide +kernel) | exact .inr (by decide +kernel)) (by rw [isSubtype_type]; kernel_rfl)
theorem fn_lk : typeLookup (.type "function") "__name__" = pure (some (.builtin "function.__name__")) := by rw [typeLookup_type, builtinLookup_eq_fast]; kernel_rfl
theorem fn_sub : isSubtype (.type "function") (.type "function") = pure true := by rw [isSubtype_type]; kernel_rfl
theorem fn_args (a b : Value) : argsOk "object.__getattribute__" ⟨[a, b], []⟩ := by unfold argsOk; kernel_rfl
theorem fn_entry_ga : entryFor table "object.__getattribute__" = some Builtin.«object.__getattribute__» := entryFor_of_tree (by kernel_rfl)

section
variable {prog : Program} {w : World} {A : Around} {E : Value → Shared → Prop} {h : Heap} {g : Array GenState} {d : Drawn} {t : Nat} {os : OsState} {a : Addr} {o : Obj} {fd : FuncData}

theorem name_get {R : Result → Shared → Prop} (hx : h.get? a = some o) (hc : o.cls = .type "function") (hd : o.data = .func fd) (hz : fd.name.length ≤ sizeLine) (hq : R (.ok (.ret (.str fd.name t))) ⟨h, g, d, t + 1, os⟩) :
    codeAny (model prog w) A (.call (.builtin "getset_descriptor.__get__") ⟨[.builtin "function.__name__", .ref a, .type "function"], []⟩) R ⟨h, g, d, t, os⟩ := by
  have hT : (⟨h, g, d, t, os⟩ : Shared).TypeIs (.ref a) "function" := ⟨_, hx, hc⟩
  have hT5 : (⟨h, g, d, t, os⟩ : Shared).TypeIs (.builtin "function.__name__") "getset_descriptor" := fn_typeOf
  have f8 : isSubtype (.type "function") (.type (".".intercalate ("function.__name__".cutAt '.').dropLast)) = pure true := by rw [fn_owner]; exact fn_sub
  refine codeAny_call_builtin F.slot_gs_get.plain F.entry_gs_get (F.slot_gs_get.check _ _ _ _ _ _ _ _ hT5 (F.args_gs_get _ _ _) ?_)
  repeat (any_goals (first | assumption | wp_step))
  refine ⟨Code.quiet_builtin _ (by decide +kernel), codeAny_builtin fn_entry ?_⟩
  unfold Builtin.«function.__name__»
  refine wpAny_bind (wpAny_bind (wpAny_load hx ?_))
  rw [hd]
  refine wpAny_pure ?_
  exact wpAny_bind (wpAny_mkStr (wpAny_pure hq) hz)

theorem name_entry {tk : Tok} {Q : Fin → Shared → Prop} (hx : h.get? a = some o) (hc : o.cls = .type "function") (hd : o.data = .func fd) (hz : fd.name.length ≤ sizeLine) (hq : ∀ t', Q (.done (.ret (.str fd.name t'))) ⟨h, g, d, t' + 1, os⟩) :
    wpAny (model prog w) A (Builtin.«object.__getattribute__» ⟨[.ref a, .str "__name__" tk], []⟩) Q E ⟨h, g, d, t, os⟩ := by
  have hT : (⟨h, g, d, t, os⟩ : Shared).TypeIs (.ref a) "function" := ⟨_, hx, hc⟩
  have hT5 : (⟨h, g, d, t, os⟩ : Shared).TypeIs (.builtin "function.__name__") "getset_descriptor" := fn_typeOf
  have f4 := fn_lk
  have f5 := fn_typeOf
  have f6 := F.slot_gs_get.lookup
  have f7 := F.slot_gs_set.lookup
  repeat (any_goals (first | assumption | wp_step))
  refine name_get hx hc hd hz ?_
  repeat (any_goals (first | assumption | wp_step))
  exact hq _

theorem name_call {tk : Tok} {R : Result → Shared → Prop} (hx : h.get? a = some o) (hc : o.cls = .type "function") (hd : o.data = .func fd) (hz : fd.name.length ≤ sizeLine) (hq : ∀ t', R (.ok (.ret (.str fd.name t'))) ⟨h, g, d, t' + 1, os⟩) :
    codeAny (model prog w) A (.call (.builtin "object.__getattribute__") ⟨[.ref a, .str "__name__" tk], []⟩) R ⟨h, g, d, t, os⟩ :=
  codeAny_call_builtin fn_ga.plain fn_entry_ga (fn_ga.check _ _ _ _ _ _ _ _ (show (⟨h, g, d, t, os⟩ : Shared).TypeIs (.ref a) "function" from ⟨_, hx, hc⟩) (fn_args _ _) (name_entry hx hc hd hz hq))

theorem name_by {tk : Tok} {fill expr : Bool} {Q : Value → Shared → Prop} (hx : h.get? a = some o) (hc : o.cls = .type "function") (hd : o.data = .func fd) (hz : fd.name.length ≤ sizeLine)
    (hq : ∀ t', Q (.str fd.name t') ⟨h, g, d, t' + 1, os⟩) : wpAny (model prog w) A (getAttrBy (.ref a) (.str "__name__" tk) fill expr) Q E ⟨h, g, d, t, os⟩ := by
  have hT : (⟨h, g, d, t, os⟩ : Shared).TypeIs (.ref a) "function" := ⟨_, hx, hc⟩
  have f2 := fn_ga.lookup
  have f3 := fn_ga.bind (.ref a)
  have hx0 : (expr && onTheHeap (Value.builtin "object.__getattribute__")) = false := by cases expr <;> rfl
  repeat (any_goals (first | assumption | wp_step))
  refine name_call hx hc hd hz (fun t' => ?_)
  repeat (any_goals (first | assumption | wp_step))
  exact hq _

theorem name_attr {expr : Bool} {Q : Value → Shared → Prop} {s : Shared} (hx : s.heap.get? a = some o) (hc : o.cls = .type "function") (hd : o.data = .func fd) (hz : fd.name.length ≤ sizeLine)
    (hq : ∀ t', Q (.str fd.name t') { s with toks := t' + 1 }) : wpAny (model prog w) A (getAttr (.ref a) "__name__" expr) Q E s := by
  obtain ⟨hh, gg, dd, tt, oo⟩ := s
  unfold getAttr
  repeat (any_goals (first | assumption | with_reducible apply name_by hx hc hd hz | wp_step))
end
end Mine
open PySem PySem.W PySem.Spec PySem.Calls PyProof.Rows
set_option Elab.async false
set_option maxRecDepth 100000
set_option linter.unusedVariables false
namespace Mine
theorem fillSmall : PySem.Challenge.rw_gq5008_01 = PySem.Challenge.rw_gq5008_01 ∧ hd.heap_39 = hd.heap_39 := by k_fill; exact ⟨rfl, rfl⟩
local macro_rules | `(tactic| walk_at "call ref") => `(tactic| (k_here; (refine stop ?_)))
local macro_rules | `(tactic| walk_at "exec Raise some none") => `(tactic| (k_here; (refine stop ?_)))

section
variable {prog : Program} {w : World} {b0 : Heap} {mg mb : Str → Option Value} {mean : ExcName → Option Value} {p : Program} {loose : List Str}

theorem end_ok (S : Sta w b0 mg mb mean p loose) {x : Str} {tx tj : Tok} {j : Nat} {Ty0 : Addr → Option Str} {h0 : Heap} (hz : x.length ≤ 1000) :
    OkCall (model prog w) b0 x.length (.ref 37) [.str x tx, .int j tj] 1 Ty0 h0 (j = x.length) := by
  intro A l Ty s Q E ev P r hq he
  have X := S.X
  have T := S.T
  have C1 := S.C1
  have ho := P.st _ _ (X 37 _ (by k_is))
  have hcd := codeRec_keeps (codeRec_of X (cd := .ref 36) (q := Str.ofString "_law_end") (by k_is)) P.st
  refine enter_def (d := 0) (binds := [(Str.ofString "text", .str x tx), (Str.ofString "j", .int j tj)])
    S P r ho rfl hcd (BindsTo.of_eq (by kernel_rfl)) (by decide) (by kernel_rfl) rfl (fun L h₁ tk I kp => ?_)
  clear ho hcd
  have F := I.F
  have N := I.N
  generalize ledger b0 L h₁ = nw at *
  repeat' (first | (k_unfold; (try dsimp only)) | walk1)
  · exact raise_VE (s := ⟨_, _, _, _, _⟩) S I P.hA P.hh rfl rfl (fun h' tk e fl => he (by omega) _ _ _ _ (TyLe.refl _) fl) (by decide +kernel)
  · obtain rfl : j = x.length := by omega
    exact hq rfl _ _ _ _ ⟨TyLe.refl _, I.ev, I.st, I.inv⟩

theorem again_ok (S : Sta w b0 mg mb mean p loose) {N : Int} {x : Str} {tx ti tj : Tok} {i j d : Nat} {v : Value} {f : Addr} {ok : Prop} {Ty0 : Addr → Option Str} {h0 : Heap}
    (C : i < j → OkCall (model prog w) b0 N (.ref 51) [v, .str x tx, .int j tj, .ref f] d Ty0 h0 ok) :
    OkCall (model prog w) b0 N (.ref 44) [v, .str x tx, .int i ti, .int j tj, .ref f] (d + 1) Ty0 h0 (i < j ∧ ok) := by
  intro A l Ty s Q E ev P r hq he
  have X := S.X
  have T := S.T
  have C1 := S.C1
  have ho := P.st _ _ (X 44 _ (by k_is))
  have hcd := codeRec_keeps (codeRec_of X (cd := .ref 43) (q := Str.ofString "_law_again") (by k_is)) P.st
  refine enter_def (d := d) (binds := [(Str.ofString "node", v), (Str.ofString "text", .str x tx), (Str.ofString "i", .int i ti), (Str.ofString "j", .int j tj), (Str.ofString "then", .ref f)])
    S P r ho rfl hcd (BindsTo.of_eq (by kernel_rfl)) (by decide) (by kernel_rfl) rfl (fun L h₁ tk I kp => ?_)
  clear ho hcd
  have F := I.F
  have N' := I.N
  generalize hnw : ledger b0 L h₁ = nw at *
  repeat' (first | (k_unfold; (try dsimp only)) | walk1)
  · exact raise_VE (s := ⟨_, _, _, _, _⟩) S I P.hA P.hh rfl rfl (fun h' tk e fl => he (by omega) _ _ _ _ (TyLe.refl _) fl) (by decide +kernel)
  · have hij : i < j := by omega
    refine call_in (s := ⟨_, _, _, _, _⟩) (C hij) (ev.on I.ev) I P.hA P.hh r.deeper (fun o Ty' h' tk tok le I' ev' => ?_) (fun o Ty' h' tk e le fl => he (fun q => o q.2) _ _ _ _ le fl)
    exact hq ⟨hij, o⟩ _ _ _ _ ⟨le, I'.ev, I'.st, I'.inv⟩

def FAILED : Str := Str.ofString "<way <lambda>() failed>"
theorem safe_ok (S : Sta w b0 mg mb mean p loose) {N : Int} {ti tw : Tok} {i d : Nat} {g c' : Addr} {ok : Prop} {Ty0 : Addr → Option Str} {h0 : Heap} {A : Around} {l : List Env} {Ty : Addr → Option Str} {s : Shared} {Q E : Value → Shared → Prop}
    {qual : Str} {params : Arguments} {body : Expr} {scope : Scope} {clos : List (Str × Addr)} {pm ctv : Value}
    (C : OkCall (model prog w) b0 N (.ref g) [.int i ti] d Ty0 h0 ok) (hg : h0.get? g = some (kla_obj (Str.ofString "<lambda>") qual params body scope clos pm c' ctv)) (hg0 : b0.get? g = none) (ev : Sees Ty0 h0 Ty s.heap) (P : Pre b0 Ty l A s.heap) (r : Room A (d + 1))
    (hq : ok → ∀ Ty' h' tk tok, Post b0 Ty s.heap Ty' h' → Q (.int N tok) { s with heap := h', toks := tk })
    (hf : ¬ ok → ∀ Ty' h' tk tok, Post b0 Ty s.heap Ty' h' → Q (.str FAILED tok) { s with heap := h', toks := tk }) :
    wpAny (model prog w) A (call (.ref 22) [.int i ti, .str (Str.ofString "way") tw, .ref g]) Q E s := by
  have X := S.X
  have T := S.T
  have C1 := S.C1
  have ho := P.st _ _ (X 22 _ (by k_is))
  have hcd := codeRec_keeps (codeRec_of X (cd := .ref 21) (q := Str.ofString "_safe_string") (by k_is)) P.st
  have hgs := ev.ev.sol _ _ hg rfl
  refine enter_def (d := d) (binds := [(Str.ofString "value", .int i ti), (Str.ofString "what", .str (Str.ofString "way") tw), (Str.ofString "func", .ref g)])
    S P r ho rfl hcd (binds_K (X.keeps P.st) rfl (by k_is) rfl rfl rfl) (by decide) (by kernel_rfl) rfl (fun L h₁ tk I kp => ?_)
  clear ho hcd
  have hm : (g, kla_obj (Str.ofString "<lambda>") qual params body scope clos pm c' ctv) ∈ ledger b0 L h₁ := I.full _ _ (kp _ _ hgs) (fun z => by rw [z] at hgs; rw [I.newL] at hgs; cases hgs) hg0
  have F := I.F
  have N' := I.N
  generalize hnw : ledger b0 L h₁ = nw at *
  repeat' (first | (k_unfold; (try dsimp only)) | walk1)
  refine wpAny_Try_except ?_
  repeat' (first | (k_unfold; (try dsimp only)) | walk1)
  refine C (s := ⟨_, _, _, _, _⟩) (ev.on I.ev) (I.pre P.hA P.hh) r.deeper (fun o Ty' h' tk tok po => ?_) (fun o Ty' h' tk e le fl => ?_)
  · have I' := I.on po.ev po.st po.inv
    exact hq o _ _ _ _ ⟨po.le, I'.ev, I'.st, I'.inv⟩
  · refine catch_bare (s := ⟨_, _, _, _, _⟩) P.hA I fl (fun h6 ev6 I6 => ?_) PassesOwnAt.leaving
    have hm6 := I.kept (p := (g, _)) ev6 hm rfl
    have F6 := I6.F
    have N6 := I6.N
    generalize hnw6 : ledger b0 L h6 = nw6 at *
    clear fl F N'
    repeat' (first | (k_unfold; (try dsimp only)) | walk1)
    refine name_attr (s := ⟨_, _, _, _, _⟩) (N6.get hm6) rfl rfl (show (Str.ofString "<lambda>").length ≤ sizeLine by decide +kernel) (fun t' => ?_)
    dsimp only
    repeat' (first | (k_unfold; (try dsimp only)) | walk1)
    have hfin : Str.empty ++ Str.ofString "<" ++ Str.ofString "way" ++ Str.ofString " " ++ Str.ofString "<lambda>" ++ Str.ofString "() failed>" = FAILED := by decide +kernel
    rw [← hfin] at hf
    exact hf o _ _ _ _ ⟨le, I6.ev, I6.st, I6.inv⟩
end
end Mine
open PySem PySem.W PySem.Spec PySem.Calls PyProof.Rows
set_option Elab.async false
set_option maxRecDepth 100000
set_option linter.unusedVariables false
namespace Mine
theorem fillTry1 : PySem.Challenge.rw_gq5008_01 = PySem.Challenge.rw_gq5008_01 ∧ hd.heap_39 = hd.heap_39 := by k_fill; exact ⟨rfl, rfl⟩
local macro_rules | `(tactic| walk_at "call ref") => `(tactic| (k_here; (refine stop ?_)))
local macro_rules | `(tactic| walk_at "exec Raise some none") => `(tactic| (k_here; (refine stop ?_)))
local macro_rules | `(tactic| walk_at "eval Lambda") => `(tactic| (k_here; (refine stop ?_)))
local macro_rules | `(tactic| walk_at "subscriptTail Name Slice str ref") => `(tactic| ((with_reducible show wpAny _ _ (subscriptTail _ (Expr.Slice (some _) (some _) none _) _ _) _ _ _); (with_reducible rename Fr _ _ _ _ => F'); (with_reducible rename News _ _ _ _ => N'); (refine slice_strN_ss (hsz := ?hsz) (s := ⟨_, _, _, _, _⟩) F' N' ?_); (case hsz => assumption); intro _ _ _ _ _))

/-- a continuation -/
structure Cont (M : Model) (b0 : Heap) (x : Str) (f : Addr) (Ty0 : Addr → Option Str) (h0 : Heap) (κ : Nat → Prop) (R : Nat → Nat → Prop) : Prop where
  fn : ∃ oc od fd sl, h0.get? f = some ⟨oc, od, .func fd, sl⟩
  new : b0.get? f = none
  call : ∀ j d tok, j ≤ x.length → R j d → OkCall M b0 x.length (.ref f) [.int j tok] d Ty0 h0 (κ j)
theorem Cont.mono {M b0 x f Ty0 h0 Ty1 h1 κ R} (C : Cont M b0 x f Ty0 h0 κ R) (ev : Sees Ty0 h0 Ty1 h1) : Cont M b0 x f Ty1 h1 κ R :=
  ⟨let ⟨oc, od, fd, sl, e⟩ := C.fn; ⟨oc, od, fd, sl, ev.ev.sol _ _ e rfl⟩, C.new, fun j d tok hj hR => OkCall.mono (C.call j d tok hj hR) ev (Nat.le_refl _)⟩

theorem solid_cell {o : Obj} {v : Option Value} (h : o.data = .cell v) : solid o = true := by unfold solid dictB tabB; rw [h]; rfl
theorem solid_code {o : Obj} (h : o.cls = .type "code") (vs) (hd : o.data = .fields vs) : solid o = true := by unfold solid dictB tabB; rw [hd, h]; rfl
theorem codeHd_ev {h h' : Heap} {c P : Addr} (x : CodeHd h c P) (ev : Ev h h') : CodeHd h' c P :=
  let ⟨o, vs, file, tf, flags, tg, inF, text, tt, e, hc, hd, r⟩ := x; ⟨o, vs, file, tf, flags, tg, inF, text, tt, ev.sol _ _ e (solid_code hc vs hd), hc, hd, r⟩
theorem codeRec_ev {h h' : Heap} {c P : Addr} {q : Str} (y : h.CodeRec (.ref c) q) (x : CodeHd h c P) (ev : Ev h h') : h'.CodeRec (.ref c) q := by
  obtain ⟨o, vs, file, tf, flags, tg, inF, text, tt, e, hc, hd, r⟩ := x
  obtain ⟨c2, o2, vs2, t, e2, ho, hr⟩ := y
  cases e2
  exact ⟨c, o2, vs2, t, rfl, ev.sol _ _ ho (by rw [e] at ho; cases ho; exact solid_code hc vs hd), hr⟩

def TryAt (prog : Program) (w : World) (b0 : Heap) (x : Str) (p : Pat) (i : Nat) : Prop :=
  ∀ {v : Value} {d : Nat} {f : Addr} {Ty0 : Addr → Option Str} {h0 : Heap} {κ : Nat → Prop} {R : Nat → Nat → Prop} {tx ti : Tok}, PatIn b0 h0 v p → i ≤ x.length → Cont (model prog w) b0 x f Ty0 h0 κ R →
    (∀ k, i + k ≤ x.length → ∃ d', R (i + k) d' ∧ cost p k + d' ≤ d) →
    OkCall (model prog w) b0 x.length (.ref 51) [v, .str x tx, .int i ti, .ref f] d Ty0 h0 (∃ e, Ends x p i e ∧ κ e)

section
variable {prog : Program} {w : World} {b0 : Heap} {mg mb : Str → Option Value} {mean : ExcName → Option Value} {p : Program} {loose : List Str}

theorem try_sgn (S : Sta w b0 mg mb mean p loose) {x y : Str} (hz : x.length ≤ sizeLine) (hw : (Pat.sgn y).Wf) {i : Nat} : TryAt prog w b0 x (.sgn y) i := by
  intro v d f Ty0 h0 κ R tx ti hP hi C hR A l Ty s Q E ev P r hq he
  have X := S.X
  have T := S.T
  have C1 := S.C1
  obtain ⟨d0, rfl⟩ : ∃ d0, d = d0 + 1 := by
    obtain ⟨d', _, h2⟩ := hR 0 hi
    have := cost_pos (.sgn y) 0
    exact ⟨d - 1, by omega⟩
  have ho := P.st _ _ (X 51 _ (by k_is))
  have hcd := codeRec_keeps (codeRec_of X (cd := .ref 50) (q := Str.ofString "_law_try") (by k_is)) P.st
  refine enter_cells (d := d0) (binds := [(Str.ofString "node", v), (Str.ofString "text", .str x tx), (Str.ofString "i", .int i ti), (Str.ofString "then", .ref f)])
    (m := fun y => if y = Str.ofString "i" then some (.int i ti) else none) (cm := fun y => if y = Str.ofString "then" then some (.ref f) else if y = Str.ofString "text" then some (.str x tx) else if y = Str.ofString "node" then some v else none)
    (cells := fun L => [(Str.ofString "then", L + 1 + 1 + 1), (Str.ofString "text", L + 1 + 1), (Str.ofString "node", L + 1)])
    S P r ho rfl hcd (BindsTo.of_eq (by kernel_rfl)) (by kernel_rfl) (by kernel_rfl) (by kernel_rfl) (fun L => by kernel_rfl) (fun L h₁ tk I kp hcells => ?_)
  clear ho hcd
  obtain ⟨c1, hc1, hd1, hf1⟩ := hcells "node" _ rfl
  obtain ⟨c2, hc2, hd2, hf2⟩ := hcells "text" _ rfl
  obtain ⟨c3, hc3, hd3, hf3⟩ := hcells "then" _ rfl
  replace hd1 : c1.data = .cell (some v) := by rw [hd1]; kernel_rfl
  replace hd2 : c2.data = .cell (some (.str x tx)) := by rw [hd2]; kernel_rfl
  replace hd3 : c3.data = .cell (some (.ref f)) := by rw [hd3]; kernel_rfl
  clear hcells hf1 hf2 hf3
  have ev1 := ev.on I.ev
  have mem : ∀ {b o}, h0.get? b = some o → solid o = true → b0.get? b = none → (b, o) ∈ ledger b0 L h₁ := fun e sd n => I.full _ _ (ev1.ev.sol _ _ e sd) (fun z => by have := ev.ev.sol _ _ e sd; rw [z, I.newL] at this; cases this) n
  obtain ⟨oc, od, fd, sl, hfn⟩ := C.fn
  have hmf := mem hfn rfl C.new
  cases hP with
  | sgn hn hn0 =>
  rename_i a t0 t1 n
  have hm := mem hn rfl hn0
  clear mem
  have F := I.F
  have N := I.N
  generalize hnw : ledger b0 L h₁ = nw at *
  repeat' (first | (k_unfold; (try dsimp only)) | walk1)
  · rename_i F2 N2 hb
    obtain ⟨I2, k2⟩ := I.adv F2 N2 (fun p hp => hp)
    have hh : hit x y i := eq_of_beq hb
    have hlt := hit_len hw hh
    obtain ⟨d', hd', hle⟩ := hR 1 hlt
    have hle' : d' ≤ d0 := by simp only [cost, Pat.cA, Pat.cB] at hle; omega
    have e : ((i + 1 : Nat) : Int) = (i : Int) + 1 := by omega
    refine call_in (s := ⟨_, _, _, _, _⟩) (e ▸ C.call (i + 1) d' _ hlt hd') (ev.on I2.ev) I2 P.hA P.hh (r.deeper.le hle') (fun o Ty' h' tk tok le I' ev' => ?_) (fun o Ty' h' tk e le fl => ?_)
    · exact hq ⟨i + 1, .sgn hh, o⟩ _ _ _ _ ⟨le, I'.ev, I'.st, I'.inv⟩
    · exact he (fun ⟨e', hE, hk⟩ => by cases hE; exact o hk) _ _ _ _ le fl
  · rename_i F2 N2 hb
    obtain ⟨I2, k2⟩ := I.adv F2 N2 (fun p hp => hp)
    refine raise_VE (s := ⟨_, _, _, _, _⟩) S I2 P.hA P.hh rfl rfl (fun h' tk e fl => he (fun ⟨e', hE, hk⟩ => ?_) _ _ _ _ (TyLe.refl _) fl) (by decide +kernel)
    cases hE with
    | sgn hh => rw [show Txt.slice x (some (i : Int)) (some ((i : Int) + 1)) = y from hh] at hb; simp at hb
end
end Mine
open PySem PySem.W PySem.Spec PySem.Calls PyProof.Rows
set_option Elab.async false
set_option maxRecDepth 100000
set_option linter.unusedVariables false
namespace Mine
theorem fillTry2 : PySem.Challenge.rw_gq5008_01 = PySem.Challenge.rw_gq5008_01 ∧ hd.heap_39 = hd.heap_39 := by k_fill; exact ⟨rfl, rfl⟩
local macro_rules | `(tactic| walk_at "call ref") => `(tactic| (k_here; (refine stop ?_)))
local macro_rules | `(tactic| walk_at "exec Raise some none") => `(tactic| (k_here; (refine stop ?_)))
local macro_rules | `(tactic| walk_at "eval Lambda") => `(tactic| (k_here; (refine stop ?_)))
local macro_rules | `(tactic| walk_at "subscriptTail Name Slice str ref") => `(tactic| ((with_reducible show wpAny _ _ (subscriptTail _ (Expr.Slice (some _) (some _) none _) _ _) _ _ _); (with_reducible rename Fr _ _ _ _ => F'); (with_reducible rename News _ _ _ _ => N'); (refine slice_strN_ss (hsz := ?hsz) (s := ⟨_, _, _, _, _⟩) F' N' ?_); (case hsz => assumption); intro _ _ _ _ _))

section
variable {prog : Program} {w : World} {b0 : Heap} {mg mb : Str → Option Value} {mean : ExcName → Option Value} {p : Program} {loose : List Str}

theorem try_seq (S : Sta w b0 mg mb mean p loose) {x : Str} (hz : x.length ≤ sizeLine) {p1 p2 : Pat} (ih1 : ∀ i, TryAt prog w b0 x p1 i) (ih2 : ∀ i, TryAt prog w b0 x p2 i) {i : Nat} : TryAt prog w b0 x (.seq p1 p2) i := by
  intro v d f Ty0 h0 κ R tx ti hP hi C hR A l Ty s Q E ev P r hq he
  have X := S.X
  have T := S.T
  have C1 := S.C1
  obtain ⟨d0, rfl⟩ : ∃ d0, d = d0 + 1 := by
    obtain ⟨d', _, h2⟩ := hR 0 hi
    have := cost_pos (.seq p1 p2) 0
    exact ⟨d - 1, by omega⟩
  have ho := P.st _ _ (X 51 _ (by k_is))
  have hcd := codeRec_keeps (codeRec_of X (cd := .ref 50) (q := Str.ofString "_law_try") (by k_is)) P.st
  refine enter_cells (d := d0) (binds := [(Str.ofString "node", v), (Str.ofString "text", .str x tx), (Str.ofString "i", .int i ti), (Str.ofString "then", .ref f)])
    (m := fun y => if y = Str.ofString "i" then some (.int i ti) else none) (cm := fun y => if y = Str.ofString "then" then some (.ref f) else if y = Str.ofString "text" then some (.str x tx) else if y = Str.ofString "node" then some v else none)
    (cells := fun L => [(Str.ofString "then", L + 1 + 1 + 1), (Str.ofString "text", L + 1 + 1), (Str.ofString "node", L + 1)])
    S P r ho rfl hcd (BindsTo.of_eq (by kernel_rfl)) (by kernel_rfl) (by kernel_rfl) (by kernel_rfl) (fun L => by kernel_rfl) (fun L h₁ tk I kp hcells => ?_)
  clear ho hcd
  obtain ⟨c1, hc1, hd1, hf1⟩ := hcells "node" _ rfl
  obtain ⟨c2, hc2, hd2, hf2⟩ := hcells "text" _ rfl
  obtain ⟨c3, hc3, hd3, hf3⟩ := hcells "then" _ rfl
  replace hd1 : c1.data = .cell (some v) := by rw [hd1]; kernel_rfl
  replace hd2 : c2.data = .cell (some (.str x tx)) := by rw [hd2]; kernel_rfl
  replace hd3 : c3.data = .cell (some (.ref f)) := by rw [hd3]; kernel_rfl
  clear hcells hf1 hf2 hf3
  have ev1 := ev.on I.ev
  have mem : ∀ {b o}, h0.get? b = some o → solid o = true → b0.get? b = none → (b, o) ∈ ledger b0 L h₁ := fun e sd n => I.full _ _ (ev1.ev.sol _ _ e sd) (fun z => by have := ev.ev.sol _ _ e sd; rw [z, I.newL] at this; cases this) n
  obtain ⟨oc, od, fd, sl, hfn⟩ := C.fn
  have hmf := mem hfn rfl C.new
  cases hP with
  | seq hn hn0 hp1 hp2 hnull =>
  rename_i a t0 v1 v2 b n
  have hm := mem hn rfl hn0
  clear mem
  have F := I.F
  have N := I.N
  generalize hnw : ledger b0 L h₁ = nw at *
  repeat' (first | (k_unfold; (try dsimp only)) | walk1)
  refine mk_lam (s := ⟨_, _, _, _, _⟩) S I (c := 50) (P := 46) (q := Str.ofString "_law_try") rfl (C1.keeps I.st) I.inv.tb.1 rfl rfl rfl rfl (fun g c' P' ctv h2 tk2 Ty2 le2 I2 ev2 gnew hmg hrec hcd hTP => ?_)
  have sv2 : Sees Ty0 h0 Ty2 h2 := ev1.trans ⟨le2, ev2⟩
  have cont : Cont (model prog w) b0 x g Ty2 h2 (fun j => ∃ e, Ends x p2 j e ∧ κ e) (fun j d => ∃ d1, d = d1 + 1 ∧ ∀ k, j + k ≤ x.length → ∃ d', R (j + k) d' ∧ cost p2 k + d' ≤ d1) := by
    refine ⟨⟨_, _, _, _, (I2.N.get hmg)⟩, (I2.N.fresh hmg), ?_⟩
    rintro j d tok hj ⟨d1, rfl, hd1'⟩
    intro A3 l3 Ty3 s3 Q3 E3 ev3 P3 r3 hq3 he3
    have hg3 := ev3.ev.sol _ _ (I2.N.get hmg) rfl
    refine enter_lam (d := d1) (binds := [(Str.ofString "j", .int j tok)]) S P3 r3 hg3 (codeRec_ev hrec hcd ev3.ev) (by kernel_rfl) (by decide) (by kernel_rfl) rfl (fun L4 h4 tk4 I4 kp4 => ?_)
    have evw : Ev h₁ h4 := ev2.trans (ev3.ev.trans I4.ev)
    have mem4 : ∀ {b o}, h₁.get? b = some o → solid o = true → b0.get? b = none → (b, o) ∈ ledger b0 L4 h4 := fun e sd n => I4.full _ _ (evw.sol _ _ e sd) (fun z => by have := ev3.ev.sol _ _ (ev2.sol _ _ e sd) sd; rw [z, I4.newL] at this; cases this) n
    have hc1' := mem4 (I.N.get hc1) (solid_cell hd1) (I.N.fresh hc1)
    have hc2' := mem4 (I.N.get hc2) (solid_cell hd2) (I.N.fresh hc2)
    have hc3' := mem4 (I.N.get hc3) (solid_cell hd3) (I.N.fresh hc3)
    have hm' := mem4 (I.N.get hm) rfl (I.N.fresh hm)
    clear mem4
    have F4 := I4.F
    have N4 := I4.N
    generalize hnw4 : ledger b0 L4 h4 = nw4 at *
    clear hmg hrec hcd hTP F N hg3
    repeat' (first | (k_unfold; (try dsimp only)) | walk1)
    refine call_in (s := ⟨_, _, _, _, _⟩) (ih2 j hp2 hj C hd1') ((sv2.trans ev3).on I4.ev) I4 P3.hA P3.hh r3.deeper (fun o Ty' h' tk tok le I' ev' => ?_) (fun o Ty' h' tk e le fl => ?_)
    · exact hq3 o _ _ _ _ ⟨le, I'.ev, I'.st, I'.inv⟩
    · exact he3 o _ _ _ _ le fl
  have F2 := I2.F
  have N2 := I2.N
  clear F N hmg hrec hcd hTP
  dsimp only
  repeat' (first | (k_unfold; (try dsimp only)) | walk1)
  refine call_in (s := ⟨_, _, _, _, _⟩) (ih1 i (hp1.ev sv2.ev) hi cont (d := d0) (fun k hk => ?_)) (Sees.refl _ _) I2 P.hA P.hh r.deeper (fun o Ty' h' tk tok le I' ev' => ?_) (fun o Ty' h' tk e le fl => ?_)
  · have key : ∀ k2, i + k + k2 ≤ x.length → ∃ d', R (i + k + k2) d' ∧ cost p1 k + cost p2 k2 + 1 + d' ≤ d0 := fun k2 hk2 => by
      obtain ⟨d', h1, h2⟩ := hR (k + k2) (by omega)
      rw [← Nat.add_assoc] at h1
      have := cost_seq p1 p2 k k2
      exact ⟨d', h1, by omega⟩
    obtain ⟨_, _, h00⟩ := key 0 hk
    have hpos := cost_pos p2 0
    refine ⟨d0 - cost p1 k, ⟨d0 - cost p1 k - 1, by omega, fun k2 hk2 => ?_⟩, by omega⟩
    obtain ⟨d', h1, h2⟩ := key k2 hk2
    exact ⟨d', h1, by omega⟩
  · obtain ⟨j, hj, e, he2, hk⟩ := o
    exact hq ⟨e, .seq hj he2, hk⟩ _ _ _ _ ⟨le2.trans le, I'.ev, I'.st, I'.inv⟩
  · exact he (fun ⟨e', hE, hk⟩ => by cases hE with | seq h1 h2 => exact o ⟨_, h1, _, h2, hk⟩) _ _ _ _ (le2.trans le) fl
end
end Mine
open PySem PySem.W PySem.Spec PySem.Calls PyProof.Rows
set_option Elab.async false
set_option maxRecDepth 100000
set_option linter.unusedVariables false
namespace Mine
theorem fillTry3 : PySem.Challenge.rw_gq5008_01 = PySem.Challenge.rw_gq5008_01 ∧ hd.heap_39 = hd.heap_39 := by k_fill; exact ⟨rfl, rfl⟩
local macro_rules | `(tactic| walk_at "call ref") => `(tactic| (k_here; (refine stop ?_)))
local macro_rules | `(tactic| walk_at "exec Raise some none") => `(tactic| (k_here; (refine stop ?_)))
local macro_rules | `(tactic| walk_at "eval Lambda") => `(tactic| (k_here; (refine stop ?_)))
local macro_rules | `(tactic| walk_at "subscriptTail Name Slice str ref") => `(tactic| ((with_reducible show wpAny _ _ (subscriptTail _ (Expr.Slice (some _) (some _) none _) _ _) _ _ _); (with_reducible rename Fr _ _ _ _ => F'); (with_reducible rename News _ _ _ _ => N'); (refine slice_strN_ss (hsz := ?hsz) (s := ⟨_, _, _, _, _⟩) F' N' ?_); (case hsz => assumption); intro _ _ _ _ _))

section
variable {prog : Program} {w : World} {b0 : Heap} {mg mb : Str → Option Value} {mean : ExcName → Option Value} {p : Program} {loose : List Str}

theorem try_alt (S : Sta w b0 mg mb mean p loose) {x : Str} (hz : x.length ≤ sizeLine) {p1 p2 : Pat} (ih1 : ∀ i, TryAt prog w b0 x p1 i) (ih2 : ∀ i, TryAt prog w b0 x p2 i) {i : Nat} : TryAt prog w b0 x (.alt p1 p2) i := by
  intro v d f Ty0 h0 κ R tx ti hP hi C hR A l Ty s Q E ev P r hq he
  have X := S.X
  have T := S.T
  have C1 := S.C1
  obtain ⟨d0, rfl⟩ : ∃ d0, d = d0 + 1 := by
    obtain ⟨d', _, h2⟩ := hR 0 hi
    have := cost_pos (.alt p1 p2) 0
    exact ⟨d - 1, by omega⟩
  have ho := P.st _ _ (X 51 _ (by k_is))
  have hcd := codeRec_keeps (codeRec_of X (cd := .ref 50) (q := Str.ofString "_law_try") (by k_is)) P.st
  refine enter_cells (d := d0) (binds := [(Str.ofString "node", v), (Str.ofString "text", .str x tx), (Str.ofString "i", .int i ti), (Str.ofString "then", .ref f)])
    (m := fun y => if y = Str.ofString "i" then some (.int i ti) else none) (cm := fun y => if y = Str.ofString "then" then some (.ref f) else if y = Str.ofString "text" then some (.str x tx) else if y = Str.ofString "node" then some v else none)
    (cells := fun L => [(Str.ofString "then", L + 1 + 1 + 1), (Str.ofString "text", L + 1 + 1), (Str.ofString "node", L + 1)])
    S P r ho rfl hcd (BindsTo.of_eq (by kernel_rfl)) (by kernel_rfl) (by kernel_rfl) (by kernel_rfl) (fun L => by kernel_rfl) (fun L h₁ tk I kp hcells => ?_)
  clear ho hcd
  obtain ⟨c1, hc1, hd1, hf1⟩ := hcells "node" _ rfl
  obtain ⟨c2, hc2, hd2, hf2⟩ := hcells "text" _ rfl
  obtain ⟨c3, hc3, hd3, hf3⟩ := hcells "then" _ rfl
  replace hd1 : c1.data = .cell (some v) := by rw [hd1]; kernel_rfl
  replace hd2 : c2.data = .cell (some (.str x tx)) := by rw [hd2]; kernel_rfl
  replace hd3 : c3.data = .cell (some (.ref f)) := by rw [hd3]; kernel_rfl
  clear hcells hf1 hf2 hf3
  have ev1 := ev.on I.ev
  have mem : ∀ {b o}, h0.get? b = some o → solid o = true → b0.get? b = none → (b, o) ∈ ledger b0 L h₁ := fun e sd n => I.full _ _ (ev1.ev.sol _ _ e sd) (fun z => by have := ev.ev.sol _ _ e sd; rw [z, I.newL] at this; cases this) n
  obtain ⟨oc, od, fd, sl, hfn⟩ := C.fn
  have hmf := mem hfn rfl C.new
  cases hP with
  | alt hn hn0 hp1 hp2 hnull =>
  rename_i a t0 v1 v2 b n
  have hm := mem hn rfl hn0
  clear mem
  have F := I.F
  have N := I.N
  generalize hnw : ledger b0 L h₁ = nw at *
  repeat' (first | (k_unfold; (try dsimp only)) | walk1)
  refine mk_lam (s := ⟨_, _, _, _, _⟩) S I (c := 50) (P := 46) (q := Str.ofString "_law_try") rfl (C1.keeps I.st) I.inv.tb.1 rfl rfl rfl rfl (fun g c' P' ctv h2 tk2 Ty2 le2 I2 ev2 gnew hmg hrec hcd hTP => ?_)
  have sv2 : Sees Ty0 h0 Ty2 h2 := ev1.trans ⟨le2, ev2⟩
  obtain ⟨d1, rfl⟩ : ∃ d1, d0 = d1 + 2 := by
    obtain ⟨d', _, h2⟩ := hR 0 hi
    have := cost_altl p1 p2 0
    have := cost_pos p1 0
    exact ⟨d0 - 2, by omega⟩
  have cont : OkCall (model prog w) b0 x.length (.ref g) [.int i ti] (d1 + 1) Ty2 h2 (∃ e, Ends x p1 i e ∧ κ e) := by
    intro A3 l3 Ty3 s3 Q3 E3 ev3 P3 r3 hq3 he3
    have hg3 := ev3.ev.sol _ _ (I2.N.get hmg) rfl
    refine enter_lam (d := d1) (binds := [(Str.ofString "k", .int i ti)]) S P3 r3 hg3 (codeRec_ev hrec hcd ev3.ev) (by kernel_rfl) (by decide) (by kernel_rfl) rfl (fun L4 h4 tk4 I4 kp4 => ?_)
    have evw : Ev h₁ h4 := ev2.trans (ev3.ev.trans I4.ev)
    have mem4 : ∀ {b o}, h₁.get? b = some o → solid o = true → b0.get? b = none → (b, o) ∈ ledger b0 L4 h4 := fun e sd n => I4.full _ _ (evw.sol _ _ e sd) (fun z => by have := ev3.ev.sol _ _ (ev2.sol _ _ e sd) sd; rw [z, I4.newL] at this; cases this) n
    have hc1' := mem4 (I.N.get hc1) (solid_cell hd1) (I.N.fresh hc1)
    have hc2' := mem4 (I.N.get hc2) (solid_cell hd2) (I.N.fresh hc2)
    have hc3' := mem4 (I.N.get hc3) (solid_cell hd3) (I.N.fresh hc3)
    have hm' := mem4 (I.N.get hm) rfl (I.N.fresh hm)
    clear mem4
    have F4 := I4.F
    have N4 := I4.N
    generalize hnw4 : ledger b0 L4 h4 = nw4 at *
    clear hmg hrec hcd hTP F N hg3
    repeat' (first | (k_unfold; (try dsimp only)) | walk1)
    refine call_in (s := ⟨_, _, _, _, _⟩) (ih1 i hp1 hi C (d := d1) (fun k hk => ?_)) ((sv2.trans ev3).on I4.ev) I4 P3.hA P3.hh r3.deeper (fun o Ty' h' tk tok le I' ev' => ?_) (fun o Ty' h' tk e le fl => ?_)
    · obtain ⟨d', h1, h2⟩ := hR k hk
      have := cost_altl p1 p2 k
      exact ⟨d', h1, by omega⟩
    · exact hq3 o _ _ _ _ ⟨le, I'.ev, I'.st, I'.inv⟩
    · exact he3 o _ _ _ _ le fl
  have F2 := I2.F
  have N2 := I2.N
  clear F N
  dsimp only
  repeat' (first | (k_unfold; (try dsimp only)) | walk1)
  refine safe_ok (s := ⟨_, _, _, _, _⟩) (d := d1 + 1) S cont (I2.N.get hmg) (I2.N.fresh hmg) (Sees.refl _ _) (I2.pre P.hA P.hh) r.deeper (fun o Ty3 h3 tk3 tok po => ?_) (fun o Ty3 h3 tk3 tok po => ?_)
  · have I3 := I2.on po.ev po.st po.inv
    have F3 := I3.F
    have N3 := I3.N
    clear F2 N2
    dsimp only
    repeat' (first | (k_unfold; (try dsimp only)) | walk1)
    rename_i F4 N4
    obtain ⟨I4, _⟩ := I3.adv F4 N4 (fun p hp => hp)
    obtain ⟨e, he1, hk⟩ := o
    exact hq ⟨e, .altl he1, hk⟩ _ _ _ _ ⟨le2.trans po.le, I4.ev, I4.st, I4.inv⟩
  · have I3 := I2.on po.ev po.st po.inv
    have hc1' := I2.kept po.ev (I.kept ev2 hc1 (solid_cell hd1)) (solid_cell hd1)
    have hc2' := I2.kept po.ev (I.kept ev2 hc2 (solid_cell hd2)) (solid_cell hd2)
    have hc3' := I2.kept po.ev (I.kept ev2 hc3 (solid_cell hd3)) (solid_cell hd3)
    have hm' := I2.kept po.ev (I.kept ev2 hm rfl) rfl
    have F3 := I3.F
    have N3 := I3.N
    clear F2 N2 hmg hrec hcd hTP
    dsimp only [FAILED]
    generalize hnw3 : ledger b0 L h3 = nw3 at *
    repeat' (first | (k_unfold; (try dsimp only)) | walk1)
    rename_i F4 N4
    obtain ⟨I4, _⟩ := I3.adv F4 N4 (fun p hp => hp)
    refine call_in (s := ⟨_, _, _, _, _⟩) (ih2 i hp2 hi C (d := d1 + 2) (fun k hk => ?_)) ⟨ev.le.trans (le2.trans po.le), ev.ev.trans I4.ev⟩ I4 P.hA P.hh r.deeper (fun o2 Ty' h' tk tok le I' ev' => ?_) (fun o2 Ty' h' tk e le fl => ?_)
    · obtain ⟨d', h1, h2⟩ := hR k hk
      have := cost_altr p1 p2 k
      exact ⟨d', h1, by omega⟩
    · obtain ⟨e, he1, hk⟩ := o2
      exact hq ⟨e, .altr he1, hk⟩ _ _ _ _ ⟨(le2.trans po.le).trans le, I'.ev, I'.st, I'.inv⟩
    · refine he (fun ⟨e', hE, hk⟩ => ?_) _ _ _ _ ((le2.trans po.le).trans le) fl
      cases hE with
      | altl h1 => exact o ⟨_, h1, hk⟩
      | altr h1 => exact o2 ⟨_, h1, hk⟩
end
end Mine
open PySem PySem.W PySem.Spec PySem.Calls PyProof.Rows
set_option Elab.async false
set_option maxRecDepth 100000
set_option linter.unusedVariables false
namespace Mine
theorem fillTry4 : PySem.Challenge.rw_gq5008_01 = PySem.Challenge.rw_gq5008_01 ∧ hd.heap_39 = hd.heap_39 := by k_fill; exact ⟨rfl, rfl⟩
local macro_rules | `(tactic| walk_at "call ref") => `(tactic| (k_here; (refine stop ?_)))
local macro_rules | `(tactic| walk_at "exec Raise some none") => `(tactic| (k_here; (refine stop ?_)))
local macro_rules | `(tactic| walk_at "eval Lambda") => `(tactic| (k_here; (refine stop ?_)))
local macro_rules | `(tactic| walk_at "subscriptTail Name Slice str ref") => `(tactic| ((with_reducible show wpAny _ _ (subscriptTail _ (Expr.Slice (some _) (some _) none _) _ _) _ _ _); (with_reducible rename Fr _ _ _ _ => F'); (with_reducible rename News _ _ _ _ => N'); (refine slice_strN_ss (hsz := ?hsz) (s := ⟨_, _, _, _, _⟩) F' N' ?_); (case hsz => assumption); intro _ _ _ _ _))

section
variable {prog : Program} {w : World} {b0 : Heap} {mg mb : Str → Option Value} {mean : ExcName → Option Value} {p : Program} {loose : List Str}

theorem try_star (S : Sta w b0 mg mb mean p loose) {x : Str} (hz : x.length ≤ sizeLine) {p1 : Pat} (ih1 : ∀ i, TryAt prog w b0 x p1 i) {i : Nat} (ihS : ∀ j, i < j → TryAt prog w b0 x (.star p1) j) : TryAt prog w b0 x (.star p1) i := by
  intro v d f Ty0 h0 κ R tx ti hP hi C hR A l Ty s Q E ev P r hq he
  have X := S.X
  have T := S.T
  have C1 := S.C1
  obtain ⟨d0, rfl⟩ : ∃ d0, d = d0 + 1 := by
    obtain ⟨d', _, h2⟩ := hR 0 hi
    have := cost_pos (.star p1) 0
    exact ⟨d - 1, by omega⟩
  have ho := P.st _ _ (X 51 _ (by k_is))
  have hcd := codeRec_keeps (codeRec_of X (cd := .ref 50) (q := Str.ofString "_law_try") (by k_is)) P.st
  refine enter_cells (d := d0) (binds := [(Str.ofString "node", v), (Str.ofString "text", .str x tx), (Str.ofString "i", .int i ti), (Str.ofString "then", .ref f)])
    (m := fun y => if y = Str.ofString "i" then some (.int i ti) else none) (cm := fun y => if y = Str.ofString "then" then some (.ref f) else if y = Str.ofString "text" then some (.str x tx) else if y = Str.ofString "node" then some v else none)
    (cells := fun L => [(Str.ofString "then", L + 1 + 1 + 1), (Str.ofString "text", L + 1 + 1), (Str.ofString "node", L + 1)])
    S P r ho rfl hcd (BindsTo.of_eq (by kernel_rfl)) (by kernel_rfl) (by kernel_rfl) (by kernel_rfl) (fun L => by kernel_rfl) (fun L h₁ tk I kp hcells => ?_)
  clear ho hcd
  obtain ⟨c1, hc1, hd1, hf1⟩ := hcells "node" _ rfl
  obtain ⟨c2, hc2, hd2, hf2⟩ := hcells "text" _ rfl
  obtain ⟨c3, hc3, hd3, hf3⟩ := hcells "then" _ rfl
  replace hd1 : c1.data = .cell (some v) := by rw [hd1]; kernel_rfl
  replace hd2 : c2.data = .cell (some (.str x tx)) := by rw [hd2]; kernel_rfl
  replace hd3 : c3.data = .cell (some (.ref f)) := by rw [hd3]; kernel_rfl
  clear hcells hf1 hf2 hf3
  have ev1 := ev.on I.ev
  have mem : ∀ {b o}, h0.get? b = some o → solid o = true → b0.get? b = none → (b, o) ∈ ledger b0 L h₁ := fun e sd n => I.full _ _ (ev1.ev.sol _ _ e sd) (fun z => by have := ev.ev.sol _ _ e sd; rw [z, I.newL] at this; cases this) n
  obtain ⟨oc, od, fd, sl, hfn⟩ := C.fn
  have hmf := mem hfn rfl C.new
  have hP0 := hP
  cases hP with
  | star hn hn0 hp1 =>
  rename_i a t0 v1 n
  have hm := mem hn rfl hn0
  clear mem
  have F := I.F
  have N := I.N
  generalize hnw : ledger b0 L h₁ = nw at *
  repeat' (first | (k_unfold; (try dsimp only)) | walk1)
  refine mk_lam (s := ⟨_, _, _, _, _⟩) S I (c := 50) (P := 46) (q := Str.ofString "_law_try") rfl (C1.keeps I.st) I.inv.tb.1 rfl rfl rfl rfl (fun g c' P' ctv h2 tk2 Ty2 le2 I2 ev2 gnew hmg hrec hcd hTP => ?_)
  have sv2 : Sees Ty0 h0 Ty2 h2 := ev1.trans ⟨le2, ev2⟩
  obtain ⟨d1, rfl⟩ : ∃ d1, d0 = d1 + 2 := by
    obtain ⟨d', _, h2⟩ := hR 0 hi
    have := cost_star0 p1
    have := cost_pos p1 0
    exact ⟨d0 - 2, by omega⟩
  have cont : OkCall (model prog w) b0 x.length (.ref g) [.int i ti] (d1 + 1) Ty2 h2 (∃ j, Ends x p1 i j ∧ i < j ∧ ∃ e, Ends x (.star p1) j e ∧ κ e) := by
    intro A3 l3 Ty3 s3 Q3 E3 ev3 P3 r3 hq3 he3
    have hg3 := ev3.ev.sol _ _ (I2.N.get hmg) rfl
    refine enter_lam1 (d := d1) (k := Str.ofString "k") (v := .int i ti) S P3 r3 hg3 (codeRec_ev hrec hcd ev3.ev) (by kernel_rfl) (fun _ _ => rfl) (fun _ => rfl) rfl (fun L4 h4 tk4 I4 kp4 hck => ?_)
    obtain ⟨ck, hck, hdk⟩ := hck
    have evw : Ev h₁ h4 := ev2.trans (ev3.ev.trans I4.ev)
    have mem4 : ∀ {b o}, h₁.get? b = some o → solid o = true → b0.get? b = none → (b, o) ∈ ledger b0 L4 h4 := fun e sd n => I4.full _ _ (evw.sol _ _ e sd) (fun z => by have := ev3.ev.sol _ _ (ev2.sol _ _ e sd) sd; rw [z, I4.newL] at this; cases this) n
    have hc1' := mem4 (I.N.get hc1) (solid_cell hd1) (I.N.fresh hc1)
    have hc2' := mem4 (I.N.get hc2) (solid_cell hd2) (I.N.fresh hc2)
    have hc3' := mem4 (I.N.get hc3) (solid_cell hd3) (I.N.fresh hc3)
    have hm' := mem4 (I.N.get hm) rfl (I.N.fresh hm)
    clear mem4
    have F4 := I4.F
    have N4 := I4.N
    generalize hnw4 : ledger b0 L4 h4 = nw4 at *
    have hcd4 : CodeHd h4 c' P' := codeHd_ev hcd (ev3.ev.trans I4.ev)
    have hTP4 := ev3.le _ _ hTP
    clear hmg hrec hcd hTP F N hg3
    repeat' (first | (k_unfold; (try dsimp only)) | walk1)
    refine mk_lam (s := ⟨_, _, _, _, _⟩) S I4 (c := c') (P := P') (q := lam (Str.ofString "_law_try")) rfl hcd4 hTP4 rfl rfl rfl rfl (fun g5 c5 P5 ctv5 h5 tk5 Ty5 le5 I5 ev5 g5new hmg5 hrec5 hcd5 hTP5 => ?_)
    have sv5 : Sees Ty0 h0 Ty5 h5 := ((sv2.trans ev3).on I4.ev).trans ⟨le5, ev5⟩
    have evw5 : Ev h₁ h5 := evw.trans ev5
    have cont5 : Cont (model prog w) b0 x g5 Ty5 h5 (fun j => i < j ∧ ∃ e, Ends x (.star p1) j e ∧ κ e) (fun j d => ∃ d2, d = d2 + 2 ∧ (i < j → ∀ k, j + k ≤ x.length → ∃ d', R (j + k) d' ∧ cost (.star p1) k + d' ≤ d2)) := by
      refine ⟨⟨_, _, _, _, (I5.N.get hmg5)⟩, (I5.N.fresh hmg5), ?_⟩
      rintro j d tok hj ⟨d2, rfl, hd2'⟩
      intro A6 l6 Ty6 s6 Q6 E6 ev6 P6 r6 hq6 he6
      have hg6 := ev6.ev.sol _ _ (I5.N.get hmg5) rfl
      refine enter_lam (d := d2 + 1) (binds := [(Str.ofString "j", .int j tok)]) S P6 r6 hg6 (codeRec_ev hrec5 hcd5 ev6.ev) (by kernel_rfl) (by decide) (by kernel_rfl) rfl (fun L7 h7 tk7 I7 kp7 => ?_)
      have evw7 : Ev h4 h7 := ev5.trans (ev6.ev.trans I7.ev)
      have mem7 : ∀ {b o}, h4.get? b = some o → solid o = true → b0.get? b = none → (b, o) ∈ ledger b0 L7 h7 := fun e sd n => I7.full _ _ (evw7.sol _ _ e sd) (fun z => by have := ev6.ev.sol _ _ (ev5.sol _ _ e sd) sd; rw [z, I7.newL] at this; cases this) n
      have hk7 := mem7 (I4.N.get hck) (solid_cell hdk) (I4.N.fresh hck)
      have hc17 := mem7 (I4.N.get hc1') (solid_cell hd1) (I4.N.fresh hc1')
      have hc27 := mem7 (I4.N.get hc2') (solid_cell hd2) (I4.N.fresh hc2')
      have hc37 := mem7 (I4.N.get hc3') (solid_cell hd3) (I4.N.fresh hc3')
      have hm7 := mem7 (I4.N.get hm') rfl (I4.N.fresh hm')
      clear mem7
      have F7 := I7.F
      have N7 := I7.N
      generalize hnw7 : ledger b0 L7 h7 = nw7 at *
      clear hmg5 hrec5 hcd5 hTP5 F4 N4 hg6 hcd4
      repeat' (first | (k_unfold; (try dsimp only)) | walk1)
      refine call_in (s := ⟨_, _, _, _, _⟩) (again_ok S (d := d2) (Ty0 := Ty0) (h0 := h0) (fun hij => ihS j hij hP0 hj C (hd2' hij))) ((sv5.trans ev6).on I7.ev) I7 P6.hA P6.hh r6.deeper (fun o Ty' h' tk tok le I' ev' => ?_) (fun o Ty' h' tk e le fl => ?_)
      · exact hq6 o _ _ _ _ ⟨le, I'.ev, I'.st, I'.inv⟩
      · exact he6 o _ _ _ _ le fl
    have F5 := I5.F
    have N5 := I5.N
    clear F4 N4 hmg5 hrec5 hcd5 hTP5
    dsimp only
    repeat' (first | (k_unfold; (try dsimp only)) | walk1)
    refine call_in (s := ⟨_, _, _, _, _⟩) (ih1 i (hp1.ev sv5.ev) hi cont5 (d := d1) (fun k hk => ?_)) (Sees.refl _ _) I5 P3.hA P3.hh r3.deeper (fun o Ty' h' tk tok le I' ev' => ?_) (fun o Ty' h' tk e le fl => ?_)
    · rcases Nat.eq_zero_or_pos k with rfl | hk1
      · obtain ⟨d', h1, h2⟩ := hR 0 hi
        have := cost_star0 p1
        exact ⟨2, ⟨0, rfl, fun z => absurd z (by omega)⟩, by omega⟩
      · have key : ∀ k2, i + k + k2 ≤ x.length → ∃ d', R (i + k + k2) d' ∧ cost p1 k + cost (.star p1) k2 + 2 + d' ≤ d1 := fun k2 hk2 => by
          obtain ⟨d', h1, h2⟩ := hR (k + k2) (by omega)
          rw [← Nat.add_assoc] at h1
          have := cost_star p1 k k2 hk1
          exact ⟨d', h1, by omega⟩
        obtain ⟨_, _, h00⟩ := key 0 hk
        refine ⟨d1 - cost p1 k, ⟨d1 - cost p1 k - 2, by omega, fun _ k2 hk2 => ?_⟩, by omega⟩
        obtain ⟨d', h1, h2⟩ := key k2 hk2
        exact ⟨d', h1, by omega⟩
    · exact hq3 o _ _ _ _ ⟨le5.trans le, I'.ev, I'.st, I'.inv⟩
    · exact he3 o _ _ _ _ (le5.trans le) fl
  have F2 := I2.F
  have N2 := I2.N
  clear F N
  dsimp only
  repeat' (first | (k_unfold; (try dsimp only)) | walk1)
  refine safe_ok (s := ⟨_, _, _, _, _⟩) (d := d1 + 1) S cont (I2.N.get hmg) (I2.N.fresh hmg) (Sees.refl _ _) (I2.pre P.hA P.hh) r.deeper (fun o Ty3 h3 tk3 tok po => ?_) (fun o Ty3 h3 tk3 tok po => ?_)
  · have I3 := I2.on po.ev po.st po.inv
    have F3 := I3.F
    have N3 := I3.N
    clear F2 N2
    dsimp only
    repeat' (first | (k_unfold; (try dsimp only)) | walk1)
    rename_i F4 N4
    obtain ⟨I4, _⟩ := I3.adv F4 N4 (fun p hp => hp)
    obtain ⟨j, hj1, hij, e, he1, hk⟩ := o
    exact hq ⟨e, .step hj1 hij he1, hk⟩ _ _ _ _ ⟨le2.trans po.le, I4.ev, I4.st, I4.inv⟩
  · have I3 := I2.on po.ev po.st po.inv
    have hc1' := I2.kept po.ev (I.kept ev2 hc1 (solid_cell hd1)) (solid_cell hd1)
    have hc2' := I2.kept po.ev (I.kept ev2 hc2 (solid_cell hd2)) (solid_cell hd2)
    have hc3' := I2.kept po.ev (I.kept ev2 hc3 (solid_cell hd3)) (solid_cell hd3)
    have hm' := I2.kept po.ev (I.kept ev2 hm rfl) rfl
    have hmf' := I2.kept po.ev (I.kept ev2 hmf rfl) rfl
    have F3 := I3.F
    have N3 := I3.N
    clear F2 N2 hmg hrec hcd hTP
    dsimp only [FAILED]
    generalize hnw3 : ledger b0 L h3 = nw3 at *
    repeat' (first | (k_unfold; (try dsimp only)) | walk1)
    rename_i F4 N4
    obtain ⟨I4, _⟩ := I3.adv F4 N4 (fun p hp => hp)
    obtain ⟨d', hd', hle⟩ := hR 0 hi
    have hle' : d' ≤ d1 + 2 := by
      have := cost_pos (.star p1) 0
      omega
    refine call_in (s := ⟨_, _, _, _, _⟩) (C.call i d' _ hi hd') ⟨ev.le.trans (le2.trans po.le), ev.ev.trans I4.ev⟩ I4 P.hA P.hh (r.deeper.le hle') (fun o2 Ty' h' tk tok le I' ev' => ?_) (fun o2 Ty' h' tk e le fl => ?_)
    · exact hq ⟨i, .nil, o2⟩ _ _ _ _ ⟨(le2.trans po.le).trans le, I'.ev, I'.st, I'.inv⟩
    · refine he (fun ⟨e', hE, hk⟩ => ?_) _ _ _ _ ((le2.trans po.le).trans le) fl
      cases hE with
      | nil => exact o2 hk
      | step h1 h2 h3 => exact o ⟨_, h1, h2, _, h3, hk⟩

theorem try_ok (S : Sta w b0 mg mb mean p loose) {x : Str} (hz : x.length ≤ sizeLine) (p' : Pat) (hw : p'.Wf) : ∀ i, TryAt prog w b0 x p' i := by
  induction p' with
  | sgn y => exact fun i => try_sgn S hz hw
  | seq a b iha ihb => exact fun i => try_seq S hz (iha hw.1) (ihb hw.2)
  | alt a b iha ihb => exact fun i => try_alt S hz (iha hw.1) (ihb hw.2)
  | star a iha =>
    have all : ∀ n i, x.length + 1 - i ≤ n → TryAt prog w b0 x (.star a) i := by
      intro n
      induction n with
      | zero => intro i hn v d f Ty0 h0 κ R tx ti _ hi; exact absurd hi (by omega)
      | succ n ih => exact fun i hn => try_star S hz (iha hw) (fun j hij => by
          by_cases hj : j ≤ x.length
          · exact ih j (by omega)
          · intro _ hi; exact absurd hi hj)
    exact fun i => all _ i (Nat.le_refl _)
end
end Mine
open PySem PySem.W PySem.Spec PySem.Calls PyProof.Rows
set_option Elab.async false
set_option maxRecDepth 100000
set_option linter.unusedVariables false
namespace Mine
section
variable {b0 : Heap} {Ty Ty' : Addr → Option Str} {l : List Env} {env : Env} {hE h h' : Heap} {L a : Addr} {m : Str → Option Value} {nw : List (Addr × Obj)} {o : Obj}
/-- an address that the frame made, no part of the ground -/
structure Own (b0 : Heap) (l : List Env) (hE : Heap) (L a : Addr) : Prop where
  neL : a ≠ L
  newE : hE.get? a = none
  newB : b0.get? a = none
  apart : a ∉ l.filterMap (·.frame)
theorem InF.own (I : InF b0 Ty l env hE L m h nw) (ha : h.objs.size ≤ a) : Own b0 l hE L a where
  neL := fun z => by have := Nat.lt_of_lt_of_le I.F.ns.lt ha; rw [z] at this; exact Nat.lt_irrefl _ this
  newE := Heap.get?_none_of_le (Nat.le_trans I.szE (Nat.le_of_lt (Nat.lt_of_lt_of_le I.F.ns.lt ha)))
  newB := Heap.get?_none_of_le (Nat.le_trans I.F.above (Nat.le_of_lt (Nat.lt_of_lt_of_le I.F.ns.lt ha)))
  apart := fun hm => by
    obtain ⟨o, ho, _⟩ := I.fr.dict a hm
    exact Nat.lt_irrefl _ (Nat.lt_of_lt_of_le (Heap.lt_size ho) ha)
/-- a step that turns one object of the frame's own making -/
theorem InF.turn (I : InF b0 Ty l env hE L m h nw) (O : Own b0 l hE L a) (ho : h.get? a = some o) (ht : tabB o = false) (hc : ∀ vs, o.data = .fields vs → o.cls ≠ .type "code") (hx : Heap.ExtBut a h h') : InF b0 Ty l env hE L m h' (ledger b0 L h') where
  F := ⟨I.F.ns.extBut hx O.neL.symm, fun b x e => hx b x (fun z => by rw [z, O.newB] at e; cases e) (I.st b x e), I.F.above⟩
  N := fun p hp => mem_ledger.mp hp
  full := fun b o e n1 n2 => mem_ledger.mpr ⟨e, n1, n2⟩
  fr := by
    have hk : ∀ b ∈ l.filterMap (·.frame), ∀ o, h.get? b = some o → h'.get? b = some o := fun b hb o e => hx b o (fun q => O.apart (q ▸ hb)) e
    refine ⟨?_, fun b hb => ?_⟩
    · have : ∀ {l : List Env}, h.FunFrames b0 l → (∀ b ∈ l.filterMap (·.frame), ∀ o, h.get? b = some o → h'.get? b = some o) → h'.FunFrames b0 l := by
        intro l
        induction l with
        | nil => intros; trivial
        | cons env r ih =>
          intro hl hd
          obtain ⟨hk, ⟨L', o, hf, hn, ho, hnf⟩, hr⟩ := hl
          exact ⟨hk, ⟨L', o, hf, hn, hd L' (by rw [List.filterMap_cons, hf]; exact .head _) o ho, hnf⟩, ih hr fun b hb => hd b (by rw [List.filterMap_cons, hf]; exact .tail _ hb)⟩
      exact this I.fr.ff hk
    · obtain ⟨x, hx1, hd⟩ := I.fr.dict b hb
      exact ⟨x, hk b hb x hx1, hd⟩
  inv := ⟨I.inv.tb, fun P q e => by
    obtain ⟨n, ps, h1, h2, h3⟩ := I.inv.all P q e
    have hPa : P ≠ a := fun z => by rw [z, ho] at h1; cases h1; cases ht
    refine ⟨n, ps, hx _ _ hPa h1, h2, fun pos cv e => ?_⟩
    obtain ⟨c', P', a1, a2, a3, a4⟩ := h3 pos cv e
    have hca : c' ≠ a := fun z => by
      obtain ⟨x, vs, file, tf, flags, tg, inF, text, tt, e1, e2, e3, _⟩ := a3
      rw [z, ho] at e1; cases e1; exact hc _ e3 e2
    refine ⟨c', P', a1, ?_, ?_, a4⟩
    · obtain ⟨c2, x, vs, t, e2, hox, r⟩ := a2
      cases e2
      exact ⟨c', x, vs, t, rfl, hx _ _ hca hox, r⟩
    · obtain ⟨x, vs, file, tf, flags, tg, inF, text, tt, e1, r⟩ := a3
      exact ⟨x, vs, file, tf, flags, tg, inF, text, tt, hx _ _ hca e1, r⟩⟩
  ev := ⟨fun b x e s => hx b x (fun q => by rw [q, O.newE] at e; cases e) (I.ev.sol b x e s), fun b x e d => by
    obtain ⟨sl, hs⟩ := I.ev.dic b x e d
    exact ⟨sl, hx b _ (fun q => by rw [q, O.newE] at e; cases e) hs⟩⟩
  stE := I.stE
  apart := I.apart
  newL := I.newL
  szE := I.szE
  envF := I.envF
  envK := I.envK
theorem InF.keepAll (I : InF b0 Ty l env hE L m h nw) (hx : ∀ b o, h.get? b = some o → h'.get? b = some o) : InF b0 Ty l env hE L m h' (ledger b0 L h') :=
  I.on (Ev.of_keeps hx) (fun b o e => hx b o (I.st b o e)) (I.inv.keeps hx)
end
end Mine
open PySem PySem.W PySem.Spec PySem.Calls PyProof.Rows
set_option Elab.async false
set_option maxRecDepth 100000
set_option linter.unusedVariables false
namespace Mine

theorem ints_at {vs : List Value} {es : List Int} (h : IntsAre vs es) : ∀ {k : Nat} {v : Value}, vs[k]? = some v → ∃ n t, v = .int n t ∧ es[k]? = some n := by
  induction h with
  | nil => intro k v e; simp at e
  | cons n t _ ih =>
    intro k v e
    cases k with
    | zero => simp at e; exact ⟨n, t, e.symm, rfl⟩
    | succ k => simp at e; simpa using ih e
theorem ints_none {vs : List Value} {es : List Int} (h : IntsAre vs es) {k : Nat} (e : vs[k]? = none) : es.length ≤ k := by
  rw [← h.length]
  simpa using e
theorem drop_cons {es : List Int} {k : Nat} {n : Int} (e : es[k]? = some n) : es.drop k = n :: es.drop (k + 1) := by
  obtain ⟨hk, rfl⟩ := List.getElem?_eq_some_iff.mp e
  exact List.drop_eq_getElem_cons hk

section
variable {prog : Program} {w : World} {A : Around} {s : Shared} {b0 : Heap} {Ty : Addr → Option Str} {l : List Env} {env : Env} {hE : Heap} {L : Addr} {m : Str → Option Value} {nw : List (Addr × Obj)}
  {R : Result → Shared → Prop} {t1 i1 i2 : Expr} {x2 : Str} {pe p2 pos : Pos} {scope : Scope} {cl : List (Str × Addr)} {C D it a2 : Addr}

theorem compTurn_in (elt t1 i1 t2 i2 : Expr) (scope : Scope) (pos : Pos) (it acc : Value) (env : Env) :
    compTurn (.ListComp elt [⟨t1, i1, [], 0⟩, ⟨t2, i2, [], 0⟩] scope pos) 1 it acc env = (standAt i2.pos >>= fun _ => pyNext it >>= fun r => match r with
      | none => pure (.done .next)
      | some v => letOwnedTupleGo t2 it v >>= fun _ => assign t2 env v >>= fun _ =>
        (eval elt env >>= fun x => call (.builtin "list.append") [acc, x] >>= fun _ => pure ()) >>= fun _ =>
          again (.compLoop (.ListComp elt [⟨t1, i1, [], 0⟩, ⟨t2, i2, [], 0⟩] scope pos) 1 it acc env)) := by rfl
theorem compTurn_out (elt t1 i1 t2 i2 : Expr) (scope : Scope) (pos : Pos) (it acc : Value) (env : Env) :
    compTurn (.ListComp elt [⟨t1, i1, [], 0⟩, ⟨t2, i2, [], 0⟩] scope pos) 0 it acc env = (standAt i1.pos >>= fun _ => pyNext it >>= fun r => match r with
      | none => pure (.done .next)
      | some v => letOwnedTupleGo t1 it v >>= fun _ => assign t1 env v >>= fun _ =>
        eval i2 env >>= fun x => standAt i2.pos >>= fun _ => foldedSetIterable i2 env x >>= fun x =>
          (holding [x] (pyIter x)) >>= fun y => runOwn (.compStart (.ListComp elt [⟨t1, i1, [], 0⟩, ⟨t2, i2, [], 0⟩] scope pos) 1 y acc env) env >>= fun _ =>
          again (.compLoop (.ListComp elt [⟨t1, i1, [], 0⟩, ⟨t2, i2, [], 0⟩] scope pos) 0 it acc env)) := by rfl

theorem iterObj {h : Heap} {it a i} (x : h.IsListIter it a i) : ∃ o, h.get? it = some o ∧ tabB o = false ∧ (∀ vs, o.data = .fields vs → o.cls ≠ .type "code") ∧ dictB o = false := by
  obtain ⟨o, ho, hc, hd⟩ := x
  refine ⟨o, ho, ?_, fun _ _ => by rw [hc]; decide, ?_⟩
  · unfold tabB; rw [hd, hc]; rfl
  · unfold dictB; rw [hd]
theorem listObj {h : Heap} {a : Addr} {its : Array Value} (x : h.IsList a its) : ∃ o, h.get? a = some o ∧ tabB o = false ∧ (∀ vs, o.data = .fields vs → o.cls ≠ .type "code") ∧ dictB o = false ∧ solid o = true := by
  obtain ⟨o, ho, hc, n, hd⟩ := x
  refine ⟨o, ho, ?_, fun vs q => (by rw [hd] at q; cases q), ?_, ?_⟩
  · unfold tabB; rw [hd]
  · unfold dictB; rw [hd]
  · unfold solid tabB dictB; rw [hd]; rfl
theorem nsObj {h : Heap} {a : Addr} {m : Str → Option Value} (x : h.Ns a m) : ∃ o, h.get? a = some o ∧ dictB o = true ∧ tabB o = false ∧ (∀ vs, o.data = .fields vs → o.cls ≠ .type "code") := by
  obtain ⟨o, es, ep, ho, hd, _⟩ := x
  exact ⟨o, ho, by unfold dictB; rw [hd], by unfold tabB; rw [hd], fun vs q => by rw [hd] at q; cases q⟩
theorem isList_ev {h h' : Heap} {a its} (x : h.IsList a its) (ev : Ev h h') : h'.IsList a its := by
  obtain ⟨o, ho, hc, n, hd⟩ := x
  exact ⟨o, ev.sol _ _ ho (by unfold solid tabB dictB; rw [hd]; rfl), hc, n, hd⟩
theorem isIter_ev {h h' : Heap} {it a i} (x : h.IsListIter it a i) (ev : Ev h h') : h'.IsListIter it a i := by
  obtain ⟨o, ho, hc, hd⟩ := x
  exact ⟨o, ev.sol _ _ ho (by unfold solid tabB dictB; rw [hd, hc]; rfl), hc, hd⟩
theorem ne_of {h : Heap} {a b : Addr} {o o' : Obj} (x : h.get? a = some o) (y : h.get? b = some o') (z : dictB o ≠ dictB o') : a ≠ b := fun q => by
  rw [q, y] at x; cases x; exact z rfl

theorem comp_inner (hh : A.handled = none) (hx2 : (compEnvC scope cl C env).kindOf x2 = some .local) (hsk : (compEnvC scope cl C env).scope.kind = .function) (hdb : (x2 == ("__debug__" : Str)) = false)
    (OC : Own b0 l hE L C) (OD : Own b0 l hE L D) (OI : Own b0 l hE L it) (n1 : D ≠ it) (n2 : a2 ≠ D) (n3 : a2 ≠ it) (n4 : C ≠ D) (n5 : C ≠ it) (n6 : a2 ≠ C)
    {vs : List Value} {es : List Int} (hi : IntsAre vs es) :
    ∀ (r : Nat) {s : Shared} {nw : List (Addr × Obj)} {mc : Str → Option Value} {k : Nat} {ws : List Value} {dn : List Int} {R : Result → Shared → Prop}, es.length - k = r → InF b0 Ty l env hE L m s.heap nw → s.heap.Ns C mc → s.heap.IsListIter it a2 k → s.heap.IsList a2 vs.toArray →
    s.heap.IsList D ws.toArray → IntsAre ws dn → dn.length + (es.length - k) ≤ sizeLine →
    (∀ h' tk nw' mc' ws', InF b0 Ty l env hE L m h' nw' → h'.Ns C mc' → h'.IsList D ws'.toArray → IntsAre ws' (dn ++ es.drop k) → (∀ b o, b ≠ it → b ≠ C → b ≠ D → s.heap.get? b = some o → h'.get? b = some o) → R (.ok .next) { s with heap := h', toks := tk }) →
    codeAny (model prog w) A (.compLoop (.ListComp (.Name x2 pe) [⟨t1, i1, [], 0⟩, ⟨.Name x2 p2, i2, [], 0⟩] scope pos) 1 (.ref it) (.ref D) (compEnvC scope cl C env)) R s := by
  intro r
  induction r with
  | zero =>
    intro s nw mc k ws dn R hr I hC hit hl hD hj hz hR
    refine codeAny_of_tree ?_
    show wpAny _ A ((compTurn _ 1 (.ref it) (.ref D) (compEnvC scope cl C env)).onRaise (fun x => do noteFrame x (compEnvC scope cl C env); theTreesLotGoes x)) _ _ s
    refine wpAny_noted ?_
    rw [compTurn_in]
    refine wpAny_bind (wpAny_standAt (wpAny_bind ?_))
    have hv : vs.toArray[k]? = none := by
      have := hi.length
      simp; omega
    refine wpAny_pyNext_list_end hh hit hl hv fun h' hx => ?_
    obtain ⟨oi, hoi, ti, ci, _⟩ := iterObj hit
    refine wpAny_pure ?_
    refine hR h' s.toks _ mc ws (I.turn OI hoi ti ci hx) (hC.extBut hx n5) (hD.extBut hx n1) ?_ (fun b o h1 _ _ e => hx b o h1 e)
    rw [List.drop_eq_nil_of_le (by omega), List.append_nil]
    exact hj
  | succ r ih =>
    intro s nw mc k ws dn R hr I hC hit hl hD hj hz hR
    refine codeAny_of_tree ?_
    show wpAny _ A ((compTurn _ 1 (.ref it) (.ref D) (compEnvC scope cl C env)).onRaise (fun x => do noteFrame x (compEnvC scope cl C env); theTreesLotGoes x)) _ _ s
    refine wpAny_noted ?_
    rw [compTurn_in]
    refine wpAny_bind (wpAny_standAt (wpAny_bind ?_))
    have hk : k < vs.length := by rw [hi.length]; omega
    have hv : vs.toArray[k]? = some vs[k] := by simp [hk]
    obtain ⟨n, t, hvn, hen⟩ := ints_at hi (k := k) (v := vs[k]) (by simp [hk])
    refine wpAny_pyNext_list_item hit hl hv fun h1 hit1 hs1 => ?_
    obtain ⟨oi, hoi, ti, ci, _⟩ := iterObj hit
    have I1 := I.turn OI hoi ti ci hs1.extBut
    have hC1 := hC.extBut hs1.extBut n5
    have hD1 := hD.extBut hs1.extBut n1
    have hl1 := hl.extBut hs1.extBut n3
    rw [hvn]
    refine wpAny_bind (wpAny_of_eq (a := ()) rfl (wpAny_bind (wpAny_assign_Name (wpAny_storeName_local hx2 hC1 (fun h2 hC2 hs2 => ?_) ?_))))
    · obtain ⟨oc, hoc, dc, tc, cc⟩ := nsObj hC1
      have I2 := I1.turn OC hoc tc cc hs2.extBut
      have hD2 := hD1.extBut hs2.extBut n4.symm
      have hl2 := hl1.extBut hs2.extBut n6
      have hit2 := hit1.extBut hs2.extBut n5.symm
      refine wpAny_bind (wpAny_bind (wpAny_Name (wpAny_loadName_local hsk hx2 hC2 (if_pos rfl) ?_) hdb))
      refine wpAny_bind (wpAny_list_append hD2 (fun h3 hD3 hs3 => ?_) ?_)
      · obtain ⟨od, hod, td, cd, _⟩ := listObj hD2
        have I3 := I2.turn OD hod td cd hs3.extBut
        refine wpAny_pure (wpAny_pure ⟨rfl, ?_⟩)
        have hD3' : h3.IsList D (ws ++ [Value.int n t]).toArray := by simpa using hD3
        refine ih (k := k + 1) (s := ⟨_, _, _, _, _⟩) (by omega) I3 (hC2.extBut hs3.extBut n4) (hit2.extBut hs3.extBut n1.symm) (hl2.extBut hs3.extBut n2) hD3' (hj.append (.cons n t .nil)) (by simp; omega) fun h' tk nw' mc' ws' J1 J2 J3 J4 J5 => ?_
        refine hR h' tk nw' mc' ws' J1 J2 J3 ?_ fun b o e1 e2 e3 e => J5 b o e1 e2 e3 (hs3.extBut b o e3 (hs2.extBut b o e2 (hs1.extBut b o e1 e)))
        rw [drop_cons hen]
        simpa using J4
      · have := hj.length
        simp; omega
    · show ((compEnvC scope cl C env).scope.kind == .class || _) = false
      rw [hsk]; rfl

theorem Ev.turn {hB h h' : Heap} {a : Addr} (x : Ev hB h) (hx : Heap.ExtBut a h h') (ha : hB.get? a = none) : Ev hB h' :=
  ⟨fun b o e sd => hx b o (fun z => by rw [z, ha] at e; cases e) (x.sol b o e sd), fun b o e d => by
    obtain ⟨sl, hs⟩ := x.dic b o e d
    exact ⟨sl, hx b _ (fun z => by rw [z, ha] at e; cases e) hs⟩⟩

theorem compStart_in {elt t1 i1 t2 i2 : Expr} {scope : Scope} {pos : Pos} {it acc : Value} {env : Env} {R : Result → Shared → Prop} {s : Shared}
    (h0 : codeAny (model prog w) A (.compLoop (.ListComp elt [⟨t1, i1, [], 0⟩, ⟨t2, i2, [], 0⟩] scope pos) 1 it acc env) R s)
    (h : wpAny (model prog w) A (pyIter it) (fun it' s' => codeAny (model prog w) A (.compLoop (.ListComp elt [⟨t1, i1, [], 0⟩, ⟨t2, i2, [], 0⟩] scope pos) 1 it' acc env) R s')
      (notedBy (model prog w) A env fun x s' => R (.error x) s') s) :
    codeAny (model prog w) A (.compStart (.ListComp elt [⟨t1, i1, [], 0⟩, ⟨t2, i2, [], 0⟩] scope pos) 1 it acc env) R s := by
  refine codeAny_of_tree ?_
  show wpAny _ A ((compStart (.ListComp elt [⟨t1, i1, [], 0⟩, ⟨t2, i2, [], 0⟩] scope pos) 1 it acc env).onRaise (fun x => do noteFrame x env; standAt theWindowsPlace)) _ _ s
  refine wpAny_notedAt ?_
  unfold compStart
  show wpAny _ A (ask >>= _) _ _ s
  refine wpAny_bind (wpAny_askSetting (wpAny_ite ?_))
  split
  · first
      | exact wpAny_bind (wpAny_pure (wpAny_pure (And.intro rfl h0)))
      | exact wpAny_pure (And.intro rfl h0)
  · refine wpAny_bind (wpAny_rule ?_)
    show wpAny _ A (standAt i2.pos >>= _) _ _ s
    exact wpAny_bind (wpAny_standAt (wpAny_bind (wpAny_mono h (fun it' s' h' => wpAny_pure (And.intro rfl h')) fun _ _ x => x)))

inductive Each (F : Int → List Int → Prop) : List Int → List (List Int) → Prop
  | nil : Each F [] []
  | cons {j es js ess} : F j es → Each F js ess → Each F (j :: js) (es :: ess)

theorem comp_outer {hB : Heap} {x1 : Str} {px1 : Pos} {a1 : Addr} {F : Int → List Int → Prop} {Bd : Nat} (hh : A.handled = none) (hx1 : (compEnvC scope cl C env).kindOf x1 = some .local) (hx2 : (compEnvC scope cl C env).kindOf x2 = some .local)
    (hsk : (compEnvC scope cl C env).scope.kind = .function) (hdb : (x2 == ("__debug__" : Str)) = false) (hfs : ∀ x, foldedSetIterable i2 (compEnvC scope cl C env) x = pure x)
    (OC : Own b0 l hE L C) (OD : Own b0 l hE L D) (OI : Own b0 l hE L it) (n1 : D ≠ it) (n2 : a1 ≠ D) (n3 : a1 ≠ it) (n4 : C ≠ D) (n5 : C ≠ it) (n6 : a1 ≠ C)
    (bC : hB.objs.size ≤ C) (bD : hB.get? D = none) (bI : hB.get? it = none) {vs : List Value} {js : List Int} (hi : IntsAre vs js) (hBd : ∀ j es, F j es → es.length ≤ Bd)
    (h2 : ∀ {s' : Shared} {nw' : List (Addr × Obj)} {mc' : Str → Option Value} {j : Int} {t : Tok} {Q' E' : Value → Shared → Prop}, j ∈ js → InF b0 Ty l env hE L m s'.heap nw' → s'.heap.Ns C mc' → mc' x1 = some (.int j t) → Ev hB s'.heap →
      (∀ h'' tk a2 vs' es, InF b0 Ty l env hE L m h'' (ledger b0 L h'') → Ev s'.heap h'' → s'.heap.objs.size ≤ a2 → h''.IsList a2 vs'.toArray → IntsAre vs' es → F j es → Q' (.ref a2) { s' with heap := h'', toks := tk }) →
      wpAny (model prog w) A (eval i2 (compEnvC scope cl C env)) Q' E' s') :
    ∀ (r : Nat) {s : Shared} {nw : List (Addr × Obj)} {mc : Str → Option Value} {k : Nat} {ws : List Value} {dn : List Int} {R : Result → Shared → Prop}, js.length - k = r → InF b0 Ty l env hE L m s.heap nw → s.heap.Ns C mc → s.heap.IsListIter it a1 k → s.heap.IsList a1 vs.toArray →
    s.heap.IsList D ws.toArray → IntsAre ws dn → Ev hB s.heap → dn.length + (js.length - k) * Bd ≤ sizeLine →
    (∀ h' tk nw' mc' ws' ess, InF b0 Ty l env hE L m h' nw' → h'.Ns C mc' → h'.IsList D ws'.toArray → Each F (js.drop k) ess → IntsAre ws' (dn ++ ess.flatten) → Ev hB h' → R (.ok .next) { s with heap := h', toks := tk }) →
    codeAny (model prog w) A (.compLoop (.ListComp (.Name x2 pe) [⟨.Name x1 px1, i1, [], 0⟩, ⟨.Name x2 p2, i2, [], 0⟩] scope pos) 0 (.ref it) (.ref D) (compEnvC scope cl C env)) R s := by
  intro r
  induction r with
  | zero =>
    intro s nw mc k ws dn R hr I hC hit hl hD hj evB hz hR
    refine codeAny_of_tree ?_
    show wpAny _ A ((compTurn _ 0 (.ref it) (.ref D) (compEnvC scope cl C env)).onRaise (fun x => do noteFrame x (compEnvC scope cl C env); theTreesLotGoes x)) _ _ s
    refine wpAny_noted ?_
    rw [compTurn_out]
    refine wpAny_bind (wpAny_standAt (wpAny_bind ?_))
    have hv : vs.toArray[k]? = none := by
      have := hi.length
      simp; omega
    refine wpAny_pyNext_list_end hh hit hl hv fun h' hx => ?_
    obtain ⟨oi, hoi, ti, ci, _⟩ := iterObj hit
    refine wpAny_pure ?_
    refine hR h' s.toks _ mc ws [] (I.turn OI hoi ti ci hx) (hC.extBut hx n5) (hD.extBut hx n1) ?_ (by simpa using hj) (evB.turn hx bI)
    rw [List.drop_eq_nil_of_le (by omega)]
    exact .nil
  | succ r ih =>
    intro s nw mc k ws dn R hr I hC hit hl hD hj evB hz hR
    refine codeAny_of_tree ?_
    show wpAny _ A ((compTurn _ 0 (.ref it) (.ref D) (compEnvC scope cl C env)).onRaise (fun x => do noteFrame x (compEnvC scope cl C env); theTreesLotGoes x)) _ _ s
    refine wpAny_noted ?_
    rw [compTurn_out]
    refine wpAny_bind (wpAny_standAt (wpAny_bind ?_))
    have hk : k < vs.length := by rw [hi.length]; omega
    have hv : vs.toArray[k]? = some vs[k] := by simp [hk]
    obtain ⟨n, t, hvn, hen⟩ := ints_at hi (k := k) (v := vs[k]) (by simp [hk])
    refine wpAny_pyNext_list_item hit hl hv fun h1 hit1 hs1 => ?_
    obtain ⟨oi, hoi, ti, ci, _⟩ := iterObj hit
    have I1 := I.turn OI hoi ti ci hs1.extBut
    have hC1 := hC.extBut hs1.extBut n5
    have hD1 := hD.extBut hs1.extBut n1
    have hl1 := hl.extBut hs1.extBut n3
    have ev1 := evB.turn hs1.extBut bI
    have bC0 : hB.get? C = none := Heap.get?_none_of_le bC
    rw [hvn]
    refine wpAny_bind (wpAny_of_eq (a := ()) rfl (wpAny_bind (wpAny_assign_Name (wpAny_storeName_local hx1 hC1 (fun h2' hC2 hs2 => ?_) ?_))))
    · obtain ⟨oc, hoc, dc, tc, cc⟩ := nsObj hC1
      have I2 := I1.turn OC hoc tc cc hs2.extBut
      have hD2 := hD1.extBut hs2.extBut n4.symm
      have hl2 := hl1.extBut hs2.extBut n6
      have hit2 := hit1.extBut hs2.extBut n5.symm
      have ev2 := ev1.turn hs2.extBut bC0
      refine wpAny_bind (h2 (s' := ⟨_, _, _, _, _⟩) (j := n) (List.mem_of_getElem? hen) I2 hC2 (if_pos rfl) ev2 fun h3 tk3 a2 vs' es I3 ev3 fr3 hl3 hi3 hF => ?_)
      refine wpAny_bind (wpAny_standAt (wpAny_bind (wpAny_of_eq (hfs _) (wpAny_bind (wpAny_holding (wpAny_pyIter_list hl3 ?_))))))
      have kp4 : ∀ b o, h3.get? b = some o → (h3.push { cls := .type "list_iterator", data := .fields #[.ref a2, .int 0 0] }).get? b = some o := fun b o e => Heap.get?_push_of_some _ e
      have OI2 := I3.own (a := h3.objs.size) (Nat.le_refl _)
      have I4 := I3.keepAll kp4
      have hit4 : (h3.push { cls := .type "list_iterator", data := .fields #[.ref a2, .int 0 0] }).IsListIter h3.objs.size a2 0 := ⟨_, Heap.get?_push_size _ rfl, rfl, rfl⟩
      have hC3 := (ev3.ns hC2)
      have hD3 := isList_ev hD2 ev3
      have hit3 := isIter_ev hit2 ev3
      have hl13 := isList_ev hl2 ev3
      have hC4 := hC3.keeps kp4
      have lt3 : ∀ {b o}, h3.get? b = some o → b ≠ h3.objs.size := fun e => Nat.ne_of_lt (Heap.lt_size e)
      obtain ⟨oD2, hoD2, _, _, dD2, _⟩ := listObj hD2
      obtain ⟨oi2, hoi2, _, _, _⟩ := iterObj hit2
      obtain ⟨oC2, hoC2, _⟩ := nsObj hC2
      obtain ⟨oD3, hoD3, _⟩ := listObj hD3
      obtain ⟨oi3, hoi3, _⟩ := iterObj hit3
      obtain ⟨oC3, hoC3, _⟩ := nsObj hC3
      obtain ⟨oa3, hoa3, _⟩ := listObj hl3
      obtain ⟨o13, ho13, _⟩ := listObj hl13
      have m2 : ∀ {b o}, h2'.get? b = some o → a2 ≠ b := fun e z => by
        have := Heap.lt_size e
        rw [← z] at this
        exact Nat.lt_irrefl _ (Nat.lt_of_lt_of_le this fr3)
      have bI2 : hB.get? h3.objs.size = none := Heap.get?_none_of_le (Nat.le_trans bC (Nat.le_of_lt (Heap.lt_size hoC3)))
      refine wpAny_bind (wpAny_runOwn (compStart_in (A := A.mark none) ?body (wpAny_pyIter_listiter hit4 ?body)))
      case body =>
        refine comp_inner (A := A.mark none) hh hx2 hsk hdb OC OD OI2 (lt3 hoD3) (m2 hoD2) (lt3 hoa3) n4 (lt3 hoC3) (m2 hoC2) hi3 _ (s := ⟨_, _, _, _, _⟩) rfl I4 hC4 hit4 (hl3.push _) (hD3.push _) hj ?_ fun h' tk nw' mc' ws' J1 J2 J3 J4 J5 => ?_
        · have h1 := hBd _ _ hF
          have h2 : 1 * Bd ≤ (js.length - k) * Bd := Nat.mul_le_mul_right _ (by omega)
          omega
        · refine wpAny_pure ⟨rfl, ?_⟩
          have ev5 : Ev hB h' := by
            have e4 : Ev hB (h3.push { cls := .type "list_iterator", data := .fields #[.ref a2, .int 0 0] }) := (ev2.trans ev3).trans (Ev.of_keeps kp4)
            refine ⟨fun b o e sd => J5 b o ?_ ?_ ?_ (e4.sol b o e sd), fun b o e d => ?_⟩
            · exact fun z => by rw [z, bI2] at e; cases e
            · exact fun z => by rw [z, bC0] at e; cases e
            · exact fun z => by rw [z, bD] at e; cases e
            · obtain ⟨sl, hs⟩ := e4.dic b o e d
              exact ⟨sl, J5 b _ (fun z => by rw [z, bI2] at e; cases e) (fun z => by rw [z, bC0] at e; cases e) (fun z => by rw [z, bD] at e; cases e) hs⟩
          have hit5 : h'.IsListIter it a1 (k + 1) := by
            obtain ⟨o, ho, r⟩ := hit3
            exact ⟨o, J5 _ _ (lt3 ho) n5.symm n1.symm (kp4 _ _ ho), r⟩
          have hl5 : h'.IsList a1 vs.toArray := by
            obtain ⟨o, ho, r⟩ := hl13
            exact ⟨o, J5 _ _ (lt3 ho) n6 n2 (kp4 _ _ ho), r⟩
          refine ih (k := k + 1) (s := ⟨_, _, _, _, _⟩) (by omega) J1 J2 hit5 hl5 J3 J4 ev5 ?_ fun h6 tk6 nw6 mc6 ws6 ess K1 K2 K3 K4 K5 K6 => ?_
          · have h1 := hBd _ _ hF
            have e1 : js.length - k = (js.length - (k + 1)) + 1 := by omega
            rw [e1, Nat.add_mul] at hz
            simp only [List.length_append, List.length_drop]
            omega
          · refine hR h6 tk6 nw6 mc6 ws6 (es :: ess) K1 K2 K3 ?_ ?_ K6
            · rw [drop_cons hen]; exact .cons hF K4
            · simpa using K5
    · show ((compEnvC scope cl C env).scope.kind == .class || _) = false
      rw [hsk]; rfl
end
end Mine
open PySem PySem.W PySem.Spec PySem.Calls PyProof.Rows
set_option Elab.async false
set_option maxRecDepth 100000
set_option linter.unusedVariables false
namespace Mine

section
variable {prog : Program} {w : World} {A : Around} {E : Value → Shared → Prop} {s : Shared} {b0 : Heap} {Ty : Addr → Option Str} {l : List Env} {env : Env} {hE : Heap} {L : Addr} {m : Str → Option Value} {nw : List (Addr × Obj)}
  {t1 i1 i2 : Expr} {x1 x2 : Str} {pe px1 p2 pos : Pos} {scope : Scope} {cl : List (Str × Addr)} {a1 : Addr}
set_option maxHeartbeats 4000000 in
theorem lc_rest {F : Int → List Int → Prop} {Bd : Nat} {Q : Value → Shared → Prop} (hh : A.handled = none) (hx1 : scope.names.lookup x1 = some .local) (hx2 : scope.names.lookup x2 = some .local)
    (hk : scope.kind = .function) (hcell : ∀ y ∈ scope.names, y.2 ≠ .cell) (hdb : (x2 == ("__debug__" : Str)) = false) (hfs : ∀ env x, foldedSetIterable i2 env x = pure x)
    (I : InF b0 Ty l env hE L m s.heap nw) (hl : s.heap.IsList a1 vs.toArray) (hi : IntsAre vs js) (hBd : ∀ j es, F j es → es.length ≤ Bd) (hz : js.length * Bd ≤ sizeLine)
    (h2 : ∀ {C : Addr} {s' : Shared} {nw' : List (Addr × Obj)} {mc' : Str → Option Value} {j : Int} {t : Tok} {Q' E' : Value → Shared → Prop}, j ∈ js → InF b0 Ty l env hE L m s'.heap nw' → s'.heap.Ns C mc' → mc' x1 = some (.int j t) → Ev s.heap s'.heap →
      (∀ h'' tk a2 vs' es, InF b0 Ty l env hE L m h'' (ledger b0 L h'') → Ev s'.heap h'' → s'.heap.objs.size ≤ a2 → h''.IsList a2 vs'.toArray → IntsAre vs' es → F j es → Q' (.ref a2) { s' with heap := h'', toks := tk }) →
      wpAny (model prog w) A (eval i2 (compEnvC scope cl C env)) Q' E' s')
    (hQ : ∀ h' tk D ws ess, InF b0 Ty l env hE L m h' (ledger b0 L h') → Ev s.heap h' → s.heap.objs.size ≤ D → h'.IsList D ws.toArray → Each F js ess → IntsAre ws ess.flatten → Q (.ref D) { s with heap := h', toks := tk }) :
    wpAny (model prog w) A (pyIter (.ref a1)) (fun it s₂ => wpAny (model prog w) A (newList []) (fun acc s₃ => wpAny (model prog w) A (newFunctionEnv scope env.globals cl [] env.qual none .none (some env)) (fun cenv s₄ =>
      codeAny (model prog w) A (.compStart (.ListComp (.Name x2 pe) [⟨.Name x1 px1, i1, [], 0⟩, ⟨.Name x2 p2, i2, [], 0⟩] scope pos) 0 it acc { cenv with scope := relabel scope env }) (compPost (model prog w) A E none Q acc cenv.locals) s₄) E s₃) E s₂) E s := by
  refine wpAny_pyIter_list hl ?_
  refine wpAny_newObj_type (wpAny_newFunctionEnv hcell (by intro y hy; simp at hy) (fun h₁ hns₁ hsb₁ => ?_) hk)
  dsimp only at hns₁ hsb₁ ⊢
  generalize hH1 : s.heap.push { cls := .type "list_iterator", data := .fields #[.ref a1, .int 0 0] } = H1 at hns₁ hsb₁ ⊢
  generalize hH2 : H1.push { cls := .type "list", dict := none, data := .seq ([] : List Value).toArray } = H2 at hns₁ hsb₁ ⊢
  have z1 : H1.objs.size = s.heap.objs.size + 1 := by rw [← hH1, Heap.size_push]
  have z2 : H2.objs.size = s.heap.objs.size + 2 := by rw [← hH2, Heap.size_push, z1]
  have below : ∀ b, b < H2.objs.size → b ≠ H2.objs.size := fun b hb => Nat.ne_of_lt hb
  have k1 : ∀ b o, H1.get? b = some o → h₁.get? b = some o := fun b o e => hsb₁.extBut b o (Nat.ne_of_lt (Nat.lt_trans (Heap.lt_size e) (by omega))) (Heap.get?_push_of_some _ (hH2 ▸ Heap.get?_push_of_some _ e))
  have k0 : ∀ b o, s.heap.get? b = some o → h₁.get? b = some o := fun b o e => k1 b o (hH1 ▸ Heap.get?_push_of_some _ e)
  have hit : h₁.IsListIter s.heap.objs.size a1 0 := ⟨_, k1 _ _ (hH1 ▸ Heap.get?_push_size _ rfl), rfl, rfl⟩
  have hacc : h₁.IsList H1.objs.size ([] : List Value).toArray := ⟨_, hsb₁.extBut _ _ (Nat.ne_of_lt (by rw [z1, z2]; exact Nat.lt_succ_self _)) (Heap.get?_push_of_some _ (hH2 ▸ Heap.get?_push_size _ rfl)), rfl, _, rfl⟩
  have la : a1 < s.heap.objs.size := by obtain ⟨o, ho, _⟩ := hl; exact Heap.lt_size ho
  have I1 := I.keepAll k0
  have OI := I.own (a := s.heap.objs.size) (Nat.le_refl _)
  have OD := I.own (a := H1.objs.size) (by omega)
  have OC := I.own (a := H2.objs.size) (by omega)
  have none_ge : ∀ b, s.heap.objs.size ≤ b → s.heap.get? b = none := fun b hb => Heap.get?_none_of_le hb
  have la' : (a1 : Nat) < s.heap.objs.size := la
  have n1 : @Ne Nat H1.objs.size s.heap.objs.size := by omega
  have n2 : @Ne Nat a1 H1.objs.size := Nat.ne_of_lt (by rw [z1]; exact Nat.lt_succ_of_lt la')
  have n3 : @Ne Nat a1 s.heap.objs.size := Nat.ne_of_lt la'
  have n4 : @Ne Nat H2.objs.size H1.objs.size := by omega
  have n5 : @Ne Nat H2.objs.size s.heap.objs.size := by omega
  have n6 : @Ne Nat a1 H2.objs.size := Nat.ne_of_lt (by rw [z2]; exact Nat.lt_succ_of_lt (Nat.lt_succ_of_lt la'))
  have z3 : s.heap.objs.size ≤ H1.objs.size := by omega
  have z4 : s.heap.objs.size ≤ H2.objs.size := by omega
  refine codeAny_compStart_list ?_ (wpAny_pyIter_listiter hit ?_) <;>
  · refine comp_outer (C := H2.objs.size) (env := env) (cl := cl) (hB := s.heap) (F := F) (Bd := Bd) (js := js) (vs := vs) (a1 := a1) (scope := scope) hh (lookup_relabel_local hx1) (lookup_relabel_local hx2) (by simp [compEnvC, relabel, hk]) hdb (fun x => hfs _ x) OC OD OI n1 n2 n3 n4 n5 n6 z4 (none_ge _ z3) (none_ge _ (Nat.le_refl _)) hi hBd h2 _ (s := ⟨_, _, _, _, _⟩) (k := 0) (ws := []) (dn := []) rfl I1 hns₁ hit (isList_ev hl (Ev.of_keeps k0)) hacc .nil (Ev.of_keeps k0) (by simpa using hz) ?_
    intro h' tk nw' mc' ws' ess J1 J2 J3 J4 J5 J6
    refine ⟨mc', J2, fun h'' hs'' => ?_⟩
    obtain ⟨oc, hoc, dc, tc, cc⟩ := nsObj J2
    exact hQ h'' tk _ ws' ess (J1.turn OC hoc tc cc hs''.extBut) (J6.turn hs''.extBut (none_ge _ z4)) z3 (J3.extBut hs''.extBut n4.symm) (by simpa using J4) (by simpa using J5)
end
end Mine
open PySem PySem.W PySem.Spec PySem.Calls PyProof.Rows
set_option Elab.async false
set_option maxRecDepth 100000
set_option linter.unusedVariables false
namespace Mine
def Pat.sz (n : Nat) : Pat → Nat
  | .sgn _ => 1
  | .seq a b => a.sz n * b.sz n
  | .alt a b => a.sz n + b.sz n
  | .star a => n + 1
def Pat.Small (n : Nat) : Pat → Prop
  | .sgn _ => True
  | .seq a b => a.Small n ∧ b.Small n ∧ a.sz n * b.sz n ≤ sizeLine
  | .alt a b => a.Small n ∧ b.Small n ∧ a.sz n + b.sz n ≤ sizeLine
  | .star a => a.Small n ∧ a.sz n ≤ sizeLine ∧ n + 1 ≤ sizeLine
def sa1 : Pat := .sgn (Str.ofString "a")
def sb1 : Pat := .sgn (Str.ofString "b")
/-- the stacks that k numbers can bring about -/
inductive Reach : Nat → List Pat → Prop
  | init : Reach 0 [sb1, sa1]
  | signA {k st} : Reach k st → Reach (k + 1) (sa1 :: st)
  | signB {k st} : Reach k st → Reach (k + 1) (sb1 :: st)
  | skip {k st} : Reach k st → Reach (k + 1) st
  | star {k p st} : Reach k (p :: st) → p.null = false → Reach (k + 1) (.star p :: st)
  | seq {k p q st} : Reach k (q :: p :: st) → Reach (k + 1) (.seq p q :: st)
  | alt {k p q st} : Reach k (q :: p :: st) → Reach (k + 1) (.alt p q :: st)
theorem Reach.len {k st} (x : Reach k st) : 1 ≤ st.length ∧ st.length ≤ k + 2 := by
  induction x <;> simp_all <;> omega
def Pat.wt : Pat → Nat
  | .sgn _ => 1
  | .seq a b => a.wt + b.wt
  | .alt a b => a.wt + b.wt
  | .star a => a.wt + 1
structure Num where
  nul : Bool
  A : Nat
  B : Nat
  W : Nat
def Pat.num (p : Pat) : Num := ⟨p.null, p.cA, p.cB, p.wt⟩
def Num.leaf : Num := ⟨false, 1, 0, 1⟩
def Num.seq (f s : Num) : Num := ⟨f.nul && s.nul, f.A + s.A + 2, f.B + s.B, f.W + s.W⟩
def Num.alt (f s : Num) : Num := ⟨f.nul || s.nul, f.A + s.A + 3, f.B + s.B, f.W + s.W⟩
def Num.star (f : Num) : Num := ⟨true, f.A + 5, f.A + f.B + 5, f.W + 1⟩
def numFin : List Num → Num → Num
  | [], t => t
  | x :: r, t => numFin r (x.alt t)
def patFin : List Pat → Pat → Pat
  | [], t => t
  | x :: r, t => patFin r (.alt x t)
def Num.ok (t : Num) : Bool := Nat.ble (t.A + 4 * t.B) 260 && Nat.ble t.W 14
def check : Nat → List Num → Bool
  | 0, st => (numFin st .leaf).ok
  | k + 1, st => check k st && check k (.leaf :: st) && (match st with
    | x :: r => (x.nul || check k (x.star :: r)) && (match r with
      | y :: r' => check k (y.seq x :: r') && check k (y.alt x :: r')
      | [] => true)
    | [] => true)
theorem check_all : check 8 [.leaf, .leaf] = true := by decide +kernel
theorem num_fin : ∀ (st : List Pat) (t : Pat), (patFin st t).num = numFin (st.map Pat.num) t.num := by
  intro st
  induction st with
  | nil => intro t; rfl
  | cons a r ih => intro t; exact ih _
theorem reach_check : ∀ {k st}, Reach k st → k ≤ 8 → check (8 - k) (st.map Pat.num) = true := by
  intro k st h
  induction h with
  | init => intro _; exact check_all
  | signA _ ih =>
    rename_i k st _
    intro hk
    have h1 := ih (by omega)
    rw [show 8 - k = (8 - (k + 1)) + 1 by omega] at h1
    simp only [check, Bool.and_eq_true] at h1
    exact h1.1.2
  | signB _ ih =>
    rename_i k st _
    intro hk
    have h1 := ih (by omega)
    rw [show 8 - k = (8 - (k + 1)) + 1 by omega] at h1
    simp only [check, Bool.and_eq_true] at h1
    exact h1.1.2
  | skip _ ih =>
    rename_i k st _
    intro hk
    have h1 := ih (by omega)
    rw [show 8 - k = (8 - (k + 1)) + 1 by omega] at h1
    simp only [check, Bool.and_eq_true] at h1
    exact h1.1.1
  | star _ hn ih =>
    rename_i k p st _
    intro hk
    have h1 := ih (by omega)
    rw [show 8 - k = (8 - (k + 1)) + 1 by omega] at h1
    simp only [check, List.map_cons, Bool.and_eq_true, Bool.or_eq_true] at h1
    rcases h1.2.1 with h | h
    · rw [show p.num.nul = p.null from rfl, hn] at h; cases h
    · exact h
  | seq _ ih =>
    rename_i k p q st _
    intro hk
    have h1 := ih (by omega)
    rw [show 8 - k = (8 - (k + 1)) + 1 by omega] at h1
    simp only [check, List.map_cons, Bool.and_eq_true] at h1
    exact h1.2.2.1
  | alt _ ih =>
    rename_i k p q st _
    intro hk
    have h1 := ih (by omega)
    rw [show 8 - k = (8 - (k + 1)) + 1 by omega] at h1
    simp only [check, List.map_cons, Bool.and_eq_true] at h1
    exact h1.2.2.2
theorem check_fin : ∀ (k : Nat) (st : List Num), check k st = true → (numFin st .leaf).ok = true := by
  intro k
  induction k with
  | zero => intro st h; exact h
  | succ k ih =>
    intro st h
    simp only [check, Bool.and_eq_true] at h
    exact ih st h.1.1
theorem reach_cost {k st} (h : Reach k st) (hk : k ≤ 8) : (patFin st sa1).cA + 4 * (patFin st sa1).cB ≤ 260 ∧ (patFin st sa1).wt ≤ 14 := by
  have h1 := check_fin _ _ (reach_check h hk)
  rw [show Num.leaf = sa1.num from rfl, ← num_fin] at h1
  simp only [Num.ok, Bool.and_eq_true, Nat.ble_eq] at h1
  exact h1
theorem sa1_wf : sa1.Wf := by show (Str.ofString "a").length = 1; decide +kernel
theorem sb1_wf : sb1.Wf := by show (Str.ofString "b").length = 1; decide +kernel
theorem Reach.wf {k st} (h : Reach k st) : ∀ p ∈ st, p.Wf := by
  induction h with
  | init => intro p hp; simp only [List.mem_cons, List.not_mem_nil, or_false] at hp; exact hp.elim (fun z => z ▸ sb1_wf) (fun z => z ▸ sa1_wf)
  | signA _ ih =>
    intro p hp
    rcases List.mem_cons.mp hp with rfl | hp
    · exact sa1_wf
    · exact ih p hp
  | signB _ ih =>
    intro p hp
    rcases List.mem_cons.mp hp with rfl | hp
    · exact sb1_wf
    · exact ih p hp
  | skip _ ih => exact ih
  | star _ _ ih =>
    rename_i k q st _ _
    intro p hp
    rcases List.mem_cons.mp hp with rfl | hp
    · have h1 : q.Wf := ih q (.head _)
      exact h1
    · exact ih p (.tail _ hp)
  | seq _ ih =>
    intro p hp
    rcases List.mem_cons.mp hp with rfl | hp
    · exact ⟨ih _ (.tail _ (.head _)), ih _ (.head _)⟩
    · exact ih p (.tail _ (.tail _ hp))
  | alt _ ih =>
    intro p hp
    rcases List.mem_cons.mp hp with rfl | hp
    · exact ⟨ih _ (.tail _ (.head _)), ih _ (.head _)⟩
    · exact ih p (.tail _ (.tail _ hp))
theorem patFin_wf : ∀ (st : List Pat) (t : Pat), (∀ p ∈ st, p.Wf) → t.Wf → (patFin st t).Wf := by
  intro st
  induction st with
  | nil => intro t _ h; exact h
  | cons a r ih => intro t h1 h2; exact ih _ (fun p hp => h1 p (.tail _ hp)) ⟨h1 _ (.head _), h2⟩
theorem patFin_ends {x : Str} {i e : Nat} : ∀ (st : List Pat) (t : Pat), Ends x t i e → Ends x (patFin st t) i e := by
  intro st
  induction st with
  | nil => intro t h; exact h
  | cons a r ih => intro t h; exact ih _ (.altr h)
theorem wt_pos (p : Pat) : 1 ≤ p.wt := by induction p <;> simp only [Pat.wt] <;> omega
theorem sz_le {n : Nat} (hn : n ≤ 4) (p : Pat) : p.sz n ≤ 3 ^ p.wt := by
  induction p with
  | sgn _ => simp only [Pat.sz, Pat.wt]; decide
  | seq a b iha ihb => simp only [Pat.sz, Pat.wt, Nat.pow_add]; exact Nat.mul_le_mul iha ihb
  | alt a b iha ihb =>
    simp only [Pat.sz, Pat.wt, Nat.pow_add]
    have h1 : 3 ^ 1 ≤ 3 ^ a.wt := Nat.pow_le_pow_right (by decide) (wt_pos a)
    have h2 : 3 ^ 1 ≤ 3 ^ b.wt := Nat.pow_le_pow_right (by decide) (wt_pos b)
    generalize 3 ^ a.wt = u at *
    generalize 3 ^ b.wt = v at *
    have h3 : 2 * u ≤ v * u := Nat.mul_le_mul_right _ (by omega)
    have h4 : 2 * v ≤ u * v := Nat.mul_le_mul_right _ (by omega)
    rw [Nat.mul_comm v u] at h3
    omega
  | star a _ =>
    simp only [Pat.sz, Pat.wt]
    have h1 : 3 ^ 2 ≤ 3 ^ (a.wt + 1) := Nat.pow_le_pow_right (by decide) (by have := wt_pos a; omega)
    omega
theorem small_of {n : Nat} (hn : n ≤ 4) (p : Pat) (hw : p.wt ≤ 14) : p.Small n := by
  have big : ∀ m, m ≤ 14 → 3 ^ m ≤ sizeLine := fun m hm => Nat.le_trans (Nat.pow_le_pow_right (by decide) hm) (by decide)
  induction p with
  | sgn _ => trivial
  | seq a b iha ihb =>
    simp only [Pat.wt] at hw
    exact ⟨iha (by omega), ihb (by omega), Nat.le_trans (sz_le hn (.seq a b)) (big _ hw)⟩
  | alt a b iha ihb =>
    simp only [Pat.wt] at hw
    exact ⟨iha (by omega), ihb (by omega), Nat.le_trans (sz_le hn (.alt a b)) (big _ hw)⟩
  | star a iha =>
    simp only [Pat.wt] at hw
    refine ⟨iha (by omega), Nat.le_trans (sz_le hn a) (big _ (by omega)), ?_⟩
    exact Nat.le_trans (by omega : n + 1 ≤ 3 ^ 2) (big 2 (by decide))
end Mine
open PySem PySem.W PySem.Spec PySem.Calls PyProof.Rows
set_option Elab.async false
set_option maxRecDepth 100000
set_option linter.unusedVariables false
namespace Mine
theorem InF.cm {b0 : Heap} {Ty : Addr → Option Str} {l : List Env} {env : Env} {hE h : Heap} {L : Addr} {m m' : Str → Option Value} {nw : List (Addr × Obj)} (I : InF b0 Ty l env hE L m h nw) (e : m = m') : InF b0 Ty l env hE L m' h nw := e ▸ I
theorem InF.but {b0 : Heap} {Ty : Addr → Option Str} {l : List Env} {env : Env} {hE h h₂ : Heap} {L : Addr} {m m₂ : Str → Option Value} {nw nw₂ : List (Addr × Obj)} (I : InF b0 Ty l env hE L m h nw) (F₂ : Fr b0 L h₂ m₂) (N₂ : News b0 L h₂ nw₂) (hs : ∀ p ∈ nw, p ∈ nw₂) : Heap.ExtBut L h h₂ := by
  intro b o hb e
  cases q : b0.get? b with
  | none => exact (N₂ _ (hs _ (I.full b o e hb q))).1
  | some o' =>
    have h1 := I.F.keep b o' q
    rw [e] at h1; cases h1
    exact F₂.keep b o q
section
variable {prog : Program} {w : World} {A : Around} {E : Value → Shared → Prop} {Q : Flow → Shared → Prop} {s : Shared} {env : Env}
def Turn (J : Shared → Prop) (Q : Flow → Shared → Prop) (f : Flow) (s₃ : Shared) : Prop :=
  match f with
  | .next | .cont => J s₃
  | .brk => Q .next s₃
  | .ret v => Q (.ret v) s₃
theorem while_inv {test : Expr} {body : List Stmt} {pos : Pos} (J : Nat → Shared → Prop) {n₀ : Nat} (hJ : J n₀ s)
    (turn : ∀ n s', J n s' → wpAny (model prog w) A (isTrue test env (eval test env)) (fun b s₂ =>
        if b = true then wpAny (model prog w) A (execs body env) (Turn (fun s₃ => ∃ m, m < n ∧ J m s₃) Q) E s₂ else Q .next s₂) E s')
    (hE : PassesOwn (model prog w) A env E) :
    wpAny (model prog w) A (exec (.While test body [] pos) env) Q E s := by
  refine wpAny_While (codeAny_whileLoop J ?_ n₀ hJ)
  intro n s' J₁
  refine wpAny_mono (turn n s' J₁) (fun b s₂ h₂ => ?_) hE
  cases b with
  | false =>
    simp only [Bool.false_eq_true, if_false] at h₂ ⊢
    exact wpAny_execs_nil h₂
  | true =>
    simp only [if_true] at h₂ ⊢
    refine wpAny_mono h₂ (fun f s₃ h₃ => ?_) hE
    cases f with
    | next => exact h₃
    | cont => exact h₃
    | brk => exact h₃
    | ret v => exact h₃
theorem for_list {x : Str} {px : Pos} {body : List Stmt} {it a1 : Addr} {items : Array Value} (hh : A.handled = none) (J : Nat → Shared → Prop) (hJ : ∀ k s', J k s' → s'.heap.IsListIter it a1 k ∧ s'.heap.IsList a1 items)
    (h0 : J 0 s) (hend : ∀ k s' h', items[k]? = none → J k s' → Heap.ExtBut it s'.heap h' → Q .next { s' with heap := h' })
    (turn : ∀ k v s' h', items[k]? = some v → J k s' → h'.IsListIter it a1 (k + 1) → Heap.ExtBut it s'.heap h' → wpAny (model prog w) A (assign (.Name x px) env v) (fun _ s₂ => wpAny (model prog w) A (execs body env) (Turn (J (k + 1)) Q) E s₂) E { s' with heap := h' })
    (hE : PassesOwn (model prog w) A env E) :
    codeAny (model prog w) A (.forLoop (.Name x px) (.ref it) body [] env) (fun r s' => match r with | .ok f => Q f s' | .error e => cameBackBy (model prog w) A env E e s') s := by
  refine codeAny_forLoop (fun n s' => ∃ k, n = items.size + 1 - k ∧ k ≤ items.size ∧ J k s') ?_ _ ⟨0, rfl, Nat.zero_le _, h0⟩
  rintro n s' ⟨k, rfl, hk, hJk⟩
  obtain ⟨h1, h2⟩ := hJ k s' hJk
  cases hv : items[k]? with
  | none =>
    refine wpAny_pyNext_list_end hh h1 h2 hv fun h' hx => ?_
    exact wpAny_execs_nil (hend k s' h' hv hJk hx)
  | some v =>
    refine wpAny_pyNext_list_item h1 h2 hv fun h' hit hs => ?_
    refine wpAny_mono (turn k v s' h' hv hJk hit hs.extBut) (fun _ s₂ h₂ => ?_) hE
    refine wpAny_mono h₂ (fun f s₃ h₃ => ?_) hE
    have hlt : k < items.size := by
      obtain ⟨hlt, _⟩ := Array.getElem?_eq_some_iff.mp hv
      exact hlt
    cases f with
    | next => exact ⟨items.size + 1 - (k + 1), by omega, k + 1, rfl, by omega, h₃⟩
    | cont => exact ⟨items.size + 1 - (k + 1), by omega, k + 1, rfl, by omega, h₃⟩
    | brk => exact h₃
    | ret v => exact h₃
end

theorem nodup_len : ∀ (n : Nat) (ls : List Nat), ls.Nodup → (∀ e ∈ ls, e < n) → ls.length ≤ n := by
  intro n
  induction n with
  | zero => intro ls _ h; cases ls with
    | nil => simp
    | cons a r => exact absurd (h a (.head _)) (Nat.not_lt_zero _)
  | succ n ih =>
    intro ls nd h
    have h1 := ih (ls.erase n) (nd.erase n) (fun e he => by
      have h2 := (nd.mem_erase_iff).mp he
      have h3 := h e h2.2
      have := h2.1
      omega)
    rw [List.length_erase] at h1
    split at h1 <;> omega

theorem Ends.snoc {t : Str} {a : Pat} {i j e : Nat} (h1 : Ends t (.star a) i j) (h2 : Ends t a j e) (h3 : j < e) : Ends t (.star a) i e := by
  generalize hp : Pat.star a = p at h1
  induction h1 with
  | sgn => cases hp
  | seq => cases hp
  | altl => cases hp
  | altr => cases hp
  | nil => cases hp; exact .step h2 h3 .nil
  | step u v _ _ ih => cases hp; exact .step u v (ih h2 h3 rfl)

/-- what the search holds: k of the places have been looked at -/
structure StarInv (t : Str) (a : Pat) (i : Nat) (ls : List Nat) (k : Nat) : Prop where
  nodup : ls.Nodup
  mem : i ∈ ls
  sound : ∀ e ∈ ls, Ends t (.star a) i e
  closed : ∀ q < k, ∀ j, ls[q]? = some j → ∀ e, Ends t a j e → e ∈ ls
  le : k ≤ ls.length
theorem StarInv.start {t : Str} {a : Pat} {i : Nat} : StarInv t a i [i] 0 :=
  ⟨by simp, by simp, fun e h => by cases List.mem_singleton.mp h; exact .nil, fun q h => absurd h (Nat.not_lt_zero _), Nat.zero_le _⟩
theorem StarInv.bound {t : Str} {a : Pat} {i k : Nat} {ls : List Nat} (x : StarInv t a i ls k) (w : a.Wf) (hi : i ≤ t.length) {e : Nat} (he : e ∈ ls) : i ≤ e ∧ e ≤ t.length := (x.sound e he).bound (p := .star a) w hi
theorem StarInv.len {t : Str} {a : Pat} {i k : Nat} {ls : List Nat} (x : StarInv t a i ls k) (w : a.Wf) (hi : i ≤ t.length) : ls.length ≤ t.length + 1 :=
  nodup_len _ _ x.nodup fun e he => by have := (x.bound w hi he).2; omega
theorem StarInv.add {t : Str} {a : Pat} {i k j e : Nat} {ls : List Nat} (x : StarInv t a i ls k) (w : a.Wf) (hi : i ≤ t.length) (hj : j ∈ ls) (he : Ends t a j e) (hn : e ∉ ls) : StarInv t a i (ls ++ [e]) k where
  nodup := by
    rw [List.nodup_append]
    refine ⟨x.nodup, by simp, fun u hu v hv => ?_⟩
    cases List.mem_singleton.mp hv
    exact fun z => hn (z ▸ hu)
  mem := List.mem_append_left _ x.mem
  sound := fun u hu => by
    rcases List.mem_append.mp hu with hu | hu
    · exact x.sound u hu
    · cases List.mem_singleton.mp hu
      have h1 := (x.bound w hi hj).2
      have h2 := (he.bound w h1).1
      rcases Nat.lt_or_ge j e with h | h
      · exact (x.sound j hj).snoc he h
      · obtain rfl : j = e := by omega
        exact x.sound j hj
  closed := fun q hq j' hj' u hu => by
    rw [List.getElem?_append_left (Nat.lt_of_lt_of_le hq x.le)] at hj'
    exact List.mem_append_left _ (x.closed q hq j' hj' u hu)
  le := by rw [List.length_append]; exact Nat.le_trans x.le (Nat.le_add_right _ _)
theorem StarInv.all {t : Str} {a : Pat} {i k : Nat} {ls : List Nat} (x : StarInv t a i ls k) (hk : ls.length ≤ k) {e : Nat} : e ∈ ls ↔ Ends t (.star a) i e := by
  refine ⟨x.sound e, fun h => ?_⟩
  have : ∀ {p j e}, Ends t p j e → p = .star a → j ∈ ls → e ∈ ls := by
    intro p j e h
    induction h with
    | sgn => intro q; cases q
    | seq => intro q; cases q
    | altl => intro q; cases q
    | altr => intro q; cases q
    | nil => intro _ h; exact h
    | step u v _ _ ih =>
      intro q hj
      cases q
      obtain ⟨q, hq⟩ := List.mem_iff_getElem?.mp hj
      have hlt : q < ls.length := (List.getElem?_eq_some_iff.mp hq).1
      exact ih rfl (x.closed q (by omega) _ hq _ u)
  exact this h rfl x.mem
end Mine
open PySem PySem.W PySem.Spec PySem.Calls PyProof.Rows
set_option Elab.async false
set_option maxRecDepth 100000
set_option linter.unusedVariables false
namespace Mine
theorem fillEnd1 : PySem.Challenge.rw_gq5008_01 = PySem.Challenge.rw_gq5008_01 ∧ hd.heap_39 = hd.heap_39 := by k_fill; exact ⟨rfl, rfl⟩
local macro_rules | `(tactic| walk_at "call ref") => `(tactic| (k_here; (refine stop ?_)))
local macro_rules | `(tactic| walk_at "exec For") => `(tactic| (k_here; (refine stop ?_)))
local macro_rules | `(tactic| walk_at "exec While") => `(tactic| (k_here; (refine stop ?_)))
local macro_rules | `(tactic| walk_at "eval ListComp") => `(tactic| (k_here; (refine stop ?_)))
local macro_rules | `(tactic| walk_at "subscriptTail Name Slice str ref") => `(tactic| ((with_reducible show wpAny _ _ (subscriptTail _ (Expr.Slice (some _) (some _) none _) _ _) _ _ _); (with_reducible rename Fr _ _ _ _ => F'); (with_reducible rename News _ _ _ _ => N'); (refine slice_strN_ss (hsz := ?hsz) (s := ⟨_, _, _, _, _⟩) F' N' ?_); (case hsz => assumption); intro _ _ _ _ _))

def EndsAt (prog : Program) (w : World) (b0 : Heap) (x : Str) (p : Pat) : Prop :=
  ∀ {A : Around} {l : List Env} {Ty : Addr → Option Str} {s : Shared} {Q E : Value → Shared → Prop} {v : Value} {d i : Nat} {tx ti : Tok}, PatIn b0 s.heap v p → i ≤ x.length → Pre b0 Ty l A s.heap → Room A d → p.cA ≤ d →
    (∀ h' tk a (vs : List Value) (es : List Nat), Ev s.heap h' → b0.StaysIn h' → Inv b0 Ty h' → s.heap.objs.size ≤ a → h'.IsList a vs.toArray → IntsAre vs (es.map Int.ofNat) → (∀ e, e ∈ es ↔ Ends x p i e) → es.length ≤ p.sz x.length →
      Q (.ref a) { s with heap := h', toks := tk }) →
    wpAny (model prog w) A (call (.ref 56) [v, .str x tx, .int i ti]) Q E s

section
variable {prog : Program} {w : World} {b0 : Heap} {mg mb : Str → Option Value} {mean : ExcName → Option Value} {p : Program} {loose : List Str}

theorem ends_sgn (S : Sta w b0 mg mb mean p loose) {x : Str} (hz : x.length ≤ sizeLine) {y : Str} (hw : (Pat.sgn y).Wf) : EndsAt prog w b0 x (.sgn y) := by
  intro A l Ty s Q E v d i tx ti hP hi P r hd hq
  have X := S.X
  have T := S.T
  have C1 := S.C1
  obtain ⟨d0, rfl⟩ : ∃ d0, d = d0 + 1 := ⟨d - 1, by simp [Pat.cA] at hd; omega⟩
  have ho := P.st _ _ (X 56 _ (by k_is))
  have hcd := codeRec_keeps (codeRec_of X (cd := .ref 55) (q := Str.ofString "_law_ends") (by k_is)) P.st
  refine enter_cells (d := d0) (binds := [(Str.ofString "node", v), (Str.ofString "text", .str x tx), (Str.ofString "i", .int i ti)])
    (m := fun y => if y = Str.ofString "i" then some (.int i ti) else none) (cm := fun y => if y = Str.ofString "text" then some (.str x tx) else if y = Str.ofString "node" then some v else none)
    (cells := fun L => [(Str.ofString "text", L + 1 + 1), (Str.ofString "node", L + 1)])
    S P r ho rfl hcd (BindsTo.of_eq (by kernel_rfl)) (by kernel_rfl) (by kernel_rfl) (by kernel_rfl) (fun L => by kernel_rfl) (fun L h₁ tk I kp hcells => ?_)
  clear ho hcd
  obtain ⟨c1, hc1, hd1, hf1⟩ := hcells "node" _ rfl
  obtain ⟨c2, hc2, hd2, hf2⟩ := hcells "text" _ rfl
  replace hd1 : c1.data = .cell (some v) := by rw [hd1]; kernel_rfl
  replace hd2 : c2.data = .cell (some (.str x tx)) := by rw [hd2]; kernel_rfl
  clear hcells hf1 hf2
  have mem : ∀ {b o}, s.heap.get? b = some o → solid o = true → b0.get? b = none → (b, o) ∈ ledger b0 L h₁ := fun e sd n => I.full _ _ (I.ev.sol _ _ e sd) (fun z => by rw [z, I.newL] at e; cases e) n
  cases hP with
  | sgn hn hn0 =>
  rename_i a t0 t1 n
  have hm := mem hn rfl hn0
  clear mem
  have F := I.F
  have N := I.N
  generalize hnw : ledger b0 L h₁ = nw at *
  repeat' (first | (k_unfold; (try dsimp only)) | walk1)
  · rename_i l2 h3 F2 N2 l1
    rename (Txt.slice x (some (i : Int)) (some ((i : Int) + 1)) == y) = true => hh
    obtain ⟨I2, sub⟩ := I.adv F2 N2 (fun p hp => .tail _ hp)
    have g := (N2 _ (.head _)).1
    have hs : hit x y i := by unfold hit; simpa using hh
    refine hq _ _ _ [Value.int ((i : Int) + 1) _] [i + 1] I2.ev I2.st I2.inv (Nat.le_of_lt (Nat.lt_of_le_of_lt (Nat.le_trans I.szE (Nat.le_succ _)) (l1 _ hc1))) ⟨_, g, rfl, _, rfl⟩ (.cons _ _ .nil) (fun e => ?_) (by simp [Pat.sz])
    constructor
    · intro he; cases List.mem_singleton.mp he; exact .sgn hs
    · intro he; cases he; exact List.mem_singleton.mpr rfl
  · rename_i l2 h3 F2 N2 l1
    rename (Txt.slice x (some (i : Int)) (some ((i : Int) + 1)) == y) = false => hh
    obtain ⟨I2, sub⟩ := I.adv F2 N2 (fun p hp => .tail _ hp)
    have g := (N2 _ (.head _)).1
    have hs : ¬ hit x y i := by unfold hit; simpa using hh
    refine hq _ _ _ [] [] I2.ev I2.st I2.inv (Nat.le_of_lt (Nat.lt_of_le_of_lt (Nat.le_trans I.szE (Nat.le_succ _)) (l1 _ hc1))) ⟨_, g, rfl, _, rfl⟩ .nil (fun e => ?_) (by simp [Pat.sz])
    constructor
    · intro he; cases he
    · intro he; cases he with | sgn h => exact absurd h hs
end
end Mine
open PySem PySem.W PySem.Spec PySem.Calls PyProof.Rows
set_option Elab.async false
set_option maxRecDepth 100000
set_option linter.unusedVariables false
namespace Mine
theorem fillEnd2 : PySem.Challenge.rw_gq5008_01 = PySem.Challenge.rw_gq5008_01 ∧ hd.heap_39 = hd.heap_39 := by k_fill; exact ⟨rfl, rfl⟩
local macro_rules | `(tactic| walk_at "call ref") => `(tactic| (k_here; (refine stop ?_)))
local macro_rules | `(tactic| walk_at "exec For") => `(tactic| (k_here; (refine stop ?_)))
local macro_rules | `(tactic| walk_at "exec While") => `(tactic| (k_here; (refine stop ?_)))
local macro_rules | `(tactic| walk_at "exec For Name Call cons nil") => `(tactic| (k_here; (refine stop ?_)))
local macro_rules | `(tactic| walk_at "compareOp NotIn int ref") => `(tactic| (k_here; (refine stop ?_)))
local macro_rules | `(tactic| walk_at "eval ListComp") => `(tactic| (k_here; (refine stop ?_)))

section
variable {prog : Program} {w : World} {b0 : Heap} {mg mb : Str → Option Value} {mean : ExcName → Option Value} {p : Program} {loose : List Str}

theorem each_flat {x : Str} {p2 : Pat} {n : Nat} : ∀ {es1 : List Nat} {ess : List (List Int)}, Each (fun j es => ∃ (jn : Nat) (en : List Nat), j = Int.ofNat jn ∧ es = en.map Int.ofNat ∧ (∀ e, e ∈ en ↔ Ends x p2 jn e) ∧ en.length ≤ n) (es1.map Int.ofNat) ess →
    ∃ ens : List Nat, ess.flatten = ens.map Int.ofNat ∧ (∀ e, e ∈ ens ↔ ∃ j ∈ es1, Ends x p2 j e) ∧ ens.length ≤ es1.length * n := by
  intro es1
  induction es1 with
  | nil => intro ess h; cases h; exact ⟨[], rfl, fun e => by simp, by simp⟩
  | cons a r ih =>
    intro ess h
    cases h with
    | cons h1 h2 =>
      obtain ⟨jn, en, q1, rfl, q3, q4⟩ := h1
      obtain ⟨ens, e1, e2, e3⟩ := ih h2
      obtain rfl : a = jn := by exact Int.ofNat.inj q1
      refine ⟨en ++ ens, by rw [List.flatten_cons, e1, List.map_append], fun e => ?_, by simp only [List.length_append, List.length_cons, Nat.add_mul]; omega⟩
      rw [List.mem_append, q3, e2]
      constructor
      · rintro (h | ⟨j, hj, h⟩)
        · exact ⟨a, .head _, h⟩
        · exact ⟨j, .tail _ hj, h⟩
      · rintro ⟨j, hj, h⟩
        rcases List.mem_cons.mp hj with rfl | hj
        · exact .inl h
        · exact .inr ⟨j, hj, h⟩

theorem ends_seq (S : Sta w b0 mg mb mean p loose) {x : Str} (hz : x.length ≤ sizeLine) {p1 p2 : Pat} (hw : (Pat.seq p1 p2).Wf) (hS : (Pat.seq p1 p2).Small x.length) (ih1 : EndsAt prog w b0 x p1) (ih2 : EndsAt prog w b0 x p2) : EndsAt prog w b0 x (.seq p1 p2) := by
  intro A l Ty s Q E v d i tx ti hP hi P r hd hq
  have X := S.X
  have T := S.T
  have C1 := S.C1
  obtain ⟨d0, rfl⟩ : ∃ d0, d = d0 + 1 := ⟨d - 1, by simp [Pat.cA] at hd; omega⟩
  have ho := P.st _ _ (X 56 _ (by k_is))
  have hcd := codeRec_keeps (codeRec_of X (cd := .ref 55) (q := Str.ofString "_law_ends") (by k_is)) P.st
  refine enter_cells (d := d0) (binds := [(Str.ofString "node", v), (Str.ofString "text", .str x tx), (Str.ofString "i", .int i ti)])
    (m := fun y => if y = Str.ofString "i" then some (.int i ti) else none) (cm := fun y => if y = Str.ofString "text" then some (.str x tx) else if y = Str.ofString "node" then some v else none)
    (cells := fun L => [(Str.ofString "text", L + 1 + 1), (Str.ofString "node", L + 1)])
    S P r ho rfl hcd (BindsTo.of_eq (by kernel_rfl)) (by kernel_rfl) (by kernel_rfl) (by kernel_rfl) (fun L => by kernel_rfl) (fun L h₁ tk I kp hcells => ?_)
  clear ho hcd
  obtain ⟨c1, hc1, hd1, hf1⟩ := hcells "node" _ rfl
  obtain ⟨c2, hc2, hd2, hf2⟩ := hcells "text" _ rfl
  replace hd1 : c1.data = .cell (some v) := by rw [hd1]; kernel_rfl
  replace hd2 : c2.data = .cell (some (.str x tx)) := by rw [hd2]; kernel_rfl
  clear hcells hf1 hf2
  have mem : ∀ {b o}, s.heap.get? b = some o → solid o = true → b0.get? b = none → (b, o) ∈ ledger b0 L h₁ := fun e sd n => I.full _ _ (I.ev.sol _ _ e sd) (fun z => by rw [z, I.newL] at e; cases e) n
  cases hP with
  | seq hn hn0 hp1 hp2 hnull =>
  rename_i a t0 v1 v2 b n
  have hm := mem hn rfl hn0
  clear mem
  have F := I.F
  have N := I.N
  generalize hnw : ledger b0 L h₁ = nw at *
  repeat' (first | (k_unfold; (try dsimp only)) | walk1)
  unfold Stop
  rw [eval_ListComp]
  refine wpAny_comprehension_free (use := none) (cl := [(Str.ofString "text", L + 1 + 1), (Str.ofString "node", L + 1)]) rfl (fun _ => rfl) (by rfl) rfl (by decide) ?_
  show wpAny _ _ (eval (Expr.Call _ _ _ _) _) _ _ _
  repeat' (first | (k_unfold; (try dsimp only)) | walk1)
  refine ih1 (s := ⟨_, _, _, _, _⟩) (d := d0) (hp1.ev I.ev) hi (I.pre P.hA P.hh) r.deeper (by simp only [Pat.cA] at hd; omega) (fun h2 tk2 a1 vs es ev2 st2 inv2 fr2 hl2 hi2 hes hsz => ?_)
  have I2 := I.on ev2 st2 inv2
  refine lc_rest (s := ⟨_, _, _, _, _⟩) (F := fun j es => ∃ (jn : Nat) (en : List Nat), j = Int.ofNat jn ∧ es = en.map Int.ofNat ∧ (∀ e, e ∈ en ↔ Ends x p2 jn e) ∧ en.length ≤ p2.sz x.length) (Bd := p2.sz x.length) P.hh rfl rfl rfl (by decide) (by decide) (fun _ _ => rfl) I2 hl2 hi2 ?_ ?_ ?_ ?_
  · rintro j es ⟨_, en, _, rfl, _, h⟩; simpa using h
  · rw [List.length_map]; exact Nat.le_trans (Nat.mul_le_mul_right _ hsz) hS.2.2
  · intro C s3 nw3 mc3 j t Q3 E3 hj I3 hC hmc ev3 hq3
    obtain ⟨jn, hjn, rfl⟩ := List.mem_map.mp hj
    have hb := ((hes jn).mp hjn).bound hw.1 hi
    obtain ⟨h3, g3, dr3, tk3, os3⟩ := s3
    have hm3 := I3.full _ _ ((ev2.trans ev3).sol _ _ (I.N.get hm) rfl) (fun z => by have := I.N _ hm; exact this.2.1 z) (I.N.fresh hm)
    have hc13 := I3.full _ _ ((ev2.trans ev3).sol _ _ (I.N.get hc1) (solid_cell hd1)) (fun z => by have := I.N _ hc1; exact this.2.1 z) (I.N.fresh hc1)
    have hc23 := I3.full _ _ ((ev2.trans ev3).sol _ _ (I.N.get hc2) (solid_cell hd2)) (fun z => by have := I.N _ hc2; exact this.2.1 z) (I.N.fresh hc2)
    have F3 := I3.F
    have N3 := I3.N
    clear F N
    repeat' (first | (k_unfold; (try dsimp only)) | walk1)
    refine ih2 (s := ⟨_, _, _, _, _⟩) (d := d0) (((hp2.ev I.ev).ev ev2).ev ev3) hb.2 (I3.pre P.hA P.hh) r.deeper (by simp only [Pat.cA] at hd; omega) (fun h4 tk4 a4 vs4 es4 ev4 st4 inv4 fr4 hl4 hi4 hes4 hsz4 => ?_)
    exact hq3 h4 tk4 a4 vs4 _ (I3.on ev4 st4 inv4) ev4 fr4 hl4 hi4 ⟨jn, es4, rfl, rfl, hes4, hsz4⟩
  · intro h3 tk3 D ws ess I3 ev3 fr3 hl3 he3 hi3
    obtain ⟨ens, e1, e2, e3⟩ := each_flat he3
    rw [e1] at hi3
    refine hq _ _ _ ws ens I3.ev I3.st I3.inv (Nat.le_trans (Nat.le_trans I.szE (Nat.le_of_lt I2.F.ns.lt)) fr3) hl3 hi3 (fun e => ?_) (Nat.le_trans e3 (Nat.mul_le_mul_right _ hsz))
    rw [e2]
    constructor
    · rintro ⟨j, hj, he⟩; exact .seq ((hes j).mp hj) he
    · intro he; cases he with | seq h1 h2 => exact ⟨_, (hes _).mpr h1, h2⟩
end
end Mine
open PySem PySem.W PySem.Spec PySem.Calls PyProof.Rows
set_option Elab.async false
set_option maxRecDepth 100000
set_option linter.unusedVariables false
namespace Mine
theorem fillEnd3 : PySem.Challenge.rw_gq5008_01 = PySem.Challenge.rw_gq5008_01 ∧ hd.heap_39 = hd.heap_39 := by k_fill; exact ⟨rfl, rfl⟩
local macro_rules | `(tactic| walk_at "call ref") => `(tactic| (k_here; (refine stop ?_)))
local macro_rules | `(tactic| walk_at "exec For") => `(tactic| (k_here; (refine stop ?_)))
local macro_rules | `(tactic| walk_at "exec While") => `(tactic| (k_here; (refine stop ?_)))
local macro_rules | `(tactic| walk_at "exec For Name Call cons nil") => `(tactic| (k_here; (refine stop ?_)))
local macro_rules | `(tactic| walk_at "compareOp NotIn int ref") => `(tactic| (k_here; (refine stop ?_)))
local macro_rules | `(tactic| walk_at "eval ListComp") => `(tactic| (k_here; (refine stop ?_)))

section
variable {prog : Program} {w : World} {b0 : Heap} {mg mb : Str → Option Value} {mean : ExcName → Option Value} {p : Program} {loose : List Str}

theorem ends_alt (S : Sta w b0 mg mb mean p loose) {x : Str} (hz : x.length ≤ sizeLine) {p1 p2 : Pat} (hw : (Pat.alt p1 p2).Wf) (hS : (Pat.alt p1 p2).Small x.length) (ih1 : EndsAt prog w b0 x p1) (ih2 : EndsAt prog w b0 x p2) : EndsAt prog w b0 x (.alt p1 p2) := by
  intro A l Ty s Q E v d i tx ti hP hi P r hd hq
  have X := S.X
  have T := S.T
  have C1 := S.C1
  obtain ⟨d0, rfl⟩ : ∃ d0, d = d0 + 1 := ⟨d - 1, by simp [Pat.cA] at hd; omega⟩
  have ho := P.st _ _ (X 56 _ (by k_is))
  have hcd := codeRec_keeps (codeRec_of X (cd := .ref 55) (q := Str.ofString "_law_ends") (by k_is)) P.st
  refine enter_cells (d := d0) (binds := [(Str.ofString "node", v), (Str.ofString "text", .str x tx), (Str.ofString "i", .int i ti)])
    (m := fun y => if y = Str.ofString "i" then some (.int i ti) else none) (cm := fun y => if y = Str.ofString "text" then some (.str x tx) else if y = Str.ofString "node" then some v else none)
    (cells := fun L => [(Str.ofString "text", L + 1 + 1), (Str.ofString "node", L + 1)])
    S P r ho rfl hcd (BindsTo.of_eq (by kernel_rfl)) (by kernel_rfl) (by kernel_rfl) (by kernel_rfl) (fun L => by kernel_rfl) (fun L h₁ tk I kp hcells => ?_)
  clear ho hcd
  obtain ⟨c1, hc1, hd1, hf1⟩ := hcells "node" _ rfl
  obtain ⟨c2, hc2, hd2, hf2⟩ := hcells "text" _ rfl
  replace hd1 : c1.data = .cell (some v) := by rw [hd1]; kernel_rfl
  replace hd2 : c2.data = .cell (some (.str x tx)) := by rw [hd2]; kernel_rfl
  clear hcells hf1 hf2
  have mem : ∀ {b o}, s.heap.get? b = some o → solid o = true → b0.get? b = none → (b, o) ∈ ledger b0 L h₁ := fun e sd n => I.full _ _ (I.ev.sol _ _ e sd) (fun z => by rw [z, I.newL] at e; cases e) n
  cases hP with
  | alt hn hn0 hp1 hp2 hnull =>
  rename_i a t0 v1 v2 b n
  have hm := mem hn rfl hn0
  clear mem
  have F := I.F
  have N := I.N
  generalize hnw : ledger b0 L h₁ = nw at *
  repeat' (first | (k_unfold; (try dsimp only)) | walk1)
  refine ih1 (s := ⟨_, _, _, _, _⟩) (d := d0) (hp1.ev I.ev) hi (I.pre P.hA P.hh) r.deeper (by simp only [Pat.cA] at hd; omega) (fun h2 tk2 a1 vs es ev2 st2 inv2 fr2 hl2 hi2 hes hsz => ?_)
  have I2 := I.on ev2 st2 inv2
  have hm2 := I.kept ev2 hm rfl
  have hc12 := I.kept ev2 hc1 (solid_cell hd1)
  have hc22 := I.kept ev2 hc2 (solid_cell hd2)
  have F2 := I2.F
  have N2 := I2.N
  clear F N
  generalize hnw2 : ledger b0 L h2 = nw2 at *
  dsimp only
  repeat' (first | (k_unfold; (try dsimp only)) | walk1)
  refine ih2 (s := ⟨_, _, _, _, _⟩) (d := d0) ((hp2.ev I.ev).ev ev2) hi (I2.pre P.hA P.hh) r.deeper (by simp only [Pat.cA] at hd; omega) (fun h3 tk3 a3 vs3 es3 ev3 st3 inv3 fr3 hl3 hi3 hes3 hsz3 => ?_)
  have I3 := I2.on ev3 st3 inv3
  have hl23 := isList_ev hl2 ev3
  clear F2 N2
  dsimp only
  repeat' (first | (k_unfold; (try dsimp only)) | walk1)
  refine add_lists_ints (s := ⟨_, _, _, _, _⟩) I3.F I3.N hl23 hl3 hi2 hi3 (fun h4 F4 N4 hi4 => ?_) (by
    have e1 := hS.2.2
    simp only [List.length_map]
    exact Nat.le_trans (Nat.add_le_add hsz hsz3) e1)
  obtain ⟨I4, sub⟩ := I3.adv F4 N4 (fun p hp => .tail _ hp)
  have g := (N4 _ (.head _)).1
  have le0 : s.heap.objs.size ≤ h3.objs.size := Nat.le_trans I.szE (Nat.le_of_lt I3.F.ns.lt)
  refine hq _ _ _ (vs ++ vs3) (es ++ es3) I4.ev I4.st I4.inv le0 ⟨_, g, rfl, _, rfl⟩ (by rw [List.map_append]; exact hi4) (fun e => ?_) (by simp only [List.length_append, Pat.sz]; exact Nat.add_le_add hsz hsz3)
  rw [List.mem_append, hes, hes3]
  constructor
  · rintro (h | h)
    · exact .altl h
    · exact .altr h
  · intro h
    cases h with
    | altl h => exact .inl h
    | altr h => exact .inr h
end
end Mine
open PySem PySem.W PySem.Spec PySem.Calls PyProof.Rows
set_option Elab.async false
set_option maxRecDepth 100000
set_option linter.unusedVariables false
namespace Mine
theorem fillEnd4 : PySem.Challenge.rw_gq5008_01 = PySem.Challenge.rw_gq5008_01 ∧ hd.heap_39 = hd.heap_39 := by k_fill; exact ⟨rfl, rfl⟩
local macro_rules | `(tactic| walk_at "call ref") => `(tactic| (k_here; (refine stop ?_)))
local macro_rules | `(tactic| walk_at "exec For") => `(tactic| (k_here; (refine stop ?_)))
local macro_rules | `(tactic| walk_at "exec While") => `(tactic| (k_here; (refine stop ?_)))
local macro_rules | `(tactic| walk_at "exec For Name Call cons nil") => `(tactic| (k_here; (refine stop ?_)))
local macro_rules | `(tactic| walk_at "compareOp NotIn int ref") => `(tactic| (k_here; (refine stop ?_)))
local macro_rules | `(tactic| walk_at "eval ListComp") => `(tactic| (k_here; (refine stop ?_)))

section
variable {prog : Program} {w : World} {b0 : Heap} {mg mb : Str → Option Value} {mean : ExcName → Option Value} {p : Program} {loose : List Str}

def starM (ev : Option Value) (k : Nat) (tkk : Tok) (D : Addr) (i : Nat) (ti : Tok) : Str → Option Value := fun y => if y = Str.ofString "e" then ev else if y = Str.ofString "k" then some (.int k tkk) else if y = Str.ofString "ends" then some (.ref D) else if y = Str.ofString "i" then some (.int i ti) else none
theorem starM0 (tkk : Tok) (D : Addr) (i : Nat) (ti : Tok) : (fun y => if y = Str.ofString "k" then some (.int 0 tkk) else if y = Str.ofString "ends" then some (.ref D) else if y = Str.ofString "i" then some (.int i ti) else none) = starM none 0 tkk D i ti := by
  funext y
  unfold starM
  by_cases h : y = Str.ofString "e"
  · subst h; rfl
  · rw [if_neg h]; rfl
theorem starMk {ev : Option Value} {k k' : Nat} {tkk tk' : Tok} {D : Addr} {i : Nat} {ti : Tok} : (fun y => if y = Str.ofString "k" then some (Value.int k' tk') else starM ev k tkk D i ti y) = starM ev k' tk' D i ti := by
  funext y
  unfold starM
  by_cases h : y = Str.ofString "e"
  · subst h; rfl
  · rw [if_neg h, if_neg h]
    by_cases h2 : y = Str.ofString "k"
    · rw [if_pos h2, if_pos h2]
    · rw [if_neg h2, if_neg h2, if_neg h2]
theorem starMe {ev ev' : Option Value} {k : Nat} {tkk : Tok} {D : Addr} {i : Nat} {ti : Tok} : (fun y => if y = Str.ofString "e" then ev' else starM ev k tkk D i ti y) = starM ev' k tkk D i ti := by
  funext y
  unfold starM
  by_cases h : y = Str.ofString "e"
  · rw [if_pos h, if_pos h]
  · rw [if_neg h, if_neg h, if_neg h]
theorem plainL_ev {h h' : Heap} {a its} (x : PlainL h a its) (ev : Ev h h') : PlainL h' a its :=
  let ⟨o, n, e, c, d, q⟩ := x; ⟨o, n, ev.sol _ _ e (by unfold solid tabB dictB; rw [q]; rfl), c, d, q⟩
theorem own_of {b0 : Heap} {l : List Env} {Ty : Addr → Option Str} {A : Around} {hE : Heap} {L D : Addr} (P : Pre b0 Ty l A hE) (n1 : D ≠ L) (n2 : b0.get? D = none) (ge : hE.objs.size ≤ D) : Own b0 l hE L D :=
  ⟨n1, Heap.get?_none_of_le ge, n2, fun hm => by
    obtain ⟨o, ho, _⟩ := P.fr.dict D hm
    exact Nat.lt_irrefl _ (Nat.lt_of_lt_of_le (Heap.lt_size ho) ge)⟩

theorem ends_star (S : Sta w b0 mg mb mean p loose) {x : Str} (hz : x.length ≤ sizeLine) {p1 : Pat} (hw : (Pat.star p1).Wf) (hS : (Pat.star p1).Small x.length) (ih1 : EndsAt prog w b0 x p1) : EndsAt prog w b0 x (.star p1) := by
  intro A l Ty s Q E v d i tx ti hP hi P r hd hq
  have X := S.X
  have T := S.T
  have C1 := S.C1
  obtain ⟨d0, rfl⟩ : ∃ d0, d = d0 + 1 := ⟨d - 1, by simp [Pat.cA] at hd; omega⟩
  have ho := P.st _ _ (X 56 _ (by k_is))
  have hcd := codeRec_keeps (codeRec_of X (cd := .ref 55) (q := Str.ofString "_law_ends") (by k_is)) P.st
  refine enter_cells (d := d0) (binds := [(Str.ofString "node", v), (Str.ofString "text", .str x tx), (Str.ofString "i", .int i ti)])
    (m := fun y => if y = Str.ofString "i" then some (.int i ti) else none) (cm := fun y => if y = Str.ofString "text" then some (.str x tx) else if y = Str.ofString "node" then some v else none)
    (cells := fun L => [(Str.ofString "text", L + 1 + 1), (Str.ofString "node", L + 1)])
    S P r ho rfl hcd (BindsTo.of_eq (by kernel_rfl)) (by kernel_rfl) (by kernel_rfl) (by kernel_rfl) (fun L => by kernel_rfl) (fun L h₁ tk I kp hcells => ?_)
  clear ho hcd
  obtain ⟨c1, hc1, hd1, hf1⟩ := hcells "node" _ rfl
  obtain ⟨c2, hc2, hd2, hf2⟩ := hcells "text" _ rfl
  replace hd1 : c1.data = .cell (some v) := by rw [hd1]; kernel_rfl
  replace hd2 : c2.data = .cell (some (.str x tx)) := by rw [hd2]; kernel_rfl
  clear hcells hf1 hf2
  have mem : ∀ {b o}, s.heap.get? b = some o → solid o = true → b0.get? b = none → (b, o) ∈ ledger b0 L h₁ := fun e sd n => I.full _ _ (I.ev.sol _ _ e sd) (fun z => by rw [z, I.newL] at e; cases e) n
  cases hP with
  | star hn hn0 hp1 =>
  rename_i a t0 v1 n
  have hm := mem hn rfl hn0
  clear mem
  have F := I.F
  have N := I.N
  generalize hnw : ledger b0 L h₁ = nw at *
  repeat' (first | (k_unfold; (try dsimp only)) | walk1)
  rename_i D h2' lD h3' h2 F2 N2
  obtain ⟨I2, sub2⟩ := I.adv F2 N2 (fun p hp => .tail _ hp)
  have gD := (N2 _ (.head _))
  have geD : s.heap.objs.size ≤ D := Nat.le_of_lt (Nat.lt_of_le_of_lt (Nat.le_trans I.szE (Nat.le_succ _)) (lD _ hc1))
  have OD := own_of P gD.2.1 gD.2.2 geD
  replace hm := hn
  have gc1 := (N2 _ (.tail _ hc1)).1
  have gc2 := (N2 _ (.tail _ hc2)).1
  have fc1 := I.N.fresh hc1
  have fc2 := I.N.fresh hc2
  have nD1 : D ≠ L + 1 := Nat.ne_of_gt (lD _ hc1)
  have nD2 : D ≠ L + 1 + 1 := Nat.ne_of_gt (lD _ hc2)
  rw [starM0] at I2
  clear F2 N2 sub2 hc1 hc2
  refine while_inv (s := ⟨_, _, _, _, _⟩) (fun nn s' => ∃ h tk k tkk ev ls vs, s' = { s with heap := h, toks := tk } ∧ InF b0 Ty l _ s.heap L (starM ev k tkk D i ti) h (ledger b0 L h) ∧ h.get? (L + 1) = some c1 ∧ h.get? (L + 1 + 1) = some c2 ∧
    PlainL h D vs.toArray ∧ IntsAre vs (ls.map Int.ofNat) ∧ StarInv x p1 i ls k ∧ nn = x.length + 1 - k) (n₀ := x.length + 1)
    ⟨h2, _, 0, _, none, [i], [.int i ti], rfl, I2, gc1, gc2, ⟨_, _, gD.1, rfl, rfl, rfl⟩, .cons _ _ .nil, .start, rfl⟩ ?_ PassesOwn.leaving
  clear I2 gc1 gc2 gD
  rintro nn s' ⟨h3, tk3, k, tkk, ev, ls, vs, rfl, I3, gc1, gc2, hpl, hi3, J, rfl⟩
  have hl := hpl.isList
  have F3 := I3.F
  have N3 := I3.N
  have hm3 := I3.full _ _ (I3.ev.sol _ _ hm rfl) (fun z => by rw [z, I3.newL] at hm; cases hm) hn0
  have hc13 := I3.full _ _ gc1 (Nat.succ_ne_self _) fc1
  have hc23 := I3.full _ _ gc2 (Nat.ne_of_gt (Nat.lt_succ_of_lt (Nat.lt_succ_self _))) fc2
  generalize hnw3 : ledger b0 L h3 = nw3 at *
  unfold starM at F3
  repeat' (first | (k_unfold; (try dsimp only)) | walk1)
  have eL : vs.toArray.size = ls.length := by have := hi3.length; simpa using this
  have hlen := J.len hw hi
  have h2S : x.length + 1 ≤ sizeLine := hS.2.2
  have h263 : sizeLine < 2 ^ 63 := by decide
  refine call_len_list (s := ⟨_, _, _, _, _⟩) hl (by rw [eL]; omega) ?_
  rw [eL]
  dsimp only
  repeat' (first | (k_unfold; (try dsimp only)) | walk1)
  · rename (k : Int) < (ls.length : Int) => hkl
    have hkl' : k < ls.length := by omega
    obtain ⟨j, hj⟩ : ∃ j, ls[k]? = some j := ⟨ls[k], List.getElem?_eq_getElem hkl'⟩
    have hjm : j ∈ ls := List.mem_of_getElem? hj
    have hjb := (J.bound hw hi hjm).2
    unfold Stop
    refine wpAny_For ?_
    repeat' (first | (k_unfold; (try dsimp only)) | walk1)
    have ej : List.getD (ls.map Int.ofNat) (Int.toNat (k : Int)) 0 = (j : Int) := by
      rw [List.getD_eq_getElem?_getD, List.getElem?_map, Int.toNat_natCast, hj]; rfl
    rw [ej]
    refine ih1 (s := ⟨_, _, _, _, _⟩) (d := d0) (hp1.ev I3.ev) hjb (I3.pre P.hA P.hh) r.deeper (by simp only [Pat.cA] at hd; omega) (fun h4 tk4 a4 vs4 es4 ev4 st4 inv4 fr4 hl4 hi4 hes4 hsz4 => ?_)
    have I4 := I3.on ev4 st4 inv4
    have hlD4 := plainL_ev hpl ev4
    have gc14 := ev4.sol _ _ gc1 (solid_cell hd1)
    have gc24 := ev4.sol _ _ gc2 (solid_cell hd2)
    refine wpAny_pyIter_list hl4 ?_
    have kp4 : ∀ b o, h4.get? b = some o → (h4.push { cls := .type "list_iterator", data := .fields #[.ref a4, .int 0 0] }).get? b = some o := fun b o e => Heap.get?_push_of_some _ e
    have I5 := I4.keepAll kp4
    have OI := I4.own (a := h4.objs.size) (Nat.le_refl _)
    have hit5 : (h4.push { cls := .type "list_iterator", data := .fields #[.ref a4, .int 0 0] }).IsListIter h4.objs.size a4 0 := ⟨_, Heap.get?_push_size _ rfl, rfl, rfl⟩
    have lt4 : ∀ {b o}, h4.get? b = some o → b ≠ h4.objs.size := fun e => Nat.ne_of_lt (Heap.lt_size e)
    have nD : D ≠ h4.objs.size := by obtain ⟨o, ho, _⟩ := listObj hlD4.isList; exact lt4 ho
    have na : a4 ≠ h4.objs.size := by obtain ⟨o, ho, _⟩ := listObj hl4; exact lt4 ho
    have naD : a4 ≠ D := by
      obtain ⟨o, ho, _⟩ := listObj hl
      exact Nat.ne_of_gt (Nat.lt_of_lt_of_le (Heap.lt_size ho) fr4)
    have nc1 := lt4 gc14
    have nc2 := lt4 gc24
    have naL : a4 ≠ L := Nat.ne_of_gt (Nat.lt_of_lt_of_le I3.F.ns.lt fr4)
    refine for_list (s := ⟨_, _, _, _, _⟩) (a1 := a4) (items := vs4.toArray) P.hh (fun q s' => ∃ h tk ev ls' vs', s' = { s with heap := h, toks := tk } ∧ InF b0 Ty l _ s.heap L (starM ev k tkk D i ti) h (ledger b0 L h) ∧ h.get? (L + 1) = some c1 ∧ h.get? (L + 1 + 1) = some c2 ∧
      PlainL h D vs'.toArray ∧ IntsAre vs' (ls'.map Int.ofNat) ∧ h.IsListIter h4.objs.size a4 q ∧ h.IsList a4 vs4.toArray ∧ StarInv x p1 i ls' k ∧ ls'[k]? = some j ∧ ∀ q' < q, ∀ e, es4[q']? = some e → e ∈ ls')
      ?_ ⟨_, _, ev, ls, vs, rfl, I5, kp4 _ _ gc14, kp4 _ _ gc24, plainL_ev hlD4 (Ev.of_keeps kp4), hi3, hit5, isList_ev hl4 (Ev.of_keeps kp4), J, hj, fun q hq => absurd hq (Nat.not_lt_zero _)⟩ ?_ ?_ PassesOwn.leaving
    · rintro q s' ⟨h, tk, ev, ls', vs', rfl, _, _, _, _, _, r1, r2, _⟩; exact ⟨r1, r2⟩
    · rintro q s' h' hq ⟨h6, tk6, ev6, ls', vs', rfl, I6, gc16, gc26, hl6, hi6, hit6, hl46, J6, hj6, cl6⟩ hx
      have hq' : es4.length ≤ q := by
        have := hi4.length
        simp at hq this
        omega
      obtain ⟨oi, hoi, ti', ci, _⟩ := iterObj hit6
      have I7 := I6.turn OI hoi ti' ci hx
      have gc17 := hx _ _ nc1 gc16
      have gc27 := hx _ _ nc2 gc26
      have hl7 := hl6.extBut hx nD
      have F7 := I7.F
      have N7 := I7.N
      generalize hnw7 : ledger b0 L h' = nw7 at *
      unfold starM at F7
      clear hm3 hc13 hc23
      dsimp only
      repeat' (first | (k_unfold; (try dsimp only)) | walk1)
      refine wpAny_loadName_local (s := ⟨_, _, _, _, _⟩) rfl rfl F7.ns (v := .int k tkk) (by rfl) ?_
      repeat' (first | (k_unfold; (try dsimp only)) | walk1)
      rename_i h8 F8 N8
      obtain ⟨I8, sub8⟩ := I7.adv F8 N8 (fun p hp => hp)
      have hx8 := I7.but F8 N8 (fun p hp => hp)
      unfold Turn
      dsimp only
      refine ⟨x.length + 1 - (k + 1), by omega, h8, _, k + 1, _, ev6, ls', vs', rfl, I8.cm (starMk (k' := k + 1)), hx8 _ _ (Nat.succ_ne_self _) gc17, hx8 _ _ (Nat.ne_of_gt (Nat.lt_succ_of_lt (Nat.lt_succ_self _))) gc27, hl7.extBut hx8 OD.neL, hi6, ?_, rfl⟩
      refine ⟨J6.nodup, J6.mem, J6.sound, fun q2 hq2 j2 hj2 u hu => ?_, ?_⟩
      · rcases Nat.lt_or_ge q2 k with h | h
        · exact J6.closed q2 h j2 hj2 u hu
        · obtain rfl : q2 = k := by omega
          rw [hj6] at hj2
          cases hj2
          obtain ⟨q3, hq3⟩ := List.mem_iff_getElem?.mp ((hes4 u).mpr hu)
          have hlt : q3 < es4.length := (List.getElem?_eq_some_iff.mp hq3).1
          exact cl6 q3 (by omega) u hq3
      · exact (List.getElem?_eq_some_iff.mp hj6).1
    · rintro q v s' h' hv ⟨h6, tk6, ev6, ls', vs', rfl, I6, gc16, gc26, hl6, hi6, hit6, hl46, J6, hj6, cl6⟩ hit7 hx
      obtain ⟨n, t, rfl, hen⟩ := ints_at hi4 (k := q) (v := v) (by simpa using hv)
      obtain ⟨e, he, rfl⟩ : ∃ e, es4[q]? = some e ∧ Int.ofNat e = n := by simpa using hen
      have hee := (hes4 e).mp (List.mem_of_getElem? he)
      obtain ⟨oi, hoi, ti', ci, _⟩ := iterObj hit6
      have I7 := I6.turn OI hoi ti' ci hx
      have gc17 := hx _ _ nc1 gc16
      have gc27 := hx _ _ nc2 gc26
      have hl7 := hl6.extBut hx nD
      have hl47 := hl46.extBut hx na
      have F7 := I7.F
      have N7 := I7.N
      generalize hnw7 : ledger b0 L h' = nw7 at *
      unfold starM at F7
      clear hm3 hc13 hc23
      dsimp only
      repeat' (first | (k_unfold; (try dsimp only)) | walk1)
      rename_i h8 F8 N8
      obtain ⟨I8, sub8⟩ := I7.adv F8 N8 (fun p hp => hp)
      have hx8 := I7.but F8 N8 (fun p hp => hp)
      have hl8 := hl7.extBut hx8 OD.neL
      have hit8 := hit7.extBut hx8 OI.neL
      have hl48 := hl47.extBut hx8 naL
      have gc18 := hx8 _ _ (Nat.succ_ne_self _) gc17
      have gc28 := hx8 _ _ (Nat.ne_of_gt (Nat.lt_succ_of_lt (Nat.lt_succ_self _))) gc27
      replace I8 := I8.cm starMe

      unfold Stop
      refine notin_list_ints (s := ⟨_, _, _, _, _⟩) hl8.isList hi6 ?_
      by_cases hin : e ∈ ls'
      · have hb : (!(ls'.map Int.ofNat).any (· == Int.ofNat e)) = false := by
          simp only [Bool.not_eq_false', List.any_eq_true, List.mem_map]
          exact ⟨_, ⟨e, hin, rfl⟩, by simp⟩
        rw [hb]
        (try dsimp only)
        repeat' (first | (k_unfold; (try dsimp only)) | walk1)
        unfold Turn
        dsimp only
        refine ⟨h8, _, _, ls', vs', rfl, I8, gc18, gc28, hl8, hi6, hit8, hl48, J6, hj6, fun q' hq' u hu => ?_⟩
        rcases Nat.lt_or_ge q' q with h | h
        · exact cl6 q' h u hu
        · obtain rfl : q' = q := by omega
          rw [he] at hu; cases hu; exact hin
      · have hb : (!(ls'.map Int.ofNat).any (· == Int.ofNat e)) = true := by
          simp only [Bool.not_eq_true', List.any_eq_false, List.mem_map]
          rintro _ ⟨u, hu, rfl⟩ hz
          have : u = e := by simp at hz; omega
          exact hin (this ▸ hu)
        rw [hb]
        (try dsimp only)
        repeat' (first | (k_unfold; (try dsimp only)) | walk1)
        have hl8' := hl8
        obtain ⟨oD, nD', hoD, hcD, hdD, hsD⟩ := hl8'
        refine getMethod_list_append (s := ⟨_, _, _, _, _⟩) hoD hcD hdD ?_
        dsimp only
        repeat' (first | (k_unfold; (try dsimp only)) | walk1)
        have hlen6 := J6.len hw hi
        have eL6 : vs'.length = ls'.length := by have := hi6.length; simpa using this
        refine list_append_plainL (s := ⟨_, _, _, _, _⟩) hl8 (fun h9 hl9 hs9 => ?_) (by simp only [List.size_toArray]; omega)
        have I9 := I8.turn OD hoD (by unfold tabB; rw [hsD]) (fun vs q => by rw [hsD] at q; cases q) hs9.extBut
        repeat' (first | (k_unfold; (try dsimp only)) | walk1)
        unfold Turn
        dsimp only
        refine ⟨h9, _, _, ls' ++ [e], vs' ++ [Value.int (Int.ofNat e) t], rfl, I9, hs9.extBut _ _ nD1.symm gc18, hs9.extBut _ _ nD2.symm gc28, by simpa using hl9, by rw [List.map_append]; exact hi6.append (.cons _ _ .nil), hit8.extBut hs9.extBut nD.symm, hl48.extBut hs9.extBut naD, J6.add hw hi (List.mem_of_getElem? hj6) hee hin, ?_, fun q' hq' u hu => ?_⟩
        · rw [List.getElem?_append_left (List.getElem?_eq_some_iff.mp hj6).1]; exact hj6
        · rcases Nat.lt_or_ge q' q with h | h
          · exact List.mem_append_left _ (cl6 q' h u hu)
          · obtain rfl : q' = q := by omega
            rw [he] at hu; cases hu; exact List.mem_append_right _ (.head _)
  · rename ¬ (k : Int) < (ls.length : Int) => hkl
    refine hq h3 _ D vs ls I3.ev I3.st I3.inv geD hl hi3 (fun e => J.all (by omega)) hlen

theorem ends_ok (S : Sta w b0 mg mb mean p loose) {x : Str} (hz : x.length ≤ sizeLine) (p' : Pat) (hw : p'.Wf) (hS : p'.Small x.length) : EndsAt prog w b0 x p' := by
  induction p' with
  | sgn y => exact ends_sgn S hz hw
  | seq a b iha ihb => exact ends_seq S hz hw hS (iha hw.1 hS.1) (ihb hw.2 hS.2.1)
  | alt a b iha ihb => exact ends_alt S hz hw hS (iha hw.1 hS.1) (ihb hw.2 hS.2.1)
  | star a iha => exact ends_star S hz hw hS (iha hw hS.1)
end
end Mine
open PySem PySem.W PySem.Spec PySem.Calls PyProof.Rows
set_option Elab.async false
set_option maxRecDepth 100000
set_option linter.unusedVariables false
namespace Mine
theorem fillPat1 : PySem.Challenge.rw_gq5008_01 = PySem.Challenge.rw_gq5008_01 ∧ hd.heap_39 = hd.heap_39 := by k_fill; exact ⟨rfl, rfl⟩
local macro_rules | `(tactic| walk_at "call ref") => `(tactic| (k_here; (refine stop ?_)))
local macro_rules | `(tactic| walk_at "exec For") => `(tactic| (k_here; (refine stop ?_)))
local macro_rules | `(tactic| walk_at "exec While") => `(tactic| (k_here; (refine stop ?_)))
local macro_rules | `(tactic| walk_at "exec For Name Subscript cons nil") => `(tactic| (k_here; (refine stop ?_)))

def pm (xv ov sv fv : Option Value) (D sa : Addr) : Str → Option Value := fun y => if y = Str.ofString "x" then xv else if y = Str.ofString "op" then ov else if y = Str.ofString "second" then sv else if y = Str.ofString "first" then fv else if y = Str.ofString "stack" then some (.ref D) else List.lookup y (List.reverse [(Str.ofString "script", .ref sa)])
theorem pm0 (D sa : Addr) : (fun y => if y = Str.ofString "stack" then some (.ref D) else List.lookup y (List.reverse [(Str.ofString "script", .ref sa)])) = pm none none none none D sa := by
  funext y
  by_cases h1 : y = Str.ofString "x"; · subst h1; rfl
  by_cases h2 : y = Str.ofString "op"; · subst h2; rfl
  by_cases h3 : y = Str.ofString "second"; · subst h3; rfl
  by_cases h4 : y = Str.ofString "first"; · subst h4; rfl
  unfold pm
  simp only [h1, h2, h3, h4, if_false]
theorem pm2 {xv ov sv fv xv' ov' : Option Value} {D sa : Addr} : (fun y => if y = Str.ofString "op" then ov' else if y = Str.ofString "x" then xv' else pm xv ov sv fv D sa y) = pm xv' ov' sv fv D sa := by
  funext y
  by_cases h1 : y = Str.ofString "x"; · subst h1; rfl
  by_cases h2 : y = Str.ofString "op"; · subst h2; rfl
  unfold pm
  simp only [h1, h2, if_false]
theorem pm4 {xv ov sv fv xv' ov' sv' fv' : Option Value} {D sa : Addr} : (fun y => if y = Str.ofString "first" then fv' else if y = Str.ofString "second" then sv' else if y = Str.ofString "op" then ov' else if y = Str.ofString "x" then xv' else pm xv ov sv fv D sa y) = pm xv' ov' sv' fv' D sa := by
  funext y
  by_cases h1 : y = Str.ofString "x"; · subst h1; rfl
  by_cases h2 : y = Str.ofString "op"; · subst h2; rfl
  by_cases h3 : y = Str.ofString "second"; · subst h3; rfl
  by_cases h4 : y = Str.ofString "first"; · subst h4; rfl
  unfold pm
  simp only [h1, h2, h3, h4, if_false]

/-- the stack of ways: the values from the bottom, the patterns from the top -/
inductive Stk (b0 h : Heap) : List Value → List Pat → Prop
  | nil : Stk b0 h [] []
  | snoc {vs st v p} : Stk b0 h vs st → PatIn b0 h v p → Stk b0 h (vs ++ [v]) (p :: st)
theorem Stk.ev {b0 h h' : Heap} (x : Ev h h') {vs st} (y : Stk b0 h vs st) : Stk b0 h' vs st := by
  induction y with
  | nil => exact .nil
  | snoc _ p ih => exact .snoc ih (p.ev x)
theorem Stk.length {b0 h : Heap} {vs st} (y : Stk b0 h vs st) : vs.length = st.length := by
  induction y with
  | nil => rfl
  | snoc _ p ih => simp [ih]
def tm (tv wv xv ov sv fv : Option Value) (D sa : Addr) : Str → Option Value := fun y => if y = Str.ofString "tree" then tv else if y = Str.ofString "way" then wv else if y = Str.ofString "x" then xv else if y = Str.ofString "op" then ov else if y = Str.ofString "second" then sv else if y = Str.ofString "first" then fv else if y = Str.ofString "stack" then some (.ref D) else List.lookup y (List.reverse [(Str.ofString "script", .ref sa)])
theorem tm0 {tv xv ov sv fv : Option Value} {D sa : Addr} : (fun y => if y = Str.ofString "tree" then tv else pm xv ov sv fv D sa y) = tm tv none xv ov sv fv D sa := by
  funext y
  by_cases h1 : y = Str.ofString "tree"; · subst h1; rfl
  by_cases h2 : y = Str.ofString "way"; · subst h2; rfl
  unfold pm tm
  simp only [h1, h2, if_false]
theorem tm1 {tv wv tv' wv' xv ov sv fv : Option Value} {D sa : Addr} : (fun y => if y = Str.ofString "tree" then tv' else if y = Str.ofString "way" then wv' else tm tv wv xv ov sv fv D sa y) = tm tv' wv' xv ov sv fv D sa := by
  funext y
  by_cases h1 : y = Str.ofString "tree"; · subst h1; rfl
  by_cases h2 : y = Str.ofString "way"; · subst h2; rfl
  unfold tm
  simp only [h1, h2, if_false]
theorem PatIn.but {b0 h h' : Heap} {a : Addr} (hx : Heap.ExtBut a h h') (hn : ∀ its n, h.get? a ≠ some { cls := .type "tuple", data := .seq its n }) {v : Value} {p : Pat} (y : PatIn b0 h v p) : PatIn b0 h' v p := by
  have k : ∀ {b its n}, h.get? b = some { cls := .type "tuple", data := .seq its n } → h'.get? b = some { cls := .type "tuple", data := .seq its n } := fun {b its n} e => hx b _ (fun z => hn its n (z ▸ e)) e
  induction y with
  | sgn e n => exact .sgn (k e) n
  | seq e n _ _ q ih1 ih2 => exact .seq (k e) n ih1 ih2 q
  | alt e n _ _ q ih1 ih2 => exact .alt (k e) n ih1 ih2 q
  | star e n _ ih => exact .star (k e) n ih
theorem Stk.but {b0 h h' : Heap} {a : Addr} (hx : Heap.ExtBut a h h') (hn : ∀ its n, h.get? a ≠ some { cls := .type "tuple", data := .seq its n }) {vs st} (y : Stk b0 h vs st) : Stk b0 h' vs st := by
  induction y with
  | nil => exact .nil
  | snoc _ p ih => exact .snoc ih (p.but hx hn)
theorem not_tup_list {h : Heap} {a : Addr} {its : Array Value} (x : h.IsList a its) : ∀ its n, h.get? a ≠ some { cls := .type "tuple", data := .seq its n } := fun its n z => by
  obtain ⟨o, ho, hc, _⟩ := x
  rw [z] at ho; cases ho
  have hc' : (Value.type "tuple") = Value.type "list" := hc
  exact absurd hc' (by decide)
theorem not_tup_iter {h : Heap} {it a : Addr} {i : Nat} (x : h.IsListIter it a i) : ∀ its n, h.get? it ≠ some { cls := .type "tuple", data := .seq its n } := fun its n z => by
  obtain ⟨o, ho, hc, hd⟩ := x
  rw [z] at ho; cases ho
  cases hd
theorem not_tup_dict {h : Heap} {a : Addr} (x : ∃ o, h.get? a = some o ∧ dictB o = true) : ∀ its n, h.get? a ≠ some { cls := .type "tuple", data := .seq its n } := fun its n z => by
  obtain ⟨o, ho, hd⟩ := x
  rw [z] at ho; cases ho
  cases hd

section
variable {prog : Program} {w : World} {A : Around} {E : Value → Shared → Prop} {s : Shared}
theorem item_last {value slice : Expr} {D : Addr} {vs : List Value} {v : Value} {u : Tok} {Q : Value → Shared → Prop} (hl : s.heap.IsList D (vs ++ [v]).toArray) (h : Q v s)
    (hs : subscripted slice false (.ref D) (.int (-1) u) = operate [.ref D, .int (-1) u] (getItem (.ref D) (.int (-1) u)) := by with_unfolding_all rfl) :
    wpAny (model prog w) A (subscriptTail value slice (.ref D) (.int (-1) u)) Q E s :=
  subscriptTail_builtinR hl.typeIs slot_list_getitem.lookup (wpAny_getItem_list_neg (x := v) (Q := fun r s' => r = v ∧ Q r s') hl (by decide) (by simp; omega) (by decide) (by
    have e : ((-1 : Int) + ((vs ++ [v]).toArray.size : Nat)).toNat = vs.length := by simp; omega
    rw [e]; simp) ⟨rfl, h⟩) hs
theorem flag_ok {value slice : Expr} {b0 : Heap} {v : Value} {p : Pat} {u : Tok} {Q : Value → Shared → Prop} (hP : PatIn b0 s.heap v p) (h : Q (.bool p.null) s)
    (hs : subscripted slice false v (.int 3 u) = operate [v, .int 3 u] (getItem v (.int 3 u)) := by with_unfolding_all rfl) :
    wpAny (model prog w) A (subscriptTail value slice v (.int 3 u)) Q E s := by
  have key : ∀ {a : Addr} {its : Array Value} {n : Nat}, v = .ref a → s.heap.get? a = some { cls := .type "tuple", data := .seq its n } → its.size = 4 → its[3]? = some (.bool p.null) → wpAny (model prog w) A (subscriptTail value slice v (.int 3 u)) Q E s := by
    rintro a its n rfl hg hz hx
    have ht : IsTup s.heap a its := ⟨_, hg, rfl, n, rfl⟩
    exact subscriptTail_builtinR ht.typeIs slot_tuple_getitem.lookup (getItem_tuple (j := 3) (x := .bool p.null) (Q := fun r s' => r = .bool p.null ∧ Q r s') ht (by decide) (by decide) (by rw [hz]; rfl) hx ⟨rfl, h⟩) hs
  cases hP with
  | sgn e n => exact key rfl e rfl rfl
  | seq e n _ _ q => exact key rfl e rfl (by rw [q]; rfl)
  | alt e n _ _ q => exact key rfl e rfl (by rw [q]; rfl)
  | star e n _ => exact key rfl e rfl rfl
theorem spush {D : Addr} {vs : List Value} {v : Value} {Q : Value → Shared → Prop} (hl : s.heap.PlainList D vs.toArray) (hz : vs.length ≤ sizeLine)
    (hQ : ∀ h', h'.PlainList D (vs ++ [v]).toArray → Heap.ExtBut D s.heap h' → Q .none { s with heap := h' }) :
    wpAny (model prog w) A (call (.builtin "list.append") [.ref D, v]) Q E s :=
  wpAny_list_append_plain hl (fun h' x y => hQ h' (by simpa using x) y.extBut) (by simpa using hz)
theorem spop {D : Addr} {vs : List Value} {v : Value} {Q : Value → Shared → Prop} (hl : s.heap.PlainList D (vs ++ [v]).toArray) (hz : vs.length < sizeLine)
    (hQ : ∀ h', h'.PlainList D vs.toArray → Heap.ExtBut D s.heap h' → Q v { s with heap := h' }) :
    wpAny (model prog w) A (call (.builtin "list.pop") [.ref D]) Q E s := by
  obtain ⟨n, ho⟩ := hl
  exact Copied.pop_at ho (y := v) (by simp) (fun h' x y => hQ h' ⟨n + 1, by simpa using y⟩ x.extBut) (by simp; omega)
end

section
variable {prog : Program} {w : World} {b0 : Heap} {mg mb : Str → Option Value} {mean : ExcName → Option Value} {p : Program} {loose : List Str}

theorem pat_ok (S : Sta w b0 mg mb mean p loose) {A : Around} {l : List Env} {Ty : Addr → Option Str} {s : Shared} {Q E : Value → Shared → Prop} {sa : Addr} {vs : List Value} {xs : List Int} {d : Nat} (hl : s.heap.IsList sa vs.toArray) (hi : IntsAre vs xs) (hlen : xs.length ≤ 63)
    (P : Pre b0 Ty l A s.heap) (r : Room A (d + 1))
    (hq : ∀ h' tk v t, Ev s.heap h' → b0.StaysIn h' → Inv b0 Ty h' → PatIn b0 h' v t → t.Wf → t.cA + 4 * t.cB ≤ 260 → t.wt ≤ 14 → (∀ x i e, Ends x sa1 i e → Ends x t i e) → Q v { s with heap := h', toks := tk }) :
    wpAny (model prog w) A (call (.ref 30) [.ref sa]) Q E s := by
  have X := S.X
  have T := S.T
  have C1 := S.C1
  have ho := P.st _ _ (X 30 _ (by k_is))
  have hcd := codeRec_keeps (codeRec_of X (cd := .ref 29) (q := Str.ofString "_law_pattern") (by k_is)) P.st
  refine enter_def (d := d) (binds := [(Str.ofString "script", .ref sa)])
    S P r ho rfl hcd (BindsTo.of_eq (by kernel_rfl)) (by decide) (by kernel_rfl) rfl (fun L h₁ tk I kp => ?_)
  clear ho hcd
  have hl1 := isList_ev hl I.ev
  have F := I.F
  have N := I.N
  generalize hnw : ledger b0 L h₁ = nw at *
  repeat' (first | (k_unfold; (try dsimp only)) | walk1)
  rename_i Da h2 la Db h3 lb D h4 lD h5 F5 N5
  have hsL : sa ≠ L := fun z => by
    obtain ⟨o, ho, _⟩ := hl
    rw [z, I.newL] at ho; cases ho
  have hl5 := hl1.extBut (I.but F5 N5 (fun p hp => .tail _ (.tail _ (.tail _ hp)))) hsL
  unfold Stop
  refine wpAny_For ?_
  repeat' (first | (k_unfold; (try dsimp only)) | walk1)
  rename_i D1 ws h6 F6 N6 hi6 hc6 hlt6 lD1
  obtain ⟨I6, sub6⟩ := I.adv F6 N6 (fun p hp => .tail _ (.tail _ (.tail _ (.tail _ hp))))
  have gD1 := N6 _ (.head _)
  have ga := N6 _ (.tail _ (.tail _ (.tail _ (.head _))))
  have gb := N6 _ (.tail _ (.tail _ (.head _)))
  have gD := N6 _ (.tail _ (.head _))
  dsimp only at ga gb gD gD1
  have nED : s.heap.get? D = none := by
    cases q : s.heap.get? D with
    | none => rfl
    | some o =>
      have h1 := kst_ltOf lD.2.2 (D, o) (by rw [← hnw]; exact mem_ledger.mpr ⟨kp _ _ q, gD.2⟩)
      exact absurd h1 (Nat.lt_irrefl _)
  have OD : Own b0 l s.heap L D := ⟨gD.2.1, nED, gD.2.2, fun hm => by
    obtain ⟨o, ho, _⟩ := P.fr.dict D hm
    rw [nED] at ho; cases ho⟩
  rw [pm0] at I6
  have st6 : Stk b0 h6 [.ref Da, .ref Db] [sb1, sa1] := .snoc (.snoc .nil (.sgn ga.1 ga.2.2)) (.sgn gb.1 gb.2.2)
  have hl6 : h6.IsList D1 ws.toArray := ⟨_, gD1.1, rfl, _, rfl⟩
  have pl6 : h6.PlainList D [.ref Da, .ref Db].toArray := ⟨_, gD.1⟩
  have n1 : D1 ≠ D := Nat.ne_of_gt lD1.1
  have nL1 := gD1.2.1
  clear ga gb lD lb la sub6 gD1 gD lD1
  clear F6 N6
  refine wpAny_pyIter_list hl6 ?_
  have kp6 : ∀ b o, h6.get? b = some o → (h6.push { cls := .type "list_iterator", data := .fields #[.ref D1, .int 0 0] }).get? b = some o := fun b o e => Heap.get?_push_of_some _ e
  have OI := I6.own (a := h6.objs.size) (Nat.le_refl _)
  have I7 := I6.keepAll kp6
  have hit7 : (h6.push { cls := .type "list_iterator", data := .fields #[.ref D1, .int 0 0] }).IsListIter h6.objs.size D1 0 := ⟨_, Heap.get?_push_size _ rfl, rfl, rfl⟩
  have lt6 : ∀ {b o}, h6.get? b = some o → b ≠ h6.objs.size := fun e => Nat.ne_of_lt (Heap.lt_size e)
  have nDI : D ≠ h6.objs.size := by obtain ⟨o, ho, _⟩ := listObj pl6.isList; exact lt6 ho
  have nDI1 : D1 ≠ h6.objs.size := by obtain ⟨o, ho, _⟩ := listObj hl6; exact lt6 ho
  generalize hIt : h6.objs.size = it at *
  refine for_list (s := ⟨_, _, _, _, _⟩) (a1 := D1) (items := ws.toArray) P.hh (fun k s' => ∃ h tk xv ov sv fv vs st, s' = { s with heap := h, toks := tk } ∧ InF b0 Ty l _ s.heap L (pm xv ov sv fv D sa) h (ledger b0 L h) ∧
      h.IsListIter it D1 k ∧ h.IsList D1 ws.toArray ∧ h.PlainList D vs.toArray ∧ Stk b0 h vs st ∧ Reach k st ∧ k ≤ 8)
      ?_ ⟨_, _, none, none, none, none, _, _, rfl, I7, hit7, isList_ev hl6 (Ev.of_keeps kp6), pl6.at (fun o e => kp6 _ _ e), st6.ev (Ev.of_keeps kp6), .init, Nat.zero_le _⟩ ?_ ?_ PassesOwn.leaving
  · rintro k s' ⟨h, tk, xv, ov, sv, fv, vs, st, rfl, _, r1, r2, _⟩; exact ⟨r1, r2⟩
  · rintro k s' h' hv ⟨h8, tk8, xv, ov, sv, fv, vs8, st, rfl, I8, hit8, hl8, pl8, stk8, R8, hk8⟩ hx
    obtain ⟨oi, hoi, ti', ci, _⟩ := iterObj hit8
    have I9 := I8.turn OI hoi ti' ci hx
    have pl9 := pl8.extBut hx nDI
    have stk9 := stk8.but hx (not_tup_iter hit8)
    clear hl8 pl8 stk8 hit8 I8
    have hlen8 := R8.len
    have hcost := reach_cost R8 hk8
    have hwf := patFin_wf st sa1 R8.wf sa1_wf
    have hends : ∀ x i e, Ends x sa1 i e → Ends x (patFin st sa1) i e := fun x i e h => patFin_ends st sa1 h
    have hsl : 16 < sizeLine := by decide
    have h263 : sizeLine < 2 ^ 63 := by decide
    clear R8
    have F9 := I9.F
    have N9 := I9.N
    generalize hnw9 : ledger b0 L h' = nw9 at *
    unfold pm at F9
    dsimp only
    repeat' (first | (k_unfold; (try dsimp only)) | walk1)
    rename_i T h11 lT h12 F12 N12
    have hx12 := I9.but F12 N12 (fun p hp => .tail _ hp)
    obtain ⟨I12, _⟩ := I9.adv F12 N12 (fun p hp => .tail _ hp)
    have pl12 := pl9.extBut hx12 OD.neL
    have stk12 := stk9.but hx12 (not_tup_dict I9.dictL)
    have gT := N12 _ (.head _)
    have pT : PatIn b0 h12 (.ref T) sa1 := .sgn gT.1 gT.2.2
    unfold Stop
    refine while_inv (s := ⟨_, _, _, _, _⟩) (fun n s' => ∃ h tk tv wv vs st' t, s' = { s with heap := h, toks := tk } ∧ InF b0 Ty l _ s.heap L (tm (some tv) wv xv ov sv fv D sa) h (ledger b0 L h) ∧ h.PlainList D vs.toArray ∧ Stk b0 h vs st' ∧ PatIn b0 h tv t ∧ patFin st' t = patFin st sa1 ∧ st'.length ≤ 10 ∧ n = st'.length)
      (n₀ := st.length) ⟨_, _, _, none, _, st, sa1, rfl, I12.cm tm0, pl12, stk12, pT, rfl, by omega, rfl⟩ ?_ PassesOwn.leaving
    clear F12 N12 pT gT stk12 pl12 I12 hx12
    rintro n s' ⟨h, tk, tv, wv, vs, st', t, rfl, I, pl, stk, pt, hfin, hl10, rfl⟩
    have hvl := stk.length
    obtain ⟨at', rfl⟩ := pt.ref
    have F := I.F
    have N := I.N
    generalize hnw : ledger b0 L h = nw at *
    unfold tm at F
    dsimp only
    repeat' (first | (k_unfold; (try dsimp only)) | walk1)
    have eL : vs.toArray.size = st'.length := by simpa using hvl
    refine call_len_list (s := ⟨_, _, _, _, _⟩) pl.isList (by rw [eL]; omega) ?_
    rw [eL]
    dsimp only
    repeat' (first | (k_unfold; (try dsimp only)) | walk1)
    · rename (0 : Int) < _ => hlt
      cases stk with
      | nil => simp at hlt
      | snoc stk0 hp =>
      rename_i vs0 st0 vp pp
      obtain ⟨ap, rfl⟩ := hp.ref
      obtain ⟨nD1, hoD1⟩ := id pl
      refine Copied.getMethod_pop_at (s := ⟨_, _, _, _, _⟩) hoD1 rfl rfl ?_
      repeat' (first | (k_unfold; (try dsimp only)) | walk1)
      refine spop (s := ⟨_, _, _, _, _⟩) pl (by simp at hvl hl10; omega) (fun h1 pl1 hx1 => ?_)
      obtain ⟨oD1, hoD1', tD1, cD1, _⟩ := listObj pl.isList
      have I1 := I.turn OD hoD1' tD1 cD1 hx1
      have stk1 := stk0.but hx1 (not_tup_list pl.isList)
      have hp1 := hp.but hx1 (not_tup_list pl.isList)
      have pt1 := pt.but hx1 (not_tup_list pl.isList)
      have F1 := I1.F
      have N1 := I1.N
      generalize hnw1 : ledger b0 L h1 = nw1 at *
      repeat' (first | (k_unfold; (try dsimp only)) | walk1)
      rename Fr _ _ _ _ => F2
      rename News _ _ _ _ => N2
      have hx2 := I1.but F2 N2 (fun p hp => hp)
      have pt2 := pt1.but hx2 (not_tup_dict I1.dictL)
      have hp2 := hp1.but hx2 (not_tup_dict I1.dictL)
      refine flag_ok (s := ⟨_, _, _, _, _⟩) hp2 ?_
      cases hn1 : pp.null with
      | true =>
        repeat' (first | (k_unfold; (try dsimp only)) | walk1)
        rename_i T hX lT h3 F3 N3
        have hx3 := I1.but F3 N3 (fun p hp => .tail _ hp)
        obtain ⟨I3, _⟩ := I1.adv F3 N3 (fun p hp => .tail _ hp)
        have pl3 := pl1.extBut hx3 OD.neL
        have stk3 := stk1.but hx3 (not_tup_dict I1.dictL)
        have pt3 := pt1.but hx3 (not_tup_dict I1.dictL)
        have hp3 := hp1.but hx3 (not_tup_dict I1.dictL)
        have gT := N3 _ (.head _)
        have pT : PatIn b0 h3 (.ref T) (.alt pp t) := .alt gT.1 gT.2.2 hp3 pt3 (by rw [hn1]; rfl)
        unfold Turn
        dsimp only
        exact ⟨st0.length, by simp, h3, _, _, _, vs0, st0, .alt pp t, rfl, I3.cm tm1, pl3, stk3, pT, hfin, by simp at hl10; omega, rfl⟩
      | false =>
        repeat' (first | (k_unfold; (try dsimp only)) | walk1)
        refine flag_ok (s := ⟨_, _, _, _, _⟩) pt2 ?_
        repeat' (first | (k_unfold; (try dsimp only)) | walk1)
        rename_i T hX lT h3 F3 N3
        have hx3 := I1.but F3 N3 (fun p hp => .tail _ hp)
        obtain ⟨I3, _⟩ := I1.adv F3 N3 (fun p hp => .tail _ hp)
        have pl3 := pl1.extBut hx3 OD.neL
        have stk3 := stk1.but hx3 (not_tup_dict I1.dictL)
        have pt3 := pt1.but hx3 (not_tup_dict I1.dictL)
        have hp3 := hp1.but hx3 (not_tup_dict I1.dictL)
        have gT := N3 _ (.head _)
        have pT : PatIn b0 h3 (.ref T) (.alt pp t) := .alt gT.1 gT.2.2 hp3 pt3 (by rw [hn1]; rfl)
        unfold Turn
        dsimp only
        exact ⟨st0.length, by simp, h3, _, _, _, vs0, st0, .alt pp t, rfl, I3.cm tm1, pl3, stk3, pT, hfin, by simp at hl10; omega, rfl⟩
    · rename ¬ (0 : Int) < _ => hlt
      cases st' with
      | cons a b => simp at hlt
      | nil =>
        have e : t = patFin st sa1 := hfin
        rw [← e] at hcost hwf hends
        exact hq h _ _ t I.ev I.st I.inv pt hwf hcost.1 hcost.2 hends
  · rintro k v s' h' hv ⟨h8, tk8, xv, ov, sv, fv, vs8, st, rfl, I8, hit8, hl8, pl8, stk8, R8, _⟩ hit9 hx
    obtain ⟨n, t, rfl, hen⟩ := ints_at hi6 (k := k) (v := v) (by simpa using hv)
    have hk8 : k < 8 := by
      have := (List.getElem?_eq_some_iff.mp hen).1
      omega
    obtain ⟨oi, hoi, ti', ci, _⟩ := iterObj hit8
    have I9 := I8.turn OI hoi ti' ci hx
    have hl9 := hl8.extBut hx nDI1
    have pl9 := pl8.extBut hx nDI
    have stk9 := stk8.but hx (not_tup_iter hit8)
    clear hl8 pl8 stk8 hit8 I8
    have F9 := I9.F
    have N9 := I9.N
    generalize hnw9 : ledger b0 L h' = nw9 at *
    unfold pm at F9
    have hlen8 := R8.len
    have hvl := stk9.length
    have hz8 : vs8.length ≤ 12 := by omega
    have hsl : 16 < sizeLine := by decide
    dsimp only
    repeat' (first | (k_unfold; (try dsimp only)) | walk1)
    · rename Int.fmod _ 5 < 2 => hop
      rename_i h10 F10 N10 _
      have hx10 := I9.but F10 N10 (fun p hp => hp)
      obtain ⟨I10, _⟩ := I9.adv F10 N10 (fun p hp => hp)
      have pl10 := pl9.extBut hx10 OD.neL
      have hit10 := hit9.extBut hx10 OI.neL
      have hl10 := hl9.extBut hx10 nL1
      have stk10 := stk9.but hx10 (not_tup_dict I9.dictL)
      obtain ⟨nD, hoD⟩ := pl10
      refine getMethod_list_append (s := ⟨_, _, _, _, _⟩) hoD rfl rfl ?_
      clear hit10 hl10 stk10 I10 hx10
      have ho2 : Int.fmod (if n < 0 then -n else n) 5 = 0 ∨ Int.fmod (if n < 0 then -n else n) 5 = 1 := by
        have h1 := Int.fmod_nonneg_of_pos (if n < 0 then -n else n) (by decide : (0 : Int) < 5)
        omega
      generalize hop' : Int.fmod (if n < 0 then -n else n) 5 = op at *
      clear hop'
      rcases ho2 with rfl | rfl
      · repeat' (first | (k_unfold; (try dsimp only)) | walk1)
        rename_i T h12 F12 N12 lT
        have hx12 := I9.but F12 N12 (fun p hp => .tail _ hp)
        obtain ⟨I12, _⟩ := I9.adv F12 N12 (fun p hp => .tail _ hp)
        have pl12 := pl9.extBut hx12 OD.neL
        have hit12 := hit9.extBut hx12 OI.neL
        have hl12 := hl9.extBut hx12 nL1
        have stk12 := stk9.but hx12 (not_tup_dict I9.dictL)
        have gT := N12 _ (.head _)
        have pT : PatIn b0 h12 (.ref T) (sa1) := .sgn gT.1 gT.2.2
        refine spush (s := ⟨_, _, _, _, _⟩) pl12 (by (try simp only [List.length_append] at hz8); omega) (fun h13 pl13 hx13 => ?_)
        obtain ⟨oD, hoD, tD, cD, _⟩ := listObj pl12.isList
        have I13 := I12.turn OD hoD tD cD hx13
        repeat' (first | (k_unfold; (try dsimp only)) | walk1)
        unfold Turn
        dsimp only
        exact ⟨h13, _, _, _, _, _, _, _, rfl, I13.cm pm2, hit12.extBut hx13 nDI.symm, hl12.extBut hx13 n1, pl13, .snoc (stk12.but hx13 (not_tup_list pl12.isList)) (pT.but hx13 (not_tup_list pl12.isList)), .signA R8, hk8⟩
      · repeat' (first | (k_unfold; (try dsimp only)) | walk1)
        rename_i T h12 F12 N12 lT
        have hx12 := I9.but F12 N12 (fun p hp => .tail _ hp)
        obtain ⟨I12, _⟩ := I9.adv F12 N12 (fun p hp => .tail _ hp)
        have pl12 := pl9.extBut hx12 OD.neL
        have hit12 := hit9.extBut hx12 OI.neL
        have hl12 := hl9.extBut hx12 nL1
        have stk12 := stk9.but hx12 (not_tup_dict I9.dictL)
        have gT := N12 _ (.head _)
        have pT : PatIn b0 h12 (.ref T) (sb1) := .sgn gT.1 gT.2.2
        refine spush (s := ⟨_, _, _, _, _⟩) pl12 (by (try simp only [List.length_append] at hz8); omega) (fun h13 pl13 hx13 => ?_)
        obtain ⟨oD, hoD, tD, cD, _⟩ := listObj pl12.isList
        have I13 := I12.turn OD hoD tD cD hx13
        repeat' (first | (k_unfold; (try dsimp only)) | walk1)
        unfold Turn
        dsimp only
        exact ⟨h13, _, _, _, _, _, _, _, rfl, I13.cm pm2, hit12.extBut hx13 nDI.symm, hl12.extBut hx13 n1, pl13, .snoc (stk12.but hx13 (not_tup_list pl12.isList)) (pT.but hx13 (not_tup_list pl12.isList)), .signB R8, hk8⟩
    · rename Fr _ _ _ _ => F10
      rename News _ _ _ _ => N10
      have hx10 := I9.but F10 N10 (fun p hp => hp)
      obtain ⟨I10, _⟩ := I9.adv F10 N10 (fun p hp => hp)
      have pl10 := pl9.extBut hx10 OD.neL
      have hit10 := hit9.extBut hx10 OI.neL
      have hl10 := hl9.extBut hx10 nL1
      have stk10 := stk9.but hx10 (not_tup_dict I9.dictL)
      cases stk10 with
      | nil => simp at hlen8
      | snoc stk0 hpv =>
      rename_i vs0 st0 v0 p0
      refine item_last (s := ⟨_, _, _, _, _⟩) pl10.isList ?_
      repeat' (first | (k_unfold; (try dsimp only)) | walk1)
      refine flag_ok (s := ⟨_, _, _, _, _⟩) hpv ?_
      cases hnull : p0.null with
      | true =>
        repeat' (first | (k_unfold; (try dsimp only)) | walk1)
        unfold Turn
        dsimp only
        exact ⟨_, _, _, _, _, _, _, _, rfl, I10.cm pm2, hit10, hl10, pl10, .snoc stk0 hpv, .skip R8, hk8⟩
      | false =>
        repeat' (first | (k_unfold; (try dsimp only)) | walk1)
        obtain ⟨nD, hoD⟩ := id pl10
        refine getMethod_list_append (s := ⟨_, _, _, _, _⟩) hoD rfl rfl ?_
        repeat' (first | (k_unfold; (try dsimp only)) | walk1)
        obtain ⟨nD10, hoD10⟩ := id pl10
        refine Copied.getMethod_pop_at (s := ⟨_, _, _, _, _⟩) hoD10 rfl rfl ?_
        repeat' (first | (k_unfold; (try dsimp only)) | walk1)
        refine spop (s := ⟨_, _, _, _, _⟩) pl10 (by simp only [List.length_append] at hz8; omega) (fun h11 pl11 hx11 => ?_)
        obtain ⟨oD10, hoD10', tD10, cD10, _⟩ := listObj pl10.isList
        have I11 := I10.turn OD hoD10' tD10 cD10 hx11
        have hit11 := hit10.extBut hx11 nDI.symm
        have hl11 := hl10.extBut hx11 n1
        have stk11 := stk0.but hx11 (not_tup_list pl10.isList)
        replace hpv := hpv.but hx11 (not_tup_list pl10.isList)
        have F11 := I11.F
        have N11 := I11.N
        generalize hnw11 : ledger b0 L h11 = nw11 at *
        repeat' (first | (k_unfold; (try dsimp only)) | walk1)
        rename_i T h12 F12 N12 lT
        have hx12 := I11.but F12 N12 (fun p hp => .tail _ hp)
        obtain ⟨I12, _⟩ := I11.adv F12 N12 (fun p hp => .tail _ hp)
        have pl12 := pl11.extBut hx12 OD.neL
        have hit12 := hit11.extBut hx12 OI.neL
        have hl12 := hl11.extBut hx12 nL1
        have stk12 := stk11.but hx12 (not_tup_dict I11.dictL)
        replace hpv := hpv.but hx12 (not_tup_dict I11.dictL)
        have gT := N12 _ (.head _)
        have pT : PatIn b0 h12 (.ref T) (.star p0) := .star gT.1 gT.2.2 hpv
        refine spush (s := ⟨_, _, _, _, _⟩) pl12 (by (try simp only [List.length_append] at hz8); omega) (fun h13 pl13 hx13 => ?_)
        obtain ⟨oD, hoD, tD, cD, _⟩ := listObj pl12.isList
        have I13 := I12.turn OD hoD tD cD hx13
        repeat' (first | (k_unfold; (try dsimp only)) | walk1)
        unfold Turn
        dsimp only
        exact ⟨h13, _, _, _, _, _, _, _, rfl, I13.cm pm2, hit12.extBut hx13 nDI.symm, hl12.extBut hx13 n1, pl13, .snoc (stk12.but hx13 (not_tup_list pl12.isList)) (pT.but hx13 (not_tup_list pl12.isList)), .star R8 hnull, hk8⟩
    · rename Fr _ _ _ _ => F10
      rename News _ _ _ _ => N10
      have hx10 := I9.but F10 N10 (fun p hp => hp)
      obtain ⟨I10, _⟩ := I9.adv F10 N10 (fun p hp => hp)
      have pl10 := pl9.extBut hx10 OD.neL
      have hit10 := hit9.extBut hx10 OI.neL
      have hl10 := hl9.extBut hx10 nL1
      have stk10 := stk9.but hx10 (not_tup_dict I9.dictL)
      have eL : vs8.toArray.size = st.length := by simpa using hvl
      refine call_len_list (s := ⟨_, _, _, _, _⟩) pl10.isList (by rw [eL]; have h263 : sizeLine < 2 ^ 63 := by decide
                                                                  omega) ?_
      rw [eL]
      dsimp only
      repeat' (first | (k_unfold; (try dsimp only)) | walk1)
      · rename (1 : Int) < _ => hlt
        cases stk10 with
        | nil => simp at hlen8
        | snoc stk1 hq =>
        cases stk1 with
        | nil => simp at hlt
        | snoc stk0 hp =>
        rename_i vt pt vs0 st0 vf pf
        repeat' (first | (k_unfold; (try dsimp only)) | walk1)
        obtain ⟨nD10, hoD10⟩ := id pl10
        refine Copied.getMethod_pop_at (s := ⟨_, _, _, _, _⟩) hoD10 rfl rfl ?_
        repeat' (first | (k_unfold; (try dsimp only)) | walk1)
        refine spop (s := ⟨_, _, _, _, _⟩) pl10 (by simp only [List.length_append] at hz8; (try simp only [List.length_append]); omega) (fun h11 pl11 hx11 => ?_)
        obtain ⟨oD10, hoD10', tD10, cD10, _⟩ := listObj pl10.isList
        have I11 := I10.turn OD hoD10' tD10 cD10 hx11
        have hit11 := hit10.extBut hx11 nDI.symm
        have hl11 := hl10.extBut hx11 n1
        have stk11 := stk0.but hx11 (not_tup_list pl10.isList)
        replace hp := hp.but hx11 (not_tup_list pl10.isList)
        replace hq := hq.but hx11 (not_tup_list pl10.isList)
        have F11 := I11.F
        have N11 := I11.N
        generalize hnw11 : ledger b0 L h11 = nw11 at *
        repeat' (first | (k_unfold; (try dsimp only)) | walk1)
        rename Fr _ _ _ _ => F12
        rename News _ _ _ _ => N12
        have hx12 := I11.but F12 N12 (fun p hp => hp)
        obtain ⟨I12, _⟩ := I11.adv F12 N12 (fun p hp => hp)
        have pl12 := pl11.extBut hx12 OD.neL
        have hit12 := hit11.extBut hx12 OI.neL
        have hl12 := hl11.extBut hx12 nL1
        have stk12 := stk11.but hx12 (not_tup_dict I11.dictL)
        replace hp := hp.but hx12 (not_tup_dict I11.dictL)
        replace hq := hq.but hx12 (not_tup_dict I11.dictL)
        obtain ⟨nD12, hoD12⟩ := id pl12
        refine Copied.getMethod_pop_at (s := ⟨_, _, _, _, _⟩) hoD12 rfl rfl ?_
        repeat' (first | (k_unfold; (try dsimp only)) | walk1)
        refine spop (s := ⟨_, _, _, _, _⟩) pl12 (by simp only [List.length_append] at hz8; (try simp only [List.length_append]); omega) (fun h13 pl13 hx13 => ?_)
        obtain ⟨oD12, hoD12', tD12, cD12, _⟩ := listObj pl12.isList
        have I13 := I12.turn OD hoD12' tD12 cD12 hx13
        have hit13 := hit12.extBut hx13 nDI.symm
        have hl13 := hl12.extBut hx13 n1
        have stk13 := stk12.but hx13 (not_tup_list pl12.isList)
        replace hp := hp.but hx13 (not_tup_list pl12.isList)
        replace hq := hq.but hx13 (not_tup_list pl12.isList)
        have F13 := I13.F
        have N13 := I13.N
        generalize hnw13 : ledger b0 L h13 = nw13 at *
        repeat' (first | (k_unfold; (try dsimp only)) | walk1)
        · rename Fr _ _ _ _ => F14
          rename News _ _ _ _ => N14
          have hx14 := I13.but F14 N14 (fun p hp => hp)
          obtain ⟨I14, _⟩ := I13.adv F14 N14 (fun p hp => hp)
          have pl14 := pl13.extBut hx14 OD.neL
          have hit14 := hit13.extBut hx14 OI.neL
          have hl14 := hl13.extBut hx14 nL1
          have stk14 := stk13.but hx14 (not_tup_dict I13.dictL)
          obtain ⟨af, rfl⟩ := hp.ref
          obtain ⟨at', rfl⟩ := hq.ref
          have hp13 := hp
          have hq13 := hq
          replace hp := hp.but hx14 (not_tup_dict I13.dictL)
          replace hq := hq.but hx14 (not_tup_dict I13.dictL)
          obtain ⟨nD14, hoD14⟩ := id pl14
          refine getMethod_list_append (s := ⟨_, _, _, _, _⟩) hoD14 rfl rfl ?_
          repeat' (first | (k_unfold; (try dsimp only)) | walk1)
          refine flag_ok (s := ⟨_, _, _, _, _⟩) hp ?_
          cases hn1 : pf.null with
          | true =>
            repeat' (first | (k_unfold; (try dsimp only)) | walk1)
            refine flag_ok (s := ⟨_, _, _, _, _⟩) hq ?_
            repeat' (first | (k_unfold; (try dsimp only)) | walk1)
            rename_i T h15 F15 N15 lT
            have hx15 := I13.but F15 N15 (fun p hp => .tail _ hp)
            obtain ⟨I15, _⟩ := I13.adv F15 N15 (fun p hp => .tail _ hp)
            have pl15 := pl13.extBut hx15 OD.neL
            have hit15 := hit13.extBut hx15 OI.neL
            have hl15 := hl13.extBut hx15 nL1
            have stk15 := stk13.but hx15 (not_tup_dict I13.dictL)
            replace hp := hp13.but hx15 (not_tup_dict I13.dictL)
            replace hq := hq13.but hx15 (not_tup_dict I13.dictL)
            have gT := N15 _ (.head _)
            have pT : PatIn b0 h15 (.ref T) (.seq pf pt) := .seq gT.1 gT.2.2 hp hq (by rw [hn1]; rfl)
            refine spush (s := ⟨_, _, _, _, _⟩) pl15 (by (try simp only [List.length_append] at hz8); omega) (fun h99 pl99 hx99 => ?_)
            obtain ⟨oD, hoD, tD, cD, _⟩ := listObj pl15.isList
            have I99 := I15.turn OD hoD tD cD hx99
            repeat' (first | (k_unfold; (try dsimp only)) | walk1)
            unfold Turn
            dsimp only
            exact ⟨h99, _, _, _, _, _, _, _, rfl, I99.cm pm4, hit15.extBut hx99 nDI.symm, hl15.extBut hx99 n1, pl99, .snoc (stk15.but hx99 (not_tup_list pl15.isList)) (pT.but hx99 (not_tup_list pl15.isList)), .seq R8, hk8⟩
          | false =>
            repeat' (first | (k_unfold; (try dsimp only)) | walk1)
            rename_i T h15 F15 N15 lT
            have hx15 := I13.but F15 N15 (fun p hp => .tail _ hp)
            obtain ⟨I15, _⟩ := I13.adv F15 N15 (fun p hp => .tail _ hp)
            have pl15 := pl13.extBut hx15 OD.neL
            have hit15 := hit13.extBut hx15 OI.neL
            have hl15 := hl13.extBut hx15 nL1
            have stk15 := stk13.but hx15 (not_tup_dict I13.dictL)
            replace hp := hp13.but hx15 (not_tup_dict I13.dictL)
            replace hq := hq13.but hx15 (not_tup_dict I13.dictL)
            have gT := N15 _ (.head _)
            have pT : PatIn b0 h15 (.ref T) (.seq pf pt) := .seq gT.1 gT.2.2 hp hq (by rw [hn1]; rfl)
            refine spush (s := ⟨_, _, _, _, _⟩) pl15 (by (try simp only [List.length_append] at hz8); omega) (fun h99 pl99 hx99 => ?_)
            obtain ⟨oD, hoD, tD, cD, _⟩ := listObj pl15.isList
            have I99 := I15.turn OD hoD tD cD hx99
            repeat' (first | (k_unfold; (try dsimp only)) | walk1)
            unfold Turn
            dsimp only
            exact ⟨h99, _, _, _, _, _, _, _, rfl, I99.cm pm4, hit15.extBut hx99 nDI.symm, hl15.extBut hx99 n1, pl99, .snoc (stk15.but hx99 (not_tup_list pl15.isList)) (pT.but hx99 (not_tup_list pl15.isList)), .seq R8, hk8⟩
        · rename Fr _ _ _ _ => F14
          rename News _ _ _ _ => N14
          have hx14 := I13.but F14 N14 (fun p hp => hp)
          obtain ⟨I14, _⟩ := I13.adv F14 N14 (fun p hp => hp)
          have pl14 := pl13.extBut hx14 OD.neL
          have hit14 := hit13.extBut hx14 OI.neL
          have hl14 := hl13.extBut hx14 nL1
          have stk14 := stk13.but hx14 (not_tup_dict I13.dictL)
          obtain ⟨af, rfl⟩ := hp.ref
          obtain ⟨at', rfl⟩ := hq.ref
          have hp13 := hp
          have hq13 := hq
          replace hp := hp.but hx14 (not_tup_dict I13.dictL)
          replace hq := hq.but hx14 (not_tup_dict I13.dictL)
          obtain ⟨nD14, hoD14⟩ := id pl14
          refine getMethod_list_append (s := ⟨_, _, _, _, _⟩) hoD14 rfl rfl ?_
          repeat' (first | (k_unfold; (try dsimp only)) | walk1)
          refine flag_ok (s := ⟨_, _, _, _, _⟩) hp ?_
          cases hn1 : pf.null with
          | true =>
            repeat' (first | (k_unfold; (try dsimp only)) | walk1)
            rename_i T h15 F15 N15 lT
            have hx15 := I13.but F15 N15 (fun p hp => .tail _ hp)
            obtain ⟨I15, _⟩ := I13.adv F15 N15 (fun p hp => .tail _ hp)
            have pl15 := pl13.extBut hx15 OD.neL
            have hit15 := hit13.extBut hx15 OI.neL
            have hl15 := hl13.extBut hx15 nL1
            have stk15 := stk13.but hx15 (not_tup_dict I13.dictL)
            replace hp := hp13.but hx15 (not_tup_dict I13.dictL)
            replace hq := hq13.but hx15 (not_tup_dict I13.dictL)
            have gT := N15 _ (.head _)
            have pT : PatIn b0 h15 (.ref T) (.alt pf pt) := .alt gT.1 gT.2.2 hp hq (by rw [hn1]; rfl)
            refine spush (s := ⟨_, _, _, _, _⟩) pl15 (by (try simp only [List.length_append] at hz8); omega) (fun h99 pl99 hx99 => ?_)
            obtain ⟨oD, hoD, tD, cD, _⟩ := listObj pl15.isList
            have I99 := I15.turn OD hoD tD cD hx99
            repeat' (first | (k_unfold; (try dsimp only)) | walk1)
            unfold Turn
            dsimp only
            exact ⟨h99, _, _, _, _, _, _, _, rfl, I99.cm pm4, hit15.extBut hx99 nDI.symm, hl15.extBut hx99 n1, pl99, .snoc (stk15.but hx99 (not_tup_list pl15.isList)) (pT.but hx99 (not_tup_list pl15.isList)), .alt R8, hk8⟩
          | false =>
            repeat' (first | (k_unfold; (try dsimp only)) | walk1)
            refine flag_ok (s := ⟨_, _, _, _, _⟩) hq ?_
            repeat' (first | (k_unfold; (try dsimp only)) | walk1)
            rename_i T h15 F15 N15 lT
            have hx15 := I13.but F15 N15 (fun p hp => .tail _ hp)
            obtain ⟨I15, _⟩ := I13.adv F15 N15 (fun p hp => .tail _ hp)
            have pl15 := pl13.extBut hx15 OD.neL
            have hit15 := hit13.extBut hx15 OI.neL
            have hl15 := hl13.extBut hx15 nL1
            have stk15 := stk13.but hx15 (not_tup_dict I13.dictL)
            replace hp := hp13.but hx15 (not_tup_dict I13.dictL)
            replace hq := hq13.but hx15 (not_tup_dict I13.dictL)
            have gT := N15 _ (.head _)
            have pT : PatIn b0 h15 (.ref T) (.alt pf pt) := .alt gT.1 gT.2.2 hp hq (by rw [hn1]; rfl)
            refine spush (s := ⟨_, _, _, _, _⟩) pl15 (by (try simp only [List.length_append] at hz8); omega) (fun h99 pl99 hx99 => ?_)
            obtain ⟨oD, hoD, tD, cD, _⟩ := listObj pl15.isList
            have I99 := I15.turn OD hoD tD cD hx99
            repeat' (first | (k_unfold; (try dsimp only)) | walk1)
            unfold Turn
            dsimp only
            exact ⟨h99, _, _, _, _, _, _, _, rfl, I99.cm pm4, hit15.extBut hx99 nDI.symm, hl15.extBut hx99 n1, pl99, .snoc (stk15.but hx99 (not_tup_list pl15.isList)) (pT.but hx99 (not_tup_list pl15.isList)), .alt R8, hk8⟩
      · unfold Turn
        dsimp only
        exact ⟨_, _, _, _, _, _, _, _, rfl, I10.cm pm2, hit10, hl10, pl10, stk10, .skip R8, hk8⟩
end
end Mine
open PySem PySem.W PySem.Spec PySem.Calls PyProof.Rows
set_option Elab.async false
set_option maxRecDepth 100000
set_option linter.unusedVariables false
namespace Mine
section
variable {prog : Program} {w : World} {A : Around} {E : Value → Shared → Prop} {Q : Flow → Shared → Prop} {s : Shared} {env : Env}
theorem for_tup {x : Str} {px : Pos} {body : List Stmt} {it a1 : Addr} {items : Array Value} (hh : A.handled = none) (J : Nat → Shared → Prop) (hJ : ∀ k s', J k s' → s'.heap.IsTupleIter it a1 k ∧ s'.heap.IsTuple a1 items)
    (h0 : J 0 s) (hend : ∀ k s' h', items[k]? = none → J k s' → Heap.ExtBut it s'.heap h' → Q .next { s' with heap := h' })
    (turn : ∀ k v s' h', items[k]? = some v → J k s' → h'.IsTupleIter it a1 (k + 1) → Heap.ExtBut it s'.heap h' → wpAny (model prog w) A (assign (.Name x px) env v) (fun _ s₂ => wpAny (model prog w) A (execs body env) (Turn (J (k + 1)) Q) E s₂) E { s' with heap := h' })
    (hE : PassesOwn (model prog w) A env E) :
    codeAny (model prog w) A (.forLoop (.Name x px) (.ref it) body [] env) (fun r s' => match r with | .ok f => Q f s' | .error e => cameBackBy (model prog w) A env E e s') s := by
  refine codeAny_forLoop (fun n s' => ∃ k, n = items.size + 1 - k ∧ k ≤ items.size ∧ J k s') ?_ _ ⟨0, rfl, Nat.zero_le _, h0⟩
  rintro n s' ⟨k, rfl, hk, hJk⟩
  obtain ⟨h1, h2⟩ := hJ k s' hJk
  cases hv : items[k]? with
  | none =>
    refine wpAny_pyNext_tuple_end hh h1 h2 hv fun h' hx => ?_
    exact wpAny_execs_nil (hend k s' h' hv hJk hx)
  | some v =>
    refine wpAny_pyNext_tuple_item h1 h2 hv fun h' hit hs => ?_
    refine wpAny_mono (turn k v s' h' hv hJk hit hs.extBut) (fun _ s₂ h₂ => ?_) hE
    refine wpAny_mono h₂ (fun f s₃ h₃ => ?_) hE
    have hlt : k < items.size := (Array.getElem?_eq_some_iff.mp hv).1
    cases f with
    | next => exact ⟨items.size + 1 - (k + 1), by omega, k + 1, rfl, by omega, h₃⟩
    | cont => exact ⟨items.size + 1 - (k + 1), by omega, k + 1, rfl, by omega, h₃⟩
    | brk => exact h₃
    | ret v => exact h₃
end
theorem InF.store {b0 h h' : Heap} {Ty : Addr → Option Str} {l : List Env} {env : Env} {hE : Heap} {L : Addr} {m m' : Str → Option Value} {nw : List (Addr × Obj)} (I : InF b0 Ty l env hE L m h nw) (hn : h'.Ns L m') (hs : Heap.SameBut L h h') : InF b0 Ty l env hE L m' h' (ledger b0 L h') :=
  I.ext ⟨hn, fun b o e => hs.extBut b o (fun z => by rw [z, I.noL] at e; cases e) (I.st b o e), I.F.above⟩ hs.extBut
theorem tupIterObj {h : Heap} {it a i} (x : h.IsTupleIter it a i) : ∃ o, h.get? it = some o ∧ tabB o = false ∧ (∀ vs, o.data = .fields vs → o.cls ≠ .type "code") ∧ dictB o = false := by
  obtain ⟨o, ho, hc, hd⟩ := x
  refine ⟨o, ho, ?_, fun _ _ => by rw [hc]; decide, ?_⟩
  · unfold tabB; rw [hd, hc]; rfl
  · unfold dictB; rw [hd]
theorem tupIter_ev {h h' : Heap} {it a i} (x : h.IsTupleIter it a i) (ev : Ev h h') : h'.IsTupleIter it a i := by
  obtain ⟨o, ho, hc, hd⟩ := x
  exact ⟨o, ev.sol _ _ ho (by unfold solid tabB dictB; rw [hd, hc]; rfl), hc, hd⟩
theorem tup_ev {h h' : Heap} {a its} (x : h.IsTuple a its) (ev : Ev h h') : h'.IsTuple a its := by
  obtain ⟨o, ho, hc, n, hd⟩ := x
  exact ⟨o, ev.sol _ _ ho (by unfold solid tabB dictB; rw [hd]; rfl), hc, n, hd⟩
theorem told_m {M : Str → Option Value} : M = (fun y => if y = Str.ofString "told" then M (Str.ofString "told") else M y) := by
  funext y
  by_cases h : y = Str.ofString "told"
  · subst h; rfl
  · rw [if_neg h]
theorem told_s {M : Str → Option Value} {v v' : Option Value} : (fun y => if y = Str.ofString "told" then v' else if y = Str.ofString "told" then v else M y) = (fun y => if y = Str.ofString "told" then v' else M y) := by
  funext y
  by_cases h : y = Str.ofString "told"
  · rw [if_pos h, if_pos h]
  · rw [if_neg h, if_neg h, if_neg h]
end Mine
namespace Mine
theorem InF.told {b0 h : Heap} {Ty : Addr → Option Str} {l : List Env} {env : Env} {hE : Heap} {L : Addr} {m : Str → Option Value} {nw : List (Addr × Obj)} (I : InF b0 Ty l env hE L m h nw) :
    ∃ (M1 : Str → Option Value) (tv : Option Value), InF b0 Ty l env hE L (fun y => if y = Str.ofString "told" then tv else M1 y) h nw := by
  refine ⟨m, m (Str.ofString "told"), ?_⟩
  rw [← told_m]; exact I
theorem not_tup_titer {h : Heap} {it a : Addr} {i : Nat} (x : h.IsTupleIter it a i) : ∀ its n, h.get? it ≠ some { cls := .type "tuple", data := .seq its n } := fun its n z => by
  obtain ⟨o, ho, hc, hd⟩ := x
  rw [z] at ho; cases ho
  cases hd
theorem not_tup_cell {h : Heap} {a : Addr} {o : Obj} {v : Option Value} (x : h.get? a = some o) (hd : o.data = .cell v) : ∀ its n, h.get? a ≠ some { cls := .type "tuple", data := .seq its n } := fun its n z => by
  rw [z] at x; cases x
  cases hd
end Mine
open PySem PySem.W PySem.Spec PySem.Calls PyProof.Rows
set_option Elab.async false
set_option maxRecDepth 100000
set_option maxHeartbeats 8000000
set_option linter.unusedVariables false
namespace Mine
local macro_rules | `(tactic| walk_at "call ref") => `(tactic| (k_here; (refine stop ?_)))
local macro_rules | `(tactic| walk_at "exec For") => `(tactic| (k_here; (refine stop ?_)))
local macro_rules | `(tactic| walk_at "exec For Name BinOp cons nil") => `(tactic| (k_here; (refine stop ?_)))
local macro_rules | `(tactic| walk_at "exec While") => `(tactic| (k_here; (refine stop ?_)))
local macro_rules | `(tactic| walk_at "eval Lambda") => `(tactic| (k_here; (refine stop ?_)))
local macro_rules | `(tactic| walk_at "storeName") => `(tactic| (k_here; (refine stop ?_)))
local macro_rules | `(tactic| walk_at "call builtin:str.join") => `(tactic| (k_here; (refine stop ?_)))
local macro_rules | `(tactic| walk_at "CompSrc") => `(tactic| (k_here; k_dflt (kcf_lens; refine LCg.CompSrc.ledger (by rfl) (by k_asm) (by k_asm) (by k_mem) (by kcf_size) ?_; intro g'; (refine' kct_list (fun k => Txt.item (Str.ofString "ab") (Int.fmod k 2)) (by assumption) (fun k' t' I' oI' C' oC' D' m' ys' h' tk' E' hk' hC' hx' F' N' off' ne' => ?_) ?_); (all_goals (try (simp only [LCg.Off3, and_true] at off'))); (all_goals (try ((show KPfMark → _); intro hMark'))); kcf_last)))
theorem item_len (k : Int) : (Txt.item (Str.ofString "ab") (Int.fmod k 2)).length = 1 := by
  have h1 := Int.fmod_nonneg_of_pos k (by decide : (0 : Int) < 2)
  have h2 := Int.fmod_lt_of_pos k (by decide : (0 : Int) < 2)
  have h3 : Int.fmod k 2 = 0 ∨ Int.fmod k 2 = 1 := by omega
  rcases h3 with h | h <;> rw [h] <;> decide +kernel
local macro_rules | `(tactic| walk_at "GrownAll") => `(tactic| (k_here; (refine stop ?_)))
local macro_rules | `(tactic| walk_at "compareOp In int ref") => `(tactic| (k_here; (refine stop ?_)))
def Ty0 : Addr → Option Str := fun P => if P = 46 then some (Str.ofString "_law_try") else if P = 58 then some (Str.ofString "law") else none
theorem Fr.cm {b0 h : Heap} {L : Addr} {m m' : Str → Option Value} (F : Fr b0 L h m) (e : m = m') : Fr b0 L h m' := e ▸ F
theorem law_start {M : Model} {A : Around} {t : Sem Flow} {Q : Flow → Shared → Prop} {E : Value → Shared → Prop} {s : Shared} {env : Env} {b0 h : Heap} {L : Addr} {m : Str → Option Value} (F : Fr b0 L h m) (hf : env.frame = some L) (hk : env.scope.kind = .function)
    (q3 : h.get? 46 = some (tabObj #[])) (n3 : b0.get? 46 = none) (q4 : h.get? 58 = some (tabObj #[])) (n4 : b0.get? 58 = none)
    (k : InF b0 Ty0 [] env b0 L m h (ledger b0 L h) → wpAny M (A.deeper env) t Q E s) : wpAny M (A.deeper env) t Q E s := k
  { F := F
    N := fun p hp => mem_ledger.mp hp
    full := fun b o e n1 n2 => mem_ledger.mpr ⟨e, n1, n2⟩
    fr := ⟨trivial, fun b hb => by cases hb⟩
    inv := ⟨⟨rfl, rfl⟩, fun P q e => by
      unfold Ty0 at e
      split at e
      · rename_i z; subst z; exact ⟨n3, #[], q3, trivial, fun pos cv z => by cases z⟩
      · split at e
        · rename_i z; subst z; exact ⟨n4, #[], q4, trivial, fun pos cv z => by cases z⟩
        · cases e⟩
    ev := Ev.of_keeps F.keep
    stE := fun _ _ e => e
    apart := fun z => by cases z
    newL := Heap.get?_none_of_le F.above
    szE := F.above
    envF := hf
    envK := hk }
theorem law_ok : PySem.Challenge.rw_gq5008_01.Holds := by
  refine hd ?_
  w_strict (k_go0; (all_goals try k_fold))
  rename Frag.In _ _ => X
  rename Top topProg _ _ _ _ _ => T
  rename Below _ _ _ _ => K
  rename Fr _ _ _ _ => F
  rename News _ _ _ _ => N
  rename IntsAre _ _ => hi
  rename CodeHd _ (Prod.fst (50, 46)) _ => C1
  rename CodeHd _ (Prod.fst (60, 58)) _ => C2
  rename Heap.IsList (ghostOf _ _) _ _ => hl
  rename ¬ (63 : Int) < _ => hlen
  have Q1 := N _ (.head _)
  have Q2 := N _ (.tail _ (.head _))
  have Q3 := N _ (.tail _ (.tail _ (.head _)))
  have Q4 := N _ (.tail _ (.tail _ (.tail _ (.head _))))
  rename_i o1 o2 hd1 hd2 _ _
  dsimp only at Q1 Q2 Q3 Q4
  replace hd1 : o1.data = .cell none := by rw [hd1]; kernel_rfl
  replace hd2 : o2.data = .cell none := by rw [hd2]; kernel_rfl
  have hlen' := Int.ofNat_le.mp (Int.not_lt.mp hlen)
  rename World => W
  rename Shared => s1
  generalize hb0 : ghostOf _ [(50, 46), (60, 58)] = b0 at *
  generalize hLs : Array.size (Heap.objs (Shared.heap _)) = L at *
  refine law_start F rfl rfl Q3.1 Q3.2.2 Q4.1 Q4.2.2 (fun I => ?_)
  have S : Sta _ _ _ _ _ _ _ := ⟨X, T, C1, C2⟩
  have hl1 := isList_ev hl I.ev
  repeat' (first | (k_unfold; (try dsimp only)) | walk1)
  refine pat_ok (s := ⟨_, _, _, _, _⟩) (d := 650) S hl1 hi hlen' (I.pre K.stack rfl) ⟨by show 1 + claimMargin + 1 + 651 < recursionLimit; decide, by show 4 + 3 + 10 * 651 + 100 < cLine; decide⟩ (fun h2 tk2 v t ev2 st2 inv2 pt wf hcst hwt ends => ?_)
  have I2 := I.on ev2 st2 inv2
  have hl2 := isList_ev hl1 ev2
  have gc1 := ev2.sol _ _ Q1.1 (solid_cell hd1)
  have gc2 := ev2.sol _ _ Q2.1 (solid_cell hd2)
  have fc1 := Q1.2.2
  have fc2 := Q2.2.2
  clear Q1 Q2 Q3 Q4 N F
  have O1 : Own b0 [] b0 L _ := ⟨Nat.succ_ne_self _, fc2, fc2, fun z => by cases z⟩
  have O2 : Own b0 [] b0 L _ := ⟨Nat.ne_of_gt (Nat.lt_succ_of_lt (Nat.lt_succ_self _)), fc1, fc1, fun z => by cases z⟩
  refine wpAny_storeName_cell (s := ⟨_, _, _, _, _⟩) (v₀ := none) rfl rfl (by rfl) ⟨_, gc1, hd1⟩ (fun h3 hv3 hs3 => ?_)
  have hx3 := hs3.extBut
  have I3 := I2.turn O2 gc1 (by unfold tabB; rw [hd1]) (fun vs q => by rw [hd1] at q; cases q) hx3
  obtain ⟨ot, got, hdt⟩ := hv3
  have gc23 := hx3 _ _ (Nat.ne_of_lt (Nat.lt_succ_self _)) gc2
  have pt3 := pt.but hx3 (fun its n z => by rw [gc1] at z; cases z; cases hd1)
  have hl3 : h3.IsList _ _ := hl2.extBut hx3 (fun z => by
    obtain ⟨o, ho, _⟩ := hl
    rw [z, fc1] at ho; cases ho)
  have F3 := I3.F
  have N3 := I3.N
  generalize hnw3 : ledger b0 L h3 = nw3 at *
  repeat' (first | (k_unfold; (try dsimp only)) | walk1)
  · rename Fr _ _ _ _ => F5
    rename News _ _ _ _ => N5
    refine LCg.CompEnd.intro F5 N5 _ (fun p hp => hp) ?_ ?_ ?_
    · rename (_ ∧ _ ∧ _) ∧ LCg.Off3 _ _ _ _ => off
      exact off
    · exact .inr ⟨_, .head _, rfl, _, rfl⟩
    · exact ⟨rfl, _, rfl⟩
  · rename CarriedAll _ _ => hca
    rename Fr _ _ _ _ => F5
    rename News _ _ _ _ => N5
    unfold Stop
    refine KT.join_1 (s := ⟨_, _, _, _, _⟩) (g := fun k => Txt.item (Str.ofString "ab") (Int.fmod k 2)) ⟨_, (N5 _ (.head _)).1, rfl, _, rfl⟩ hca (fun k _ => item_len k) (by rw [List.length_take]; omega) (fun tj kj hjl => ?_)
    generalize hlast : Txt.join (Str.ofString "") _ = last at *
    have hlast4 : last.length ≤ 4 := by rw [hjl, List.length_take]; omega
    have hx5 := I3.but F5 N5 (fun p hp => .tail _ (.tail _ hp))
    obtain ⟨I5, _⟩ := I3.adv F5 N5 (fun p hp => .tail _ (.tail _ hp))
    have got5 := hx5 _ _ (Nat.ne_of_gt (Nat.lt_succ_of_lt (Nat.lt_succ_self _))) got
    have gc25 := hx5 _ _ (Nat.succ_ne_self _) gc23
    have pt5 := pt3.but hx5 (not_tup_dict I3.dictL)
    clear hl hl1 hl2 hl3 hca hx5 got gc23 pt3 hx3 hs3 pt gc1 gc2 N5 F5
    refine wpAny_storeName_local (s := ⟨_, _, _, _, _⟩) rfl I5.F.ns (fun h6 hn6 hs6 => ?_) rfl
    have I6 := I5.store hn6 hs6
    have got6 := hs6.extBut _ _ (Nat.ne_of_gt (Nat.lt_succ_of_lt (Nat.lt_succ_self _))) got5
    have gc26 := hs6.extBut _ _ (Nat.succ_ne_self _) gc25
    have pt6 := pt5.but hs6.extBut (not_tup_dict I5.dictL)
    clear hn6 hs6 got5 gc25 pt5
    have F6 := I6.F
    have N6 := I6.N
    generalize hnw6 : ledger b0 L h6 = nw6 at *
    repeat' (first | (k_unfold; (try dsimp only)) | walk1)
    unfold Stop
    refine wpAny_For ?_
    repeat' (first | (k_unfold; (try dsimp only)) | walk1)
    rename Fr _ _ _ _ => F7
    rename_i Dl h7 N7 lDl
    generalize hpr : RowW.prog (OpenRow.toRowW (OpenLaw.row PySem.Challenge.rw_gq5008_01)) = prog at *
    have gDl := N7 _ (.head _)
    have g237 := F7.keep _ _ (X 23 _ (by k_is))
    refine add_tuples (s := ⟨_, _, _, _, _⟩) F7 N7 (vs := [_, _, _, _, _, _, _, _, _, _, _, _, _, _, _]) (ws := [_]) ⟨_, g237, rfl, _, rfl⟩ ⟨_, gDl.1, rfl, _, rfl⟩ (fun z => by cases z) (fun _ z => by cases z) (fun _ _ h8 F8 N8 => ?_)
    obtain ⟨I8, _⟩ := I6.adv F8 N8 (fun p hp => .tail _ (.tail _ hp))
    have hx8 := I6.but F8 N8 (fun p hp => .tail _ (.tail _ hp))
    have gT := (N8 _ (.head _)).1
    have got8 : h8.get? (L + 1 + 1) = some ot := hx8 _ _ (Nat.ne_of_gt (Nat.lt_succ_of_lt (Nat.lt_succ_self _))) got6
    have gx8 : h8.get? (L + 1) = some o2 := hx8 _ _ (Nat.succ_ne_self _) gc26
    have pt8 := pt6.but hx8 (not_tup_dict I6.dictL)
    clear hx8 F8 N8 g237 gDl got6 gc26 pt6 hnw6 lDl F7 N7
    refine wpAny_pyIter_tuple (s := ⟨_, _, _, _, _⟩) ⟨_, gT, rfl, _, rfl⟩ ?_
    dsimp only at gT ⊢
    generalize hTp : Array.size h7.objs = Tp at *
    generalize hits : ([_, _, _, _, _, _, _, _, _, _, _, _, _, _, _] ++ [Value.str last tj] : List Value) = items at *
    have hitems : ∀ vv ∈ items, ∃ x tx, vv = Value.str x tx ∧ x.length ≤ 4 := by
      intro vv hvv
      rw [← hits] at hvv
      simp only [List.cons_append, List.nil_append, List.mem_cons, List.not_mem_nil, or_false] at hvv
      repeat' (rcases hvv with rfl | hvv)
      all_goals first
        | exact ⟨_, _, rfl, by decide +kernel⟩
        | (subst hvv; exact ⟨_, _, rfl, hlast4⟩)
        | exact ⟨_, _, rfl, hlast4⟩
    clear hits
    have tup8 : h8.IsTuple Tp items.toArray := ⟨_, gT, rfl, _, rfl⟩
    have kp9 : ∀ b o, h8.get? b = some o → (h8.push { cls := .type "tuple_iterator", data := .fields #[.ref Tp, .int 0 0] }).get? b = some o := fun b o e => Heap.get?_push_of_some _ e
    have I9 := I8.keepAll kp9
    have OI := I8.own (a := h8.objs.size) (Nat.le_refl _)
    have tit9 : (h8.push { cls := .type "tuple_iterator", data := .fields #[.ref Tp, .int 0 0] }).IsTupleIter h8.objs.size Tp 0 := ⟨_, Heap.get?_push_size _ rfl, rfl, rfl⟩
    have lt8 : ∀ {b o}, h8.get? b = some o → b ≠ h8.objs.size := fun e => Nat.ne_of_lt (Heap.lt_size e)
    have nT : Tp ≠ h8.objs.size := lt8 gT
    have nt : L + 1 + 1 ≠ h8.objs.size := lt8 got8
    have nx : L + 1 ≠ h8.objs.size := lt8 gx8
    have nTx : Tp ≠ L + 1 := fun z => by rw [z, gx8] at gT; cases gT; cases hd2
    have nTL : Tp ≠ L := fun z => by obtain ⟨o, ho, hd⟩ := I8.dictL; rw [← z, gT] at ho; cases ho; cases hd
    have ntx : L + 1 + 1 ≠ L + 1 := Nat.succ_ne_self _
    have ntL : L + 1 + 1 ≠ L := Nat.ne_of_gt (Nat.lt_succ_of_lt (Nat.lt_succ_self _))
    have nxL : L + 1 ≠ L := Nat.succ_ne_self _
    generalize hIt : h8.objs.size = it at *
    obtain ⟨M1, tv0, I9'⟩ := I9.told
    have hzl : 1000 < sizeLine := by decide
    have fct := fc1
    have fcx := fc2
    have hroom : ∀ env : Env, Room (callerA.deeper env) 264 := fun _ => ⟨by show 1 + claimMargin + 1 + 264 < recursionLimit; decide, by show 4 + 3 + 10 * 264 + 100 < cLine; decide⟩
    refine for_tup (s := ⟨_, _, _, _, _⟩) (a1 := Tp) (items := items.toArray) rfl (fun k s' => ∃ h tk Ty tv, s' = { s1 with heap := h, toks := tk } ∧ InF b0 Ty [] _ b0 L (fun y => if y = Str.ofString "told" then tv else M1 y) h (ledger b0 L h) ∧
      h.IsTupleIter it Tp k ∧ h.IsTuple Tp items.toArray ∧ h.get? (L + 1 + 1) = some ot ∧ (∃ ox xv, h.get? (L + 1) = some ox ∧ ox.data = .cell xv) ∧ PatIn b0 h v t)
      ?_ ⟨_, _, Ty0, tv0, rfl, I9', tit9, tup_ev tup8 (Ev.of_keeps kp9), kp9 _ _ got8, ⟨_, _, kp9 _ _ gx8, hd2⟩, pt8.ev (Ev.of_keeps kp9)⟩ ?_ ?_ PassesOwn.leaving
    · rintro k s' ⟨h, tk, Ty, tv, rfl, _, r1, r2, _⟩; exact ⟨r1, r2⟩
    · rintro k s' h' hv ⟨h10, tk10, Ty10, tv10, rfl, I10, tit10, tup10, got10, _, pt10⟩ hx
      obtain ⟨oi, hoi, ti', ci, _⟩ := tupIterObj tit10
      have I12 := I10.turn OI hoi ti' ci hx
      have got12 := hx _ _ nt got10
      have pt12 := pt10.but hx (not_tup_titer tit10)
      clear I10 tup10 got10 pt10 tit10 hx
      have F12 := I12.F
      have N12 := I12.N
      have hct12 := I12.full _ _ got12 ntL fct
      generalize hnw12 : ledger b0 L h' = nw12 at *
      have e1 : (Str.ofString "a").length = 1 := by decide +kernel
      have hx4 : (Str.ofString "a").length ≤ 4 := by rw [e1]; decide
      have hzx : (Str.ofString "a").length ≤ sizeLine := by omega
      have hend1 : Ends (Str.ofString "a") t 0 (Str.ofString "a").length := by
        rw [e1]
        have h1 : Ends (Str.ofString "a") sa1 0 (0 + 1) := .sgn (by unfold hit; decide +kernel)
        exact ends _ _ _ h1
      dsimp only
      repeat' (first | (k_unfold; (try dsimp only)) | walk1)
      unfold Stop
      refine mk_lam (s := ⟨_, _, _, _, _⟩) S I12 (c := 60) (P := 58) (q := Str.ofString "law") rfl (C2.keeps I12.st) I12.inv.tb.2 rfl rfl rfl rfl (fun g c' P' ctv hA tkA TyA leA IA evA gnew hmg hrec hcd hTP => ?_)
      have ptA := pt12.ev evA
      have gotA := evA.sol _ _ got12 (solid_cell hdt)
      have cont : ∀ tz, OkCall (model prog W) b0 (Str.ofString "a").length (.ref g) [.int (0 : Nat) tz] 263 TyA hA (Ends (Str.ofString "a") t 0 (Str.ofString "a").length) := by
        intro tz A3 l3 Ty3 s3 Q3 E3 ev3 P3 r3 hq3 he3
        have hg3 := ev3.ev.sol _ _ (IA.N.get hmg) rfl
        refine enter_lam (d := 262) (binds := [(Str.ofString "k", .int (0 : Nat) tz)]) S P3 r3 hg3 (codeRec_ev hrec hcd ev3.ev) (by kernel_rfl) (by decide) (by kernel_rfl) rfl (fun L4 h4 tk4 I4 kp4 => ?_)
        have evw : Ev hA h4 := ev3.ev.trans I4.ev
        have mem4 : ∀ {b o}, hA.get? b = some o → solid o = true → b0.get? b = none → (b, o) ∈ ledger b0 L4 h4 := fun e sd n => I4.full _ _ (evw.sol _ _ e sd) (fun z => by have := ev3.ev.sol _ _ e sd; rw [z, I4.newL] at this; cases this) n
        have hct4 := mem4 gotA (solid_cell hdt) fct
        clear mem4
        have F4 := I4.F
        have N4 := I4.N
        generalize hnw4 : ledger b0 L4 h4 = nw4 at *
        have hcd4 : CodeHd h4 c' P' := codeHd_ev hcd evw
        have hTP4 := ev3.le _ _ hTP
        clear hmg hrec hcd hTP hg3
        repeat' (first | (k_unfold; (try dsimp only)) | walk1)
        refine mk_lam (s := ⟨_, _, _, _, _⟩) S I4 (c := c') (P := P') (q := lam (Str.ofString "law")) rfl hcd4 hTP4 rfl rfl rfl rfl (fun g5 c5 P5 ctv5 h5 tk5 Ty5 le5 I5' ev5 g5new hmg5 hrec5 hcd5 hTP5 => ?_)
        have cont5 : Cont (model prog W) b0 (Str.ofString "a") g5 Ty5 h5 (fun j => j = (Str.ofString "a").length) (fun j d => d = 2) := by
          refine ⟨⟨_, _, _, _, (I5'.N.get hmg5)⟩, (I5'.N.fresh hmg5), ?_⟩
          rintro j d tok hj rfl
          intro A6 l6 Ty6 s6 Q6 E6 ev6 P6 r6 hq6 he6
          have hg6 := ev6.ev.sol _ _ (I5'.N.get hmg5) rfl
          refine enter_lam (d := 1) (binds := [(Str.ofString "j", .int j tok)]) S P6 r6 hg6 (codeRec_ev hrec5 hcd5 ev6.ev) (by kernel_rfl) (by decide) (by kernel_rfl) rfl (fun L7 h7 tk7 I7 kp7 => ?_)
          have evw7 : Ev h4 h7 := ev5.trans (ev6.ev.trans I7.ev)
          have F7 := I7.F
          have N7 := I7.N
          generalize hnw7 : ledger b0 L7 h7 = nw7 at *
          clear hmg5 hrec5 hcd5 hTP5 hg6 hcd4
          repeat' (first | (k_unfold; (try dsimp only)) | walk1)
          refine call_in (s := ⟨_, _, _, _, _⟩) (end_ok S (j := j) (by omega)) (Sees.refl _ _) I7 P6.hA P6.hh r6.deeper (fun o Ty' h' tk tok le I' ev' => ?_) (fun o Ty' h' tk e le fl => ?_)
          · exact hq6 o _ _ _ _ ⟨le, I'.ev, I'.st, I'.inv⟩
          · exact he6 o _ _ _ _ le fl
        have F5 := I5'.F
        have N5 := I5'.N
        have hct5 := I4.kept ev5 hct4 (solid_cell hdt)
        generalize hnw5 : ledger b0 L4 h5 = nw5 at *
        clear hmg5 hrec5 hcd5 hTP5
        dsimp only
        repeat' (first | (k_unfold; (try dsimp only)) | walk1)
        refine call_in (s := ⟨_, _, _, _, _⟩) (try_ok S hzx t wf 0 (((ptA.ev evw).ev ev5)) (Nat.zero_le _) cont5 (d := 262) (fun k hk => ⟨2, rfl, ?_⟩)) (Sees.refl _ _) I5' P3.hA P3.hh r3.deeper (fun o Ty' h' tk tok le I' ev' => ?_) (fun o Ty' h' tk e le fl => ?_)
        · have hk4 : k ≤ 4 := by omega
          have := Nat.mul_le_mul_left t.cB hk4
          unfold cost
          omega
        · obtain ⟨e, he, rfl⟩ := o
          exact hq3 he _ _ _ _ ⟨le5.trans le, I'.ev, I'.st, I'.inv⟩
        · exact he3 (fun h => o ⟨_, h, rfl⟩) _ _ _ _ (le5.trans le) fl
      have FA := IA.F
      have NA := IA.N
      generalize hnwA : ledger b0 L hA = nwA at *
      dsimp only
      repeat' (first | (k_unfold; (try dsimp only)) | walk1)
      refine safe_ok (s := ⟨_, _, _, _, _⟩) (i := 0) (d := 263) S (cont _) (IA.N.get hmg) (IA.N.fresh hmg) (Sees.refl _ _) (IA.pre K.stack rfl) (hroom _) (fun o TyB hB tkB tok po => ?_) (fun o TyB hB tkB tok po => absurd hend1 o)
      have IB := IA.on po.ev po.st po.inv
      have FB := IB.F
      have NB := IB.N
      generalize hnwB : ledger b0 L hB = nwB at *
      have e1' : ((Str.ofString "a").length : Int) = 1 := by rw [e1]; rfl
      rw [e1']
      dsimp only
      repeat' (first | (k_unfold; (try dsimp only)) | walk1)
      · show GoodW _ _ _ _ _ (Except.ok (Flow.ret (Value.bool true))) _
        exact goodW_bool (b := true) FB (by assumption) (fun _ => rfl) (by first | rfl | kernel_rfl)
      · unfold Stop
        obtain ⟨_, ps1, g46, _⟩ := IB.inv.all 46 _ IB.inv.tb.1
        obtain ⟨_, ps2, g58, _⟩ := IB.inv.all 58 _ IB.inv.tb.2
        exact ⟨⟨_, g46⟩, ⟨_, g58⟩, trivial⟩
    · rintro k vv s' h' hv ⟨h10, tk10, Ty10, tv10, rfl, I10, tit10, tup10, got10, ⟨ox, xv, gx10, hdx0⟩, pt10⟩ tit11 hx
      obtain ⟨x, tx, rfl, hx4⟩ := hitems vv (List.mem_of_getElem? (by simpa using hv))
      have hzx : x.length ≤ sizeLine := by omega
      obtain ⟨oi, hoi, ti', ci, _⟩ := tupIterObj tit10
      have I11 := I10.turn OI hoi ti' ci hx
      have tup11 := tup10.extBut hx nT
      have got11 := hx _ _ nt got10
      have gx11 := hx _ _ nx gx10
      have pt11 := pt10.but hx (not_tup_titer tit10)
      clear I10 tup10 got10 gx10 pt10 tit10 hx
      refine wpAny_assign_Name (wpAny_storeName_cell (s := ⟨_, _, _, _, _⟩) (v₀ := xv) rfl rfl (by rfl) ⟨ox, gx11, hdx0⟩ (fun h12 hv12 hs12 => ?_))
      obtain ⟨ox2, gx12, hdx⟩ := hv12
      have hx12 := hs12.extBut
      have I12 := I11.turn O1 gx11 (by unfold tabB; rw [hdx0]) (fun vs q => by rw [hdx0] at q; cases q) hx12
      have tup12 := tup11.extBut hx12 nTx
      have tit12 := tit11.extBut hx12 nx.symm
      have got12 := hx12 _ _ ntx got11
      have pt12 := pt11.but hx12 (not_tup_cell gx11 hdx0)
      clear hx12 hs12 I11 tup11 tit11 got11 gx11 pt11
      have F12 := I12.F
      have N12 := I12.N
      have hct12 := I12.full _ _ got12 ntL fct
      have hcx12 := I12.full _ _ gx12 nxL fcx
      generalize hnw12 : ledger b0 L h12 = nw12 at *
      dsimp only
      repeat' (first | (k_unfold; (try dsimp only)) | walk1)
      unfold Stop
      refine mk_lam (s := ⟨_, _, _, _, _⟩) S I12 (c := 60) (P := 58) (q := Str.ofString "law") rfl (C2.keeps I12.st) I12.inv.tb.2 rfl rfl rfl rfl (fun g c' P' ctv hA tkA TyA leA IA evA gnew hmg hrec hcd hTP => ?_)
      have ptA := pt12.ev evA
      have gotA := evA.sol _ _ got12 (solid_cell hdt)
      have gxA := evA.sol _ _ gx12 (solid_cell hdx)
      have cont : ∀ tz, OkCall (model prog W) b0 (x).length (.ref g) [.int (0 : Nat) tz] 263 TyA hA (Ends (x) t 0 (x).length) := by
        intro tz A3 l3 Ty3 s3 Q3 E3 ev3 P3 r3 hq3 he3
        have hg3 := ev3.ev.sol _ _ (IA.N.get hmg) rfl
        refine enter_lam (d := 262) (binds := [(Str.ofString "k", .int (0 : Nat) tz)]) S P3 r3 hg3 (codeRec_ev hrec hcd ev3.ev) (by kernel_rfl) (by decide) (by kernel_rfl) rfl (fun L4 h4 tk4 I4 kp4 => ?_)
        have evw : Ev hA h4 := ev3.ev.trans I4.ev
        have mem4 : ∀ {b o}, hA.get? b = some o → solid o = true → b0.get? b = none → (b, o) ∈ ledger b0 L4 h4 := fun e sd n => I4.full _ _ (evw.sol _ _ e sd) (fun z => by have := ev3.ev.sol _ _ e sd; rw [z, I4.newL] at this; cases this) n
        have hct4 := mem4 gotA (solid_cell hdt) fct
        have hcx4 := mem4 gxA (solid_cell hdx) fcx
        clear mem4
        have F4 := I4.F
        have N4 := I4.N
        generalize hnw4 : ledger b0 L4 h4 = nw4 at *
        have hcd4 : CodeHd h4 c' P' := codeHd_ev hcd evw
        have hTP4 := ev3.le _ _ hTP
        clear hmg hrec hcd hTP hg3
        repeat' (first | (k_unfold; (try dsimp only)) | walk1)
        refine mk_lam (s := ⟨_, _, _, _, _⟩) S I4 (c := c') (P := P') (q := lam (Str.ofString "law")) rfl hcd4 hTP4 rfl rfl rfl rfl (fun g5 c5 P5 ctv5 h5 tk5 Ty5 le5 I5' ev5 g5new hmg5 hrec5 hcd5 hTP5 => ?_)
        have cont5 : Cont (model prog W) b0 (x) g5 Ty5 h5 (fun j => j = (x).length) (fun j d => d = 2) := by
          refine ⟨⟨_, _, _, _, (I5'.N.get hmg5)⟩, (I5'.N.fresh hmg5), ?_⟩
          rintro j d tok hj rfl
          intro A6 l6 Ty6 s6 Q6 E6 ev6 P6 r6 hq6 he6
          have hg6 := ev6.ev.sol _ _ (I5'.N.get hmg5) rfl
          refine enter_lam (d := 1) (binds := [(Str.ofString "j", .int j tok)]) S P6 r6 hg6 (codeRec_ev hrec5 hcd5 ev6.ev) (by kernel_rfl) (by decide) (by kernel_rfl) rfl (fun L7 h7 tk7 I7 kp7 => ?_)
          have evw7 : Ev h4 h7 := ev5.trans (ev6.ev.trans I7.ev)
          have hcx7 := I7.full _ _ (evw7.sol _ _ (I4.N.get hcx4) (solid_cell hdx)) (fun z => by have := ev6.ev.sol _ _ (ev5.sol _ _ (I4.N.get hcx4) (solid_cell hdx)) (solid_cell hdx); rw [z, I7.newL] at this; cases this) (I4.N.fresh hcx4)
          have F7 := I7.F
          have N7 := I7.N
          generalize hnw7 : ledger b0 L7 h7 = nw7 at *
          clear hmg5 hrec5 hcd5 hTP5 hg6 hcd4
          repeat' (first | (k_unfold; (try dsimp only)) | walk1)
          refine call_in (s := ⟨_, _, _, _, _⟩) (end_ok S (j := j) (by omega)) (Sees.refl _ _) I7 P6.hA P6.hh r6.deeper (fun o Ty' h' tk tok le I' ev' => ?_) (fun o Ty' h' tk e le fl => ?_)
          · exact hq6 o _ _ _ _ ⟨le, I'.ev, I'.st, I'.inv⟩
          · exact he6 o _ _ _ _ le fl
        have F5 := I5'.F
        have N5 := I5'.N
        have hct5 := I4.kept ev5 hct4 (solid_cell hdt)
        have hcx5 := I4.kept ev5 hcx4 (solid_cell hdx)
        generalize hnw5 : ledger b0 L4 h5 = nw5 at *
        clear hmg5 hrec5 hcd5 hTP5
        dsimp only
        repeat' (first | (k_unfold; (try dsimp only)) | walk1)
        refine call_in (s := ⟨_, _, _, _, _⟩) (try_ok S hzx t wf 0 (((ptA.ev evw).ev ev5)) (Nat.zero_le _) cont5 (d := 262) (fun k hk => ⟨2, rfl, ?_⟩)) (Sees.refl _ _) I5' P3.hA P3.hh r3.deeper (fun o Ty' h' tk tok le I' ev' => ?_) (fun o Ty' h' tk e le fl => ?_)
        · have hk4 : k ≤ 4 := by omega
          have := Nat.mul_le_mul_left t.cB hk4
          unfold cost
          omega
        · obtain ⟨e, he, rfl⟩ := o
          exact hq3 he _ _ _ _ ⟨le5.trans le, I'.ev, I'.st, I'.inv⟩
        · exact he3 (fun h => o ⟨_, h, rfl⟩) _ _ _ _ (le5.trans le) fl
      have titA := tupIter_ev tit12 evA
      have tupA := tup_ev tup12 evA
      have FA := IA.F
      have NA := IA.N
      generalize hnwA : ledger b0 L hA = nwA at *
      dsimp only
      repeat' (first | (k_unfold; (try dsimp only)) | walk1)
      refine safe_ok (s := ⟨_, _, _, _, _⟩) (i := 0) (d := 263) S (cont _) (IA.N.get hmg) (IA.N.fresh hmg) (Sees.refl _ _) (IA.pre K.stack rfl) (hroom _) (fun o TyB hB tkB tok po => ?_) (fun o TyB hB tkB tok po => ?_)
      · have IB := IA.on po.ev po.st po.inv
        have gotB := po.ev.sol _ _ gotA (solid_cell hdt)
        have gxB := po.ev.sol _ _ gxA (solid_cell hdx)
        have ptB := ptA.ev po.ev
        have titB := tupIter_ev titA po.ev
        have tupB := tup_ev tupA po.ev
        refine wpAny_storeName_local (s := ⟨_, _, _, _, _⟩) rfl IB.F.ns (fun hC hnC hsC => ?_) rfl
        have IC := (IB.store hnC hsC).cm told_s
        have gotC := hsC.extBut _ _ ntL gotB
        have gxC := hsC.extBut _ _ nxL gxB
        have ptC := ptB.but hsC.extBut (not_tup_dict IB.dictL)
        have titC : hC.IsTupleIter it Tp (k + 1) := titB.extBut hsC.extBut OI.neL
        have tupC : hC.IsTuple Tp items.toArray := tupB.extBut hsC.extBut nTL
        clear hnC hsC gotB gxB ptB titB tupB
        have FC := IC.F
        have NC := IC.N
        have hctC := IC.full _ _ gotC ntL fct
        have hcxC := IC.full _ _ gxC nxL fcx
        generalize hnwC : ledger b0 L hC = nwC at *
        dsimp only
        repeat' (first | (k_unfold; (try dsimp only)) | walk1)
        refine ends_ok S hzx t wf (small_of hx4 t hwt) (s := ⟨_, _, _, _, _⟩) (d := 264) (i := 0) ptC (Nat.zero_le _) (IC.pre K.stack rfl) (hroom _) (by omega) (fun hD tkD aD vsD esD evD stD invD frD hlD hiD hesD hszD => ?_)
        have ID := IC.on evD stD invD
        have gotD := evD.sol _ _ gotC (solid_cell hdt)
        have gxD := evD.sol _ _ gxC (solid_cell hdx)
        have ptD := ptC.ev evD
        have titD := tupIter_ev titC evD
        have tupD := tup_ev tupC evD
        have FD := ID.F
        have ND := ID.N
        have hctD := ID.full _ _ gotD ntL fct
        have hcxD := ID.full _ _ gxD nxL fcx
        generalize hnwD : ledger b0 L hD = nwD at *
        dsimp only
        repeat' (first | (k_unfold; (try dsimp only)) | walk1)
        unfold Stop
        refine in_list_ints (s := ⟨_, _, _, _, _⟩) hlD hiD ?_
        have hb : (esD.map Int.ofNat).any (· == (x.length : Int)) = true := by
          simp only [List.any_eq_true, List.mem_map]
          exact ⟨_, ⟨x.length, (hesD _).mpr o, rfl⟩, by simp⟩
        rw [hb]
        (try dsimp only [FAILED])
        repeat' (first | (k_unfold; (try dsimp only)) | walk1)
        · rename _ ≠ _ => hne
          exact absurd rfl hne
        · unfold Turn
          dsimp only
          subst hnwD
          exact ⟨hD, _, _, _, rfl, ID, titD, tupD, gotD, ⟨_, _, gxD, hdx⟩, ptD⟩
      · have IB := IA.on po.ev po.st po.inv
        have gotB := po.ev.sol _ _ gotA (solid_cell hdt)
        have gxB := po.ev.sol _ _ gxA (solid_cell hdx)
        have ptB := ptA.ev po.ev
        have titB := tupIter_ev titA po.ev
        have tupB := tup_ev tupA po.ev
        refine wpAny_storeName_local (s := ⟨_, _, _, _, _⟩) rfl IB.F.ns (fun hC hnC hsC => ?_) rfl
        have IC := (IB.store hnC hsC).cm told_s
        have gotC := hsC.extBut _ _ ntL gotB
        have gxC := hsC.extBut _ _ nxL gxB
        have ptC := ptB.but hsC.extBut (not_tup_dict IB.dictL)
        have titC : hC.IsTupleIter it Tp (k + 1) := titB.extBut hsC.extBut OI.neL
        have tupC : hC.IsTuple Tp items.toArray := tupB.extBut hsC.extBut nTL
        clear hnC hsC gotB gxB ptB titB tupB
        have FC := IC.F
        have NC := IC.N
        have hctC := IC.full _ _ gotC ntL fct
        have hcxC := IC.full _ _ gxC nxL fcx
        generalize hnwC : ledger b0 L hC = nwC at *
        dsimp only
        repeat' (first | (k_unfold; (try dsimp only)) | walk1)
        refine ends_ok S hzx t wf (small_of hx4 t hwt) (s := ⟨_, _, _, _, _⟩) (d := 264) (i := 0) ptC (Nat.zero_le _) (IC.pre K.stack rfl) (hroom _) (by omega) (fun hD tkD aD vsD esD evD stD invD frD hlD hiD hesD hszD => ?_)
        have ID := IC.on evD stD invD
        have gotD := evD.sol _ _ gotC (solid_cell hdt)
        have gxD := evD.sol _ _ gxC (solid_cell hdx)
        have ptD := ptC.ev evD
        have titD := tupIter_ev titC evD
        have tupD := tup_ev tupC evD
        have FD := ID.F
        have ND := ID.N
        have hctD := ID.full _ _ gotD ntL fct
        have hcxD := ID.full _ _ gxD nxL fcx
        generalize hnwD : ledger b0 L hD = nwD at *
        dsimp only
        repeat' (first | (k_unfold; (try dsimp only)) | walk1)
        unfold Stop
        refine in_list_ints (s := ⟨_, _, _, _, _⟩) hlD hiD ?_
        have hb : (esD.map Int.ofNat).any (· == (x.length : Int)) = false := by
          simp only [List.any_eq_false, List.mem_map]
          rintro _ ⟨u, hu, rfl⟩ hz
          have : u = x.length := by simp at hz; omega
          exact o ((hesD _).mp (this ▸ hu))
        rw [hb]
        (try dsimp only [FAILED])
        repeat' (first | (k_unfold; (try dsimp only)) | walk1)
        · unfold Turn
          dsimp only
          subst hnwD
          exact ⟨hD, _, _, _, rfl, ID, titD, tupD, gotD, ⟨_, _, gxD, hdx⟩, ptD⟩
end Mine
theorem PySem.Challenge.cw_gq5008_01_holds : PySem.Challenge.rw_gq5008_01.Holds := by
  exact Mine.law_ok
