import PyProof.Rows.All
import Wide.All
import OpenK.AllK
import Wide.FinOn
import PySem.Challenge.RW_il0001_01
set_option Elab.async false

section
open PySem PySem.W PyProof.Rows
namespace Mine
set_option maxRecDepth 100000 in
set_option maxHeartbeats 8000000 in
open_top hd for PySem.Challenge.rw_il0001_01
end Mine

end

section
open PySem PySem.W PySem.Calls PyProof.Rows
namespace Mine

abbrev prog : Program := PySem.Challenge.rw_il0001_01.row.prog

/-- the addresses of frames -/
def frs (l : List Env) : List Addr := l.filterMap (·.frame)

/-- one heap is another but for the slots of some (the frames': what an exception writes) -/
structure Rebase (ls : List Addr) (g g' : Heap) : Prop where
  size : g'.objs.size = g.objs.size
  lacks : ∀ b, g.get? b = none → g'.get? b = none
  has : ∀ b o, g.get? b = some o → ∃ sl, g'.get? b = some { o with slots := sl } ∧ (b ∉ ls → sl = o.slots)
theorem Rebase.refl (ls : List Addr) (g : Heap) : Rebase ls g g := ⟨rfl, fun _ e => e, fun _ o e => ⟨o.slots, e, fun _ => rfl⟩⟩
theorem Rebase.trans {ls : List Addr} {a b c : Heap} (x : Rebase ls a b) (y : Rebase ls b c) : Rebase ls a c :=
  ⟨y.size.trans x.size, fun p e => y.lacks p (x.lacks p e), fun p o e => by
    obtain ⟨s1, e1, h1⟩ := x.has p o e
    obtain ⟨s2, e2, h2⟩ := y.has p _ e1
    exact ⟨s2, e2, fun hp => (h2 hp).trans (h1 hp)⟩⟩
theorem Rebase.exact {ls : List Addr} {g g' : Heap} (x : Rebase ls g g') {b : Addr} {o : Obj} (hb : b ∉ ls) (e : g.get? b = some o) : g'.get? b = some o := by
  obtain ⟨sl, e1, h1⟩ := x.has b o e
  rw [h1 hb] at e1
  exact e1
theorem Rebase.back {ls : List Addr} {g g' : Heap} (x : Rebase ls g g') {b : Addr} (e : g'.get? b = none) : g.get? b = none := by
  cases q : g.get? b with
  | none => rfl
  | some o => obtain ⟨sl, e1, _⟩ := x.has b o q; rw [e] at e1; cases e1
theorem Rebase.ns {ls : List Addr} {g g' : Heap} {L : Addr} {m : Str → Option Value} (x : Rebase ls g g') (n : g.Ns L m) : g'.Ns L m := by
  obtain ⟨o, es, ep, ho, hd, r⟩ := n
  obtain ⟨sl, e1, _⟩ := x.has L o ho
  exact ⟨_, es, ep, e1, hd, r⟩
theorem Rebase.funFrames {ls : List Addr} {base g g' : Heap} (x : Rebase ls g g') {l : List Env} (h : g.FunFrames base l) : g'.FunFrames base l :=
  h.of_keeps fun b o e _ => let ⟨_, e1, _⟩ := x.has b o e; ⟨_, e1, rfl⟩

/-- a heap with another's objects where it has any -/
def patch (h g : Heap) : Heap := { h with objs := h.objs.mapIdx fun i o => if o.isFreed then o else (g.get? i).getD o }
theorem get_not_freed {h : Heap} {b : Addr} {o : Obj} (e : h.get? b = some o) : o.isFreed = false := (Heap.get?_some_iff.mp e).2
theorem patch_size (h g : Heap) : (patch h g).objs.size = h.objs.size := by simp [patch]
theorem patch_get (h g : Heap) (b : Addr) : (patch h g).get? b = match h.get? b with
    | none => none
    | some o => some ((g.get? b).getD o) := by
  have e1 : (patch h g).objs[b]? = (h.objs[b]?).map fun o => if o.isFreed then o else (g.get? b).getD o := by
    show (h.objs.mapIdx fun i o => if o.isFreed then o else (g.get? i).getD o)[b]? = _
    rw [Array.getElem?_mapIdx]
  cases q : h.get? b with
  | some o =>
    obtain ⟨q1, q2⟩ := Heap.get?_some_iff.mp q
    refine Heap.get?_some_iff.mpr ⟨by rw [e1, q1]; simp [q2], ?_⟩
    cases r : g.get? b with
    | none => exact q2
    | some o' => exact get_not_freed r
  | none =>
    cases r : (patch h g).get? b with
    | none => rfl
    | some o =>
      obtain ⟨r1, r2⟩ := Heap.get?_some_iff.mp r
      rw [e1] at r1
      cases z : h.objs[b]? with
      | none => rw [z] at r1; cases r1
      | some oz =>
        rw [z] at r1
        cases zf : oz.isFreed with
        | false => rw [Heap.get?_some_iff.mpr ⟨z, zf⟩] at q; cases q
        | true =>
          simp only [Option.map_some, zf, if_true, Option.some.injEq] at r1
          rw [← r1, zf] at r2; cases r2
theorem patch_none {h g : Heap} {b : Addr} (e : h.get? b = none) : (patch h g).get? b = none := by rw [patch_get, e]
theorem patch_some {h g : Heap} {b : Addr} {o : Obj} (e : h.get? b = some o) : (patch h g).get? b = some ((g.get? b).getD o) := by rw [patch_get, e]
theorem patch_of {h g : Heap} {b : Addr} {o : Obj} (e : (patch h g).get? b = some o) : ∃ o', h.get? b = some o' := by
  cases q : h.get? b with
  | none => rw [patch_none q] at e; cases e
  | some o' => exact ⟨o', rfl⟩

/-- what stands under a call: the text's own part and the frames that are open -/
structure Gnd (w : World) (base : Heap) (outer : List Env) (g : Heap) (mean : ExcName → Option Value) (mg mb : Str → Option Value) : Prop where
  stays : base.StaysIn g
  frames : g.FunFrames base outer
  kin : (Mine.hd.heap_39 w.params).In base
  top : Top Mine.hd.view_39 (looseW Mine.hd.view_39 [Str.ofString "filterfalse"]) mean mg mb base

section
variable {w : World} {base g g' h : Heap} {outer : List Env} {env : Env} {mean : ExcName → Option Value} {mg mb : Str → Option Value} {L : Addr} {m : Str → Option Value}
theorem Gnd.X (G : Gnd w base outer g mean mg mb) : (Mine.hd.heap_39 w.params).In g := G.kin.keeps G.stays
theorem Gnd.T (G : Gnd w base outer g mean mg mb) : Top Mine.hd.view_39 (looseW Mine.hd.view_39 [Str.ofString "filterfalse"]) mean mg mb g := G.top.keeps G.stays
theorem Gnd.off (G : Gnd w base outer g mean mg mb) {b : Addr} {o : Obj} (e : base.get? b = some o) : b ∉ frs outer := fun hb => by
  rw [(G.frames.mem hb).1] at e; cases e
theorem Gnd.mem (G : Gnd w base outer g mean mg mb) {b : Addr} (hb : b ∈ frs outer) : ∃ o, g.get? b = some o := let ⟨o, ho, _⟩ := (G.frames.mem hb).2; ⟨o, ho⟩
theorem Gnd.rebase (G : Gnd w base outer g mean mg mb) (R : Rebase (frs outer) g g') : Gnd w base outer g' mean mg mb :=
  ⟨fun b o e => R.exact (G.off e) (G.stays b o e), R.funFrames G.frames, G.kin, G.top⟩
theorem Gnd.push (G : Gnd w base outer g mean mg mb) (F : Fr g L h m) (hf : env.frame = some L) (hk : env.scope.kind = .function) : Gnd w base (env :: outer) h mean mg mb :=
  have hnew : base.get? L = none := by
    cases hq : base.get? L with
    | none => rfl
    | some o => exact absurd (Nat.lt_of_lt_of_le (Heap.lt_size (G.stays L o hq)) F.above) (Nat.lt_irrefl _)
  ⟨fun b o e => F.keep b o (G.stays b o e), .cons (by rw [hk]; decide) hf F.ns hnew (G.frames.of_keeps fun b o e _ => ⟨o, F.keep b o e, rfl⟩), G.kin, G.top⟩
theorem Gnd.hide (G : Gnd w base outer g mean mg mb) {as : List Addr} (h1 : ∀ a ∈ as, base.get? a = none) (h2 : ∀ a ∈ as, a ∉ frs outer) : Gnd w base outer (hideAll g as) mean mg mb :=
  ⟨fun b o e => (hideAll_get as (G.stays b o e) fun hb => by rw [h1 b hb] at e; cases e),
    funFrames_hideAll G.frames fun e he a ha hf => h2 a ha (List.mem_filterMap.mpr ⟨e, he, hf⟩), G.kin, G.top⟩
theorem Gnd.keeps (G : Gnd w base outer g mean mg mb) (k : ∀ b o, g.get? b = some o → g'.get? b = some o) : Gnd w base outer g' mean mg mb :=
  ⟨fun b o e => k b o (G.stays b o e), G.frames.of_keeps fun b o e _ => ⟨o, k b o e, rfl⟩, G.kin, G.top⟩
end

/-- a call of the def at f: what it may lean on, and what it hands back -/
def Spec (w : World) (d u : Nat) (f : Addr) (args : List Value) (pre : Heap → List (Addr × Obj) → Prop) (post : List (Addr × Obj) → Value → Prop) : Prop :=
  ∀ (dp un : Nat) (gd : Option (List Code)) (env : Env) (outer : List Env) (base h₀ : Heap) (L : Addr) (m mg mb : Str → Option Value) (mean : ExcName → Option Value) (news : List (Addr × Obj)) (s : Shared) (Q E : Value → Shared → Prop),
    Gnd w base outer h₀ mean mg mb → env.frame = some L → env.scope.kind = .function → Fr h₀ L s.heap m → News h₀ L s.heap news →
    dp + d < recursionLimit → un + u < cLine → pre base news →
    (∀ v h' tk' h₀' res, Rebase (frs outer) h₀ h₀' → Fr h₀' L h' m → News h₀' L h' (res ++ news) → post res v → Q v { s with heap := h', toks := tk' }) →
    wpAny (model prog w) ⟨none, dp, some (env :: outer), gd, un⟩ (call (.ref f) args) Q E s

/-- a def's body has come to its return -/
inductive Done (outer : List Env) (g₀ : Heap) (L : Addr) (hid : List (Addr × Obj)) (post : List (Addr × Obj) → Value → Prop) (s : Shared) : Flow → Shared → Prop
  | intro {v : Value} {h' : Heap} {tk' : Nat} {m' : Str → Option Value} {g' : Heap} (res : List (Addr × Obj)) (R : Rebase (frs outer) g₀ g') (F : Fr g' L h' m') (N : News g' L h' (res ++ hid)) (P : post res v) : Done outer g₀ L hid post s (.ret v) { s with heap := h', toks := tk' }

/-- behind a call the caller's frame and ledger stand over a new ground -/
theorem back {w : World} {base h₀ g g' h' s₀ : Heap} {outer : List Env} {env : Env} {mean : ExcName → Option Value} {mg mb : Str → Option Value} {L L' : Addr} {m m' : Str → Option Value} {news hid res : List (Addr × Obj)}
    (G : Gnd w base outer h₀ mean mg mb) (hf : env.frame = some L) (F : Fr h₀ L s₀ m) (N : News h₀ L s₀ news) (hh : ∀ p ∈ hid, p ∈ news) (hg : g = hideAll s₀ (hid.map (·.1)))
    (R : Rebase (frs (env :: outer)) g g') (F' : Fr g' L' h' m') (N' : News g' L' h' (res ++ hid)) :
    Rebase (frs outer) h₀ (patch h₀ g') ∧ Fr (patch h₀ g') L h' m ∧ News (patch h₀ g') L h' (res ++ news) := by
  subst hg
  have hfrs : frs (env :: outer) = L :: frs outer := by simp [frs, hf]
  have offH : ∀ b o, h₀.get? b = some o → b ∉ hid.map (·.1) := fun b o e hb => by
    obtain ⟨p, hp, rfl⟩ := List.mem_map.mp hb
    rw [(N p (hh p hp)).2.2] at e; cases e
  have inG : ∀ b o, h₀.get? b = some o → (hideAll s₀ (hid.map (·.1))).get? b = some o := fun b o e => hideAll_get _ (F.keep b o e) (offH b o e)
  have neL : ∀ b o, h₀.get? b = some o → b ≠ L := fun b o e => Nat.ne_of_lt (Nat.lt_of_lt_of_le (Heap.lt_size e) F.above)
  have offL : L ∉ hid.map (·.1) := fun hb => by
    obtain ⟨p, hp, e⟩ := List.mem_map.mp hb
    exact (N p (hh p hp)).2.1 e
  have R0 : Rebase (frs outer) h₀ (patch h₀ g') := by
    refine ⟨patch_size _ _, fun b e => patch_none e, fun b o e => ?_⟩
    obtain ⟨sl, e1, e2⟩ := R.has b o (inG b o e)
    refine ⟨sl, by rw [patch_some e, e1]; rfl, fun hb => e2 ?_⟩
    rw [hfrs]
    rintro (_ | ⟨_, h⟩)
    · exact neL _ o e rfl
    · exact hb h
  have keepP : ∀ b o, (patch h₀ g').get? b = some o → h'.get? b = some o := fun b o e => by
    obtain ⟨o', e'⟩ := patch_of e
    obtain ⟨sl, e1, _⟩ := R.has b o' (inG b o' e')
    rw [patch_some e', e1] at e
    cases e
    exact F'.keep b _ e1
  obtain ⟨oL, es, ep, hL, hLd, r⟩ := F.ns
  obtain ⟨slL, eL, _⟩ := R.has L oL (hideAll_get _ hL offL)
  refine ⟨R0, ⟨⟨_, es, ep, F'.keep _ _ eL, hLd, r⟩, keepP, by rw [patch_size]; exact F.above⟩, fun p hp => ?_⟩
  rcases List.mem_append.mp hp with h | h
  · have h1 := N' p (List.mem_append_left _ h)
    refine ⟨h1.1, fun e => ?_, ?_⟩
    · have := h1.2.2; rw [e, eL] at this; cases this
    · cases q : (patch h₀ g').get? p.1 with
      | none => rfl
      | some o =>
        obtain ⟨o', e'⟩ := patch_of q
        have := R.back h1.2.2
        rw [inG _ _ e'] at this; cases this
  · have h1 := N p h
    refine ⟨?_, h1.2.1, patch_none h1.2.2⟩
    by_cases hm : p.1 ∈ hid.map (·.1)
    · obtain ⟨q, hq, e⟩ := List.mem_map.mp hm
      have h2 := (N' q (List.mem_append_right _ hq)).1
      have h3 := (N q (hh q hq)).1
      rw [e, h1.1] at h3
      rw [e] at h2
      rw [h2, ← h3]
    · refine F'.keep _ _ (R.exact ?_ (hideAll_get _ h1.1 hm))
      rw [hfrs]
      intro hb
      rcases List.mem_cons.mp hb with e | hb
      · exact h1.2.1 e
      · obtain ⟨o, ho⟩ := G.mem hb
        rw [h1.2.2] at ho; cases ho

section
variable {w : World} {d u : Nat} {f : Addr} {args : List Value} {pre : Heap → List (Addr × Obj) → Prop} {post : List (Addr × Obj) → Value → Prop}
  {name qual : Str} {params : Arguments} {body : List Stmt} {scope : Scope} {dV kV doc pm cdv ct oc : Value} {an od : Option Addr} {osl : Array (Option Value)} {binds : List (Str × Value)}

/-- the def is entered: its body is walked from a frame over all that stood at the call, but for the things named (hid), which stand on its ledger -/
theorem Spec.enter (hid : List (Addr × Obj)) (hh : ∀ base news, pre base news → ∀ p ∈ hid, p ∈ news)
    (ho : (Mine.hd.heap_39 w.params).lookup f = some ⟨oc, od, .func (fnOf name qual params body scope dV kV doc pm an cdv ct), osl⟩) (hcd : codeIn (Mine.hd.heap_39 w.params) cdv qual = true)
    (hbind : ∀ s, BindsTo s (fnOf name qual params body scope dV kV doc pm an cdv ct) ⟨args, []⟩ binds) (hloc : ∀ y ∈ binds, scope.names.lookup y.1 = some .local)
    (h : ∀ (dp un : Nat) (gd : Option (List Code)) (env : Env) (outer : List Env) (base g h₁ : Heap) (L' tk : Nat) (mg mb : Str → Option Value) (mean : ExcName → Option Value) (news : List (Addr × Obj)) (s : Shared),
      dp + d < recursionLimit → un + u < cLine → pre base news →
      Fr g L' h₁ (fun y => binds.reverse.lookup y) → News g L' h₁ hid → (∀ p ∈ hid, p.1 < L') → Gnd w base (env :: outer) g mean mg mb → Rebase (frs (env :: outer)) g g → (Mine.hd.heap_39 w.params).In g →
      Top Mine.hd.view_39 (looseW Mine.hd.view_39 [Str.ofString "filterfalse"]) mean mg mb g →
      wpAny (model prog w) ⟨none, dp + 1, some (envOf qual scope L' f cdv :: env :: outer), gd, un + 3⟩ (execs body (envOf qual scope L' f cdv))
        (Done (env :: outer) g L' hid post s) (fun _ _ => False) { s with heap := h₁, toks := tk })
    (hco : scope.isCoroutine = false) (hgen : scope.isGenerator = false) (hk : scope.kind = .function)
    (hcell : ∀ x ∈ scope.names, x.2 ≠ .cell) : Spec w d u f args pre post := by
  intro dp un gd env outer base h₀ L m mg mb mean news s Q E G hf hke F N hdp hun hpre hQ
  have Gs := G.push (env := env) F hf hke
  have hhn := hh base news hpre
  have hb0 : ∀ a ∈ hid.map (·.1), base.get? a = none := fun a ha => by
    obtain ⟨p, hp, rfl⟩ := List.mem_map.mp ha
    cases q : base.get? p.1 with
    | none => rfl
    | some o => have := G.stays _ _ q; rw [(N p (hhn p hp)).2.2] at this; cases this
  have hb1 : ∀ a ∈ hid.map (·.1), a ∉ frs (env :: outer) := fun a ha hb => by
    obtain ⟨p, hp, rfl⟩ := List.mem_map.mp ha
    have hfrs : frs (env :: outer) = L :: frs outer := by simp [frs, hf]
    rw [hfrs] at hb
    rcases List.mem_cons.mp hb with e | hb
    · exact (N p (hhn p hp)).2.1 e
    · obtain ⟨o, ho⟩ := G.mem hb
      rw [(N p (hhn p hp)).2.2] at ho; cases ho
  refine wpAny_call ?_
  refine codeAny_call_def (A := ⟨none, dp, some (env :: outer), gd, un⟩) (fd := fnOf name qual params body scope dV kV doc pm an cdv ct) (body := body) (binds := binds)
    (show dp < recursionLimit from Nat.lt_of_le_of_lt (Nat.le_add_right _ _) hdp) (Gs.X _ _ ho) rfl Gs.T.nolimit (codeRec_of Gs.X hcd) rfl (hbind s) hcell hloc (fun h₁ hns hk₁ => ?_) hco hgen hk
  have Gg := Gs.hide hb0 hb1
  refine wpAny_mono (h dp un gd env outer base (hideAll s.heap (hid.map (·.1))) h₁ s.heap.objs.size _ mg mb mean news s hdp hun hpre
    ⟨hns, fun b o e => hk₁ b o (of_hideAll _ e), Nat.le_of_eq (hideAll_size _ _)⟩
    (fun p hp => ⟨hk₁ _ _ (N p (hhn p hp)).1, Nat.ne_of_lt (Heap.lt_size (N p (hhn p hp)).1), hideAll_none _ (List.mem_map_of_mem hp)⟩)
    (fun p hp => Heap.lt_size (N p (hhn p hp)).1) Gg (Rebase.refl _ _) Gg.X Gg.T) (fun fl s' hd => ?_) fun _ _ x => x.elim
  cases hd with
  | intro res R F' N' P =>
    obtain ⟨r1, r2, r3⟩ := back G hf F N hhn rfl R F' N'
    exact hQ _ _ _ _ res r1 r2 r3 P

/-- a call in a walk -/
theorem Spec.use {base h₀ g₀ : Heap} {outer : List Env} {L : Addr} {m mg mb : Str → Option Value} {env : Env} {mean : ExcName → Option Value} {dp un : Nat} {gd : Option (List Code)} {news : List (Addr × Obj)}
    {s : Shared} {Q E : Value → Shared → Prop} (S : Spec w d u f args pre post)
    (G : Gnd w base outer h₀ mean mg mb) (hR : Rebase (frs outer) g₀ h₀) (F : Fr h₀ L s.heap m) (N : News h₀ L s.heap news)
    (hf : env.frame = some L) (hk : env.scope.kind = .function) (hd : dp + d < recursionLimit) (hu : un + u < cLine) (hpre : pre base news)
    (h : ∀ v h' tk' h₀' res, Gnd w base outer h₀' mean mg mb → Rebase (frs outer) g₀ h₀' → (Mine.hd.heap_39 w.params).In h₀' → Top Mine.hd.view_39 (looseW Mine.hd.view_39 [Str.ofString "filterfalse"]) mean mg mb h₀' → Fr h₀' L h' m → News h₀' L h' (res ++ news) → post res v → Q v { s with heap := h', toks := tk' }) :
    wpAny (model prog w) ⟨none, dp, some (env :: outer), gd, un⟩ (call (.ref f) args) Q E s :=
  S dp un gd env outer base h₀ L m mg mb mean news s Q E G hf hk F N hd hu hpre fun v h' tk' h₀' res R F' N' P =>
    have G' := G.rebase R
    h v h' tk' h₀' res G' (hR.trans R) G'.X G'.T F' N' P
end

theorem size_line {k : Nat} (h : k ≤ 2000000) : k ≤ sizeLine := by rw [sizeLine_eq]; omega
end Mine

end

section
open PySem PySem.W PySem.Calls PyProof.Rows
set_option maxRecDepth 100000
namespace Mine

theorem look_contains : typeLookup (.type "list") "__contains__" = pure (some (.builtin "list.__contains__")) := by rw [typeLookup_type, builtinLookup_eq_fast]; kernel_rfl
theorem type_contains : typeOf (.builtin "list.__contains__") = pure (.type "wrapper_descriptor") := by show builtinType _ = _; rw [builtinType_eq_fast]; kernel_rfl
theorem look_get : typeLookup (.type "wrapper_descriptor") "__get__" = pure (some (.builtin "wrapper_descriptor.__get__")) := by rw [typeLookup_type, builtinLookup_eq_fast]; kernel_rfl
theorem look_set : typeLookup (.type "wrapper_descriptor") "__set__" = pure none := by rw [typeLookup_type, builtinLookup_eq_fast]; kernel_rfl
theorem look_delete : typeLookup (.type "wrapper_descriptor") "__delete__" = pure none := by rw [typeLookup_type, builtinLookup_eq_fast]; kernel_rfl

theorem slot_get : Slot "wrapper_descriptor" "__get__" "wrapper_descriptor.__get__" :=
  .of (owner := "wrapper_descriptor") (n := "__get__") (by rw [typeLookup_type, builtinLookup_eq_fast]; kernel_rfl) (by decide +kernel) (by decide +kernel) (by decide +kernel)
    (by first | exact .inl (by decide +kernel) | exact .inr (by decide +kernel)) (by rw [isSubtype_type]; kernel_rfl)
theorem entry_get : entryFor table "wrapper_descriptor.__get__" = some Builtin.«wrapper_descriptor.__get__» := entryFor_of_tree (by kernel_rfl)
theorem args_get (a b c : Value) : argsOk "wrapper_descriptor.__get__" ⟨[a, b, c], []⟩ := by unfold argsOk; kernel_rfl

section
variable {prog : Program} {w : World} {A : Around} {E : Value → Shared → Prop} {s : Shared} {k : Addr} {ks : Array Value} {n : Nat}

theorem run_get {P : Fin → Shared → Prop} (hx : s.heap.get? k = some (listOf ks n)) (h : P (.done (.ret (.ref s.heap.objs.size))) { s with heap := s.heap.push { cls := .type "method-wrapper", data := .fields #[.builtin "list.__contains__", .ref k] } }) :
    wpAny (model prog w) A (Builtin.«wrapper_descriptor.__get__» ⟨[.builtin "list.__contains__", .ref k, .type "list"], []⟩) P E s := by
  obtain ⟨hp, g, d, tk, os⟩ := s
  have hT : (⟨hp, g, d, tk, os⟩ : Shared).TypeIs (.ref k) "list" := ⟨_, hx, rfl⟩
  have f1 : isSubtype (.type "list") (.type (".".intercalate ("list.__contains__".cutAt '.').dropLast)) = pure true := by
    rw [show (".".intercalate ("list.__contains__".cutAt '.').dropLast) = "list" from by decide +kernel]; exact F.sub_list_list
  unfold Builtin.«wrapper_descriptor.__get__»
  repeat (any_goals (first | assumption | wp_step))

theorem meets_getattribute_contains (u : Tok) :
    Meets (Builtin.«object.__getattribute__» ⟨[.ref k, .str (Str.ofString "__contains__") u], []⟩) (fun A R s => s.heap.get? k = some (listOf ks n) ∧
      ∀ tk, R (.ok (.ret (.ref s.heap.objs.size))) { s with heap := s.heap.push { cls := .type "method-wrapper", data := .fields #[.builtin "list.__contains__", .ref k] }, toks := tk }) :=
  Meets.of_wp fun prog w A R s hs => by
    obtain ⟨hp, g, d, tk, os⟩ := s
    obtain ⟨hx, hs⟩ := hs
    have hT : (⟨hp, g, d, tk, os⟩ : Shared).TypeIs (.ref k) "list" := ⟨_, hx, rfl⟩
    have f1 := look_contains
    have f2 := type_contains
    have f3 := look_get
    have f4 := look_set
    have f5 := look_delete
    unfold Builtin.«object.__getattribute__»
    repeat (any_goals (first | assumption | ((with_reducible show wpAny _ _ (call (Value.builtin "wrapper_descriptor.__get__") _ _) _ _ _); refine wpAny_call_entry slot_get type_contains entry_get (run_get hx ⟨_, rfl, ?_⟩) (args_get _ _ _)) | wp_step))
    exact ⟨_, rfl, hs _⟩

theorem getAttr_contains {Q : Value → Shared → Prop} (hx : s.heap.get? k = some (listOf ks n))
    (h : ∀ tk, Q (.ref s.heap.objs.size) { s with heap := s.heap.push { cls := .type "method-wrapper", data := .fields #[.builtin "list.__contains__", .ref k] }, toks := tk }) :
    wpAny (model prog w) A (getAttr (.ref k) (Str.ofString "__contains__") true) Q E s := by
  obtain ⟨hp, g, d, tk, os⟩ := s
  have hT : ∀ tk', (⟨hp, g, d, tk', os⟩ : Shared).TypeIs (.ref k) "list" := fun _ => ⟨_, hx, rfl⟩
  have f3 := F.slot_list_getattribute.lookup
  have f4 := F.slot_list_getattribute.bind (.ref k)
  have f5 := am_list_getattr_none
  unfold getAttr getAttrBy
  repeat (any_goals (first | assumption | exact hT _ | ((with_reducible show wpAny _ _ (call (Value.builtin "list.__getattribute__") _ _) _ _ _); refine call_meets F.slot_list_getattribute (hT _) am_entry_list_getattribute (F.args_list_getattribute_2 _ _) (meets_getattribute_contains _) ⟨hx, fun tk' => ?_⟩) | wp_step))
  exact handed_on rfl (h tk')

abbrev wrapObj (k : Addr) : Obj := { cls := .type "method-wrapper", data := .fields #[.builtin "list.__contains__", .ref k] }
theorem check_contains {k : Addr} {x : Value} : checkBoundCall "list.__contains__" ⟨[.ref k, x], []⟩ = pure () := by first | kernel_rfl | rfl
theorem quiet_contains {as : Args} : (Code.builtin "list.__contains__" as).quiet = true := Code.quiet_builtin _ (by decide +kernel)
theorem plain_contains : plainId "list.__contains__" = true := by decide +kernel

/-- the bound membership test, called -/
theorem call_contains {q : Addr} {x : Value} {ks : List Value} {Q : Value → Shared → Prop} (hq : s.heap.get? q = some (wrapObj k)) (hk : s.heap.get? k = some (listOf ks.toArray n))
    (e : Value → Bool) (he : ∀ y ∈ ks, MeetsSeq.EqGives y x (e y)) (h : Q (.bool (ks.any e)) s) : wpAny (model prog w) A (call (.ref q) [x]) Q E s := by
  refine wpAny_call (codeAny_of_tree ?_)
  show wpAny _ A.in1 (callAny (.ref q) ⟨[x], []⟩) _ _ s
  simp only [callAny]
  refine wpAny_bind (wpAny_load hq ?_)
  simp only [wrapObj]
  refine wpAny_ite ?_
  rw [if_pos (by decide)]
  refine KFB.if_so (by decide) ?_
  refine wpAny_bind (wpAny_of_eq (a := ()) check_contains ?_)
  refine wpAny_bind (wpAny_pure (wpAny_pure ?_))
  refine ⟨quiet_contains, codeAny_builtin F.entry_list_contains ?_⟩
  rw [Around.under_plainId plain_contains]
  have h' : Q (.bool (ks.toArray.any e)) s := by simpa using h
  exact MeetsSeq.list_contains k ks.toArray n x e (fun y hy => he y (by simpa using hy)) prog w A _ s ⟨hk, h'⟩

theorem getAttr_contains_N {h₀ : Heap} {L : Addr} {m : Str → Option Value} {news : List (Addr × Obj)} {Q : Value → Shared → Prop} (F : Fr h₀ L s.heap m) (N : News h₀ L s.heap news) (hx : s.heap.get? k = some (listOf ks n))
    (h : ∀ q h' tk, Fr h₀ L h' m → News h₀ L h' ((q, wrapObj k) :: news) → (∀ p ∈ news, p.1 < q) → Q (.ref q) { s with heap := h', toks := tk }) :
    wpAny (model prog w) A (getAttr (.ref k) (Str.ofString "__contains__") true) Q E s :=
  getAttr_contains hx fun tk => h _ _ tk (F.push _) (News.push F N _) fun p hp => Heap.lt_size (N p hp).1
end
end Mine

end

section
open PySem PySem.W PySem.Calls PyProof.Rows
set_option maxRecDepth 100000
namespace Mine
abbrev iterObj (l : Addr) (i : Nat) : Obj := { cls := .type "list_iterator", data := .fields #[.ref l, .int i 0] }
abbrev iterEnd (i : Nat) : Obj := { cls := .type "list_iterator", data := .fields #[.none, .int i 0] }

section
variable {prog : Program} {w : World} {A : Around} {E : Value → Shared → Prop} {s : Shared} {I l : Addr} {i nl : Nat} {vs : List Value} {v : Value}

theorem next_open {Q : Value → Shared → Prop} (hit : s.heap.IsListIter I l i)
    (h : wpAny (model prog w) A.in1 (callSpecial? (.ref I) (Str.ofString "__next__")) (fun r s' => match r with | some v => Q v s' | none => False) E s) :
    wpAny (model prog w) A (call (.builtin "next") [.ref I]) Q E s := by
  refine call_function_entry (by decide +kernel) (by decide +kernel) kdk_entry_next (kdk_args_next _) ?_
  unfold Builtin.«next»
  refine wpAny_bind (m := someArgs "next" 1 2 _) (wpAny_of_eq (a := [Value.ref I]) (by first | rfl | kernel_rfl!) ?_)
  dsimp only
  refine wpAny_bind (wpAny_specialOf (name := Str.ofString "__next__") hit.typeIs slot_listiter_next.lookup ?_)
  refine wpAny_ite_split (fun hab => absurd hab (by decide)) (fun _ => ?_)
  refine wpAny_bind (wpAny_mono h (fun r s' hr => ?_) fun _ _ e => e)
  cases r with
  | none => exact hr.elim
  | some v => exact wpAny_pure ⟨_, rfl, hr⟩

theorem next_item {Q : Value → Shared → Prop} (hI : s.heap.get? I = some (iterObj l i)) (hl : s.heap.get? l = some (listOf vs.toArray nl)) (hx : vs[i]? = some v)
    (h : ∀ h', h'.get? I = some (iterObj l (i + 1)) → Heap.SameBut I s.heap h' → Q v { s with heap := h' }) :
    wpAny (model prog w) A (call (.builtin "next") [.ref I]) Q E s := by
  have hit : s.heap.IsListIter I l i := ⟨_, hI, rfl, rfl⟩
  refine next_open hit ?_
  refine wpAny_callSpecial?_slot (name := Str.ofString "__next__") hit.typeIs slot_listiter_next
    (wpAny_call_entry slot_listiter_next hit.typeIs entry_listiter_next ?_ (args_listiter_next _))
  show wpAny _ _ (field (.ref I) 0 >>= _) _ _ s
  refine wpAny_bind (wpAny_field hI rfl (x := .ref l) rfl ?_)
  show wpAny _ _ (if (Value.ref l == Value.none) = true then _ else _) _ _ s
  rw [if_neg (show ¬ ((Value.ref l == Value.none) = true) from Bool.false_ne_true)]
  show wpAny _ _ (field (.ref I) 1 >>= _) _ _ s
  refine wpAny_bind (wpAny_field hI rfl (x := .int i 0) rfl ?_)
  show wpAny _ _ (seqItems? (.ref l) >>= _) _ _ s
  refine wpAny_bind (wpAny_seqItems hl rfl ?_)
  have hx' : vs.toArray[i]? = some v := by simpa using hx
  simp only [Int.toNat_natCast, hx']
  refine wpAny_bind (wpAny_setField hI rfl (by simp) (wpAny_pure ⟨v, rfl, h _ ?_ (Heap.SameBut.update ..)⟩))
  rw [Heap.get?_update_self _ hI rfl]
  rfl

theorem next_end {Q : Value → Shared → Prop} (hh : A.handled = none) (hI : s.heap.get? I = some (iterObj l i)) (hl : s.heap.get? l = some (listOf vs.toArray nl)) (hx : vs[i]? = none)
    (h : ∀ h₁ h' e, h₁.get? I = some (iterEnd i) → Heap.SameBut I s.heap h₁ → Heap.MadeExcOf h₁ h' e (.type "StopIteration") [] → E (.ref e) { s with heap := h' }) :
    wpAny (model prog w) A (call (.builtin "next") [.ref I]) Q E s := by
  have hit : s.heap.IsListIter I l i := ⟨_, hI, rfl, rfl⟩
  refine next_open hit ?_
  refine wpAny_callSpecial?_slot (name := Str.ofString "__next__") hit.typeIs slot_listiter_next
    (wpAny_call_entry slot_listiter_next hit.typeIs entry_listiter_next ?_ (args_listiter_next _))
  show wpAny _ _ (field (.ref I) 0 >>= _) _ _ s
  refine wpAny_bind (wpAny_field hI rfl (x := .ref l) rfl ?_)
  show wpAny _ _ (if (Value.ref l == Value.none) = true then _ else _) _ _ s
  rw [if_neg (show ¬ ((Value.ref l == Value.none) = true) from Bool.false_ne_true)]
  show wpAny _ _ (field (.ref I) 1 >>= _) _ _ s
  refine wpAny_bind (wpAny_field hI rfl (x := .int i 0) rfl ?_)
  show wpAny _ _ (seqItems? (.ref l) >>= _) _ _ s
  refine wpAny_bind (wpAny_seqItems hl rfl ?_)
  have hx' : vs.toArray[i]? = none := by simpa using hx
  simp only [Int.toNat_natCast, hx']
  refine wpAny_bind (wpAny_rule (wpAny_bind (wpAny_setField hI rfl (by simp) ?_)))
  show wpAny _ _ (newExc (.type "StopIteration") [] >>= _) _ _ _
  refine wpAny_bind ?_
  simp only [newExc, newTuple]
  refine wpAny_bind (wpAny_newObj_type ?_ (by size_fits))
  refine wpAny_bind (m := firstArgMember _ _) (wpAny_of_eq (a := Value.none) (by first | rfl | (simp only [firstArgMember]; rfl)) ?_)
  refine wpAny_newObj_type ?_ (by size_fits)
  simp only [raiseNew]
  refine wpAny_bind (wpAny_handled ?_)
  rw [show A.in1.in1.handled = none from hh]
  refine wpAny_bind (wpAny_pure (wpAny_throw ?_))
  refine h (s.heap.update I (Obj.mapFields (·.setIfInBounds 0 .none))) _ _ ?_ (Heap.SameBut.update ..) ?_
  · rw [Heap.get?_update_self _ hI rfl]
    rfl
  · have hsz := Heap.size_push (s.heap.update I (Obj.mapFields (·.setIfInBounds 0 .none))) { cls := .type "tuple", data := .seq ([] : List Value).toArray }
    refine ⟨fun b o q => Heap.get?_push_of_some _ (Heap.get?_push_of_some _ q), ?_, _, Heap.get?_push_size _ rfl, Heap.get?_none_of_le (Nat.le_refl _), Heap.get?_push_of_some _ (Heap.get?_push_size _ rfl)⟩
    rw [hsz]
    exact Heap.get?_none_of_le (Nat.le_succ _)
end

section
variable {M : Model} {A : Around} {E : Value → Shared → Prop} {s : Shared} {h₁ base : Heap} {envN : Env} {rest : List Env} {LN e : Addr} {cls : Value} {args : List Value}
/-- a frame is left by an exception that was made in it: the frames' slots are written, nothing else that stood -/
theorem leave_made {Q : Unit → Shared → Prop} (hfr : A.frames = some (envN :: rest)) (hf : envN.frame = some LN) (hl : h₁.FunFrames base (envN :: rest)) (hx : Heap.MadeExcOf h₁ s.heap e cls args)
    (hQ : ∀ h', (∀ b o, h₁.get? b = some o → ∃ sl, h'.get? b = some { o with slots := sl } ∧ (b ∉ frs (envN :: rest) → sl = o.slots)) → (∃ ob, h'.get? e = some ob ∧ ob.cls = cls) → Q () { s with heap := h' }) :
    wpAny M A (leaving envN (.ref e)) Q E s := by
  refine wpAny_leaves_madeW (base := hideAll h₁ (frs (envN :: rest))) hfr hf (fun b o q => of_hideAll _ q) (funFrames_hide hl fun env he b hb => List.mem_filterMap.mpr ⟨env, he, hb⟩) hx fun h' t x1 _ _ x4 => hQ h' (fun b o ho => ?_) x1.there
  by_cases hb : b ∈ frs (envN :: rest)
  · obtain ⟨_, o', ho', hn⟩ := hl.mem hb
    rw [ho] at ho'
    cases ho'
    obtain ⟨sl, hs⟩ := x4 b o (hx.keeps b o ho) hn
    exact ⟨sl, hs, fun z => absurd hb z⟩
  · exact ⟨o.slots, x1.1 b o (hideAll_get _ ho hb), fun _ => rfl⟩
end

section
variable {w : World} {d u : Nat} {f : Addr} {args : List Value}
  {name qual : Str} {params : Arguments} {body : List Stmt} {scope : Scope} {dV kV doc pm cdv ct oc : Value} {an od : Option Addr} {osl : Array (Option Value)} {binds : List (Str × Value)}
  {dp un : Nat} {gd : Option (List Code)} {rest : List Env} {base : Heap} {mean : ExcName → Option Value} {mg mb : Str → Option Value} {s : Shared} {Q E : Value → Shared → Prop}

/-- a def is entered that comes back or ends by a StopIteration made in its own frame -/
theorem enterX (hid : List (Addr × Obj)) (R1 : Value → List (Addr × Obj) → Prop) (R2 : List (Addr × Obj) → Prop)
    (ho : (Mine.hd.heap_39 w.params).lookup f = some ⟨oc, od, .func (fnOf name qual params body scope dV kV doc pm an cdv ct), osl⟩) (hcd : codeIn (Mine.hd.heap_39 w.params) cdv qual = true)
    (hbind : ∀ s, BindsTo s (fnOf name qual params body scope dV kV doc pm an cdv ct) ⟨args, []⟩ binds) (hloc : ∀ y ∈ binds, scope.names.lookup y.1 = some .local)
    (G : Gnd w base rest s.heap mean mg mb) (hat : ∀ p ∈ hid, s.heap.get? p.1 = some p.2) (hb0 : ∀ p ∈ hid, base.get? p.1 = none) (hb1 : ∀ p ∈ hid, p.1 ∉ frs rest) (hroom : dp < recursionLimit)
    (h : ∀ (g h₁ : Heap) (L' tk : Nat) (Q' : Flow → Shared → Prop) (E' : Value → Shared → Prop),
      Fr g L' h₁ (fun y => binds.reverse.lookup y) → News g L' h₁ hid → (∀ p ∈ hid, p.1 < L') → Gnd w base rest g mean mg mb → (Mine.hd.heap_39 w.params).In g → Top Mine.hd.view_39 (looseW Mine.hd.view_39 [Str.ofString "filterfalse"]) mean mg mb g →
      (∀ b o, s.heap.get? b = some o → b ∉ hid.map (·.1) → g.get? b = some o) →
      PassesOwn (model prog w) ⟨none, dp + 1, some (envOf qual scope L' f cdv :: rest), gd, un + 3⟩ (envOf qual scope L' f cdv) E' →
      (∀ v h' tk' m' led, Fr g L' h' m' → News g L' h' led → R1 v led → Q' (.ret v) { s with heap := h', toks := tk' }) →
      (∀ h₂ h' tk' e m' led, Fr g L' h₂ m' → News g L' h₂ led → R2 led → Heap.MadeExcOf h₂ h' e (.type "StopIteration") [] → E' (.ref e) { s with heap := h', toks := tk' }) →
      wpAny (model prog w) ⟨none, dp + 1, some (envOf qual scope L' f cdv :: rest), gd, un + 3⟩ (execs body (envOf qual scope L' f cdv)) Q' E' { s with heap := h₁, toks := tk })
    (ret : ∀ v h' tk' led, (∀ b o, b ∉ hid.map (·.1) → s.heap.get? b = some o → h'.get? b = some o) → (∀ p ∈ led, h'.get? p.1 = some p.2) → R1 v led → Q v { s with heap := h', toks := tk' })
    (stop : ∀ h' tk' e led, (∀ b o, b ∉ hid.map (·.1) → s.heap.get? b = some o → ∃ sl, h'.get? b = some { o with slots := sl } ∧ (b ∉ frs rest → sl = o.slots)) →
      (∀ p ∈ led, p.1 ∉ frs rest → h'.get? p.1 = some p.2) → R2 led → (∃ ob, h'.get? e = some ob ∧ ob.cls = .type "StopIteration") → E (.ref e) { s with heap := h', toks := tk' })
    (hco : scope.isCoroutine = false) (hgen : scope.isGenerator = false) (hk : scope.kind = .function)
    (hcell : ∀ x ∈ scope.names, x.2 ≠ .cell) : wpAny (model prog w) ⟨none, dp, some rest, gd, un⟩ (call (.ref f) args) Q E s := by
  refine wpAny_call ?_
  refine codeAny_call_def (A := ⟨none, dp, some rest, gd, un⟩) (fd := fnOf name qual params body scope dV kV doc pm an cdv ct) (body := body) (binds := binds)
    hroom (G.X _ _ ho) rfl G.T.nolimit (codeRec_of G.X hcd) rfl (hbind s) hcell hloc (fun h₁ hns hk₁ => ?_) hco hgen hk
  have Gg := G.hide (as := hid.map (·.1)) (fun a ha => by obtain ⟨p, hp, rfl⟩ := List.mem_map.mp ha; exact hb0 p hp) (fun a ha => by obtain ⟨p, hp, rfl⟩ := List.mem_map.mp ha; exact hb1 p hp)
  have toG : ∀ b o, s.heap.get? b = some o → b ∉ hid.map (·.1) → (hideAll s.heap (hid.map (·.1))).get? b = some o := fun b o e hb => hideAll_get _ e hb
  refine h (hideAll s.heap (hid.map (·.1))) h₁ s.heap.objs.size _ _ _ ⟨hns, fun b o e => hk₁ b o (of_hideAll _ e), Nat.le_of_eq (hideAll_size _ _)⟩
    (fun p hp => ⟨hk₁ _ _ (hat p hp), Nat.ne_of_lt (Heap.lt_size (hat p hp)), hideAll_none _ (List.mem_map_of_mem hp)⟩)
    (fun p hp => Heap.lt_size (hat p hp)) Gg Gg.X Gg.T toG PassesOwn.leaving ?_ ?_
  · intro v h' tk' m' led F' N' hr
    exact ret v h' tk' led (fun b o hb e => F'.keep _ _ (toG b o e hb)) (fun p hp => (N' p hp).1) hr
  · intro h₂ h' tk' e m' led F' N' hr hx
    have GN := Gg.push (env := envOf qual scope s.heap.objs.size f cdv) F' rfl hk
    refine leave_made (s := { s with heap := h', toks := tk' }) (rest := rest) rfl rfl GN.frames hx fun h'' hh hthere => ?_
    have hfr : ∀ b, b ≠ s.heap.objs.size → b ∉ frs rest → b ∉ frs (envOf qual scope s.heap.objs.size f cdv :: rest) := fun b h1 h2 hb => by
      have e : frs (envOf qual scope s.heap.objs.size f cdv :: rest) = s.heap.objs.size :: frs rest := by simp [frs, envOf]
      rw [e] at hb
      rcases List.mem_cons.mp hb with hb | hb
      · exact h1 hb
      · exact h2 hb
    refine stop h'' tk' e led (fun b o hb e => ?_) (fun p hp hpr => ?_) hr hthere
    · obtain ⟨sl, e1, e2⟩ := hh b o (F'.keep _ _ (toG b o e hb))
      exact ⟨sl, e1, fun z => e2 (hfr b (Nat.ne_of_lt (Heap.lt_size e)) z)⟩
    · obtain ⟨sl, e1, e2⟩ := hh p.1 p.2 (N' p hp).1
      rw [e2 (hfr p.1 (N' p hp).2.1 hpr)] at e1
      exact e1
end
end Mine

end

section
open PySem PySem.W PySem.Calls PyProof.Rows
namespace Mine
theorem fill_part4 : PySem.Challenge.rw_il0001_01 = PySem.Challenge.rw_il0001_01 ∧ Mine.hd.heap_39 = Mine.hd.heap_39 := by k_fill; exact ⟨rfl, rfl⟩
local macro_rules | `(tactic| k_units) => `(tactic| ktr_units)
local macro_rules | `(tactic| k_room) => `(tactic| ktr_room)
abbrev ffObj (dx q I : Addr) : Obj := { cls := .ref 141, dict := some dx, data := .plain, slots := #[some (.ref q), some (.ref I)] }

def Halt (P : Prop) : Prop := P
theorem Halt.out {P : Prop} (h : Halt P) : P := h
section
variable {prog : Program} {w : World} {A : Around} {E : Value → Shared → Prop} {s : Shared} {h₀ : Heap} {L x dx I l q k : Addr} {m : Str → Option Value} {ox od : Obj} {i nl nk : Nat} {vs ks : List Value} {v : Value}
theorem three_set {h h' : Heap} {o o' : Obj} (N : News h₀ L h [(x, ox), (dx, od), (I, o)]) (h1 : x ≠ I) (h2 : dx ≠ I) (hs : Heap.SameBut I h h') (ho : h'.get? I = some o') : News h₀ L h' [(x, ox), (dx, od), (I, o')] := by
  intro p hp
  rcases List.mem_cons.mp hp with rfl | hp
  · have z := N (x, ox) (.head _); exact ⟨(hs.2 x h1).trans z.1, z.2⟩
  rcases List.mem_cons.mp hp with rfl | hp
  · have z := N (dx, od) (.tail _ (.head _)); exact ⟨(hs.2 dx h2).trans z.1, z.2⟩
  · rw [List.mem_singleton.mp hp]
    have z := N (I, o) (.tail _ (.tail _ (.head _)))
    exact ⟨ho, z.2⟩
theorem next_itemN {Q : Value → Shared → Prop} (F : Fr h₀ L s.heap m) (N : News h₀ L s.heap [(x, ox), (dx, od), (I, iterObj l i)]) (h1 : x ≠ I) (h2 : dx ≠ I) (hl : h₀.get? l = some (listOf vs.toArray nl)) (hv : vs[i]? = some v)
    (h : ∀ h', Fr h₀ L h' m → News h₀ L h' [(x, ox), (dx, od), (I, iterObj l (i + 1))] → Q v { s with heap := h' }) : wpAny (model prog w) A (call (.builtin "next") [.ref I]) Q E s := by
  have z := N (I, iterObj l i) (.tail _ (.tail _ (.head _)))
  exact next_item z.1 (F.keep _ _ hl) hv fun h' hI hs => h h' (F.change hs z.2.1 z.2.2) (three_set N h1 h2 hs hI)
theorem next_endN {Q : Value → Shared → Prop} (hh : A.handled = none) (F : Fr h₀ L s.heap m) (N : News h₀ L s.heap [(x, ox), (dx, od), (I, iterObj l i)]) (h1 : x ≠ I) (h2 : dx ≠ I) (hl : h₀.get? l = some (listOf vs.toArray nl)) (hv : vs[i]? = none)
    (h : ∀ h₁ h' e, Fr h₀ L h₁ m → News h₀ L h₁ [(x, ox), (dx, od), (I, iterEnd i)] → Heap.MadeExcOf h₁ h' e (.type "StopIteration") [] → E (.ref e) { s with heap := h' }) : wpAny (model prog w) A (call (.builtin "next") [.ref I]) Q E s := by
  have z := N (I, iterObj l i) (.tail _ (.tail _ (.head _)))
  exact next_end hh z.1 (F.keep _ _ hl) hv fun h₁ h' e hI hs hx => h h₁ h' e (F.change hs z.2.1 z.2.2) (three_set N h1 h2 hs hI) hx

theorem callWith_wrap {pos : Pos} {first : List Value} {env : Env} {e : PySem.Expr} {rest : List PySem.Expr} {Q : Value → Shared → Prop} (_F : Fr h₀ L s.heap m) (_hq : h₀.get? q = some (wrapObj k))
    (h : wpAny (model prog w) A (spliced (backTo pos (starEach (e :: rest) env))) (fun vs s₁ => s₁.heap.get? q = some (wrapObj k) ∧ wpAny (model prog w) A (call (.ref q) (first ++ vs)) Q E s₁) E s)
    (he : starEach (e :: rest) env = (false, eval e env) :: starEach rest env := by rfl) (hplain : (backTo pos (starEach rest env)).any (·.1) = false := by rfl) :
    wpAny (model prog w) A (callWith pos (.ref q) first (backTo pos (starEach (e :: rest) env)) []) Q E s := by
  rw [he] at h ⊢
  unfold callWith
  refine wpAny_bind (wpAny_holding (wpAny_mono (evalArgs_plain (Q := fun x s₁ => s₁.heap.get? q = some (wrapObj k) ∧ wpAny (model prog w) A (call (.ref q) (first ++ x.pos) x.kw) Q E s₁) h) (fun x s₁ h₁ => wpAny_bind (wpAny_standAt ?_)) fun _ _ x => x))
  obtain ⟨ho, hcall⟩ := h₁
  have hp : ((backTo pos ((false, eval e env) :: starEach rest env)).any (·.1) || ([] : List (Option Str × Sem Value)).any (·.1.isNone)) = false := by
    show ((false || (backTo pos (starEach rest env)).any (·.1)) || false) = false
    rw [hplain]; rfl
  simp only [hp]
  refine wpAny_bind (m := keeperOf (.ref q)) ?_
  unfold keeperOf
  refine wpAny_bind (wpAny_load ho ?_)
  simp only [wrapObj, show (Value.type "method-wrapper" != Value.type "method") = true by decide, show (Value.type "method-wrapper" == Value.type "builtin_function_or_method" || Value.type "method-wrapper" == Value.type "method-wrapper") = true by decide, if_true]
  refine wpAny_pure ?_
  exact wpAny_bind (wpAny_mono hcall (fun r s₂ hr => wpAny_bind (wpAny_holding (wpAny_point (wpAny_pure hr)))) fun _ _ x => x)
end
local macro_rules | `(tactic| walk_at "call builtin:next") => `(tactic| (k_here; k_dflt (first
  | (refine' next_itemN ?k1 ?k2 ?k3 ?k4 ?k5 ?k6 ?_; (case k1 => k_asm); (case k2 => k_asm); (case k3 => assumption); (case k4 => assumption); (case k5 => assumption); (case k6 => assumption); k_whole; intro h' F' N'; (try k_sweep))
  | (refine' next_endN ?k0 ?k1 ?k2 ?k3 ?k4 ?k5 ?k6 ?_; (case k0 => rfl); (case k1 => k_asm); (case k2 => k_asm); (case k3 => assumption); (case k4 => assumption); (case k5 => assumption); (case k6 => assumption); k_whole; refine Halt.out ?_))))
local macro_rules | `(tactic| walk_at "callWith ref") => `(tactic| (k_here; k_dflt (refine' callWith_wrap ?k1 ?k2 ?_; (case k1 => k_asm); (case k2 => assumption); k_whole)))
local macro_rules | `(tactic| walk_at "And") => `(tactic| ((with_reducible show _ = some (wrapObj _) ∧ _); k_dflt (refine ⟨Fr.keep (by k_asm) _ _ (by assumption), ?_⟩); try dsimp only [List.nil_append, List.cons_append]))
local macro_rules | `(tactic| walk_at "call ref") => `(tactic| (k_here; k_dflt (refine' call_contains ?k1 ?k2 _ ?k3 ?_; (case k1 => exact Fr.keep (by k_asm) _ _ (by assumption)); (case k2 => exact Fr.keep (by k_asm) _ _ (by assumption)); (case k3 => assumption); k_whole)))

local macro_rules | `(tactic| walk_at "exec While") => `(tactic| ((with_reducible show wpAny _ _ (exec (Stmt.While _ _ _ _) _) _ _ _); refine Halt.out ?_))
local macro_rules | `(tactic| walk_at "exec While Constant") => `(tactic| ((with_reducible show wpAny _ _ (exec (Stmt.While _ _ _ _) _) _ _ _); refine Halt.out ?_))
local macro_rules | `(tactic| walk_at "exec") => `(tactic| ((with_reducible show wpAny _ _ (exec (Stmt.While _ _ _ _) _) _ _ _); refine Halt.out ?_))

theorem fr_same {h₀ h : Heap} {L : Addr} {m m' : Str → Option Value} (F : Fr h₀ L h m) (e : ∀ y, m y = m' y) : Fr h₀ L h m' := by rw [← funext e]; exact F
/-- how a turn of a loop ends -/
def WEnd (I : Nat → Shared → Prop) (n : Nat) (Q : Flow → Shared → Prop) (f : Flow) (s₃ : Shared) : Prop := match f with
  | .next | .cont => ∃ m, m < n ∧ I m s₃
  | .brk => Q .next s₃
  | .ret v => Q (.ret v) s₃
theorem while_inv {prog : Program} {w : World} {A : Around} {E : Value → Shared → Prop} {s : Shared} {env : Env} {test : PySem.Expr} {body : List Stmt} {pos : Pos} {Q : Flow → Shared → Prop} (I : Nat → Shared → Prop) (hE : PassesOwn (model prog w) A env E) (n : Nat) (h0 : I n s)
    (turn : ∀ n s, I n s → wpAny (model prog w) A (isTrue test env (eval test env)) (fun b s₂ => if b = true then wpAny (model prog w) A (execs body env) (WEnd I n Q) E s₂ else Q .next s₂) E s) : wpAny (model prog w) A (exec (.While test body [] pos) env) Q E s := by
  refine wpAny_While (codeAny_whileLoop I (fun n s hI => wpAny_passesOwn hE (wpAny_mono (turn n s hI) (fun b s₂ hb => ?_) fun _ _ e => e)) n h0)
  cases b with
  | true =>
    simp only [if_true] at hb ⊢
    exact wpAny_passesOwn hE hb
  | false =>
    simp only [Bool.false_eq_true, if_false] at hb ⊢
    exact wpAny_execs_nil hb

set_option maxRecDepth 100000 in
set_option maxHeartbeats 4000000 in
theorem next_spec {w : World} {base : Heap} {rest : List Env} {mean : ExcName → Option Value} {mg mb : Str → Option Value} {dp un : Nat} {gd : Option (List Code)} {s : Shared} {Q E : Value → Shared → Prop}
    {x dx I l q k : Addr} {vs ks : List Value} {nl nk j : Nat} (keep : Value → Bool)
    (hkeep : ∀ v ∈ vs, ∃ e : Value → Bool, (∀ y ∈ ks, MeetsSeq.EqGives y v (e y)) ∧ ks.any e = !keep v)
    (G : Gnd w base rest s.heap mean mg mb) (hx : s.heap.get? x = some (ffObj dx q I)) (hdx : s.heap.get? dx = some (dictOf [] 0)) (hI : s.heap.get? I = some (iterObj l j)) (hl : s.heap.get? l = some (listOf vs.toArray nl))
    (hq : s.heap.get? q = some (wrapObj k)) (hk : s.heap.get? k = some (listOf ks.toArray nk)) (hj : j ≤ vs.length)
    (hb0 : ∀ p ∈ [(x, ffObj dx q I), (dx, dictOf [] 0), (I, iterObj l j)], base.get? p.1 = none) (hb1 : ∀ p ∈ [(x, ffObj dx q I), (dx, dictOf [] 0), (I, iterObj l j)], p.1 ∉ frs rest)
    (hdp : dp + 1 < recursionLimit) (hun : un + 32 < cLine)
    (ret : ∀ v j' h' tk', (∀ b o, b ≠ I → s.heap.get? b = some o → h'.get? b = some o) → h'.get? I = some (iterObj l j') → j' ≤ vs.length → j < j' →
      (vs.take j').filter keep = (vs.take j).filter keep ++ [v] → Q v { s with heap := h', toks := tk' })
    (stop : ∀ h' tk' e, (∀ b o, b ≠ I → s.heap.get? b = some o → ∃ sl, h'.get? b = some { o with slots := sl } ∧ (b ∉ frs rest → sl = o.slots)) → (∃ ob, h'.get? e = some ob ∧ ob.cls = .type "StopIteration") →
      vs.filter keep = (vs.take j).filter keep → E (.ref e) { s with heap := h', toks := tk' }) :
    wpAny (model prog w) ⟨none, dp, some rest, gd, un⟩ (call (.ref 137) [.ref x]) Q E s := by
  refine' enterX (binds := [(Str.ofString "self", .ref x)]) [(x, ffObj dx q I), (dx, dictOf [] 0), (I, iterObj l j)]
    (fun v led => ∃ j', led = [(x, ffObj dx q I), (dx, dictOf [] 0), (I, iterObj l j')] ∧ j' ≤ vs.length ∧ j < j' ∧ (vs.take j').filter keep = (vs.take j).filter keep ++ [v])
    (fun led => (∃ i, led = [(x, ffObj dx q I), (dx, dictOf [] 0), (I, iterEnd i)]) ∧ vs.filter keep = (vs.take j).filter keep)
    ?k6 ?k7 ?k9 ?kB G ?hat hb0 hb1 ?hroom ?_ ?ret ?stop ?c2 ?c3 ?c4 ?c5
  case k6 => k_is
  case k7 => k_is
  case k9 => (intro s; exact BindsTo.of_eq (by rfl))
  case c5 => decide
  case kB => exact locs rfl
  case c2 => exact rfl
  case c3 => exact rfl
  case c4 => exact rfl
  case hat =>
    intro p hp
    rcases List.mem_cons.mp hp with rfl | hp
    · exact hx
    rcases List.mem_cons.mp hp with rfl | hp
    · exact hdx
    · rw [List.mem_singleton.mp hp]; exact hI
  case hroom => omega
  case ret =>
    rintro v h' tk' led h1 h2 ⟨j', rfl, h3, h4, h5⟩
    refine ret v j' h' tk' (fun b o hb e => ?_) (h2 (I, iterObj l j') (.tail _ (.tail _ (.head _)))) h3 h4 h5
    by_cases e1 : b = x
    · subst e1; rw [hx] at e; cases e; exact h2 (b, ffObj dx q I) (.head _)
    by_cases e2 : b = dx
    · subst e2; rw [hdx] at e; cases e; exact h2 (b, dictOf [] 0) (.tail _ (.head _))
    exact h1 b o (by simp [e1, e2, hb]) e
  case stop =>
    rintro h' tk' e led h1 h2 ⟨⟨i, rfl⟩, h5⟩ h6
    refine stop h' tk' e (fun b o hb e => ?_) h6 h5
    by_cases e1 : b = x
    · subst e1; rw [hx] at e; cases e; exact ⟨_, h2 (b, ffObj dx q I) (.head _) (hb1 (b, ffObj dx q I) (.head _)), fun _ => rfl⟩
    by_cases e2 : b = dx
    · subst e2; rw [hdx] at e; cases e; exact ⟨_, h2 (b, dictOf [] 0) (.tail _ (.head _)) (hb1 (b, dictOf [] 0) (.tail _ (.head _))), fun _ => rfl⟩
    exact h1 b o (by simp [e1, e2, hb]) e
  intro g h₁ L' tk Q' E' F' N' hlt G' X' T' htoG hE hret hstop
  have gl : g.get? l = some (listOf vs.toArray nl) := htoG l _ hl (by
    simp only [List.map_cons, List.map_nil, List.mem_cons, List.not_mem_nil, or_false]
    rintro (e | e | e) <;> subst e <;> simp_all)
  have gq : g.get? q = some (wrapObj k) := htoG q _ hq (by
    simp only [List.map_cons, List.map_nil, List.mem_cons, List.not_mem_nil, or_false]
    rintro (e | e | e) <;> subst e <;> simp_all)
  have gk : g.get? k = some (listOf ks.toArray nk) := htoG k _ hk (by
    simp only [List.map_cons, List.map_nil, List.mem_cons, List.not_mem_nil, or_false]
    rintro (e | e | e) <;> subst e <;> simp_all)
  clear ret stop
  have n1 : x ≠ I := fun e => by rw [e, hI] at hx; cases hx
  have n2 : dx ≠ I := fun e => by
    rw [e, hI] at hdx
    have h := congrArg Obj.cls (Option.some.inj hdx)
    simp at h
  (try dsimp only)
  k_steps
  refine while_inv (fun n s' => ∃ i h tk u, s' = { s with heap := h, toks := tk } ∧ i ≤ vs.length ∧ j ≤ i ∧ n = vs.length - i ∧ (vs.take i).filter keep = (vs.take j).filter keep ∧
    Fr g L' h (fun y => if y = Str.ofString "item" then u else if y = Str.ofString "func" then some (Value.ref q) else List.lookup y [(Str.ofString "self", Value.ref x)].reverse) ∧
    News g L' h [(x, ffObj dx q I), (dx, dictOf [] 0), (I, iterObj l i)]) hE (vs.length - j) ?_ ?_
  · rename Fr _ _ _ _ => F0
    rename News _ _ _ _ => N0
    refine ⟨j, _, _, none, rfl, hj, Nat.le_refl _, rfl, rfl, ?_, N0⟩
    refine fr_same F0 fun y => ?_
    by_cases e : y = Str.ofString "item"
    · subst e; rfl
    · simp [e]
  · rintro n s' ⟨i, h, tk, u, rfl, hi, hji, rfl, hfil, F', N'⟩
    cases hv : vs[i]? with
    | none =>
      have hfin : vs.filter keep = (vs.take j).filter keep := by
        rw [← hfil, List.take_of_length_le (by simpa using hv)]
      k_steps
      intro h₁ h' e F1 N1 hx1
      exact hstop h₁ h' _ e _ _ F1 N1 ⟨⟨i, rfl⟩, hfin⟩ hx1
    | some v =>
      obtain ⟨e, he, hany⟩ := hkeep v (List.mem_of_getElem? hv)
      have hlt : i < vs.length := (List.getElem?_eq_some_iff.mp hv).1
      have htk := take_succ_filter keep vs i v hv
      rw [hfil] at htk
      k_steps
      · (try dsimp only)
        have hk0 : keep v = false := by
          have h1 : ks.any e = true := by assumption
          rw [h1] at hany
          simpa using hany.symm
        rw [hk0] at htk
        simp only [Bool.false_eq_true, if_false, List.append_nil] at htk
        exact ⟨vs.length - (i + 1), by omega, i + 1, _, _, some v, rfl, hlt, by omega, rfl, htk, fr_same (by k_asm) (fun y => by by_cases e : y = Str.ofString "item" <;> simp [e]), by k_asm⟩
      · (try dsimp only)
        have hk1 : keep v = true := by
          have h1 : ks.any e = false := by assumption
          rw [h1] at hany
          simpa using hany.symm
        rw [hk1] at htk
        simp only [if_true] at htk
        exact hret v _ _ _ _ (by k_asm) (by k_asm) ⟨i + 1, rfl, hlt, by omega, htk⟩
end Mine

end

section
open PySem PySem.W PySem.Calls PyProof.Rows
namespace Mine
theorem fill_part5 : PySem.Challenge.rw_il0001_01 = PySem.Challenge.rw_il0001_01 ∧ Mine.hd.heap_39 = Mine.hd.heap_39 := by k_fill; exact ⟨rfl, rfl⟩
local macro_rules | `(tactic| k_units) => `(tactic| ktr_units)
local macro_rules | `(tactic| k_room) => `(tactic| ktr_room)

set_option maxRecDepth 100000 in
set_option maxHeartbeats 4000000 in
/-- filterfalse.__iter__ -/
theorem iter_spec {w : World} {base : Heap} {rest : List Env} {mean : ExcName → Option Value} {mg mb : Str → Option Value} {dp un : Nat} {gd : Option (List Code)} {s : Shared} {Q E : Value → Shared → Prop} {x : Addr}
    (G : Gnd w base rest s.heap mean mg mb) (hdp : dp + 1 < recursionLimit)
    (ret : ∀ h' tk', (∀ b o, s.heap.get? b = some o → h'.get? b = some o) → Q (.ref x) { s with heap := h', toks := tk' }) :
    wpAny (model prog w) ⟨none, dp, some rest, gd, un⟩ (call (.ref 130) [.ref x]) Q E s := by
  refine' enterX (binds := [(Str.ofString "self", .ref x)]) [] (fun v _ => v = .ref x) (fun _ => False) ?k6 ?k7 ?k9 ?kB G (fun _ h => nomatch h) (fun _ h => nomatch h) (fun _ h => nomatch h) ?hroom ?_ ?ret ?stop ?c2 ?c3 ?c4 ?c5
  case k6 => k_is
  case k7 => k_is
  case k9 => (intro s; exact BindsTo.of_eq (by rfl))
  case c5 => decide
  case kB => exact locs rfl
  case c2 => exact rfl
  case c3 => exact rfl
  case c4 => exact rfl
  case hroom => omega
  case ret =>
    rintro v h' tk' led h1 h2 rfl
    exact ret h' tk' fun b o e => h1 b o (by simp) e
  case stop =>
    rintro h' tk' e led h1 h2 h3 h4
    exact h3.elim
  intro g h₁ L' tk Q' E' F' N' hlt G' X' T' htoG hE hret hstop
  clear ret
  k_steps
  exact hret _ _ _ _ _ F' N' rfl

structure FSt (w : World) (base : Heap) (rest : List Env) (mean : ExcName → Option Value) (mg mb : Str → Option Value) (x dx I l q k : Addr) (vs ks : List Value) (nl nk : Nat) (j : Nat) (h : Heap) : Prop where
  G : Gnd w base rest h mean mg mb
  x : h.get? x = some (ffObj dx q I)
  dx : h.get? dx = some (dictOf [] 0)
  I : h.get? I = some (iterObj l j)
  l : h.get? l = some (listOf vs.toArray nl)
  q : h.get? q = some (wrapObj k)
  k : h.get? k = some (listOf ks.toArray nk)
  j : j ≤ vs.length

section
variable {w : World} {base : Heap} {rest : List Env} {mean : ExcName → Option Value} {mg mb : Str → Option Value} {x dx I l q k : Addr} {vs ks : List Value} {nl nk j : Nat} {h h' : Heap}
theorem FSt.ne_I (s : FSt w base rest mean mg mb x dx I l q k vs ks nl nk j h) : x ≠ I ∧ dx ≠ I ∧ l ≠ I ∧ q ≠ I ∧ k ≠ I := by
  have hI := s.I
  refine ⟨fun e => ?_, fun e => ?_, fun e => ?_, fun e => ?_, fun e => ?_⟩
  · have := s.x; rw [e, hI] at this; have h := congrArg Obj.cls (Option.some.inj this); simp at h
  · have := s.dx; rw [e, hI] at this; have h := congrArg Obj.cls (Option.some.inj this); simp at h
  · have := s.l; rw [e, hI] at this; have h := congrArg Obj.cls (Option.some.inj this); simp at h
  · have := s.q; rw [e, hI] at this; have h := congrArg Obj.cls (Option.some.inj this); simp at h
  · have := s.k; rw [e, hI] at this; have h := congrArg Obj.cls (Option.some.inj this); simp at h
theorem FSt.step (s : FSt w base rest mean mg mb x dx I l q k vs ks nl nk j h) {j' : Nat} (hb : base.get? I = none) (kp : ∀ b o, b ≠ I → h.get? b = some o → h'.get? b = some o) (hI : h'.get? I = some (iterObj l j')) (hj : j' ≤ vs.length) :
    FSt w base rest mean mg mb x dx I l q k vs ks nl nk j' h' := by
  obtain ⟨n1, n2, n3, n4, n5⟩ := s.ne_I
  refine ⟨⟨fun b o e => kp b o (fun z => by rw [z, hb] at e; cases e) (s.G.stays b o e), s.G.frames.of_keeps fun b o e hn => ⟨o, kp b o (fun z => ?_) e, rfl⟩, s.G.kin, s.G.top⟩, kp _ _ n1 s.x, kp _ _ n2 s.dx, hI, kp _ _ n3 s.l, kp _ _ n4 s.q, kp _ _ n5 s.k, hj⟩
  rw [z, s.I] at e
  cases e
  exact hn _ rfl
theorem FSt.off (s : FSt w base rest mean mg mb x dx I l q k vs ks nl nk j h) {S : Addr} (hb : base.get? S = none) (hS : S ∉ [x, dx, I, l, q, k]) (hf : S ∉ frs rest) (kp : ∀ b o, b ≠ S → h.get? b = some o → h'.get? b = some o) :
    FSt w base rest mean mg mb x dx I l q k vs ks nl nk j h' := by
  have ne : ∀ a ∈ [x, dx, I, l, q, k], a ≠ S := fun a ha e => hS (e ▸ ha)
  refine ⟨⟨fun b o e => kp b o (fun z => by rw [z, hb] at e; cases e) (s.G.stays b o e), ?_, s.G.kin, s.G.top⟩, kp _ _ (ne _ (by simp)) s.x, kp _ _ (ne _ (by simp)) s.dx, kp _ _ (ne _ (by simp)) s.I, kp _ _ (ne _ (by simp)) s.l, kp _ _ (ne _ (by simp)) s.q, kp _ _ (ne _ (by simp)) s.k, s.j⟩
  have go : ∀ l : List Env, (∀ b ∈ frs l, b ≠ S) → h.FunFrames base l → h'.FunFrames base l := by
    intro l
    induction l with
    | nil => intro _ _; trivial
    | cons e l ih =>
      rintro hne ⟨a1, ⟨L, o, a2, a3, a4, a5⟩, a6⟩
      refine ⟨a1, ⟨L, o, a2, a3, kp L o (hne L (List.mem_filterMap.mpr ⟨e, .head _, a2⟩)) a4, a5⟩, ih (fun b hb => hne b ?_) a6⟩
      obtain ⟨e', he', hf'⟩ := List.mem_filterMap.mp hb
      exact List.mem_filterMap.mpr ⟨e', .tail _ he', hf'⟩
  exact go rest (fun b hb z => hf (z ▸ hb)) s.G.frames
end
end Mine

end

section
open PySem PySem.W PySem.Calls PyProof.Rows
set_option maxRecDepth 100000
namespace Mine
theorem fill_part6 : PySem.Challenge.rw_il0001_01 = PySem.Challenge.rw_il0001_01 ∧ Mine.hd.heap_39 = Mine.hd.heap_39 := by k_fill; exact ⟨rfl, rfl⟩

section
variable {w : World}
theorem ff_next : findIn (Mine.hd.heap_39 w.params) (.ref 141) "__next__" = some (some (.ref 137)) := by k_is
theorem ff_next_fn : isFn (Mine.hd.heap_39 w.params) (.ref 137) = true := by k_is
theorem ff_iter : findIn (Mine.hd.heap_39 w.params) (.ref 141) "__iter__" = some (some (.ref 130)) := by k_is
theorem ff_iter_fn : isFn (Mine.hd.heap_39 w.params) (.ref 130) = true := by k_is
theorem ff_len : findIn (Mine.hd.heap_39 w.params) (.ref 141) "__len__" = some none := by k_is
theorem ff_hint : findIn (Mine.hd.heap_39 w.params) (.ref 141) "__length_hint__" = some none := by k_is
end

section
variable {w : World} {base : Heap} {rest : List Env} {mean : ExcName → Option Value} {mg mb : Str → Option Value} {x dx I l q k S : Addr} {vs ks : List Value} {nl nk j : Nat} {s : Shared}
  {dp un : Nat} {gd : Option (List Code)}

theorem FSt.inst {h : Heap} (st : FSt w base rest mean mg mb x dx I l q k vs ks nl nk j h) : InstAt h x (ffObj dx q I) 141 (some (dictOf [] 0)) := ⟨st.x, rfl, rfl, st.dx⟩

/-- next() of the filterfalse: the next kept item, or none -/
theorem ff_pyNext {Q : Option Value → Shared → Prop} {E : Value → Shared → Prop} (keep : Value → Bool) (hkeep : ∀ v ∈ vs, ∃ e : Value → Bool, (∀ y ∈ ks, MeetsSeq.EqGives y v (e y)) ∧ ks.any e = !keep v)
    (st : FSt w base rest mean mg mb x dx I l q k vs ks nl nk j s.heap) (hb : ∀ a ∈ [x, dx, I], base.get? a = none ∧ a ∉ frs rest) (hdp : dp + 1 < recursionLimit) (hun : un + 32 < cLine)
    (item : ∀ v j' h' tk', (∀ b o, b ≠ I → s.heap.get? b = some o → h'.get? b = some o) → FSt w base rest mean mg mb x dx I l q k vs ks nl nk j' h' → j < j' →
      (vs.take j').filter keep = (vs.take j).filter keep ++ [v] → Q (some v) { s with heap := h', toks := tk' })
    (stop : ∀ h' tk', (∀ b o, b ≠ I → s.heap.get? b = some o → ∃ sl, h'.get? b = some { o with slots := sl } ∧ (b ∉ frs rest → sl = o.slots)) →
      vs.filter keep = (vs.take j).filter keep → Q none { s with heap := h', toks := tk' }) :
    wpAny (model prog w) ⟨none, dp, some rest, gd, un⟩ (pyNext (.ref x)) Q E s := by
  have hb' : ∀ p ∈ [(x, ffObj dx q I), (dx, dictOf [] 0), (I, iterObj l j)], base.get? p.1 = none ∧ p.1 ∉ frs rest := by
    intro p hp
    rcases List.mem_cons.mp hp with rfl | hp
    · exact hb x (by simp)
    rcases List.mem_cons.mp hp with rfl | hp
    · exact hb dx (by simp)
    · rw [List.mem_singleton.mp hp]; exact hb I (by simp)
  unfold pyNext
  refine wpAny_bind (wpAny_attempt (special_fn (name := "__next__") (args := []) st.G.X st.inst ff_next (beq_iff_eq.mp ff_next_fn) ?_))
  refine next_spec keep hkeep st.G st.x st.dx st.I st.l st.q st.k st.j (fun p hp => (hb' p hp).1) (fun p hp => (hb' p hp).2) hdp hun ?_ ?_
  · intro v j' h' tk' h1 h2 h3 h4 h5
    exact wpAny_pure (item v j' h' tk' h1 (st.step (hb I (by simp)).1 h1 h2 h3) h4 h5)
  · intro h' tk' e h1 h2 h3
    obtain ⟨ob, ho, hc⟩ := h2
    refine wpAny_bind (wpAny_isInstance (T := "StopIteration") (b := true) ⟨ob, ho, hc⟩ isSubtype_stop ?_)
    exact wpAny_pure (stop h' tk' h1 h3)

theorem ff_extend (keep : Value → Bool) (hkeep : ∀ v ∈ vs, ∃ e : Value → Bool, (∀ y ∈ ks, MeetsSeq.EqGives y v (e y)) ∧ ks.any e = !keep v)
    (hb : ∀ a ∈ [x, dx, I], base.get? a = none ∧ a ∉ frs rest) (hS : S ∉ [x, dx, I, l, q, k]) (hS0 : base.get? S = none) (hSf : S ∉ frs rest) (hdp : dp + 1 < recursionLimit) (hun : un + 33 < cLine) (hz : vs.length ≤ 2000000)
    (res : Value) {R : Result → Shared → Prop} : ∀ (n j : Nat) (s : Shared) (acc : List Value) (c : Nat), vs.length - j = n → FSt w base rest mean mg mb x dx I l q k vs ks nl nk j s.heap →
    s.heap.get? S = some (listOf acc.toArray c) → acc = (vs.take j).filter keep →
    (∀ h' tk' c', (∀ b o, b ≠ I → b ≠ S → s.heap.get? b = some o → ∃ sl, h'.get? b = some { o with slots := sl } ∧ (b ∉ frs rest → sl = o.slots)) → h'.get? S = some (listOf (vs.filter keep).toArray c') →
      R (.ok (.ret res)) { s with heap := h', toks := tk' }) →
    codeAny (model prog w) ⟨none, dp, some rest, gd, un⟩ (.builtin "list.extend.loop" ⟨[.ref S, .ref x, res], []⟩) R s := by
  intro n
  induction n using Nat.strongRecOn with
  | ind n ih =>
    intro j s acc c hn st hSo hacc hR
    have hle : acc.length ≤ 2000000 := by
      rw [hacc]
      have h1 := List.length_filter_le keep (vs.take j)
      have h2 : (vs.take j).length ≤ vs.length := by rw [List.length_take]; omega
      omega
    have hSI : S ≠ I := fun e => hS (by rw [e]; simp)
    refine codeAny_builtin F.entry_extend_loop ?_
    rw [Around.under_plainId F.plain_extend_loop _]
    show wpAny _ (⟨none, dp, some rest, gd, un + 1⟩ : Around) (pyNext (.ref x) >>= _) _ _ s
    refine wpAny_bind (ff_pyNext keep hkeep st hb hdp (by omega) ?_ ?_)
    · intro v j' h' tk' h1 st' hjj h5
      have hSo' := h1 S _ hSI hSo
      show wpAny _ _ (updateSeq S (·.push v) >>= _) _ _ _
      refine wpAny_bind ?_
      have hz1 : acc.toArray.size ≤ sizeLine := by rw [List.size_toArray]; exact size_line hle
      have hS2 : (h'.update S (Obj.mapSeq (·.push v))).get? S = some (listOf (acc ++ [v]).toArray (c + 1)) := by
        rw [Heap.get?_update_self _ hSo' rfl]
        simp [Obj.mapSeq]
      have other : ∀ b o, b ≠ S → h'.get? b = some o → (h'.update S (Obj.mapSeq (·.push v))).get? b = some o := fun b o hbS e => (Heap.get?_update_other _ _ (Ne.symm hbS)).trans e
      refine wpAny_updateSeq hSo' rfl (wpAny_pure ⟨plainId_quiet F.plain_extend_loop _, ?_⟩) hz1 (by rw [Array.size_push]; exact Nat.succ_le_succ hz1)
      refine ih (vs.length - j') (by have := st'.j; omega) j' _ (acc ++ [v]) (c + 1) rfl (st'.off hS0 hS hSf other) hS2 (by rw [h5, hacc]) fun h'' tk'' c' k1 k2 => ?_
      refine hR h'' tk'' c' (fun b o hbI hbS e => k1 b o hbI hbS (other b o hbS (h1 b o hbI e))) k2
    · intro h' tk' h1 h5
      obtain ⟨sl, e1, e2⟩ := h1 S _ hSI hSo
      rw [e2 hSf] at e1
      refine wpAny_pure (hR h' tk' c (fun b o hbI _ e => h1 b o hbI e) ?_)
      rw [e1, hacc, h5]
end
end Mine

end

section
open PySem PySem.W PySem.Calls PyProof.Rows
set_option maxRecDepth 100000
namespace Mine

section
variable {w : World} {base : Heap} {rest : List Env} {mean : ExcName → Option Value} {mg mb : Str → Option Value} {x dx I l q k S : Addr} {vs ks : List Value} {nl nk j : Nat} {s : Shared}
  {dp un : Nat} {gd : Option (List Code)}

theorem ff_pyIter {Q : Value → Shared → Prop} {E : Value → Shared → Prop} (st : FSt w base rest mean mg mb x dx I l q k vs ks nl nk j s.heap) (hdp : dp + 1 < recursionLimit)
    (h : ∀ h' tk', (∀ b o, s.heap.get? b = some o → h'.get? b = some o) → FSt w base rest mean mg mb x dx I l q k vs ks nl nk j h' → Q (.ref x) { s with heap := h', toks := tk' }) :
    wpAny (model prog w) ⟨none, dp, some rest, gd, un⟩ (pyIter (.ref x)) Q E s := by
  have X := st.G.X
  have Ix := st.inst
  have hf := ff_iter_fn (w := w)
  have back : wpAny (model prog w) ⟨none, dp, some rest, gd, un⟩ (call (.ref 130) [.ref x]) (fun v s' => v = .ref x ∧ ∃ h' tk', s' = { s with heap := h', toks := tk' } ∧ ∀ b o, s.heap.get? b = some o → h'.get? b = some o) E s :=
    iter_spec st.G hdp fun h' tk' hk => ⟨rfl, h', tk', rfl, hk⟩
  have fin : wpAny (model prog w) ⟨none, dp, some rest, gd, un⟩ (call (.ref 130) [.ref x] >>= fun v => pure (some v)) (fun r s' => r = some (.ref x) ∧ ∃ h' tk', s' = { s with heap := h', toks := tk' } ∧ ∀ b o, s.heap.get? b = some o → h'.get? b = some o) E s :=
    wpAny_bind (wpAny_mono back (fun v s' hv => wpAny_pure ⟨by rw [hv.1], hv.2⟩) fun _ _ z => z)
  have one : ∀ refuse : Sem Value, wpAny (model prog w) ⟨none, dp, some rest, gd, un⟩ (callSpecialIfBoundUnlessNone? (.ref x) "__iter__" refuse) (fun r s' => r = some (.ref x) ∧ ∃ h' tk', s' = { s with heap := h', toks := tk' } ∧ ∀ b o, s.heap.get? b = some o → h'.get? b = some o) E s := by
    intro refuse
    simp only [callSpecialIfBoundUnlessNone?, bindSpecialIfBound?]
    refine wpAny_holding (wpAny_bind (wpAny_bind (wpAny_bind (Ix.type.here ((looks_findIn X ff_iter).here ?_)))))
    refine wpAny_bind (wpAny_askSetting (wpAny_ite ?_))
    have fin2 : wpAny (model prog w) ⟨none, dp, some rest, gd, un⟩ (if (Value.ref 130 == Value.none) = true then (refuse >>= fun v => pure (some v)) else (call (.ref 130) [.ref x] >>= fun v => pure (some v)))
        (fun r s' => r = some (.ref x) ∧ ∃ h' tk', s' = { s with heap := h', toks := tk' } ∧ ∀ b o, s.heap.get? b = some o → h'.get? b = some o) E s := by
      rw [if_neg (show ¬ ((Value.ref 130 == Value.none) = true) from Bool.false_ne_true)]
      exact fin
    split
    · exact wpAny_bind ((bind_fn X _ (beq_iff_eq.mp hf)).here (wpAny_pure (by exact fin2)))
    · exact wpAny_tryCatch (wpAny_bind ((bind_fn X _ (beq_iff_eq.mp hf)).here (wpAny_pure (by exact fin2))))
  unfold pyIter
  refine wpAny_bind (wpAny_bind (Ix.type.here ((looks_findIn X ff_iter).here ?_)))
  show wpAny _ _ (callSpecialIfBoundUnlessNone? (.ref x) "__iter__" _ >>= _) Q E s
  refine wpAny_bind (wpAny_mono (one _) (fun r s' hr => ?_) fun _ _ z => z)
  obtain ⟨rfl, h', tk', rfl, hk⟩ := hr
  have st' : FSt w base rest mean mg mb x dx I l q k vs ks nl nk j h' := ⟨st.G.keeps hk, hk _ _ st.x, hk _ _ st.dx, hk _ _ st.I, hk _ _ st.l, hk _ _ st.q, hk _ _ st.k, st.j⟩
  dsimp only
  refine wpAny_bind ?_
  refine wpAny_bind (InstAt.type (M := model prog w) st'.inst |>.here (s := { s with heap := h', toks := tk' }) ((looks_findIn st'.G.X ff_next).here ?_))
  exact wpAny_pure (h h' tk' hk st')

theorem ff_extendWith (keep : Value → Bool) (hkeep : ∀ v ∈ vs, ∃ e : Value → Bool, (∀ y ∈ ks, MeetsSeq.EqGives y v (e y)) ∧ ks.any e = !keep v)
    (hb : ∀ a ∈ [x, dx, I], base.get? a = none ∧ a ∉ frs rest) (hS : S ∉ [x, dx, I, l, q, k]) (hS0 : base.get? S = none) (hSf : S ∉ frs rest) (hdp : dp + 1 < recursionLimit) (hun : un + 33 < cLine) (hz : vs.length ≤ 2000000)
    (res : Value) {R : Result → Shared → Prop} {c : Nat} (st : FSt w base rest mean mg mb x dx I l q k vs ks nl nk 0 s.heap) (hSo : s.heap.get? S = some (listOf #[] c))
    (hR : ∀ h' tk' c', (∀ b o, b ≠ I → b ≠ S → s.heap.get? b = some o → ∃ sl, h'.get? b = some { o with slots := sl } ∧ (b ∉ frs rest → sl = o.slots)) → h'.get? S = some (listOf (vs.filter keep).toArray c') →
      R (.ok (.ret res)) { s with heap := h', toks := tk' }) :
    wpAny (model prog w) ⟨none, dp, some rest, gd, un + 1⟩ (Builtin.List.listExtendWith (.ref S) (.ref x) res)
      (fun fin s' => match fin with | .done f => R (.ok f) s' | .again c' => c'.quiet = true ∧ codeAny (model prog w) ⟨none, dp, some rest, gd, un⟩ c' R s') (fun e s' => R (.error e) s') s := by
  have hSx : S ≠ x := fun e => hS (by rw [e]; simp)
  unfold Builtin.List.listExtendWith
  refine wpAny_bind (st.inst.type.here ?_)
  have h1 : Builtin.List.listSameRef (.ref S) (.ref x) = false := by simp [Builtin.List.listSameRef, hSx]
  have h2 : (Value.ref 141 == Value.type "list") = false := by decide
  have h3 : (Value.ref 141 == Value.type "tuple") = false := by decide
  simp only [h1, h2, h3, Bool.or_false, Bool.false_eq_true, if_false]
  refine wpAny_bind (ff_pyIter st hdp fun h₁ tk₁ hk₁ st₁ => ?_)
  refine wpAny_bind (wpAny_holding ?_)
  unfold Builtin.List.listLengthHint
  have ty₁ := InstAt.type (M := model prog w) st₁.inst
  refine wpAny_bind (wpAny_bind (ty₁.here (s := { s with heap := h₁, toks := tk₁ }) ((looks_findIn st₁.G.X ff_len).here ?_)))
  show wpAny _ _ (specialOf (Value.ref x) (Str.ofString "__length_hint__") >>= _) _ _ _
  refine wpAny_bind (wpAny_bind (ty₁.here (s := { s with heap := h₁, toks := tk₁ }) ((looks_findIn st₁.G.X ff_hint).here ?_)))
  refine wpAny_pure ?_
  show wpAny _ _ (rule "list.extend.makes-room" >>= fun _ => Builtin.List.listTouch (.ref S) >>= fun _ =>
    again (.builtin "list.extend.loop" ⟨[.ref S, .ref x, res], []⟩)) _ _ _
  refine wpAny_bind (wpAny_rule ?_)
  refine wpAny_bind ?_
  show wpAny _ _ (updateSeq S (·.push .none) >>= fun _ => updateSeq S (·.pop)) _ _ _
  have hS1 := hk₁ _ _ hSo
  refine wpAny_bind (wpAny_updateSeq hS1 rfl ?_)
  have hS₂ := Heap.get?_update_self (Obj.mapSeq (·.push Value.none)) hS1 rfl
  refine wpAny_updateSeq (hz := by seq_fits) hS₂ rfl ?_
  have hS₃ := Heap.get?_update_self (Obj.mapSeq (·.pop)) hS₂ rfl
  have oth : ∀ b o, b ≠ S → h₁.get? b = some o → ((h₁.update S (Obj.mapSeq (·.push Value.none))).update S (Obj.mapSeq (·.pop))).get? b = some o :=
    fun b o hb e => (Heap.get?_update_other _ _ (Ne.symm hb)).trans ((Heap.get?_update_other _ _ (Ne.symm hb)).trans e)
  refine wpAny_pure ⟨plainId_quiet F.plain_extend_loop _, ff_extend keep hkeep hb hS hS0 hSf hdp hun hz res (vs.length - 0) 0 _ [] _ rfl (st₁.off hS0 hS hSf oth) hS₃ (by simp) fun h' tk' c' k1 k2 => ?_⟩
  exact hR h' tk' c' (fun b o hbI hbS e => k1 b o hbI hbS (oth b o hbS (hk₁ b o e))) k2

/-- list() of the filterfalse -/
theorem ff_list (keep : Value → Bool) (hkeep : ∀ v ∈ vs, ∃ e : Value → Bool, (∀ y ∈ ks, MeetsSeq.EqGives y v (e y)) ∧ ks.any e = !keep v)
    (hb : ∀ a ∈ [x, dx, I], base.get? a = none ∧ a ∉ frs rest) (hdp : dp + 1 < recursionLimit) (hun : un + 40 < cLine) (hz : vs.length ≤ 2000000)
    {Q : Value → Shared → Prop} {E : Value → Shared → Prop} (st : FSt w base rest mean mg mb x dx I l q k vs ks nl nk 0 s.heap)
    (hQ : ∀ S h' tk' c', s.heap.get? S = none → (∀ b o, b ≠ I → s.heap.get? b = some o → ∃ sl, h'.get? b = some { o with slots := sl } ∧ (b ∉ frs rest → sl = o.slots)) → h'.get? S = some (listOf (vs.filter keep).toArray c') →
      Q (.ref S) { s with heap := h', toks := tk' }) :
    wpAny (model prog w) ⟨none, dp, some rest, gd, un⟩ (call (.type "list") [.ref x]) Q E s := by
  have hnone : s.heap.get? s.heap.objs.size = none := Heap.get?_none_of_le (Nat.le_refl _)
  have notIn : ∀ a o, s.heap.get? a = some o → a ≠ s.heap.objs.size := fun a o e z => by rw [z, hnone] at e; cases e
  have hS : s.heap.objs.size ∉ [x, dx, I, l, q, k] := by
    intro hm
    simp only [List.mem_cons, List.not_mem_nil, or_false] at hm
    rcases hm with e | e | e | e | e | e
    · exact notIn _ _ st.x e.symm
    · exact notIn _ _ st.dx e.symm
    · exact notIn _ _ st.I e.symm
    · exact notIn _ _ st.l e.symm
    · exact notIn _ _ st.q e.symm
    · exact notIn _ _ st.k e.symm
  have hS0 : base.get? s.heap.objs.size = none := by
    cases e : base.get? s.heap.objs.size with
    | none => rfl
    | some o => have := st.G.stays _ _ e; rw [hnone] at this; cases this
  have hSf : s.heap.objs.size ∉ frs rest := fun hm => by obtain ⟨o, ho⟩ := st.G.mem hm; rw [hnone] at ho; cases ho
  refine callType_codes (A := ⟨none, dp, some rest, gd, un⟩) (Q₁ := fun obj s₁ => obj = .ref s.heap.objs.size ∧ s₁ = { s with heap := s.heap.push { cls := .type "list", data := .seq #[] } }) F.called_list (F.typeCall_list_1 _) F.entry_list_init
    (code_list_new _ ⟨rfl, rfl⟩) fun obj s₁ h₁ => ?_
  obtain ⟨rfl, rfl⟩ := h₁
  have hSo : (s.heap.push { cls := .type "list", data := .seq #[] }).get? s.heap.objs.size = some { cls := .type "list", data := .seq #[] } := Heap.get?_push_size _ rfl
  have kp : ∀ b o, s.heap.get? b = some o → (s.heap.push { cls := .type "list", data := .seq #[] }).get? b = some o := fun b o e => Heap.get?_push_of_some _ e
  refine ⟨⟨_, hSo, rfl⟩, F.args_list_init_2 _ _, ?_⟩
  show wpAny _ _ (do let old ← Builtin.List.listItems (.ref s.heap.objs.size); Builtin.List.listUpdate (.ref s.heap.objs.size) (fun _ => #[]); letGo old.toList.reverse; Builtin.List.listExtendWith (.ref s.heap.objs.size) (.ref x) .none) _ _ _
  refine wpAny_bind ?_
  unfold Builtin.List.listItems
  refine wpAny_bind (wpAny_seqItems hSo rfl (wpAny_pure ?_))
  show wpAny _ _ (updateSeq s.heap.objs.size (fun _ => #[]) >>= fun _ => letGo (#[] : Array Value).toList.reverse >>= fun _ => Builtin.List.listExtendWith (.ref s.heap.objs.size) (.ref x) .none) _ _ _
  refine wpAny_bind (wpAny_updateSeq hSo rfl ?_)
  have hS₂ := Heap.get?_update_self (Obj.mapSeq (fun _ => (#[] : Array Value))) hSo rfl
  have oth : ∀ b o, b ≠ s.heap.objs.size → (s.heap.push { cls := .type "list", data := .seq #[] }).get? b = some o → ((s.heap.push { cls := .type "list", data := .seq #[] }).update s.heap.objs.size (Obj.mapSeq (fun _ => (#[] : Array Value)))).get? b = some o :=
    fun b o hb e => (Heap.get?_update_other _ _ (Ne.symm hb)).trans e
  refine wpAny_bind (wpAny_letGo ?_)
  refine ff_extendWith (un := un + 1) keep hkeep hb hS hS0 hSf hdp (by omega) hz .none (st.off hS0 hS hSf fun b o hbS e => oth b o hbS (kp b o e)) hS₂ fun h' tk' c' k1 k2 => ?_
  refine ⟨rfl, hQ _ h' tk' c' hnone (fun b o hbI e => k1 b o hbI (notIn b o e) (oth b o (notIn b o e) (kp b o e))) k2⟩
end
end Mine

end

section
open PySem PySem.W PySem.Calls PyProof.Rows
namespace Mine
theorem fill_part7 : PySem.Challenge.rw_il0001_01 = PySem.Challenge.rw_il0001_01 ∧ Mine.hd.heap_39 = Mine.hd.heap_39 := by k_fill; exact ⟨rfl, rfl⟩
local macro_rules | `(tactic| k_units) => `(tactic| ktr_units)
local macro_rules | `(tactic| k_room) => `(tactic| ktr_room)

section
variable {prog : Program} {w : World} {A : Around} {E : Value → Shared → Prop} {s : Shared} {h₀ : Heap} {L l : Addr} {m : Str → Option Value} {news : List (Addr × Obj)} {vs : List Value} {nl : Nat}
theorem iter_N {Q : Value → Shared → Prop} (F : Fr h₀ L s.heap m) (N : News h₀ L s.heap news) (hl : (l, listOf vs.toArray nl) ∈ news)
    (h : ∀ I h', Fr h₀ L h' m → News h₀ L h' ((I, iterObj l 0) :: news) → (∀ p ∈ news, p.1 < I) → Q (.ref I) { s with heap := h' }) :
    wpAny (model prog w) A (call (.builtin "iter") [.ref l]) Q E s := by
  refine call_function_entry (by decide +kernel) (by decide +kernel) kdk_entry_iter (kdk_args_iter _) ?_
  unfold Builtin.«iter»
  refine wpAny_bind (m := someArgs "iter" 1 2 _) (wpAny_of_eq (a := [Value.ref l]) (by first | rfl | kernel_rfl!) ?_)
  show wpAny _ _ (pyIter (.ref l) >>= _) _ _ _
  refine wpAny_bind (wpAny_pyIter_list ⟨_, N.get hl, rfl, _, rfl⟩ ?_)
  exact wpAny_pure ⟨_, rfl, h _ _ (F.push _) (News.push F N _ rfl) fun q hq => Heap.lt_size (N q hq).1⟩

theorem getAttr_contains_M {k : Addr} {ks : List Value} {n : Nat} {Q : Value → Shared → Prop} (F : Fr h₀ L s.heap m) (N : News h₀ L s.heap news) (hk : (k, listOf ks.toArray n) ∈ news)
    (h : ∀ q h' tk, Fr h₀ L h' m → News h₀ L h' ((q, wrapObj k) :: news) → (∀ p ∈ news, p.1 < q) → Q (.ref q) { s with heap := h', toks := tk }) :
    wpAny (model prog w) A (getAttr (.ref k) (Str.ofString "__contains__") true) Q E s := getAttr_contains_N F N (N.get hk) h
end
section
variable {w : World} {base g : Heap} {rest : List Env} {env : Env} {mean : ExcName → Option Value} {mg mb : Str → Option Value} {L : Addr} {m : Str → Option Value} {news : List (Addr × Obj)} {h h' : Heap}
/-- what a ledger names is off the ground and off the frames -/
theorem news_off (G : Gnd w base rest g mean mg mb) (hf : env.frame = some L) (N : News g L h news) {p : Addr × Obj} (hp : p ∈ news) : base.get? p.1 = none ∧ p.1 ∉ frs (env :: rest) := by
  have z := N p hp
  refine ⟨?_, ?_⟩
  · cases q : base.get? p.1 with
    | none => rfl
    | some o => have := G.stays _ _ q; rw [z.2.2] at this; cases this
  · have hfrs : frs (env :: rest) = L :: frs rest := by simp [frs, hf]
    rw [hfrs]
    intro hb
    rcases List.mem_cons.mp hb with e | hb
    · exact z.2.1 e
    · obtain ⟨o, ho⟩ := G.mem hb
      rw [z.2.2] at ho; cases ho
/-- behind a step that writes slots of frames (and turns the one thing I): a new ground -/
theorem reground {I : Addr} {led : List (Addr × Obj)} (G : Gnd w base rest g mean mg mb) (hf : env.frame = some L) (F : Fr g L h m) (N : News g L h news) (hI : g.get? I = none) (hIL : I ≠ L)
    (hh : ∀ b o, b ≠ I → h.get? b = some o → ∃ sl, h'.get? b = some { o with slots := sl } ∧ (b ∉ frs (env :: rest) → sl = o.slots)) (hled : ∀ p ∈ led, p ∈ news ∧ p.1 ≠ I) :
    Rebase (frs rest) g (patch g h') ∧ Fr (patch g h') L h' m ∧ News (patch g h') L h' led := by
  have hfrs : frs (env :: rest) = L :: frs rest := by simp [frs, hf]
  have neI : ∀ b o, g.get? b = some o → b ≠ I := fun b o e z => by rw [z, hI] at e; cases e
  have neL : ∀ b o, g.get? b = some o → b ≠ L := fun b o e => Nat.ne_of_lt (Nat.lt_of_lt_of_le (Heap.lt_size e) F.above)
  have st : ∀ b o, g.get? b = some o → ∃ sl, h'.get? b = some { o with slots := sl } ∧ (b ∉ frs rest → sl = o.slots) := fun b o e => by
    obtain ⟨sl, e1, e2⟩ := hh b o (neI b o e) (F.keep b o e)
    refine ⟨sl, e1, fun hb => e2 ?_⟩
    rw [hfrs]
    intro hm
    rcases List.mem_cons.mp hm with hm | hm
    · exact neL b o e hm
    · exact hb hm
  obtain ⟨oL, es, ep, hL, hLd, r⟩ := F.ns
  obtain ⟨slL, eL, _⟩ := hh L oL (Ne.symm hIL) hL
  refine ⟨⟨patch_size _ _, fun b e => patch_none e, fun b o e => ?_⟩, ⟨⟨_, es, ep, eL, hLd, r⟩, fun b o e => ?_, by rw [patch_size]; exact F.above⟩, fun p hp => ?_⟩
  · obtain ⟨sl, e1, e2⟩ := st b o e
    exact ⟨sl, by rw [patch_some e, e1]; rfl, e2⟩
  · obtain ⟨o', e'⟩ := patch_of e
    obtain ⟨sl, e1, _⟩ := st b o' e'
    rw [patch_some e', e1] at e
    cases e
    exact e1
  · obtain ⟨h1, h2⟩ := hled p hp
    have z := N p h1
    obtain ⟨sl, e1, e2⟩ := hh p.1 p.2 h2 z.1
    rw [e2 (news_off G hf N h1).2] at e1
    exact ⟨e1, z.2.1, patch_none z.2.2⟩

/-- the end of _filter: the list of what the filterfalse hands on -/
theorem filter_end {g0 : Heap} {x dx I l q k : Addr} {vs ks : List Value} {nl nk dp un tk : Nat} {gd : Option (List Code)} {s₀ : Shared} {E : Value → Shared → Prop} (keep : Value → Bool)
    (hkeep : ∀ v ∈ vs, ∃ e : Value → Bool, (∀ y ∈ ks, MeetsSeq.EqGives y v (e y)) ∧ ks.any e = !keep v) (hz : vs.length ≤ 2000000)
    (G : Gnd w base rest g mean mg mb) (hf : env.frame = some L) (hke : env.scope.kind = .function) (R : Rebase (frs rest) g0 g) (F : Fr g L h m) (N : News g L h news)
    (hx : (x, ffObj dx q I) ∈ news) (hdx : (dx, dictOf [] 0) ∈ news) (hI : (I, iterObj l 0) ∈ news) (hl : (l, listOf vs.toArray nl) ∈ news) (hq : (q, wrapObj k) ∈ news) (hk : (k, listOf ks.toArray nk) ∈ news)
    (hdp : dp + 1 < recursionLimit) (hun : un + 40 < cLine) :
    wpAny (model prog w) ⟨none, dp, some (env :: rest), gd, un⟩ (call (.type "list") [.ref x])
      (fun v s' => Done rest g0 L [(l, listOf vs.toArray nl), (k, listOf ks.toArray nk)] (fun res v => ∃ S c, v = .ref S ∧ res = [(S, listOf (vs.filter keep).toArray c)]) s₀ (.ret v) s') E { s₀ with heap := h, toks := tk } := by
  have hb : ∀ a ∈ [x, dx, I], base.get? a = none ∧ a ∉ frs (env :: rest) := by
    intro a ha
    simp only [List.mem_cons, List.not_mem_nil, or_false] at ha
    rcases ha with rfl | rfl | rfl
    · exact news_off G hf N hx
    · exact news_off G hf N hdx
    · exact news_off G hf N hI
  have st : FSt w base (env :: rest) mean mg mb x dx I l q k vs ks nl nk 0 h := ⟨G.push F hf hke, (N _ hx).1, (N _ hdx).1, (N _ hI).1, (N _ hl).1, (N _ hq).1, (N _ hk).1, Nat.zero_le _⟩
  obtain ⟨_, _, n3, _, n5⟩ := st.ne_I
  refine ff_list (s := { s₀ with heap := h, toks := tk }) keep hkeep hb hdp hun hz st fun S h' tk' c' hS hh hSo => ?_
  obtain ⟨r1, r2, r3⟩ := reground (led := [(l, listOf vs.toArray nl), (k, listOf ks.toArray nk)]) G hf F N (N _ hI).2.2 (N _ hI).2.1 hh (by
    intro p hp
    rcases List.mem_cons.mp hp with rfl | hp
    · exact ⟨hl, n3⟩
    · rw [List.mem_singleton.mp hp]; exact ⟨hk, n5⟩)
  have hSg : g.get? S = none := by
    cases e : g.get? S with
    | none => rfl
    | some o => have := F.keep _ _ e; rw [hS] at this; cases this
  have hSL : S ≠ L := fun e => by
    obtain ⟨oL, _, _, hL, _⟩ := F.ns
    rw [e] at hS; rw [hS] at hL; cases hL
  refine Done.intro (s := s₀) [(S, listOf (vs.filter keep).toArray c')] (R.trans r1) r2 ?_ ⟨S, c', rfl, rfl⟩
  intro p hp
  rcases List.mem_cons.mp hp with rfl | hp
  · exact ⟨hSo, hSL, patch_none hSg⟩
  · exact r3 p hp
end

local macro_rules | `(tactic| walk_at "getAttr ref") => `(tactic| (k_here; k_dflt (refine' getAttr_contains_M ?k1 ?k2 ?k3 ?_; (case k1 => k_asm); (case k2 => k_asm); (case k3 => k_mem); k_whole; intro q' h' tk' F' N' l1; (try k_lt l1); (try k_sweep))))
local macro_rules | `(tactic| walk_at "call builtin:iter") => `(tactic| (k_here; k_dflt (refine' iter_N ?k1 ?k2 ?k3 ?_; (case k1 => k_asm); (case k2 => k_asm); (case k3 => k_mem); k_whole; intro q' h' F' N' l1; (try k_lt l1); (try k_sweep))))
local macro_rules | `(tactic| walk_at "call type:list") => `(tactic| ((with_reducible show wpAny _ _ (call (Value.type _) _) _ _ _); refine Halt.out ?_))

set_option maxRecDepth 100000 in
set_option maxHeartbeats 4000000 in
theorem filter_spec (w : World) (l k : Addr) (vs ks : List Value) (nl nk : Nat) (keep : Value → Bool) (hkeep : ∀ v ∈ vs, ∃ e : Value → Bool, (∀ y ∈ ks, MeetsSeq.EqGives y v (e y)) ∧ ks.any e = !keep v) (hz : vs.length ≤ 2000000) :
    Spec w 4 64 152 [.ref l, .ref k] (fun _ news => (l, listOf vs.toArray nl) ∈ news ∧ (k, listOf ks.toArray nk) ∈ news) (fun res v => ∃ S c, v = .ref S ∧ res = [(S, listOf (vs.filter keep).toArray c)]) := by
  k_dflt (refine' Spec.enter (binds := [(Str.ofString "flist", .ref l), (Str.ofString "skip", .ref k)]) [(l, listOf vs.toArray nl), (k, listOf ks.toArray nk)] ?hh ?k6 ?k7 ?k9 ?kB ?_ ?c2 ?c3 ?c4 ?c5; (case k6 => k_is); (case k7 => k_is); (case k9 => (intro s; exact BindsTo.of_eq (by rfl))); (case c5 => decide); (case kB => exact locs rfl); (case c2 => exact rfl); (case c3 => exact rfl); (case c4 => exact rfl))
  case hh =>
    rintro base news ⟨h1, h2⟩ p hp
    rcases List.mem_cons.mp hp with rfl | hp
    · exact h1
    · rw [List.mem_singleton.mp hp]; exact h2
  intro dp un gd env outer base g h' L' tk mg mb mean news s hdp hun hpre F' N' hlt G' R' X' T'
  have B' : Below ⟨none, dp, some (env :: outer), gd, un⟩ base (env :: outer) g := ⟨rfl, G'.stays, G'.frames⟩
  k_lt hlt
  (try dsimp only)
  (try k_fold)
  k_steps
  refine filter_end keep hkeep hz G' rfl rfl R' (by k_asm) (by k_asm) (by k_mem) (by k_mem) (by k_mem) (by k_mem) (by k_mem) (by k_mem) (by omega) (by omega)
end Mine

end

section
open PySem PySem.W PySem.Calls PyProof.Rows
set_option maxRecDepth 100000
namespace Mine
section
variable {prog : Program} {w : World} {A : Around} {E : Value → Shared → Prop} {s : Shared}

theorem kind_issubn : builtinKind "issubclass.nested" = none := by decide +kernel
theorem plain_issubn : plainId "issubclass.nested" = true := by decide +kernel
theorem args_issubn (a b c : Value) : argsOk "issubclass.nested" ⟨[a, b, c], []⟩ := by unfold argsOk; kernel_rfl
theorem str_meta : (Value.type ((Manifest.find? "str").elim "type" (·.metatype)) == Value.type "type") = true := by decide +kernel

theorem issub_str_str {dep : Int} {tk : Tok} : Meets (Builtin.«issubclass.nested» ⟨[.type "str", .type "str", .int dep tk], []⟩) (fun _ R s => R (.ok (.ret (.bool true))) s) := by
  intro prog w A R s hs
  have hm := str_meta
  have hself := isSubtype_str_str
  repeat (any_goals (first | assumption | (rw [if_pos hm]) | (rw [hself]) | wp_step))

theorem issub_tuple {tp : Addr} {c2 : Value} {tk : Tok} {s : Shared} {Q : Fin → Shared → Prop}
    (htp : s.heap.get? tp = some { cls := .type "tuple", data := .seq #[.type "str", c2] })
    (hq : Q (.done (.ret (.bool true))) s) : wpAny (model prog w) A (Builtin.«issubclass.nested» ⟨[.type "str", .ref tp, .int 0 tk], []⟩) Q E s := by
  obtain ⟨h, g, d, t, os⟩ := s
  have hT2 : (⟨h, g, d, t, os⟩ : Shared).TypeIs (.ref tp) "tuple" := ⟨_, htp, rfl⟩
  have f1 := F.isi_sub_tuple
  repeat (any_goals (first | assumption | ((with_reducible show wpAny _ _ (call (Value.builtin "issubclass.nested") _) _ _ _); refine call_function_meets kind_issubn plain_issubn F.entry_issubclass_nested (args_issubn _ _ _) (issub_str_str) ?_) | wp_step))

theorem issub_call {tp : Addr} {c2 : Value} {Q : Value → Shared → Prop} (htp : s.heap.get? tp = some { cls := .type "tuple", data := .seq #[.type "str", c2] })
    (h : Q (.bool true) s) : wpAny (model prog w) A (call (.builtin "issubclass") [.type "str", .ref tp]) Q E s :=
  call_issubclass (S := fun _ R s => s.heap.get? tp = some { cls := .type "tuple", data := .seq #[.type "str", c2] } ∧ R (.ok (.ret (.bool true))) s)
    (fun _ _ _ _ _ hs => issubclass_outer (issub_tuple hs.1 hs.2)) ⟨htp, h⟩
end
end Mine

end

section
open PySem PySem.W PySem.Calls PyProof.Rows
namespace Mine
section
variable {prog : Program} {w : World} {A : Around} {E : Value → Shared → Prop} {s : Shared} {env : Env} {h₀ : Heap} {x : Str} {body : List Stmt} {Q : Flow → Shared → Prop}

/-- a turn's end: the one list D that the loop turns, all other new things as they stood, the frame's other names as they stood -/
def TurnEnd (h₀ : Heap) (L : Addr) (own : List (Addr × Obj)) (D : Addr) (R : List Value → Prop) (x : Str) (m₀ : Str → Option Value) (s₁ : Shared) (f : Flow) (s₂ : Shared) : Prop :=
  (f = .next ∨ f = .cont) ∧ ∃ h' tk m' ys n, s₂ = { s₁ with heap := h', toks := tk } ∧ Fr h₀ L h' m' ∧ News h₀ L h' ((D, listOf (List.toArray ys) n) :: own) ∧ R ys ∧ ∀ z, z ≠ x → m' z = m₀ z

theorem TurnEnd.intro {L D : Addr} {own : List (Addr × Obj)} {R : List Value → Prop} {m₀ m' : Str → Option Value} {s₁ : Shared} {f : Flow} {h' : Heap} {tk n : Nat} {ys : List Value}
    (hf : f = .next ∨ f = .cont) (F : Fr h₀ L h' m') (N : News h₀ L h' ((D, listOf (List.toArray ys) n) :: own)) (hR : R ys) (hm : ∀ z, z ≠ x → m' z = m₀ z) :
    TurnEnd h₀ L own D R x m₀ s₁ f { s₁ with heap := h', toks := tk } := ⟨hf, h', tk, m', ys, n, rfl, F, N, hR, hm⟩

theorem map_off {m₁ m₀ : Str → Option Value} {v : Option Value} (h : ∀ z, z ≠ x → m₁ z = m₀ z) : (fun y => if y = x then v else m₁ y) = fun y => if y = x then v else m₀ y := by
  funext y
  by_cases e : y = x
  · simp [e]
  · simp only [if_neg e]; exact h y e

/-- a loop over a list (new, and not turned) that turns one other new list -/
theorem iter_list {l D L : Addr} (hL : env.locals = L) {vs ys₀ : List Value} {nl n₀ : Nat} {m₀ : Str → Option Value} (R : Nat → List Value → Prop)
    (hh : A.handled = none) (F : Fr h₀ L s.heap m₀) (N : News h₀ L s.heap [(D, listOf ys₀.toArray n₀), (l, listOf vs.toArray nl)]) (hne : D ≠ l) (h0 : R 0 ys₀)
    (turn : ∀ i v ys n h tk own, vs[i]? = some v → R i ys → OwnOff own [D] → Fr h₀ L h (fun y => if y = x then some v else m₀ y) → News h₀ L h ((D, listOf (List.toArray ys) n) :: own) →
      wpAny (model prog w) A (execs body env) (TurnEnd h₀ L own D (R (i + 1)) x m₀ { s with heap := h, toks := tk }) E { s with heap := h, toks := tk })
    (done : ∀ u ys n h tk, R vs.length ys → Fr h₀ L h (fun y => if y = x then u else m₀ y) → News h₀ L h [(D, listOf (List.toArray ys) n)] → Q .next { s with heap := h, toks := tk }) :
    wpAny (model prog w) A (pyIter (.ref l)) (fun it s₂ => LoopAtV prog w A h₀ env x body Q E it s₂) E s := by
  subst hL
  have hlo := N.get (a := l) (.tail _ (.head _))
  have hDo := N.get (a := D) (.head _)
  have hls : s.heap.IsList l vs.toArray := ⟨_, hlo, rfl, _, rfl⟩
  have hlt : l < s.heap.objs.size := Heap.lt_size hlo
  have hDlt : D < s.heap.objs.size := Heap.lt_size hDo
  have hLlt : env.locals < s.heap.objs.size := F.ns.lt
  have hnl : l ≠ env.locals := (N _ (.tail _ (.head _))).2.1
  refine wpAny_pyIter_list hls ?_
  have W := Walks.list (prog := prog) (w := w) hh s.heap.objs.size l (Nat.ne_of_lt hlt) vs.toArray
  let J' : Nat → (Str → Option Value) → List (Addr × Obj) → Prop := fun i m₁ news₁ => (∃ ys n, news₁ = [(D, listOf (List.toArray ys) n)] ∧ R i ys) ∧ ∀ z, z ≠ x → m₁ z = m₀ z
  have N1 : News h₀ env.locals s.heap [(D, listOf ys₀.toArray n₀)] := fun p hp => N p (by rcases List.mem_singleton.mp hp with rfl; exact .head _)
  refine ⟨_, _, _, vs.toArray.size, _, _, m₀, [(D, listOf ys₀.toArray n₀)], J', rfl, W, ?_, ?_, ?_, ⟨⟨_, Heap.get?_push_size _ rfl, rfl, rfl⟩, hls.at fun o e => Heap.get?_push_of_some _ e⟩, F.push _, (fun p hp => ⟨Heap.get?_push_of_some _ (N1 p hp).1, (N1 p hp).2⟩), ⟨⟨ys₀, n₀, rfl, h0⟩, fun _ _ => rfl⟩, ?_, ?_⟩
  · intro hm
    rcases List.mem_cons.mp hm with e | hm
    · exact absurd hLlt (e ▸ Nat.lt_irrefl _)
    · exact hnl (List.mem_singleton.mp hm).symm
  · intro b hb
    rw [List.mem_singleton.mp hb]
    exact next_is_new F
  · intro p hp hI
    exact absurd (Heap.lt_size (N1 p hp).1) ((List.mem_singleton.mp hI) ▸ Nat.lt_irrefl _)
  · rintro i v m₁ news₁ s₁ own ⟨hh', tk', rfl⟩ hin hP ⟨⟨ys, n, rfl, hR⟩, hm⟩ hoff hown _ _ _ F₁ N₁
    have hsep : OwnOff own [D] := by
      intro p hp b hb e
      rw [List.mem_singleton.mp hb] at e
      rcases List.mem_cons.mp (hown p hp) with h1 | h1
      · exact absurd hDlt (by rw [← e, h1]; exact Nat.lt_irrefl _)
      · exact hne (e.symm.trans (List.mem_singleton.mp h1))
    have hP' : vs[i]? = some v := by simpa using hP
    have N₂ : News h₀ env.locals hh' ((D, listOf (List.toArray ys) n) :: own) := fun p hp => N₁ p ((List.mem_cons.mp hp).elim (fun h => List.mem_append.mpr (.inr (h ▸ .head _))) fun h => List.mem_append.mpr (.inl h))
    rw [map_off hm] at F₁
    refine wpAny_mono (turn i v ys n hh' tk' own hP' hR hsep F₁ N₂) (fun f s₂ p => ?_) fun _ _ e => e
    obtain ⟨hf, h', tk, m', ys', n', rfl, F', N', hR', hm'⟩ := p
    have fin : LoopStepU h₀ env.locals [s.heap.objs.size] own (J' (i + 1)) { s with heap := hh', toks := tk' } .next { s with heap := h', toks := tk } := by
      refine ⟨rfl, h', tk, m', [(D, listOf (List.toArray ys') n')], rfl, F', fun p hp => N' p ((List.mem_append.mp hp).elim (fun h => .tail _ h) fun h => (List.mem_singleton.mp h) ▸ .head _), fun p hp hq => ?_, ⟨ys', n', rfl, hR'⟩, hm'⟩
      rw [List.mem_singleton.mp hp] at hq
      exact absurd hDlt ((List.mem_singleton.mp hq : D = _) ▸ Nat.lt_irrefl _)
    rcases hf with rfl | rfl
    · exact .next fin
    · exact .cont fin
  · rintro h' tk m' news' F' N' _ ⟨⟨ys, n, rfl, hR⟩, hm⟩
    have e : (fun y => if y = x then m' x else m₀ y) = m' := by
      funext y
      by_cases e : y = x
      · simp [e]
      · simp only [if_neg e]; exact (hm y e).symm
    exact done (m' x) ys n h' tk (by simpa using hR) (by rw [e]; exact F') N'
end
end Mine

end

section
open PySem PySem.W PySem.Calls PyProof.Rows
namespace Mine
theorem fill_part : PySem.Challenge.rw_il0001_01 = PySem.Challenge.rw_il0001_01 ∧ Mine.hd.heap_39 = Mine.hd.heap_39 := by k_fill; exact ⟨rfl, rfl⟩
local macro_rules | `(tactic| k_units) => `(tactic| ktr_units)
local macro_rules | `(tactic| k_room) => `(tactic| ktr_room)
local macro_rules | `(tactic| walk_at "call builtin:issubclass") => `(tactic| (k_here; k_dflt (refine' issub_call ?k1 ?_; (case k1 => exact News.get (by k_asm) (by k_mem)); k_whole)))

set_option maxRecDepth 100000 in
set_option maxHeartbeats 4000000 in
theorem fspath_spec (w : World) (x : Str) (t : Tok) : Spec w 1 8 94 [.str x t] (fun _ _ => True) (fun res v => v = .str x t ∧ res = []) := by
  k_dflt (refine' Spec.enter (binds := [(Str.ofString "path", .str x t)]) [] (fun _ _ _ _ h => nomatch h) ?k6 ?k7 ?k9 ?kB ?_ ?c2 ?c3 ?c4 ?c5; (case k6 => k_is); (case k7 => k_is); (case k9 => (intro s; exact BindsTo.of_eq (by rfl))); (case c5 => decide); (case kB => exact locs rfl); (case c2 => exact rfl); (case c3 => exact rfl); (case c4 => exact rfl); k_whole)
  intro dp un gd env outer base g h' L' tk mg mb mean news s hdp hun hpre F' N' hlt G' R' X' T'
  (try dsimp only)
  (try k_fold)
  k_steps
  all_goals ((try dsimp only); (try k_unfold); refine Done.intro [] (by k_asm) (by k_asm) News.nil ⟨rfl, rfl⟩)

local macro_rules | `(tactic| walk_at "call ref") => `(tactic| (k_here; k_dflt (refine' Spec.use (fspath_spec _ _ _) ?kG ?kR ?kF ?kN ?kf ?kk ?kd ?ku ?kp ?_; (case kF => k_asm); (case kN => k_asm); (case kG => k_asm); (case kR => k_asm); (case kf => exact rfl); (case kk => exact rfl); (case kd => omega); (case ku => omega); (case kp => trivial); k_whole; intro v h' tk' g' res G' R' X' T' F' N' hp'; obtain ⟨hv', hr'⟩ := hp'; subst hv'; subst hr'; (try simp only [List.nil_append] at N'); (try k_sweep))))

/-- what splitroot takes for the root, and for the rest -/
def rootF (x : Str) : Str :=
  if (Txt.slice x none (some 1) != Str.ofString "/") = true then Str.ofString ""
  else if (Txt.slice x (some 1) (some 2) != Str.ofString "/") = true then Str.ofString "/"
  else if (Txt.slice x (some 2) (some 3) == Str.ofString "/") = true then Str.ofString "/" else Txt.slice x none (some 2)
def tailF (x : Str) : Str :=
  if (Txt.slice x none (some 1) != Str.ofString "/") = true then x
  else if (Txt.slice x (some 1) (some 2) != Str.ofString "/") = true then Txt.slice x (some 1) none
  else if (Txt.slice x (some 2) (some 3) == Str.ofString "/") = true then Txt.slice x (some 1) none else Txt.slice x (some 2) none

theorem tailF_le (x : Str) : (tailF x).length ≤ x.length := by
  unfold tailF
  (repeat' split) <;> first | exact Nat.le_refl _ | exact Txt.slice_le x _ _
theorem rootF_le (x : Str) : (rootF x).length ≤ x.length + 1 := by
  unfold rootF
  (repeat' split) <;> first | exact Nat.le_succ_of_le (Txt.slice_le x _ _) | exact Nat.zero_le _ | exact Nat.succ_le_succ (Nat.zero_le _)

/-- a tuple of three texts that is new -/
def Three (a b c : Str) (res : List (Addr × Obj)) (v : Value) : Prop :=
  ∃ r t1 t2 t3, v = .ref r ∧ res = [(r, { cls := .type "tuple", data := .seq #[.str a t1, .str b t2, .str c t3] })]
theorem three_of {a b c b' c' : Str} {res : List (Addr × Obj)} {v : Value} (x : Three a b' c' res v) (e1 : b = b') (e2 : c = c') : Three a b c res v := by subst e1; subst e2; exact x
theorem News.first {h₀ h : Heap} {L : Addr} {a : Addr × Obj} {r : List (Addr × Obj)} (N : News h₀ L h (a :: r)) : News h₀ L h [a] := fun p hp => N p (by rw [List.mem_singleton.mp hp]; exact .head _)

set_option maxRecDepth 100000 in
set_option maxHeartbeats 4000000 in
theorem splitroot_spec (w : World) (x : Str) (t : Tok) (hx : x.length ≤ 1048576) : Spec w 2 16 101 [.str x t] (fun _ _ => True) (Three (Str.ofString "") (rootF x) (tailF x)) := by
  k_dflt (refine' Spec.enter (binds := [(Str.ofString "p", .str x t)]) [] (fun _ _ _ _ h => nomatch h) ?k6 ?k7 ?k9 ?kB ?_ ?c2 ?c3 ?c4 ?c5; (case k6 => k_is); (case k7 => k_is); (case k9 => (intro s; exact BindsTo.of_eq (by rfl))); (case c5 => decide); (case kB => exact locs rfl); (case c2 => exact rfl); (case c3 => exact rfl); (case c4 => exact rfl); k_whole)
  intro dp un gd env outer base g h' L' tk mg mb mean news s hdp hun hpre F' N' hlt G' R' X' T'
  (try dsimp only)
  (try k_fold)
  k_steps
  all_goals ((try dsimp only); (try k_unfold); refine Done.intro _ (by k_asm) (by k_asm) (News.first (by k_asm)) (three_of ⟨_, _, _, _, rfl, rfl⟩ (by unfold rootF; simp_all) (by unfold tailF; simp_all)))

local macro_rules | `(tactic| walk_at "call ref") => `(tactic| (k_here; k_dflt (refine' Spec.use (splitroot_spec _ _ _ ?ka) ?kG ?kR ?kF ?kN ?kf ?kk ?kd ?ku ?kp ?_; (case kF => k_asm); (case kN => k_asm); (case kG => k_asm); (case kR => k_asm); (case kf => exact rfl); (case kk => exact rfl); (case kd => omega); (case ku => omega); (case kp => trivial); (case ka => assumption); k_whole; intro v h' tk' g' res G' R' X' T' F' N' hp'; obtain ⟨r', t1, t2, t3, hv', hr'⟩ := hp'; subst hv'; subst hr'; (try simp only [List.cons_append, List.nil_append] at N'); (try k_sweep))))

end Mine

end

section
open PySem PySem.W PySem.Calls PyProof.Rows
namespace Mine
theorem fill_part2 : PySem.Challenge.rw_il0001_01 = PySem.Challenge.rw_il0001_01 ∧ Mine.hd.heap_39 = Mine.hd.heap_39 := by k_fill; exact ⟨rfl, rfl⟩
local macro_rules | `(tactic| k_units) => `(tactic| ktr_units)
local macro_rules | `(tactic| k_room) => `(tactic| ktr_room)
local macro_rules | `(tactic| walk_at "call ref") => `(tactic| (k_here; k_dflt (refine' Spec.use (fspath_spec _ _ _) ?kG ?kR ?kF ?kN ?kf ?kk ?kd ?ku ?kp ?_; (case kF => k_asm); (case kN => k_asm); (case kG => k_asm); (case kR => k_asm); (case kf => exact rfl); (case kk => exact rfl); (case kd => omega); (case ku => omega); (case kp => trivial); k_whole; intro v h' tk' g' res G' R' X' T' F' N' hp'; obtain ⟨hv', hr'⟩ := hp'; subst hv'; subst hr'; (try simp only [List.nil_append] at N'); (try k_sweep))))
local macro_rules | `(tactic| walk_at "call ref") => `(tactic| (k_here; k_dflt (refine' Spec.use (splitroot_spec _ _ _ ?ka) ?kG ?kR ?kF ?kN ?kf ?kk ?kd ?ku ?kp ?_; (case kF => k_asm); (case kN => k_asm); (case kG => k_asm); (case kR => k_asm); (case kf => exact rfl); (case kk => exact rfl); (case kd => omega); (case ku => omega); (case kp => trivial); (case ka => assumption); k_whole; intro v h' tk' g' res G' R' X' T' F' N' hp'; obtain ⟨r', t1, t2, t3, hv', hr'⟩ := hp'; subst hv'; subst hr'; (try simp only [List.cons_append, List.nil_append] at N'); (try k_sweep))))

theorem News.two {h₀ h : Heap} {L : Addr} {a b : Addr × Obj} {r : List (Addr × Obj)} (N : News h₀ L h (a :: b :: r)) : News h₀ L h [a, b] := fun p hp => N p (by
  rcases List.mem_cons.mp hp with rfl | hp
  · exact .head _
  · rw [List.mem_singleton.mp hp]; exact .tail _ (.head _))

theorem val_at {l : List (Str × Tok)} {i : Nat} {v : Value} (h : (strValues l)[i]? = some v) : ∃ p, l[i]? = some p ∧ v = .str p.1 p.2 := by
  unfold strValues at h
  rw [List.getElem?_map] at h
  cases e : l[i]? with
  | none => rw [e] at h; cases h
  | some p => rw [e] at h; cases h; exact ⟨p, rfl, rfl⟩
theorem strValues_snoc (q : List (Str × Tok)) (y : Str) (t : Tok) : strValues (q ++ [(y, t)]) = strValues q ++ [.str y t] := by simp [strValues]

section
variable {prog : Program} {w : World} {A : Around} {E : Value → Shared → Prop} {s : Shared} {h₀ : Heap} {L D : Addr} {m : Str → Option Value} {own : List (Addr × Obj)} {n : Nat}
theorem stk_upd {o o' : Obj} (ho : OwnOff own [D]) : Upd D o o' ((D, o) :: own) ((D, o') :: own) := Upd.head fun p hp => ho p hp D (.head _)
theorem stk_append {ys : List Value} {v : Value} {Q : Value → Shared → Prop} (F : Fr h₀ L s.heap m) (N : News h₀ L s.heap ((D, listOf ys.toArray n) :: own)) (ho : OwnOff own [D]) (hz : ys.length ≤ 2000000)
    (h : ∀ h', Fr h₀ L h' m → News h₀ L h' ((D, listOf (ys ++ [v]).toArray (n + 1)) :: own) → Q .none { s with heap := h' }) : wpAny (model prog w) A (call (.builtin "list.append") [.ref D, v]) Q E s :=
  append_K (hsz := by rw [List.size_toArray]; exact size_line hz) F N (by rw [show ys.toArray.push v = (ys ++ [v]).toArray by simp]; exact stk_upd ho) h
theorem stk_false {Q : Bool → Shared → Prop} (N : News h₀ L s.heap ((D, listOf ([] : List Value).toArray n) :: own)) (h : Q false { s with toks := s.toks + 1 + 1 }) : wpAny (model prog w) A (truthy (.ref D)) Q E s :=
  wpAny_truthy_list (items := #[]) ⟨_, N.get (.head _), rfl, _, rfl⟩ (by decide) h
theorem stk_true {ys : List Value} {v : Value} {Q : Bool → Shared → Prop} (N : News h₀ L s.heap ((D, listOf (ys ++ [v]).toArray n) :: own)) (hz : (ys ++ [v]).length ≤ 2000000) (h : Q true { s with toks := s.toks + 1 + 1 }) : wpAny (model prog w) A (truthy (.ref D)) Q E s :=
  wpAny_truthy_list (items := (ys ++ [v]).toArray) ⟨_, N.get (.head _), rfl, _, rfl⟩ (by rw [List.size_toArray]; omega) (by
    have e : (!(ys ++ [v]).toArray.isEmpty) = true := by simp
    rw [e]; exact h)
theorem stk_last {ys : List Value} {v : Value} {value slice : PySem.Expr} {u : Tok} {Q : Value → Shared → Prop} (N : News h₀ L s.heap ((D, listOf (ys ++ [v]).toArray n) :: own)) (h : Q v s)
    (hs : subscripted slice false (.ref D) (.int (-1) u) = operate [.ref D, .int (-1) u] (getItem (.ref D) (.int (-1) u)) := by with_unfolding_all rfl) :
    wpAny (model prog w) A (subscriptTail value slice (.ref D) (.int (-1) u)) Q E s :=
  have hl : s.heap.IsList D (ys ++ [v]).toArray := ⟨_, N.get (.head _), rfl, _, rfl⟩
  tail_any hl.typeIs slot_list_getitem.lookup (wpAny_getItem_list_neg hl (by decide) (by rw [List.size_toArray, List.length_append, List.length_singleton]; omega) (by decide)
    (by
      have e : ((-1 : Int) + ((ys ++ [v]).toArray.size : Nat)).toNat = ys.length := by rw [List.size_toArray, List.length_append, List.length_singleton]; omega
      rw [e]; simp) h) hs
theorem stk_pop {ys : List Value} {v : Value} {Q : Value → Shared → Prop} (F : Fr h₀ L s.heap m) (N : News h₀ L s.heap ((D, listOf (ys ++ [v]).toArray n) :: own)) (ho : OwnOff own [D]) (hz : (ys ++ [v]).length ≤ 2000000)
    (h : ∀ h', Fr h₀ L h' m → News h₀ L h' ((D, listOf ys.toArray (n + 1)) :: own) → Q v { s with heap := h' }) : wpAny (model prog w) A (call (.builtin "list.pop") [.ref D]) Q E s :=
  kl_pop F N (p := ys) (y := v) (by simpa using kpa_last v ys) (stk_upd ho) (by simpa using size_line hz) h
end
local macro_rules | `(tactic| walk_at "call builtin:list.append") => `(tactic| (k_here; k_dflt (refine' stk_append ?k1 ?k2 ?k3 ?k4 ?_; (case k1 => k_asm); (case k2 => k_asm); (case k3 => k_asm); (case k4 => k_asm); k_whole); intro h' F' N'; (try k_sweep)))
local macro_rules | `(tactic| walk_at "call builtin:list.pop") => `(tactic| (k_here; k_dflt (refine' stk_pop ?k1 ?k2 ?k3 ?k4 ?_; (case k1 => k_asm); (case k2 => k_asm); (case k3 => k_asm); (case k4 => k_asm); k_whole); intro h' F' N'; (try k_sweep)))
local macro_rules | `(tactic| walk_at "truthy ref") => `(tactic| (k_here; k_dflt (first | (refine' stk_true ?k1 ?k4 ?_; (case k1 => k_asm); (case k4 => k_asm); k_whole) | (refine' stk_false ?k1 ?_; (case k1 => k_asm); k_whole))))
local macro_rules | `(tactic| walk_at "subscriptTail") => `(tactic| (k_here; k_dflt (refine' stk_last ?k1 ?_; (case k1 => k_asm); k_whole)))

/-- what a turn of normpath's loop makes of the names that stand -/
def stepF (root : Str) (stk : List Str) (c : Str) : List Str :=
  if c.length = 0 ∨ c = Str.ofString "." then stk
  else if c ≠ Str.ofString ".." ∨ (root.length = 0 ∧ stk = []) ∨ stk.getLast? = some (Str.ofString "..") then stk ++ [c]
  else stk.dropLast

def StkR (root : Str) (cs : List Str) (i : Nat) (ys : List Value) : Prop := ∃ q : List (Str × Tok), ys = strValues q ∧ q.map (·.1) = (cs.take i).foldl (stepF root) []

theorem take_fold {root : Str} {cs : List Str} {i : Nat} {c : Str} (h : cs[i]? = some c) : (cs.take (i + 1)).foldl (stepF root) [] = stepF root ((cs.take i).foldl (stepF root) []) c := by
  rw [List.take_add_one, h]; simp

section
variable {root c y : Str} {stk : List Str}
theorem stepF_empty (h : ((c.length : Nat) : Int) = 0) : stepF root stk c = stk := by unfold stepF; rw [if_pos (.inl (by omega))]
theorem stepF_dot (h : (c == Str.ofString ".") = true) : stepF root stk c = stk := by unfold stepF; rw [if_pos (.inr (eq_of_beq h))]
theorem stepF_skip (h0 : ((c.length : Nat) : Int) ≠ 0) (h1 : (c == Str.ofString ".") = false) : ¬ (c.length = 0 ∨ c = Str.ofString ".") := by
  rintro (h | h)
  · exact h0 (by omega)
  · rw [h] at h1; exact absurd h1 (by decide)
theorem stepF_name (h0 : ((c.length : Nat) : Int) ≠ 0) (h1 : (c == Str.ofString ".") = false) (h2 : (c != Str.ofString "..") = true) : stepF root stk c = stk ++ [c] := by
  unfold stepF; rw [if_neg (stepF_skip h0 h1), if_pos (.inl (bne_iff_ne.mp h2))]
theorem bne_no {a b : Str} (h : (a != b) = false) : a = b := by
  by_cases e : a = b
  · exact e
  · rw [bne_iff_ne.mpr e] at h; cases h
theorem stepF_up0 (h0 : ((c.length : Nat) : Int) ≠ 0) (h1 : (c == Str.ofString ".") = false) (_h2 : (c != Str.ofString "..") = false) (hr : ((root.length : Nat) : Int) = 0) : stepF root [] c = [] ++ [c] := by
  unfold stepF; rw [if_neg (stepF_skip h0 h1), if_pos (.inr (.inl ⟨by omega, rfl⟩))]
theorem stepF_up1 (h0 : ((c.length : Nat) : Int) ≠ 0) (h1 : (c == Str.ofString ".") = false) (h2 : (c != Str.ofString "..") = false) (hr : ((root.length : Nat) : Int) ≠ 0) : stepF root [] c = [] := by
  unfold stepF; rw [if_neg (stepF_skip h0 h1), if_neg]
  · rfl
  · rintro (h | ⟨h, _⟩ | h)
    · exact h (bne_no h2)
    · exact hr (by omega)
    · cases h
theorem stepF_upup (h0 : ((c.length : Nat) : Int) ≠ 0) (h1 : (c == Str.ofString ".") = false) (_h2 : (c != Str.ofString "..") = false) (hy : (y == Str.ofString "..") = true) : stepF root (stk ++ [y]) c = (stk ++ [y]) ++ [c] := by
  unfold stepF; rw [if_neg (stepF_skip h0 h1), if_pos (.inr (.inr (by rw [eq_of_beq hy]; simp)))]
theorem stepF_pop (h0 : ((c.length : Nat) : Int) ≠ 0) (h1 : (c == Str.ofString ".") = false) (h2 : (c != Str.ofString "..") = false) (hy : (y == Str.ofString "..") = false) : stepF root (stk ++ [y]) c = stk := by
  unfold stepF; rw [if_neg (stepF_skip h0 h1), if_neg]
  · simp
  · rintro (h | ⟨_, h⟩ | h)
    · exact h (bne_no h2)
    · simp at h
    · simp only [List.getLast?_append, List.getLast?_singleton, Option.some_or, Option.some.injEq] at h
      rw [h] at hy; exact absurd hy (by decide)

theorem stkR_end {l q q' : List (Str × Tok)} {i : Nat} {tc : Tok} {ys : List Value} (hst : q.map (fun x => x.1) = (List.take i (l.map (fun x => x.1))).foldl (stepF root) []) (hc : l[i]? = some (c, tc))
    (hys : ys = strValues q') (e : stepF root (q.map (fun x => x.1)) c = q'.map (fun x => x.1)) : StkR root (l.map (·.1)) (i + 1) ys :=
  ⟨q', hys, by rw [take_fold (c := c) (by rw [List.getElem?_map, hc]; rfl), ← e]; exact congrArg (stepF root · c) hst⟩
theorem stk_same {l q : List (Str × Tok)} {i : Nat} {tc : Tok} {ys : List Value} (hst : q.map (fun x => x.1) = (List.take i (l.map (fun x => x.1))).foldl (stepF root) []) (hc : l[i]? = some (c, tc))
    (hys : ys = strValues q) (e : stepF root (q.map (fun x => x.1)) c = q.map (fun x => x.1)) : StkR root (l.map (·.1)) (i + 1) ys := stkR_end hst hc hys e
theorem stk_push {l q : List (Str × Tok)} {i : Nat} {tc : Tok} {ys : List Value} (hst : q.map (fun x => x.1) = (List.take i (l.map (fun x => x.1))).foldl (stepF root) []) (hc : l[i]? = some (c, tc))
    (hys : ys = strValues q ++ [.str c tc]) (e : stepF root (q.map (fun x => x.1)) c = q.map (fun x => x.1) ++ [c]) : StkR root (l.map (·.1)) (i + 1) ys :=
  stkR_end (q' := q ++ [(c, tc)]) hst hc (by rw [strValues_snoc]; exact hys) (by rw [e]; simp)
end

theorem stepF_len (root : Str) (stk : List Str) (c : Str) : (stepF root stk c).length ≤ stk.length + 1 := by
  unfold stepF
  split
  · omega
  · split
    · simp
    · simp only [List.length_dropLast]; omega
theorem stepF_mem {root : Str} {stk : List Str} {c a : Str} (h : a ∈ stepF root stk c) : a ∈ stk ∨ a = c := by
  unfold stepF at h
  split at h
  · exact .inl h
  · split at h
    · simpa using h
    · exact .inl (List.dropLast_subset _ h)
theorem fold_len (root : Str) : ∀ (cs : List Str) (stk : List Str), (cs.foldl (stepF root) stk).length ≤ stk.length + cs.length
  | [], _ => Nat.le_refl _
  | c :: cs, stk => by
    have h1 := fold_len root cs (stepF root stk c)
    have h2 := stepF_len root stk c
    simp only [List.foldl_cons, List.length_cons] at h1 ⊢
    omega
theorem fold_mem (root : Str) : ∀ (cs : List Str) (stk : List Str) (a : Str), a ∈ cs.foldl (stepF root) stk → a ∈ stk ∨ a ∈ cs
  | [], _, _, h => .inl h
  | c :: cs, stk, a, h => by
    rcases fold_mem root cs _ a h with h | h
    · exact (stepF_mem h).imp id fun e => by rw [e]; exact .head _
    · exact .inr (.tail _ h)
theorem sum_le_mul (k : Nat) : ∀ l : List Str, (∀ a ∈ l, a.length ≤ k) → (l.map (·.length)).sum ≤ l.length * k
  | [], _ => Nat.zero_le _
  | a :: l, h => by
    have h1 := sum_le_mul k l fun b hb => h b (.tail _ hb)
    have h2 := h a (.head _)
    simp only [List.map_cons, List.sum_cons, List.length_cons, Nat.add_mul, Nat.one_mul]
    omega
theorem strValues_length (q : List (Str × Tok)) : (strValues q).length = q.length := by simp [strValues]
theorem strsAre_q : ∀ q : List (Str × Tok), StrsAre (strValues q) (q.map (fun x => x.1))
  | [] => .nil
  | (a, t) :: q => .cons a t (strsAre_q q)

/-- what normpath gives -/
def normF (x : Str) : Str :=
  if x.length = 0 then Str.ofString "."
  else if (rootF x ++ Txt.join (Str.ofString "/") ((Txt.split (tailF x) (Str.ofString "/")).foldl (stepF (rootF x)) [])).length = 0 then Str.ofString "."
  else rootF x ++ Txt.join (Str.ofString "/") ((Txt.split (tailF x) (Str.ofString "/")).foldl (stepF (rootF x)) [])

theorem str_same {a b : Str} {t : Tok} (e : a = b) : ∃ t', Value.str b t = Value.str a t' := ⟨t, by rw [e]⟩
theorem normF_none {x : Str} (h : ((x.length : Nat) : Int) = 0) : normF x = Str.ofString "." := by unfold normF; rw [if_pos (by omega)]
theorem normF_full {x : Str} {st : List Str} (h : ((x.length : Nat) : Int) ≠ 0) (hst : st = (Txt.split (tailF x) (Str.ofString "/")).foldl (stepF (rootF x)) [])
    (hn : (((rootF x ++ Txt.join (Str.ofString "/") st).length : Nat) : Int) ≠ 0) : normF x = rootF x ++ Txt.join (Str.ofString "/") st := by
  subst hst; unfold normF; rw [if_neg (by omega), if_neg (by omega)]
theorem normF_bare {x : Str} {st : List Str} (h : ((x.length : Nat) : Int) ≠ 0) (hst : st = (Txt.split (tailF x) (Str.ofString "/")).foldl (stepF (rootF x)) [])
    (hn : (((rootF x ++ Txt.join (Str.ofString "/") st).length : Nat) : Int) = 0) : normF x = Str.ofString "." := by
  subst hst; unfold normF; rw [if_neg (by omega), if_pos (by omega)]

section
variable {prog : Program} {w : World} {A : Around} {E : Value → Shared → Prop} {s : Shared} {h₀ : Heap} {L D : Addr} {m : Str → Option Value} {own : List (Addr × Obj)} {n : Nat}
theorem join_q {x : Str} {t : Tok} {q : List (Str × Tok)} {Q : Value → Shared → Prop} (N : News h₀ L s.heap ((D, listOf (strValues q).toArray n) :: own)) (hok : ((q.map (fun x => x.1)).map (·.length)).sum + (q.map (fun x => x.1)).length * x.length ≤ 16777216)
    (h : ∀ t' k, Q (.str (Txt.join x (q.map (fun x => x.1))) t') { s with toks := k }) : wpAny (model prog w) A (call (.builtin "str.join") [.str x t, .ref D]) Q E s :=
  join_list (ys := q.map (fun x => x.1)) ⟨_, N.get (.head _), rfl, _, rfl⟩ (by simpa using strsAre_q q) hok h
end
local macro_rules | `(tactic| walk_at "call builtin:str.join") => `(tactic| (k_here; k_dflt (refine' join_q ?k1 ?k2 ?_; (case k1 => k_asm); (case k2 => k_asm); k_whole); intro t' k'))

set_option maxRecDepth 100000 in
set_option maxHeartbeats 4000000 in
theorem normpath_spec (w : World) (x : Str) (t : Tok) (hx1 : x.length ≤ 1000) : Spec w 3 32 108 [.str x t] (fun _ _ => True) (fun res v => (∃ t', v = .str (normF x) t') ∧ res = []) := by
  have hx : x.length ≤ 1048576 := by omega
  k_dflt (refine' Spec.enter (binds := [(Str.ofString "path", .str x t)]) [] (fun _ _ _ _ h => nomatch h) ?k6 ?k7 ?k9 ?kB ?_ ?c2 ?c3 ?c4 ?c5; (case k6 => k_is); (case k7 => k_is); (case k9 => (intro s; exact BindsTo.of_eq (by rfl))); (case c5 => decide); (case kB => exact locs rfl); (case c2 => exact rfl); (case c3 => exact rfl); (case c4 => exact rfl); k_whole)
  intro dp un gd env outer base g h' L' tk mg mb mean news s hdp hun hpre F' N' hlt G' R' X' T'
  have htl : (tailF x).length ≤ 1048576 := Nat.le_trans (tailF_le x) hx
  have hrl : (rootF x).length ≤ 1048577 := Nat.le_trans (rootF_le x) (Nat.succ_le_succ hx)
  (try dsimp only)
  (try k_fold)
  k_steps
  · rename Fr _ _ _ _ => F0
    rename News _ _ _ _ => N0
    rename List (Str × Tok) => l
    rename List.map _ _ = Txt.split _ _ => hsp
    rename ∀ (a : Str), a ∈ _ → _ => hcl
    refine iter_list (L := L') rfl (ys₀ := []) (n₀ := 0) (vs := strValues l) (nl := 0) (StkR (rootF x) (l.map (·.1))) rfl F0 (News.two N0) ?_ ⟨[], rfl, rfl⟩ ?_ ?_
    · clear F0 N0
      rename _ ∧ _ => l1
      exact Nat.ne_of_gt l1.1
    · clear F0 N0
      intro i v ys n h tk own hv ⟨q, hq, hst⟩ hoff F' N'
      obtain ⟨⟨c, tc⟩, hc, rfl⟩ := val_at hv
      have hc1 : c.length ≤ 1048576 := Nat.le_trans (hcl c (List.mem_of_getElem? (i := i) (by rw [List.getElem?_map, hc]; rfl))) htl
      have hll : l.length ≤ 1002 := by
        have h1 := len_le_of_split hsp
        have h2 := tailF_le x
        omega
      clear hsp hcl
      subst hq
      rcases List.eq_nil_or_concat q with rfl | ⟨q, ⟨y, ty⟩, rfl⟩
      · have hz0 : ([] : List Value).length ≤ 2000000 := Nat.zero_le _
        dsimp only [strValues, List.map_nil] at N' hst ⊢
        k_steps
        all_goals (try dsimp only)
        all_goals (refine TurnEnd.intro (by first | exact .inl rfl | exact .inr rfl) (by k_asm) (by k_asm) ?_ (by intro z hz; simp [hz]))
        all_goals first
          | exact stk_same (q := []) hst hc rfl (stepF_empty (by assumption))
          | exact stk_same (q := []) hst hc rfl (stepF_dot (by assumption))
          | exact stk_same (q := []) hst hc rfl (stepF_up1 (by assumption) (by assumption) (by assumption) (by assumption))
          | exact stk_push (q := []) hst hc rfl (stepF_name (by assumption) (by assumption) (by assumption))
          | exact stk_push (q := []) hst hc rfl (stepF_up0 (by assumption) (by assumption) (by assumption) (by assumption))
      · rw [List.concat_eq_append] at N' hst
        rw [strValues_snoc] at N'
        have hz0 : (strValues q ++ [Value.str y ty]).length ≤ 2000000 := by
          have h1 := fold_len (rootF x) (List.take i (List.map (fun x => x.1) l)) []
          rw [← hst] at h1
          simp only [List.length_map, List.length_append, List.length_singleton, List.length_take, List.length_nil] at h1
          simp only [strValues_length, List.length_append, List.length_singleton]
          omega
        dsimp only
        k_steps
        all_goals (try dsimp only)
        all_goals (refine TurnEnd.intro (by first | exact .inl rfl | exact .inr rfl) (by k_asm) (by k_asm) ?_ (by intro z hz; simp [hz]))
        all_goals first
          | exact stk_same hst hc (strValues_snoc q y ty).symm (stepF_empty (by assumption))
          | exact stk_same hst hc (strValues_snoc q y ty).symm (stepF_dot (by assumption))
          | exact stk_push hst hc (by rw [strValues_snoc]) (stepF_name (by assumption) (by assumption) (by assumption))
          | exact stk_push hst hc (by rw [strValues_snoc]) (by rw [List.map_append]; exact stepF_upup (y := y) (by assumption) (by assumption) (by assumption) (by assumption))
          | exact stkR_end (q' := q) hst hc rfl (by rw [List.map_append]; exact stepF_pop (y := y) (by assumption) (by assumption) (by assumption) (by assumption))
    · clear F0 N0
      intro u ys n h tk ⟨q, hq, hst⟩ F' N'
      subst hq
      rw [show (strValues l).length = (l.map (fun x => x.1)).length by simp [strValues], List.take_length, hsp] at hst
      have hll : (Txt.split (tailF x) (Str.ofString "/")).length ≤ 1002 := by
        have h1 := split_le (tailF x) (Str.ofString "/")
        have h2 := tailF_le x
        omega
      have hlq : (q.map (fun x => x.1)).length ≤ 1002 := by
        have h1 := fold_len (rootF x) (Txt.split (tailF x) (Str.ofString "/")) []
        rw [← hst, List.length_nil] at h1
        omega
      have hlm : ∀ a ∈ q.map (fun x => x.1), a.length ≤ 1000 := by
        intro a ha
        rw [hst] at ha
        rcases fold_mem _ _ _ a ha with h | h
        · cases h
        · have h1 := tailF_le x
          rw [← hsp] at h
          have h2 := hcl a h
          omega
      have hls := sum_le_mul 1000 _ hlm
      have hok : ((q.map (fun x => x.1)).map (·.length)).sum + (q.map (fun x => x.1)).length * (Str.ofString "/").length ≤ 16777216 := by
        have h1 : (Str.ofString "/").length = 1 := by decide
        rw [h1]
        omega
      have hjl : (Txt.join (Str.ofString "/") (q.map (fun x => x.1))).length ≤ 1003100 := by
        have h1 : (Str.ofString "/").length = 1 := by decide
        have h2 := size_glued (Str.ofString "/") (q.map (fun x => x.1))
        rw [h1] at h2
        unfold Txt.join
        omega
      have hrl1 : (rootF x).length ≤ 1001 := Nat.le_trans (rootF_le x) (Nat.succ_le_succ hx1)
      clear hcl
      dsimp only
      k_steps
      all_goals (refine Done.intro [] (by k_asm) (by k_asm) News.nil ⟨str_same ?_, rfl⟩)
      · exact normF_full (by assumption) hst (by assumption)
      · exact normF_bare (by assumption) hst (by assumption)
  · (try dsimp only); (try k_unfold)
    refine Done.intro [] (by k_asm) (by k_asm) News.nil ⟨str_same ?_, rfl⟩
    exact normF_none (by assumption)
end Mine

end

section
open PySem PySem.W PySem.Calls PyProof.Rows
namespace Mine
theorem fill_part8 : PySem.Challenge.rw_il0001_01 = PySem.Challenge.rw_il0001_01 ∧ Mine.hd.heap_39 = Mine.hd.heap_39 := by k_fill; exact ⟨rfl, rfl⟩
local macro_rules | `(tactic| k_units) => `(tactic| ktr_units)
local macro_rules | `(tactic| k_room) => `(tactic| ktr_room)

/-- a value is kept that is no text of these, no int of those -/
def keepS (sk : List Str) : Value → Bool
  | .str x _ => !sk.contains x
  | _ => true
def keepI (sk : List Int) : Value → Bool
  | .int x _ => !sk.contains x
  | _ => true
theorem keepS_ok (q sq : List (Str × Tok)) : ∀ v ∈ strValues q, ∃ e : Value → Bool, (∀ y ∈ strValues sq, MeetsSeq.EqGives y v (e y)) ∧ (strValues sq).any e = !keepS (sq.map (·.1)) v := by
  intro v hv
  obtain ⟨⟨x, t⟩, _, rfl⟩ := List.mem_map.mp hv
  refine ⟨fun y => match y with | .str a _ => a == x | _ => false, fun y hy => ?_, ?_⟩
  · obtain ⟨⟨a, u⟩, _, rfl⟩ := List.mem_map.mp hy
    exact eqGives_str a x u t
  · simp only [keepS, Bool.not_not]
    induction sq with
    | nil => rfl
    | cons p r ih =>
      simp only [strValues, List.map_cons, List.any_cons, List.contains_cons] at ih ⊢
      rw [ih, Bool.beq_comm]
theorem filter_strs (q : List (Str × Tok)) (sk : List Str) : (strValues q).filter (keepS sk) = strValues (q.filter fun p => !sk.contains p.1) := by
  unfold strValues
  rw [List.filter_map]
  rfl
theorem filter_strs_spec (w : World) (l k : Addr) (q sq : List (Str × Tok)) (nl nk : Nat) (hz : q.length ≤ 2000000) :
    Spec w 4 64 152 [.ref l, .ref k] (fun _ news => (l, listOf (strValues q).toArray nl) ∈ news ∧ (k, listOf (strValues sq).toArray nk) ∈ news)
      (fun res v => ∃ S c, v = .ref S ∧ res = [(S, listOf (strValues (q.filter fun p => !(sq.map (·.1)).contains p.1)).toArray c)]) := by
  have h := filter_spec w l k (strValues q) (strValues sq) nl nk (keepS (sq.map (·.1))) (keepS_ok q sq) (by rw [strValues_length]; exact hz)
  rw [filter_strs] at h
  exact h

theorem int_same {a b : Int} {t : Tok} (e : a = b) : ∃ t', Value.int b t = Value.int a t' := ⟨t, by rw [e]⟩
theorem News.one {h₀ h : Heap} {L : Addr} {a : Addr × Obj} {news : List (Addr × Obj)} (N : News h₀ L h news) (ha : a ∈ news) : News h₀ L h [a] := fun p hp => N p (by rw [List.mem_singleton.mp hp]; exact ha)
/-- how many more names than .. -/
def namesF (p : List Str) : Nat := (p.filter fun x => !(x == Str.ofString "..")).length
def overF (p : List Str) : Int := ((namesF p : Nat) : Int) - (((p.length : Nat) : Int) - ((namesF p : Nat) : Int))
theorem namesF_q (q : List (Str × Tok)) {t : Tok} : (strValues (q.filter fun p => !([(Str.ofString "..", t)].map (·.1)).contains p.1)).length = namesF (q.map (·.1)) := by
  unfold namesF
  rw [strValues_length, List.filter_map, List.length_map]
  congr 1
  refine List.filter_congr fun p _ => ?_
  simp only [List.map_cons, List.map_nil, List.contains_cons, List.contains_nil, Bool.or_false]
  rfl
section
variable {prog : Program} {w : World} {A : Around} {E : Value → Shared → Prop} {s : Shared} {h₀ : Heap} {L l : Addr} {news : List (Addr × Obj)} {vs : List Value} {n : Nat}
theorem len_N {Q : Value → Shared → Prop} (N : News h₀ L s.heap news) (hl : (l, listOf vs.toArray n) ∈ news) (hz : vs.length ≤ 2000000) (h : ∀ t k, Q (.int ((vs.length : Nat) : Int) t) { s with toks := k }) :
    wpAny (model prog w) A (call (.builtin "len") [.ref l]) Q E s :=
  len_list (items := vs.toArray) ⟨_, N.get hl, rfl, _, rfl⟩ (by rw [List.size_toArray]; omega) (by rw [List.size_toArray]; exact h _ _)
end
local macro_rules | `(tactic| walk_at "call builtin:len") => `(tactic| (k_here; k_dflt (refine' len_N ?k1 ?k2 ?k3 ?_; (case k1 => k_asm); (case k2 => k_mem); (case k3 => first | omega | assumption | (simp only [strValues_length]; omega) | (simp only [strValues_length]; exact Nat.le_trans (List.length_filter_le _ _) (by omega))); k_whole; intro t' k')))

local macro_rules | `(tactic| walk_at "call ref") => `(tactic| (k_here; k_dflt (refine' Spec.use (filter_strs_spec _ _ _ _ [(Str.ofString "..", _)] _ _ ?ka) ?kG ?kR ?kF ?kN ?kf ?kk ?kd ?ku ?kp ?_; (case kF => k_asm); (case kN => k_asm); (case kG => k_asm); (case kR => k_asm); (case kf => exact rfl); (case kk => exact rfl); (case kd => omega); (case ku => omega); (case kp => exact ⟨by k_mem, by k_mem⟩); (case ka => assumption); k_whole; intro v h' tk' g' res G' R' X' T' F' N' hp'; obtain ⟨S', c', hv', hr'⟩ := hp'; subst hv'; subst hr'; (try simp only [List.cons_append, List.nil_append] at N'); (try k_sweep))))

set_option maxRecDepth 100000 in
set_option maxHeartbeats 4000000 in
theorem over_spec (w : World) (l : Addr) (q : List (Str × Tok)) (nl : Nat) (hz : q.length ≤ 1000) :
    Spec w 6 100 164 [.ref l] (fun _ news => (l, listOf (strValues q).toArray nl) ∈ news) (fun res v => (∃ t, v = .int (overF (q.map (·.1))) t) ∧ res = []) := by
  k_dflt (refine' Spec.enter (binds := [(Str.ofString "part", .ref l)]) [(l, listOf (strValues q).toArray nl)] ?hh ?k6 ?k7 ?k9 ?kB ?_ ?c2 ?c3 ?c4 ?c5; (case k6 => k_is); (case k7 => k_is); (case k9 => (intro s; exact BindsTo.of_eq (by rfl))); (case c5 => decide); (case kB => exact locs rfl); (case c2 => exact rfl); (case c3 => exact rfl); (case c4 => exact rfl))
  case hh =>
    intro base news h1 p hp
    rw [List.mem_singleton.mp hp]; exact h1
  intro dp un gd env outer base g h' L' tk mg mb mean news s hdp hun hpre F' N' hlt G' R' X' T'
  k_lt hlt
  have hz2 : q.length ≤ 2000000 := by omega
  (try dsimp only)
  (try k_fold)
  k_steps
  refine Done.intro [] (by k_asm) (by k_asm) (News.one (by k_asm) (by k_mem)) ⟨int_same ?_, rfl⟩
  rw [namesF_q, strValues_length]
  unfold overF
  rw [List.length_map]
end Mine

end

section
open PySem PySem.W PySem.Calls PyProof.Rows
set_option maxRecDepth 100000
namespace Mine

section
variable {g h h' : Heap} {L a : Addr} {m : Str → Option Value} {o o' : Obj} {r news led : List (Addr × Obj)}
theorem newsSub (N : News g L h news) (hs : ∀ p ∈ led, p ∈ news) : News g L h led := fun p hp => N p (hs p hp)
theorem fr_put (F : Fr g L h m) (k : ∀ b o, b ≠ a → h.get? b = some o → h'.get? b = some o) (hL : a ≠ L) (hg : g.get? a = none) : Fr g L h' m := by
  obtain ⟨oL, es, ep, hoL, rr⟩ := F.ns
  exact ⟨⟨oL, es, ep, k L oL (Ne.symm hL) hoL, rr⟩, fun b o e => k b o (fun z => by rw [z, hg] at e; cases e) (F.keep b o e), F.above⟩
theorem news_put (N : News g L h ((a, o) :: r)) (k : ∀ b o, b ≠ a → h.get? b = some o → h'.get? b = some o) (ho : h'.get? a = some o') (hne : ∀ p ∈ r, p.1 ≠ a) : News g L h' ((a, o') :: r) := by
  intro p hp
  rcases List.mem_cons.mp hp with rfl | hp
  · have z := N (a, o) (.head _); exact ⟨ho, z.2⟩
  · have z := N p (.tail _ hp); exact ⟨k _ _ (hne p hp) z.1, z.2⟩
end

/-- where a walk stands within a def's frame: a ground (turned from g0 at most in the frames' slots), the frame, a ledger -/
def CS (w : World) (base : Heap) (rest : List Env) (mean : ExcName → Option Value) (mg mb : Str → Option Value) (g0 : Heap) (L : Addr) (m : Str → Option Value) (news : List (Addr × Obj)) (s₀ s' : Shared) : Prop :=
  ∃ g' h tk, s' = { s₀ with heap := h, toks := tk } ∧ Gnd w base rest g' mean mg mb ∧ Rebase (frs rest) g0 g' ∧ Fr g' L h m ∧ News g' L h news

section
variable {w : World} {base : Heap} {rest : List Env} {mean : ExcName → Option Value} {mg mb : Str → Option Value} {g0 : Heap} {L a : Addr} {m : Str → Option Value} {news led r : List (Addr × Obj)} {s₀ s' : Shared} {o o' : Obj} {h' : Heap} {tk' : Nat}
theorem CS.sub (c : CS w base rest mean mg mb g0 L m news s₀ s') (hs : ∀ p ∈ led, p ∈ news) : CS w base rest mean mg mb g0 L m led s₀ s' :=
  let ⟨g', h, tk, e, G, R, F, N⟩ := c; ⟨g', h, tk, e, G, R, F, newsSub N hs⟩
theorem CS.get (c : CS w base rest mean mg mb g0 L m news s₀ s') {p : Addr × Obj} (hp : p ∈ news) : s'.heap.get? p.1 = some p.2 := by
  obtain ⟨g', h, tk, rfl, G, R, F, N⟩ := c
  exact (N p hp).1
theorem CS.put (c : CS w base rest mean mg mb g0 L m ((a, o) :: r) s₀ s') (k : ∀ b o, b ≠ a → s'.heap.get? b = some o → h'.get? b = some o) (ho : h'.get? a = some o') (hne : ∀ p ∈ r, p.1 ≠ a) :
    CS w base rest mean mg mb g0 L m ((a, o') :: r) s₀ { s' with heap := h', toks := tk' } := by
  obtain ⟨g', h, tk, rfl, G, R, F, N⟩ := c
  have z := N (a, o) (.head _)
  exact ⟨g', h', tk', rfl, G, R, fr_put F k z.2.1 z.2.2, news_put N k ho hne⟩
theorem CS.drop (c : CS w base rest mean mg mb g0 L m ((a, o) :: r) s₀ s') (k : ∀ b o, b ≠ a → s'.heap.get? b = some o → h'.get? b = some o) (hne : ∀ p ∈ r, p.1 ≠ a) :
    CS w base rest mean mg mb g0 L m r s₀ { s' with heap := h', toks := tk' } := by
  obtain ⟨g', h, tk, rfl, G, R, F, N⟩ := c
  have z := N (a, o) (.head _)
  exact ⟨g', h', tk', rfl, G, R, fr_put F k z.2.1 z.2.2, fun p hp => ⟨k _ _ (hne p hp) (N p (.tail _ hp)).1, (N p (.tail _ hp)).2⟩⟩
theorem CS.add (c : CS w base rest mean mg mb g0 L m news s₀ s') (k : ∀ b o, s'.heap.get? b = some o → h'.get? b = some o) (hn : s'.heap.get? a = none) (ho : h'.get? a = some o) :
    CS w base rest mean mg mb g0 L m ((a, o) :: news) s₀ { s' with heap := h', toks := tk' } := by
  obtain ⟨g', h, tk, rfl, G, R, F, N⟩ := c
  refine ⟨g', h', tk', rfl, G, R, ⟨F.ns.keeps k, fun b o e => k b o (F.keep b o e), F.above⟩, fun p hp => ?_⟩
  rcases List.mem_cons.mp hp with rfl | hp
  · refine ⟨ho, fun e => ?_, ?_⟩
    · obtain ⟨oL, _, _, hL, _⟩ := F.ns
      have e' : a = L := e
      rw [e'] at hn
      exact absurd (hL.symm.trans hn) (by simp)
    · cases q : g'.get? a with
      | none => rfl
      | some o' => exact absurd ((F.keep _ _ q).symm.trans hn) (by simp)
  · exact ⟨k _ _ (N p hp).1, (N p hp).2⟩
theorem CS.tok (c : CS w base rest mean mg mb g0 L m news s₀ s') (t : Nat) : CS w base rest mean mg mb g0 L m news s₀ { s' with toks := t } :=
  let ⟨g', h, _, e, G, R, F, N⟩ := c; ⟨g', h, t, by rw [e], G, R, F, N⟩
end

section
variable {w : World} {base : Heap} {rest : List Env} {mean : ExcName → Option Value} {mg mb : Str → Option Value} {g0 : Heap} {L : Addr} {m : Str → Option Value} {led : List (Addr × Obj)} {s₀ s : Shared}
  {A : Around} {I C D : Addr} {fp : List Addr} {n : Nat} {P : Nat → Value → Prop} {St : Nat → Heap → Prop} {cenv : Env} {elt iter : PySem.Expr} {x : Str} {px pos : Pos} {ifs : List PySem.Expr} {scope : Scope}

theorem compLoop_own (W : Walks prog w A I fp [I] n P St) (hI : ∀ i h, St i h → ∃ o, h.get? I = some o) (hx : cenv.kindOf x = some .local)
    (hp : (cenv.scope.kind == .class || (cenv.scope.kind == .module && cenv.locals != cenv.globals)) = false) (hC : cenv.locals = C)
    (hCD : C ≠ D) (hCI : C ≠ I) (hDI : D ≠ I) (hlC : ∀ p ∈ led, p.1 ≠ C) (hlD : ∀ p ∈ led, p.1 ≠ D) (hlI : ∀ p ∈ led, p.1 ≠ I) (hfp : ∀ b ∈ fp, b = I ∨ ∃ o, (b, o) ∈ led)
    (R : Nat → List Value → Prop) (hlen : ∀ i ys, R i ys → ys.length ≤ i) (hz : n ≤ 2000000) {R' : Result → Shared → Prop} {oC oI : Obj} {c₀ : Nat} {mC : Str → Option Value}
    (h0 : R 0 []) (hs : CS w base rest mean mg mb g0 L m ((C, oC) :: (D, listOf #[] c₀) :: (I, oI) :: led) s₀ s) (hns : s.heap.Ns C mC) (hst : St 0 s.heap)
    (body : ∀ i v ys oC oI c s' m₂, i < n → P i v → R i ys → CS w base rest mean mg mb g0 L m ((C, oC) :: (D, listOf (List.toArray ys) c) :: (I, oI) :: led) s₀ s' → s'.heap.Ns C m₂ → m₂ x = some v →
      wpAny (model prog w) A (forIn ifs true fun c r => if r = true then do let ok ← isTrue c cenv (eval c cenv); pure (ForInStep.yield ok) else pure (ForInStep.yield r))
        (fun ok s₃ => CS w base rest mean mg mb g0 L m ((C, oC) :: (D, listOf (List.toArray ys) c) :: (I, oI) :: led) s₀ s₃ ∧
          if ok = true then wpAny (model prog w) A (eval elt cenv) (fun y s₄ => CS w base rest mean mg mb g0 L m ((C, oC) :: (D, listOf (List.toArray ys) c) :: (I, oI) :: led) s₀ s₄ ∧ R (i + 1) (ys ++ [y])) (fun _ _ => False) s₃
          else R (i + 1) ys) (fun _ _ => False) s')
    (fin : ∀ s' ys oC c m₂, R n ys → CS w base rest mean mg mb g0 L m ((C, oC) :: (D, listOf (List.toArray ys) c) :: led) s₀ s' → s'.heap.Ns C m₂ → R' (.ok .next) s') :
    codeAny (model prog w) A (.compLoop (.ListComp elt [⟨.Name x px, iter, ifs, 0⟩] scope pos) 0 (.ref I) (.ref D) cenv) R' s := by
  subst hC
  have stUp : ∀ i (h h' : Heap) (oC oI : Obj) (c : Nat) (ys : List Value) (s₁ s₂ : Shared), s₁.heap = h → s₂.heap = h' → St i h → CS w base rest mean mg mb g0 L m ((cenv.locals, oC) :: (D, listOf (List.toArray ys) c) :: (I, oI) :: led) s₀ s₁ →
      (∀ p ∈ (I, oI) :: led, h'.get? p.1 = some p.2) → St i h' := by
    intro i h h' oC oI c ys s₁ s₂ e1 e2 st c1 hk
    subst e1
    refine W.frame i _ _ st fun b hb o ho => ?_
    rcases hfp b hb with rfl | ⟨ob, hob⟩
    · have := c1.get (p := (b, oI)) (by simp)
      rw [ho] at this; cases this
      exact hk _ (.head _)
    · have := c1.get (p := (b, ob)) (by simp [hob])
      rw [ho] at this; cases this
      exact hk _ (.tail _ hob)
  refine codeAny_compLoop_tests (fun k s' => ∃ i ys oC oI c m₂, i ≤ n ∧ k = n - i ∧ R i ys ∧ CS w base rest mean mg mb g0 L m ((cenv.locals, oC) :: (D, listOf (List.toArray ys) c) :: (I, oI) :: led) s₀ s' ∧ s'.heap.Ns cenv.locals m₂ ∧ St i s'.heap) ?_ n
    ⟨0, [], oC, oI, c₀, mC, Nat.zero_le _, rfl, h0, hs, hns, hst⟩
  rintro k s' ⟨i, ys, oC, oI, c, m₂, hi, rfl, hR, hcs, hn, hst'⟩
  have perm : ∀ (oC oI : Obj) (oD : Obj), ∀ p ∈ (I, oI) :: (cenv.locals, oC) :: (D, oD) :: led, p ∈ (cenv.locals, oC) :: (D, oD) :: (I, oI) :: led := by
    intro oC oI oD p hp
    simp only [List.mem_cons] at hp ⊢
    rcases hp with h | h | h | h <;> simp [h]
  have permI : ∀ (oC oI : Obj) (oD : Obj), ∀ p ∈ (cenv.locals, oC) :: (D, oD) :: (I, oI) :: led, p ∈ (I, oI) :: (cenv.locals, oC) :: (D, oD) :: led := by
    intro oC oI oD p hp
    simp only [List.mem_cons] at hp ⊢
    rcases hp with h | h | h | h <;> simp [h]
  have permD : ∀ (oC oI : Obj) (oD : Obj), ∀ p ∈ (D, oD) :: (cenv.locals, oC) :: (I, oI) :: led, p ∈ (cenv.locals, oC) :: (D, oD) :: (I, oI) :: led := by
    intro oC oI oD p hp
    simp only [List.mem_cons] at hp ⊢
    rcases hp with h | h | h | h <;> simp [h]
  have permD' : ∀ (oC oI : Obj) (oD : Obj), ∀ p ∈ (cenv.locals, oC) :: (D, oD) :: (I, oI) :: led, p ∈ (D, oD) :: (cenv.locals, oC) :: (I, oI) :: led := by
    intro oC oI oD p hp
    simp only [List.mem_cons] at hp ⊢
    rcases hp with h | h | h | h <;> simp [h]
  have nI : ∀ (oC oD : Obj), ∀ p ∈ (cenv.locals, oC) :: (D, oD) :: led, p.1 ≠ I := by
    intro oC oD p hp
    simp only [List.mem_cons] at hp
    rcases hp with h | h | h
    · rw [h]; exact hCI
    · rw [h]; exact hDI
    · exact hlI p h
  have nC : ∀ (oI oD : Obj), ∀ p ∈ (D, oD) :: (I, oI) :: led, p.1 ≠ cenv.locals := by
    intro oI oD p hp
    simp only [List.mem_cons] at hp
    rcases hp with h | h | h
    · rw [h]; exact Ne.symm hCD
    · rw [h]; exact Ne.symm hCI
    · exact hlC p h
  have nD : ∀ (oC oI : Obj), ∀ p ∈ (cenv.locals, oC) :: (I, oI) :: led, p.1 ≠ D := by
    intro oC oI p hp
    simp only [List.mem_cons] at hp
    rcases hp with h | h | h
    · rw [h]; exact hCD
    · rw [h]; exact Ne.symm hDI
    · exact hlD p h
  rcases Nat.lt_or_ge i n with hlt | hge
  · refine W.item i s' _ _ hlt hst' fun v h₁ tk₁ hP hst₁ hk₁ => ?_
    obtain ⟨oI₁, hI₁⟩ := hI _ _ hst₁
    have kI : ∀ b o, b ≠ I → s'.heap.get? b = some o → h₁.get? b = some o := fun b o hb e => hk₁ b o (by simpa using hb) e
    have c₁ : CS w base rest mean mg mb g0 L m ((cenv.locals, oC) :: (D, listOf (List.toArray ys) c) :: (I, oI₁) :: led) s₀ { s' with heap := h₁, toks := tk₁ } :=
      (CS.put (hcs.sub (perm _ _ _)) kI hI₁ (nI _ _)).sub (permI _ _ _)
    have hn₁ : h₁.Ns cenv.locals m₂ := hn.at' fun o e => kI _ o hCI e
    refine wpAny_assign_Name (wpAny_storeName_local hx hn₁ (fun h₂ hn₂ hs₂ => ?_) hp)
    obtain ⟨oC₂, es₂, ep₂, hC₂, rC₂⟩ := id hn₂
    have kC : ∀ b o, b ≠ cenv.locals → h₁.get? b = some o → h₂.get? b = some o := fun b o hb e => (hs₂.2 b hb).trans e
    have c₂ : CS w base rest mean mg mb g0 L m ((cenv.locals, oC₂) :: (D, listOf (List.toArray ys) c) :: (I, oI₁) :: led) s₀ { s' with heap := h₂, toks := tk₁ + 1 } :=
      CS.put (s' := { s' with heap := h₁, toks := tk₁ }) c₁ kC hC₂ (nC _ _)
    have hst₂ : St (i + 1) h₂ := stUp (i + 1) h₁ h₂ _ _ _ _ { s' with heap := h₁, toks := tk₁ } { s' with heap := h₂, toks := tk₁ + 1 } rfl rfl hst₁ c₁ fun p hp => c₂.get (p := p) (.tail _ (.tail _ hp))
    refine wpAny_mono (body i v ys oC₂ oI₁ c _ _ hlt hP hR c₂ hn₂ (by simp)) (fun ok s₃ h₃ => ?_) fun _ _ e => e.elim
    obtain ⟨c₃, h₃⟩ := h₃
    have hst₃ : St (i + 1) s₃.heap := stUp (i + 1) h₂ s₃.heap _ _ _ _ { s' with heap := h₂, toks := tk₁ + 1 } s₃ rfl rfl hst₂ c₂ fun p hp => c₃.get (p := p) (.tail _ (.tail _ hp))
    have hn₃ : s₃.heap.Ns cenv.locals (fun y => if y = x then some v else m₂ y) := ⟨oC₂, es₂, ep₂, c₃.get (p := (cenv.locals, oC₂)) (.head _), rC₂⟩
    cases ok with
    | false =>
      simp only [Bool.false_eq_true, if_false] at h₃ ⊢
      exact ⟨n - (i + 1), by omega, i + 1, ys, oC₂, oI₁, c, _, hlt, rfl, h₃, c₃, hn₃, hst₃⟩
    | true =>
      simp only [if_true] at h₃ ⊢
      refine wpAny_mono h₃ (fun y s₄ h₄ => ?_) fun _ _ e => e.elim
      obtain ⟨c₄, hR₄⟩ := h₄
      have hst₄ : St (i + 1) s₄.heap := stUp (i + 1) s₃.heap s₄.heap _ _ _ _ s₃ s₄ rfl rfl hst₃ c₃ fun p hp => c₄.get (p := p) (.tail _ (.tail _ hp))
      have hD₄ := c₄.get (p := (D, listOf (List.toArray ys) c)) (.tail _ (.head _))
      have hys : ys.length ≤ 2000000 := Nat.le_trans (hlen _ _ hR) (by omega)
      refine append_at (its := ys.toArray) (n := c) (hsz := by rw [List.size_toArray]; exact size_line hys) hD₄ fun h₅ hs₅ hD₅ => ?_
      have hD₅' : h₅.get? D = some (listOf (List.toArray (ys ++ [y])) (c + 1)) := by rw [hD₅]; simp
      have kD : ∀ b o, b ≠ D → s₄.heap.get? b = some o → h₅.get? b = some o := fun b o hb e => (hs₅.2 b hb).trans e
      have c₅ : CS w base rest mean mg mb g0 L m ((cenv.locals, oC₂) :: (D, listOf (List.toArray (ys ++ [y])) (c + 1)) :: (I, oI₁) :: led) s₀ { s₄ with heap := h₅, toks := s₄.toks } :=
        (CS.put (c₄.sub (permD _ _ _)) kD hD₅' (nD _ _)).sub (permD' _ _ _)
      have hst₅ : St (i + 1) h₅ := stUp (i + 1) s₄.heap h₅ _ _ _ _ s₄ { s₄ with heap := h₅, toks := s₄.toks } rfl rfl hst₄ c₄ fun p hp => c₅.get (p := p) (.tail _ (.tail _ hp))
      exact ⟨n - (i + 1), by omega, i + 1, ys ++ [y], oC₂, oI₁, c + 1, _, hlt, rfl, hR₄, c₅, ⟨oC₂, es₂, ep₂, c₅.get (p := (cenv.locals, oC₂)) (.head _), rC₂⟩, hst₅⟩
  · have hin : i = n := by omega
    subst hin
    refine W.done s' _ _ hst' fun h₁ tk₁ hk₁ => ?_
    have kI : ∀ b o, b ≠ I → s'.heap.get? b = some o → h₁.get? b = some o := fun b o hb e => hk₁ b o (by simpa using hb) e
    exact fin _ ys oC c m₂ hR (CS.drop (hcs.sub (perm _ _ _)) kI (nI _ _)) (hn.at' fun o e => kI _ o hCI e)
end

section
variable {w : World} {base : Heap} {rest : List Env} {mean : ExcName → Option Value} {mg mb : Str → Option Value} {g0 : Heap} {L : Addr} {m : Str → Option Value} {led : List (Addr × Obj)} {s₀ s : Shared}
  {A : Around} {E : Value → Shared → Prop} {env : Env} {elt iter : PySem.Expr} {x y : Str} {px py pos spos : Pos} {ifs : List PySem.Expr} {scope : Scope} {cl : List (Str × Addr)}

/-- what a comprehension asks of its source and its turn; what it hands on -/
def CPack (w : World) (base : Heap) (rest : List Env) (mean : ExcName → Option Value) (mg mb : Str → Option Value) (g0 : Heap) (L : Addr) (m : Str → Option Value) (led : List (Addr × Obj)) (s₀ : Shared)
    (A : Around) (env : Env) (scope : Scope) (cl : List (Str × Addr)) (x : Str) (ifs : List PySem.Expr) (elt : PySem.Expr) (fin : Addr → Nat → List Value → Shared → Prop) (it : Value) (s₂ : Shared) : Prop :=
  ∃ (I : Addr) (oI : Obj) (fp : List Addr) (n : Nat) (P : Nat → Value → Prop) (St : Nat → Heap → Prop) (R : Nat → List Value → Prop),
    it = .ref I ∧ Walks prog w A I fp [I] n P St ∧ (∀ i h, St i h → ∃ o, h.get? I = some o) ∧ (∀ p ∈ led, p.1 ≠ I) ∧ (∀ b ∈ fp, b = I ∨ ∃ o, (b, o) ∈ led) ∧ (∀ i ys, R i ys → ys.length ≤ i) ∧ n ≤ 2000000 ∧ R 0 [] ∧
    CS w base rest mean mg mb g0 L m ((I, oI) :: led) s₀ s₂ ∧ St 0 s₂.heap ∧
    (∀ C D i v ys oC oI c s' m₂, i < n → P i v → R i ys → CS w base rest mean mg mb g0 L m ((C, oC) :: (D, listOf (List.toArray ys) c) :: (I, oI) :: led) s₀ s' → s'.heap.Ns C m₂ → m₂ x = some v →
      wpAny (model prog w) A (forIn ifs true fun c r => if r = true then do let ok ← isTrue c (compEnvC scope cl C env) (eval c (compEnvC scope cl C env)); pure (ForInStep.yield ok) else pure (ForInStep.yield r))
        (fun ok s₃ => CS w base rest mean mg mb g0 L m ((C, oC) :: (D, listOf (List.toArray ys) c) :: (I, oI) :: led) s₀ s₃ ∧
          if ok = true then wpAny (model prog w) A (eval elt (compEnvC scope cl C env)) (fun y s₄ => CS w base rest mean mg mb g0 L m ((C, oC) :: (D, listOf (List.toArray ys) c) :: (I, oI) :: led) s₀ s₄ ∧ R (i + 1) (ys ++ [y])) (fun _ _ => False) s₃
          else R (i + 1) ys) (fun _ _ => False) s') ∧
    ∀ D c s' ys, R n ys → CS w base rest mean mg mb g0 L m ((D, listOf (List.toArray ys) c) :: led) s₀ s' → fin D c ys s'

theorem compBlock_own {s₂ : Shared} {it : Value} {fin : Addr → Nat → List Value → Shared → Prop} {RR : Value → Addr → Result → Shared → Prop}
    (hcell : ∀ z ∈ scope.names, z.2 ≠ .cell) (hkind : scope.kind = .function) (hx : scope.names.lookup x = some .local)
    (pk : CPack w base rest mean mg mb g0 L m led s₀ A env scope cl x ifs elt fin it s₂)
    (hRR : ∀ D C oC c s' ys m₂, (∀ h'' t, (∀ b o, b ≠ C → s'.heap.get? b = some o → h''.get? b = some o) → fin D c ys { s' with heap := h'', toks := t }) → CS w base rest mean mg mb g0 L m ((C, oC) :: (D, listOf (List.toArray ys) c) :: led) s₀ s' → (∀ p ∈ (D, listOf (List.toArray ys) c) :: led, p.1 ≠ C) → s'.heap.Ns C m₂ → RR (.ref D) C (.ok .next) s') :
    wpAny (model prog w) A (newList []) (fun acc s₃ => wpAny (model prog w) A (newFunctionEnv scope env.globals cl [] env.qual none .none (some env)) (fun cenv s₄ =>
      codeAny (model prog w) A (.compStart (.ListComp elt [⟨.Name x px, iter, ifs, 0⟩] scope pos) 0 it acc { cenv with scope := relabel scope env }) (RR acc cenv.locals) s₄) E s₃) E s₂ := by
  obtain ⟨I, oI, fp, n, P, St, R, rfl, W, hI, hlI, hfp, hlen, hz, h0, hcs, hst, body, hfin⟩ := pk
  refine wpAny_newObj_type (wpAny_newFunctionEnv hcell (by intro y hy; simp at hy) (fun h₁ hns₁ hsb₁ => ?_) hkind)
  dsimp only at hns₁ hsb₁ ⊢
  generalize hH2 : s₂.heap.push { cls := .type "list", dict := none, data := .seq ([] : List Value).toArray } = H2 at hns₁ hsb₁ ⊢
  have hC : H2.objs.size = s₂.heap.objs.size + 1 := by rw [← hH2, Heap.size_push]
  have hDC : s₂.heap.objs.size ≠ H2.objs.size := by rw [hC]; exact Nat.ne_of_lt (Nat.lt_succ_self _)
  have old : ∀ b o, s₂.heap.get? b = some o → h₁.get? b = some o := fun b o e =>
    hsb₁.extBut b o (by rw [hC]; exact Nat.ne_of_lt (Nat.lt_succ_of_lt (Heap.lt_size e))) (Heap.get?_push_of_some _ (hH2 ▸ Heap.get?_push_of_some _ e))
  have hDo : h₁.get? s₂.heap.objs.size = some (listOf #[] 0) := hsb₁.extBut _ _ hDC (Heap.get?_push_of_some _ (hH2 ▸ Heap.get?_push_size _ rfl))
  obtain ⟨oC, esC, epC, hCo, rC⟩ := id hns₁
  have hDn : s₂.heap.get? s₂.heap.objs.size = none := Heap.get?_none_of_le (Nat.le_refl _)
  have hCn : s₂.heap.get? H2.objs.size = none := Heap.get?_none_of_le (by rw [hC]; exact Nat.le_succ _)
  have c₁ : CS w base rest mean mg mb g0 L m ((s₂.heap.objs.size, listOf #[] 0) :: (I, oI) :: led) s₀ { s₂ with heap := h₁, toks := s₂.toks + ([] : List (Str × Value)).length } := hcs.add old hDn hDo
  have c₂ : CS w base rest mean mg mb g0 L m ((H2.objs.size, oC) :: (s₂.heap.objs.size, listOf #[] 0) :: (I, oI) :: led) s₀ { s₂ with heap := h₁, toks := s₂.toks + ([] : List (Str × Value)).length } := by
    have c₃ : CS w base rest mean mg mb g0 L m ((H2.objs.size, oC) :: (I, oI) :: led) s₀ { s₂ with heap := h₁, toks := s₂.toks + ([] : List (Str × Value)).length } := hcs.add old hCn hCo
    obtain ⟨g', h, tk, e, G, RB, F, N⟩ := c₁
    obtain ⟨g'', h'', tk'', e'', G'', RB'', F'', N''⟩ := c₃
    refine ⟨g', h, tk, e, G, RB, F, fun p hp => ?_⟩
    rcases List.mem_cons.mp hp with rfl | hp
    · have z : h.get? H2.objs.size = some oC := by
        have : h = h₁ := (congrArg Shared.heap e).symm
        rw [this]; exact hCo
      refine ⟨z, fun e1 => ?_, ?_⟩
      · obtain ⟨g4, h4, tk4, e4, _, _, F4, _⟩ := hcs
        obtain ⟨oL, _, _, hL, _⟩ := F4.ns
        have e5 : s₂.heap = h4 := congrArg Shared.heap e4
        have e6 : H2.objs.size = L := e1
        rw [e5, e6] at hCn
        rw [hL] at hCn; cases hCn
      · cases q : g'.get? H2.objs.size with
        | none => rfl
        | some o =>
          exfalso
          have hgs := Heap.lt_size q
          have := F.above
          have hL1 := N (s₂.heap.objs.size, listOf #[] 0) (.head _)
          obtain ⟨g4, h4, tk4, e4, _, _, F4, _⟩ := hcs
          have e5 : s₂.heap = h4 := congrArg Shared.heap e4
          have hLlt := F4.ns.lt
          rw [← e5] at hLlt
          rw [hC] at hgs
          have z1 : s₂.heap.objs.size + 1 < L := Nat.lt_of_lt_of_le hgs this
          exact Nat.lt_irrefl _ (Nat.lt_trans (Nat.lt_of_succ_lt z1) hLlt)
    · exact N p hp
  have lt : ∀ p ∈ (I, oI) :: led, p.1 < s₂.heap.objs.size := fun p hp => Heap.lt_size (hcs.get hp)
  have loop : ∀ s₃ : Shared, s₃ = { s₂ with heap := h₁, toks := s₂.toks + ([] : List (Str × Value)).length } →
      codeAny (model prog w) A (.compLoop (.ListComp elt [⟨.Name x px, iter, ifs, 0⟩] scope pos) 0 (.ref I) (.ref s₂.heap.objs.size) (compEnvC scope cl H2.objs.size env))
        (RR (.ref s₂.heap.objs.size) H2.objs.size) s₃ := by
    rintro s₃ rfl
    refine compLoop_own (cenv := compEnvC scope cl H2.objs.size env) (C := H2.objs.size) (D := s₂.heap.objs.size) W hI (lookup_relabel_local hx) (by simp [compEnvC, relabel, hkind]) rfl (Ne.symm hDC)
      (by have := lt (I, oI) (.head _); rw [hC]; exact Nat.ne_of_gt (Nat.lt_succ_of_lt this)) (by have := lt (I, oI) (.head _); exact Nat.ne_of_gt this)
      (fun p hp => by have := lt p (.tail _ hp); rw [hC]; exact Nat.ne_of_lt (Nat.lt_succ_of_lt this)) (fun p hp => Nat.ne_of_lt (lt p (.tail _ hp))) hlI hfp R hlen hz h0 c₂ hns₁
      (W.frame 0 _ _ hst fun b _ o e => old b o e) (fun i v ys oC oI c s' m₂ h1 h2 h3 h4 h5 h6 => body _ _ i v ys oC oI c s' m₂ h1 h2 h3 h4 h5 h6) fun s' ys oC c m₂ hR hc hn => ?_
    have nC : ∀ p ∈ (s₂.heap.objs.size, listOf (List.toArray ys) c) :: led, p.1 ≠ H2.objs.size := by
      intro p hp
      rcases List.mem_cons.mp hp with rfl | hp
      · exact hDC
      · have := lt p (.tail _ hp); rw [hC]; exact Nat.ne_of_lt (Nat.lt_succ_of_lt this)
    exact hRR _ _ oC c s' ys m₂ (fun h'' t k => hfin _ _ _ _ hR (CS.drop hc k nC)) hc nC hn
  exact codeAny_compStart_list (loop _ rfl) (W.self 0 _ _ _ (W.frame 0 _ _ hst fun b _ o e => old b o e) (loop _ rfl))

/-- a comprehension as an expression -/
theorem listComp_own {Q : Value → Shared → Prop} (hclos : closureFor scope env = pure cl) (hcell : ∀ z ∈ scope.names, z.2 ≠ .cell) (hkind : scope.kind = .function)
    (hnames : ∀ z ∈ scope.names, z.2 = .local → scope.names.lookup z.1 = some .local) (hx : scope.names.lookup x = some .local)
    (h : wpAny (model prog w) A (eval iter env) (fun xv s₁ => wpAny (model prog w) A (pyIter xv) (CPack w base rest mean mg mb g0 L m led s₀ A env scope cl x ifs elt (fun D _ _ s' => Q (.ref D) s')) E s₁) E s)
    (hs : ∀ x, foldedSetIterable iter env x = pure x := by intro _; rfl) :
    wpAny (model prog w) A (eval (.ListComp elt [⟨.Name x px, iter, ifs, 0⟩] scope pos) env) Q E s := by
  rw [eval_ListComp]
  refine wpAny_comprehension_free (use := none) rfl hs hclos hkind hnames (wpAny_mono h (fun xv s₁ h₁ => wpAny_mono h₁ (fun it s₂ h₂ => ?_) fun _ _ e => e) fun _ _ e => e)
  refine compBlock_own (RR := fun acc C => compPost (model prog w) A E none Q acc C) hcell hkind hx h₂ ?_
  intro D C oC c s' ys m₂ hf hc nC hn
  exact ⟨m₂, hn, fun h'' hs'' => hf h'' s'.toks fun b o hb e => (hs''.2 b hb).trans e⟩

/-- a comprehension bound to a name of the frame -/
theorem assignComp_own {Q : Flow → Shared → Prop} (Pf : List Value → Prop) (hL : env.locals = L)
    (hsw : swapsWith (.ListComp elt [⟨.Name x px, iter, ifs, 0⟩] scope pos) (some (.Name y py)) spos.line env = pure true)
    (hclos : closureFor scope env = pure cl) (hcell : ∀ z ∈ scope.names, z.2 ≠ .cell) (hkind : scope.kind = .function)
    (hnames : ∀ z ∈ scope.names, z.2 = .local → scope.names.lookup z.1 = some .local) (hx : scope.names.lookup x = some .local)
    (hy : env.kindOf y = some .local) (hp : (env.scope.kind == .class || (env.scope.kind == .module && env.locals != env.globals)) = false)
    (h : wpAny (model prog w) A (eval iter env) (fun xv s₁ => wpAny (model prog w) A (pyIter xv) (CPack w base rest mean mg mb g0 L m led s₀ A env scope cl x ifs elt (fun _ _ ys _ => Pf ys)) E s₁) E s)
    (fin : ∀ D c ys s', Pf ys → CS w base rest mean mg mb g0 L (fun z => if z = y then some (.ref D) else m z) ((D, listOf (List.toArray ys) c) :: led) s₀ s' → Q .next s')
    (hs : ∀ x, foldedSetIterable iter env x = pure x := by intro _; rfl) :
    wpAny (model prog w) A (exec (.Assign [.Name y py] (.ListComp elt [⟨.Name x px, iter, ifs, 0⟩] scope pos) spos) env) Q E s := by
  subst hL
  rw [exec_Assign_Name_used _ _ _ _ hsw]
  refine wpAny_bind (wpAny_standAt (wpAny_bind ?_))
  show wpAny _ A (do let _ ← comprehension (.ListComp elt [⟨.Name x px, iter, ifs, 0⟩] scope pos) scope env _ (newList []) false (eval iter env) (some (assign (.Name y py) env))) _ _ s
  refine wpAny_bind (wpAny_mono (wpAny_comprehension_free (use := some (assign (.Name y py) env)) (Q := fun _ s' => Q .next s') rfl hs hclos hkind hnames
    (wpAny_mono h (fun xv s₁ h₁ => wpAny_mono h₁ (fun it s₂ h₂ => ?_) fun _ _ e => e) fun _ _ e => e)) (fun _ s' hq => wpAny_pure (wpAny_pure hq)) fun _ _ e => e)
  refine compBlock_own (RR := fun acc C => compPost (model prog w) A E (some (assign (.Name y py) env)) (fun _ s' => Q .next s') acc C) hcell hkind hx h₂ ?_
  intro D C oC c s' ys m₂ hf hc nC hn
  have hPf : Pf ys := hf s'.heap s'.toks fun _ _ _ e => e
  show wpAny _ A (assign (.Name y py) env (.ref D)) _ _ _
  obtain ⟨g', h', tk', rfl, G, RB, F, N⟩ := hc
  refine wpAny_assign_Name (wpAny_storeName_local hy F.ns (fun h₂ hn₂ hs₂ => ?_) hp)
  have F₂ := F.set hn₂ hs₂
  have N₂ := N.set hs₂
  have hCL : C ≠ env.locals := (N (C, oC) (.head _)).2.1
  refine ⟨m₂, hn.sameBut hs₂ hCL, fun h₃ hs₃ => fin D c ys _ hPf ?_⟩
  exact CS.drop (s' := { s₀ with heap := h₂, toks := tk' + 1 }) ⟨g', h₂, tk' + 1, rfl, G, RB, F₂, N₂⟩ (fun b o hb e => (hs₃.2 b hb).trans e) nC
end
end Mine

end

section
open PySem PySem.W PySem.Calls PyProof.Rows
set_option maxRecDepth 100000
namespace Mine
section
variable {w : World} {d u : Nat} {f : Addr} {args : List Value} {pre : Heap → List (Addr × Obj) → Prop} {post : List (Addr × Obj) → Value → Prop}
  {name qual : Str} {params : Arguments} {body : List Stmt} {scope : Scope} {dV kV doc pm cdv ct oc : Value} {an od : Option Addr} {osl : Array (Option Value)} {binds : List (Str × Value)}

/-- as Spec.enter, for a def with cells -/
theorem Spec.enterC (hid : List (Addr × Obj)) (hh : ∀ base news, pre base news → ∀ p ∈ hid, p ∈ news)
    (ho : (Mine.hd.heap_39 w.params).lookup f = some ⟨oc, od, .func (fnOf name qual params body scope dV kV doc pm an cdv ct), osl⟩) (hcd : codeIn (Mine.hd.heap_39 w.params) cdv qual = true)
    (hbind : ∀ s, BindsTo s (fnOf name qual params body scope dV kV doc pm an cdv ct) ⟨args, []⟩ binds) (hkind : (binds.all fun y => scope.names.lookup y.1 == some .local || scope.names.lookup y.1 == some .cell) = true)
    (hnd : ((cellsFrom 0 scope.names []).map (·.1)).Nodup)
    (h : ∀ (dp un : Nat) (gd : Option (List Code)) (env : Env) (outer : List Env) (base g h₁ : Heap) (L' tk : Nat) (mg mb : Str → Option Value) (mean : ExcName → Option Value) (news cells : List (Addr × Obj)) (s : Shared),
      dp + d < recursionLimit → un + u < cLine → pre base news →
      Fr g L' h₁ (bindL (envOfC qual scope L' f cdv).kindOf binds fun _ => none) → News g L' h₁ (cells ++ hid) → CellsAre (bindC (envOfC qual scope L' f cdv).kindOf binds fun _ => none) (cellsFrom (L' + 1) scope.names []) cells →
      (∀ p ∈ hid, p.1 < L') → Gnd w base (env :: outer) g mean mg mb → Rebase (frs (env :: outer)) g g → (Mine.hd.heap_39 w.params).In g →
      Top Mine.hd.view_39 (looseW Mine.hd.view_39 [Str.ofString "filterfalse"]) mean mg mb g →
      wpAny (model prog w) ⟨none, dp + 1, some (envOfC qual scope L' f cdv :: env :: outer), gd, un + 3⟩ (execs body (envOfC qual scope L' f cdv))
        (Done (env :: outer) g L' hid post s) (fun _ _ => False) { s with heap := h₁, toks := tk })
    (hco : scope.isCoroutine = false) (hgen : scope.isGenerator = false) (hk : scope.kind = .function) : Spec w d u f args pre post := by
  intro dp un gd env outer base h₀ L m mg mb mean news s Q E G hf hke F N hdp hun hpre hQ
  have Gs := G.push (env := env) F hf hke
  have hhn := hh base news hpre
  have hb0 : ∀ a ∈ hid.map (·.1), base.get? a = none := fun a ha => by
    obtain ⟨p, hp, rfl⟩ := List.mem_map.mp ha
    exact (news_off G hf N (hhn p hp)).1
  have hb1 : ∀ a ∈ hid.map (·.1), a ∉ frs (env :: outer) := fun a ha => by
    obtain ⟨p, hp, rfl⟩ := List.mem_map.mp ha
    exact (news_off G hf N (hhn p hp)).2
  refine wpAny_call ?_
  refine codeAny_call_function (A := ⟨none, dp, some (env :: outer), gd, un⟩) (fd := fnOf name qual params body scope dV kV doc pm an cdv ct)
    (show dp < recursionLimit from Nat.lt_of_le_of_lt (Nat.le_add_right _ _) hdp) (Gs.X _ _ ho) rfl hco hgen rfl (codeRec_of Gs.X hcd) (hbind s _ _ _ _ ?_)
  refine wpAny_newFunctionEnv_cells hk (kindsX hkind _) fun env' he s' x => ?_
  subst he
  refine ⟨Gs.T.nolimit.keeps x.toInCall.keep, codeAny_func ?_⟩
  obtain ⟨h₁, tk, rfl, _⟩ := x.done
  have hk₁ := x.toInCall.keep
  obtain ⟨cells, NC, Y⟩ := Cl.news (h₀ := s.heap) (Nat.le_refl _) fun n c hm => ⟨x.cell n c (lookup_of_mem_nodup (cellsFrom_names scope.names 0 (s.heap.objs.size + 1) [] [] rfl ▸ hnd) hm), x.above n c hm⟩
  have Gg := Gs.hide hb0 hb1
  refine wpAny_mono (h dp un gd env outer base (hideAll s.heap (hid.map (·.1))) h₁ s.heap.objs.size tk mg mb mean news cells s hdp hun hpre
    ⟨x.toInCall.ns, fun b o e => hk₁ b o (of_hideAll _ e), Nat.le_of_eq (hideAll_size _ _)⟩
    (fun p hp => ?_) Y
    (fun p hp => Heap.lt_size (N p (hhn p hp)).1) Gg (Rebase.refl _ _) Gg.X Gg.T) (fun fl s' hd => ?_) fun _ _ x => x.elim
  · rcases List.mem_append.mp hp with hp | hp
    · refine ⟨(NC p hp).1, (NC p hp).2.1, ?_⟩
      cases q : (hideAll s.heap (hid.map (·.1))).get? p.1 with
      | none => rfl
      | some o => have := of_hideAll _ q; rw [(NC p hp).2.2] at this; cases this
    · exact ⟨hk₁ _ _ (N p (hhn p hp)).1, Nat.ne_of_lt (Heap.lt_size (N p (hhn p hp)).1), hideAll_none _ (List.mem_map_of_mem hp)⟩
  · cases hd with
    | intro res R F' N' P =>
      obtain ⟨r1, r2, r3⟩ := back G hf F N hhn rfl R F' N'
      exact hQ _ _ _ _ res r1 r2 r3 P
end
end Mine

end

section
open PySem PySem.W PySem.Calls PyProof.Rows
set_option maxRecDepth 100000
namespace Mine

def intValues (q : List (Int × Tok)) : List Value := q.map fun p => .int p.1 p.2
/-- these values are these ints -/
def IntsL (ys : List Value) (ns : List Int) : Prop := ∃ q : List (Int × Tok), q.map (·.1) = ns ∧ ys = intValues q
theorem IntsL.nil : IntsL [] [] := ⟨[], rfl, rfl⟩
theorem IntsL.snoc {ys : List Value} {ns : List Int} (h : IntsL ys ns) (x : Int) (t : Tok) : IntsL (ys ++ [.int x t]) (ns ++ [x]) := by
  obtain ⟨q, rfl, rfl⟩ := h
  exact ⟨q ++ [(x, t)], by simp, by simp [intValues]⟩
theorem IntsL.length {ys : List Value} {ns : List Int} (h : IntsL ys ns) : ys.length = ns.length := by
  obtain ⟨q, rfl, rfl⟩ := h
  simp [intValues]
/-- these values are these texts -/
def StrsL (ys : List Value) (ns : List Str) : Prop := ∃ q : List (Str × Tok), q.map (·.1) = ns ∧ ys = strValues q
theorem StrsL.nil : StrsL [] [] := ⟨[], rfl, rfl⟩
theorem StrsL.snoc {ys : List Value} {ns : List Str} (h : StrsL ys ns) (x : Str) (t : Tok) : StrsL (ys ++ [.str x t]) (ns ++ [x]) := by
  obtain ⟨q, rfl, rfl⟩ := h
  exact ⟨q ++ [(x, t)], by simp, by simp [strValues]⟩
theorem StrsL.length {ys : List Value} {ns : List Str} (h : StrsL ys ns) : ys.length = ns.length := by
  obtain ⟨q, rfl, rfl⟩ := h
  simp [strValues]

section
variable {w : World} {base : Heap} {rest : List Env} {mean : ExcName → Option Value} {mg mb : Str → Option Value} {g0 : Heap} {L : Addr} {m : Str → Option Value} {led : List (Addr × Obj)} {s₀ s : Shared}
  {A : Around} {E : Value → Shared → Prop} {env : Env} {elt iter test : PySem.Expr} {x : Str} {px pos : Pos} {scope : Scope} {cl : List (Str × Addr)} {fin : Addr → Nat → List Value → Shared → Prop}

/-- the test's answer, and where the walk then stands -/
def TestIs (w : World) (base : Heap) (rest : List Env) (mean : ExcName → Option Value) (mg mb : Str → Option Value) (g0 : Heap) (L : Addr) (m : Str → Option Value) (led : List (Addr × Obj)) (s₀ : Shared) (b ok : Bool) (s' : Shared) : Prop :=
  ok = b ∧ CS w base rest mean mg mb g0 L m led s₀ s'
theorem TestIs.intro {b ok : Bool} {g' h : Heap} {tk : Nat} {all : List (Addr × Obj)} (e : ok = b) (G : Gnd w base rest g' mean mg mb) (R : Rebase (frs rest) g0 g') (F : Fr g' L h m) (N : News g' L h all) (hs : ∀ p ∈ led, p ∈ all) :
    TestIs w base rest mean mg mb g0 L m led s₀ b ok { s₀ with heap := h, toks := tk } := ⟨e, g', h, tk, rfl, G, R, F, newsSub N hs⟩
/-- the element, and where the walk then stands -/
def EltIs (w : World) (base : Heap) (rest : List Env) (mean : ExcName → Option Value) (mg mb : Str → Option Value) (g0 : Heap) (L : Addr) (m : Str → Option Value) (led : List (Addr × Obj)) (s₀ : Shared) (P : Value → Prop) (v : Value) (s' : Shared) : Prop :=
  P v ∧ CS w base rest mean mg mb g0 L m led s₀ s'
theorem EltIs.intro {P : Value → Prop} {v : Value} {g' h : Heap} {tk : Nat} {all : List (Addr × Obj)} (e : P v) (G : Gnd w base rest g' mean mg mb) (R : Rebase (frs rest) g0 g') (F : Fr g' L h m) (N : News g' L h all) (hs : ∀ p ∈ led, p ∈ all) :
    EltIs w base rest mean mg mb g0 L m led s₀ P v { s₀ with heap := h, toks := tk } := ⟨e, g', h, tk, rfl, G, R, F, newsSub N hs⟩

/-- the places kept -/
def keptI (a : Int) (keep : Nat → Bool) (i : Nat) : List Int := ((List.range i).filter keep).map fun (k : Nat) => a + (k : Int)
theorem keptI_succ (a : Int) (keep : Nat → Bool) (i : Nat) : keptI a keep (i + 1) = if keep i then keptI a keep i ++ [a + (i : Int)] else keptI a keep i := by
  unfold keptI
  rw [List.range_succ, List.filter_append]
  by_cases h : keep i <;> simp [h]
theorem keptI_length (a : Int) (keep : Nat → Bool) (i : Nat) : (keptI a keep i).length ≤ i := by
  unfold keptI
  rw [List.length_map]
  exact Nat.le_trans (List.length_filter_le _ _) (by simp)

theorem CS.grow {I : Addr} {oI : Obj} {news : List (Addr × Obj)} (c : CS w base rest mean mg mb g0 L m news s₀ s) (o : Obj) (hf : o.isFreed = false := by rfl) :
    CS w base rest mean mg mb g0 L m ((s.heap.objs.size, o) :: news) s₀ { s with heap := s.heap.push o } :=
  c.add (fun b o' e => Heap.get?_push_of_some _ e) (Heap.get?_none_of_le (Nat.le_refl _)) (Heap.get?_push_size _ hf)

/-- as CPack, over a ledger that may name more (the source) -/
def CPackS (w : World) (base : Heap) (rest : List Env) (mean : ExcName → Option Value) (mg mb : Str → Option Value) (g0 : Heap) (L : Addr) (m : Str → Option Value) (led : List (Addr × Obj)) (s₀ : Shared)
    (A : Around) (env : Env) (scope : Scope) (cl : List (Str × Addr)) (x : Str) (ifs : List PySem.Expr) (elt : PySem.Expr) (fin : Addr → Nat → List Value → Shared → Prop) (it : Value) (s₂ : Shared) : Prop :=
  ∃ led', (∀ p ∈ led, p ∈ led') ∧ CPack w base rest mean mg mb g0 L m led' s₀ A env scope cl x ifs elt fin it s₂
/-- [x for x in range(a, b) if test] -/
theorem cpack_range {r : Addr} {a b : Int} {t u v : Tok} (n : Nat) (keep : Nat → Bool) (hh : A.handled = none) (hr : IsRange s.heap r a b 1 t u v) (hsm : Builtin.Range.small a b 1 = true) (hn : Builtin.Range.rangeSize a b 1 = ((n : Nat) : Int)) (hz : n ≤ 2000000)
    (cs : CS w base rest mean mg mb g0 L m led s₀ s) (hk : (compEnvC scope cl 0 env).scope.kind = .function) (hl : (compEnvC scope cl 0 env).kindOf x = some .local) (hd : (x == ("__debug__" : Str)) = false)
    (turn : ∀ C D I i t ys oC oI c g' h tk m₂, i < n → Gnd w base rest g' mean mg mb → Rebase (frs rest) g0 g' → (Mine.hd.heap_39 w.params).In g' → Top Mine.hd.view_39 (looseW Mine.hd.view_39 [Str.ofString "filterfalse"]) mean mg mb g' →
      Fr g' L h m → News g' L h ((C, oC) :: (D, listOf (List.toArray ys) c) :: (I, oI) :: led) → LCg.NsObj oC m₂ → m₂ x = some (.int (a + (i : Int)) t) →
      wpAny (model prog w) A (isTrue test (compEnvC scope cl C env) (eval test (compEnvC scope cl C env))) (TestIs w base rest mean mg mb g0 L m ((C, oC) :: (D, listOf (List.toArray ys) c) :: (I, oI) :: led) s₀ (keep i)) (fun _ _ => False) { s₀ with heap := h, toks := tk })
    (hfin : ∀ D c s' ys, IntsL ys (keptI a keep n) → CS w base rest mean mg mb g0 L m ((D, listOf (List.toArray ys) c) :: led) s₀ s' → fin D c ys s') :
    wpAny (model prog w) A (pyIter (.ref r)) (CPackS w base rest mean mg mb g0 L m led s₀ A env scope cl x [test] (.Name x px) fin) E s := by
  refine wpAny_pyIter_range hr hsm ?_
  have hlt : ∀ p ∈ led, p.1 ≠ s.heap.objs.size := fun p hp => Nat.ne_of_lt (Heap.lt_size (cs.get hp))
  refine ⟨led, fun _ h => h, s.heap.objs.size, _, [s.heap.objs.size], n, _, _, fun i ys => IntsL ys (keptI a keep i), rfl, LCg.range_walks hh a n, fun i h st => ⟨_, st⟩, hlt, fun b hb => .inl (List.mem_singleton.mp hb), fun i ys hR => by rw [hR.length]; exact keptI_length _ _ _, hz, IntsL.nil,
    cs.grow (I := 0) (oI := default) _, ?_, ?_, hfin⟩
  · show IsRangeIter _ _ _ _ _
    rw [hn]; simpa using Heap.get?_push_size _ rfl
  · rintro C D i v ys oC oI c s' m₂ hi ⟨t', rfl⟩ hR hcs hns hx
    have hC := hcs.get (p := (C, oC)) (.head _)
    obtain ⟨oC', hC', nsC⟩ := LCg.ns_obj hns
    obtain rfl : oC' = oC := by rw [hC] at hC'; cases hC'; rfl
    refine wpAny_tests_one ?_
    obtain ⟨g', h, tk, rfl, G, RB, F, N⟩ := id hcs
    refine wpAny_mono (turn C D _ i t' ys oC' oI c g' h tk m₂ hi G RB G.X G.T F N nsC hx) (fun ok s₃ h₃ => ?_) fun _ _ e => e
    obtain ⟨rfl, c₃⟩ := h₃
    refine ⟨c₃, ?_⟩
    cases hk' : keep i with
    | false => simp only [Bool.false_eq_true, if_false]; rw [keptI_succ, hk']; exact hR
    | true =>
      simp only [if_true]
      refine ldVarK (nsC.ns (c₃.get (p := (C, oC')) (.head _))) hx ?_ hk hl hd
      refine ⟨c₃, ?_⟩
      rw [keptI_succ, hk', if_pos rfl]
      exact hR.snoc _ _

/-- [elt for x in l] -/
theorem cpack_list {led₀ : List (Addr × Obj)} {l : Addr} {vs : List Value} {nl : Nat} (hsub : ∀ p ∈ led₀, p ∈ led) (R : Nat → List Value → Prop) (hh : A.handled = none) (hl : (l, listOf vs.toArray nl) ∈ led) (hz : vs.length ≤ 2000000) (h0 : R 0 []) (hlen : ∀ i ys, R i ys → ys.length ≤ i)
    (cs : CS w base rest mean mg mb g0 L m led s₀ s)
    (turn : ∀ C D I i v ys oC oI c g' h tk m₂, vs[i]? = some v → R i ys → Gnd w base rest g' mean mg mb → Rebase (frs rest) g0 g' → (Mine.hd.heap_39 w.params).In g' → Top Mine.hd.view_39 (looseW Mine.hd.view_39 [Str.ofString "filterfalse"]) mean mg mb g' →
      Fr g' L h m → News g' L h ((C, oC) :: (D, listOf (List.toArray ys) c) :: (I, oI) :: led) → LCg.NsObj oC m₂ → m₂ x = some v →
      wpAny (model prog w) A (eval elt (compEnvC scope cl C env)) (EltIs w base rest mean mg mb g0 L m ((C, oC) :: (D, listOf (List.toArray ys) c) :: (I, oI) :: led) s₀ (fun y => R (i + 1) (ys ++ [y]))) (fun _ _ => False) { s₀ with heap := h, toks := tk })
    (hfin : ∀ D c s' ys, R vs.length ys → CS w base rest mean mg mb g0 L m ((D, listOf (List.toArray ys) c) :: led) s₀ s' → fin D c ys s') :
    wpAny (model prog w) A (pyIter (.ref l)) (CPackS w base rest mean mg mb g0 L m led₀ s₀ A env scope cl x [] elt fin) E s := by
  have hlo := cs.get hl
  have hls : s.heap.IsList l vs.toArray := ⟨_, hlo, rfl, _, rfl⟩
  have hll : l < s.heap.objs.size := Heap.lt_size hlo
  refine wpAny_pyIter_list hls ?_
  have hlt : ∀ p ∈ led, p.1 ≠ s.heap.objs.size := fun p hp => Nat.ne_of_lt (Heap.lt_size (cs.get hp))
  refine ⟨led, hsub, s.heap.objs.size, _, _, vs.toArray.size, _, _, R, rfl, Walks.list (prog := prog) (w := w) hh s.heap.objs.size l (Nat.ne_of_lt hll) vs.toArray, fun i h st => ?_, hlt, fun b hb => ?_, hlen, by simpa using hz, h0,
    cs.grow (I := 0) (oI := default) _, ?_, ?_, by simpa using hfin⟩
  · obtain ⟨⟨o, ho, _⟩, _⟩ := st
    exact ⟨o, ho⟩
  · simp only [List.mem_cons, List.not_mem_nil, or_false] at hb
    rcases hb with hb | hb
    · exact .inl hb
    · exact .inr ⟨_, hb ▸ hl⟩
  · exact ⟨⟨_, Heap.get?_push_size _ rfl, rfl, rfl⟩, hls.at fun o e => Heap.get?_push_of_some _ e⟩
  · intro C D i v ys oC oI c s' m₂ hi hP hR hcs hns hx
    have hC := hcs.get (p := (C, oC)) (.head _)
    obtain ⟨oC', hC', nsC⟩ := LCg.ns_obj hns
    obtain rfl : oC' = oC := by rw [hC] at hC'; cases hC'; rfl
    refine wpAny_tests_nil ⟨hcs, ?_⟩
    simp only [if_true]
    obtain ⟨g', h, tk, rfl, G, RB, F, N⟩ := id hcs
    refine wpAny_mono (turn C D _ i v ys oC' oI c g' h tk m₂ (by simpa using hP) hR G RB G.X G.T F N nsC hx) (fun y s₃ h₃ => ⟨h₃.2, h₃.1⟩) fun _ _ e => e
end
section
variable {w : World} {base : Heap} {rest : List Env} {mean : ExcName → Option Value} {mg mb : Str → Option Value} {g0 g : Heap} {L : Addr} {m : Str → Option Value} {led : List (Addr × Obj)} {s : Shared}
  {A : Around} {E : Value → Shared → Prop} {env : Env} {elt iter : PySem.Expr} {x y : Str} {px py pos spos : Pos} {ifs : List PySem.Expr} {scope : Scope} {cl : List (Str × Addr)}
theorem Halt.mk {P : Prop} (h : P) : Halt P := h
theorem listComp_at {Q : Value → Shared → Prop} (F : Fr g L s.heap m) (_G : Gnd w base rest g mean mg mb) (_N : News g L s.heap led) (_R : Rebase (frs rest) g0 g) (hclos : closureFor scope env = pure cl) (hcell : ∀ z ∈ scope.names, z.2 ≠ .cell) (hkind : scope.kind = .function)
    (hnames : ∀ z ∈ scope.names, z.2 = .local → scope.names.lookup z.1 = some .local) (hx : scope.names.lookup x = some .local)
    (h : wpAny (model prog w) A (eval iter env) (fun xv s₁ => wpAny (model prog w) A (pyIter xv) (CPackS w base rest mean mg mb g0 L m led s A env scope cl x ifs elt (fun D _ _ s' => Q (.ref D) s')) E s₁) E s)
    (hs : ∀ x, foldedSetIterable iter env x = pure x := by intro _; rfl) :
    wpAny (model prog w) A (eval (.ListComp elt [⟨.Name x px, iter, ifs, 0⟩] scope pos) env) Q E s := by
  rw [eval_ListComp]
  refine wpAny_comprehension_free (use := none) rfl hs hclos hkind hnames (wpAny_mono h (fun xv s₁ h₁ => wpAny_mono h₁ (fun it s₂ h₂ => ?_) fun _ _ e => e) fun _ _ e => e)
  obtain ⟨led', _, h₂⟩ := h₂
  refine compBlock_own (RR := fun acc C => compPost (model prog w) A E none Q acc C) hcell hkind hx h₂ ?_
  intro D C oC c s' ys m₂ hf hc nC hn
  exact ⟨m₂, hn, fun h'' hs'' => hf h'' s'.toks fun b o hb e => (hs''.2 b hb).trans e⟩
theorem assignComp_at {Q : Flow → Shared → Prop} (Pf : List Value → Prop) (F : Fr g L s.heap m) (_G : Gnd w base rest g mean mg mb) (_N : News g L s.heap led) (_R : Rebase (frs rest) g0 g) (hL : env.locals = L)
    (hsw : swapsWith (.ListComp elt [⟨.Name x px, iter, ifs, 0⟩] scope pos) (some (.Name y py)) spos.line env = pure true)
    (hclos : closureFor scope env = pure cl) (hcell : ∀ z ∈ scope.names, z.2 ≠ .cell) (hkind : scope.kind = .function)
    (hnames : ∀ z ∈ scope.names, z.2 = .local → scope.names.lookup z.1 = some .local) (hx : scope.names.lookup x = some .local)
    (hy : env.kindOf y = some .local) (hp : (env.scope.kind == .class || (env.scope.kind == .module && env.locals != env.globals)) = false)
    (h : wpAny (model prog w) A (eval iter env) (fun xv s₁ => wpAny (model prog w) A (pyIter xv) (CPackS w base rest mean mg mb g0 L m led s A env scope cl x ifs elt (fun _ _ ys _ => Pf ys)) E s₁) E s)
    (fin : ∀ D c ys s', Pf ys → CS w base rest mean mg mb g0 L (fun z => if z = y then some (.ref D) else m z) ((D, listOf (List.toArray ys) c) :: led) s s' → Q .next s')
    (hs : ∀ x, foldedSetIterable iter env x = pure x := by intro _; rfl) :
    wpAny (model prog w) A (exec (.Assign [.Name y py] (.ListComp elt [⟨.Name x px, iter, ifs, 0⟩] scope pos) spos) env) Q E s := by
  subst hL
  rw [exec_Assign_Name_used _ _ _ _ hsw]
  refine wpAny_bind (wpAny_standAt (wpAny_bind ?_))
  show wpAny _ A (do let _ ← comprehension (.ListComp elt [⟨.Name x px, iter, ifs, 0⟩] scope pos) scope env _ (newList []) false (eval iter env) (some (assign (.Name y py) env))) _ _ s
  refine wpAny_bind (wpAny_mono (wpAny_comprehension_free (use := some (assign (.Name y py) env)) (Q := fun _ s' => Q .next s') rfl hs hclos hkind hnames
    (wpAny_mono h (fun xv s₁ h₁ => wpAny_mono h₁ (fun it s₂ h₂ => ?_) fun _ _ e => e) fun _ _ e => e)) (fun _ s' hq => wpAny_pure (wpAny_pure hq)) fun _ _ e => e)
  obtain ⟨led', hsub, h₂⟩ := h₂
  refine compBlock_own (RR := fun acc C => compPost (model prog w) A E (some (assign (.Name y py) env)) (fun _ s' => Q .next s') acc C) hcell hkind hx h₂ ?_
  intro D C oC c s' ys m₂ hf hc nC hn
  have hPf : Pf ys := hf s'.heap s'.toks fun _ _ _ e => e
  show wpAny _ A (assign (.Name y py) env (.ref D)) _ _ _
  obtain ⟨g', h', tk', rfl, G, RB, F, N⟩ := hc
  refine wpAny_assign_Name (wpAny_storeName_local hy F.ns (fun h₂ hn₂ hs₂ => ?_) hp)
  have F₂ := F.set hn₂ hs₂
  have N₂ := N.set hs₂
  have hCL : C ≠ env.locals := (N (C, oC) (.head _)).2.1
  refine ⟨m₂, hn.sameBut hs₂ hCL, fun h₃ hs₃ => fin D c ys _ hPf ?_⟩
  refine CS.sub (CS.drop (s' := { s with heap := h₂, toks := tk' + 1 }) ⟨g', h₂, tk' + 1, rfl, G, RB, F₂, N₂⟩ (fun b o hb e => (hs₃.2 b hb).trans e) nC) fun p hp => ?_
  rcases List.mem_cons.mp hp with rfl | hp
  · exact .head _
  · exact .tail _ (hsub p hp)
end
end Mine

end

section
open PySem PySem.W PySem.Calls PyProof.Rows
namespace Mine
theorem fill_part9 : PySem.Challenge.rw_il0001_01 = PySem.Challenge.rw_il0001_01 ∧ Mine.hd.heap_39 = Mine.hd.heap_39 := by k_fill; exact ⟨rfl, rfl⟩
local macro_rules | `(tactic| k_units) => `(tactic| ktr_units)
local macro_rules | `(tactic| k_room) => `(tactic| ktr_room)

section
variable {prog : Program} {w : World} {A : Around} {E : Value → Shared → Prop} {s : Shared} {h₀ : Heap} {L l : Addr} {news : List (Addr × Obj)} {vs : List Value} {n : Nat}
theorem item_N {value slice : PySem.Expr} {k : Int} {u : Tok} {v : Value} {Q : Value → Shared → Prop} (N : News h₀ L s.heap news) (hl : (l, listOf vs.toArray n) ∈ news) (h0 : 0 ≤ k) (hf : k < 2 ^ 63) (hv : vs[k.toNat]? = some v) (h : Q v s)
    (hs : subscripted slice false (.ref l) (.int k u) = operate [.ref l, .int k u] (getItem (.ref l) (.int k u)) := by with_unfolding_all rfl) (hg : ∀ r, letTemporaryGo value (.ref l) r = pure () := by intro _; with_unfolding_all rfl) :
    wpAny (model prog w) A (subscriptTail value slice (.ref l) (.int k u)) Q E s :=
  item_listL ⟨_, N.get hl, rfl, _, rfl⟩ h0 hf hv h hs hg
end
local macro_rules | `(tactic| walk_at "subscriptTail") => `(tactic| (k_here; (with_reducible show wpAny _ _ (subscriptTail _ _ (Value.ref _) (Value.int _ _)) _ _ _); k_dflt (refine' item_N ?k1 ?k2 ?k3 ?k4 ?k5 ?_; (case k1 => k_asm); (case k2 => k_mem); (case k3 => omega); (case k4 => omega); (case k5 => assumption); k_whole)))
local macro_rules | `(tactic| walk_at "call builtin:len") => `(tactic| (k_here; k_dflt (refine' len_N ?k1 ?k2 ?k3 ?_; (case k1 => k_asm); (case k2 => k_mem); (case k3 => first | omega | assumption | (simp only [strValues_length]; omega) | (simp only [strValues_length]; exact Nat.le_trans (List.length_filter_le _ _) (by omega))); k_whole; intro t' k')))
local macro_rules | `(tactic| walk_at "eval ListComp") => `(tactic| ((with_reducible show wpAny _ _ (eval (PySem.Expr.ListComp _ _ _ _) _) _ _ _); refine Halt.out ?_))

local macro_rules | `(tactic| walk_at "pyIter ref") => `(tactic| ((with_reducible show wpAny _ _ (pyIter (Value.ref _)) (CPackS _ _ _ _ _ _ _ _ _ _ _ _ _ _ _ _ _ _ _) _ _); refine Halt.out ?_))
section
variable {prog : Program} {w : World} {A : Around} {E : Value → Shared → Prop} {s : Shared} {h₀ : Heap} {L l : Addr} {m : Str → Option Value} {news : List (Addr × Obj)} {q : List (Str × Tok)} {n : Nat}
theorem slice_q {value slice : PySem.Expr} {x y : Int} {t u : Tok} {Q : Value → Shared → Prop} (F : Fr h₀ L s.heap m) (N : News h₀ L s.heap news) (hl : (l, listOf (strValues q).toArray n) ∈ news) (h0 : 0 ≤ x) (hxy : x ≤ y) (hy : y ≤ ((q.length : Nat) : Int)) (hz : q.length ≤ 2000000)
    (h : ∀ D h', Fr h₀ L h' m → News h₀ L h' ((D, listOf (strValues ((q.drop x.toNat).take (y.toNat - x.toNat))).toArray 0) :: news) → (∀ p ∈ news, p.1 < D) → Q (.ref D) { s with heap := h' })
    (hs : subscripted slice false (.ref l) (.ref s.heap.objs.size) = operate [.ref s.heap.objs.size, .ref l] (getItem (.ref l) (.ref s.heap.objs.size))) (ht : ∀ r, letTemporaryGo value (.ref l) r = pure ()) :
    wpAny (model prog w) A (subscriptTail value slice (.ref l) (.ref s.heap.objs.size)) Q E { s with heap := s.heap.push { cls := .type "slice", data := .fields #[.int x t, .int y u, .none] } } := by
  refine kmk_slice_lit F N ⟨_, N.get hl, rfl, _, rfl⟩ (IsPart.int x t) (IsPart.int y u) ?_ h hs ht (by rw [List.size_toArray]; exact size_line (by rw [strValues_length]; exact hz))
  have ex : x = ((x.toNat : Nat) : Int) := by omega
  have ey : y = ((y.toNat : Nat) : Int) := by omega
  rw [ex, ey, slicePick_run _ _ _ (by rw [List.size_toArray, strValues_length]; omega) (by omega)]
  simp only [Int.toNat_natCast, strValues, List.map_take, List.map_drop]
end
local macro_rules | `(tactic| walk_at "subscriptTail Name Slice ref ref") => `(tactic| (k_here; (with_reducible show wpAny _ _ (subscriptTail _ (PySem.Expr.Slice _ _ none _) (Value.ref _) (Value.ref _)) _ _ _); k_dflt (refine' slice_q ?F ?N ?l ?a ?b ?c ?z ?_ ?s ?t; (case F => k_asm); (case N => k_asm); (case l => k_mem); (case a => omega); (case b => omega); (case c => omega); (case z => assumption); (case s => with_unfolding_all rfl); (case t => kmk_pure); k_whole; intro D' h' F' N' l1; (try k_lt l1); (try k_sweep))))
theorem sliceLe {q : List (Str × Tok)} {a b : Nat} (h : q.length ≤ 1000) : ((q.drop a).take b).length ≤ 1000 := by
  rw [List.length_take, List.length_drop]; omega
local macro_rules | `(tactic| walk_at "call ref") => `(tactic| (k_here; k_dflt (refine' Spec.use (over_spec _ _ _ _ ?ka) ?kG ?kR ?kF ?kN ?kf ?kk ?kd ?ku ?kp ?_; (case kF => k_asm); (case kN => k_asm); (case kG => k_asm); (case kR => k_asm); (case kf => exact rfl); (case kk => exact rfl); (case kd => omega); (case ku => omega); (case kp => k_mem); (case ka => exact sliceLe (by assumption)); k_whole; intro v h' tk' g' res G' R' X' T' F' N' hp'; obtain ⟨⟨t', hv'⟩, hr'⟩ := hp'; subst hv'; subst hr'; (try simp only [List.cons_append, List.nil_append] at N'); (try k_sweep))))
theorem IntsL.are {ys : List Value} {ns : List Int} (h : IntsL ys ns) : IntsAre ys ns := by
  obtain ⟨q, rfl, rfl⟩ := h
  induction q with
  | nil => exact .nil
  | cons p r ih => exact .cons _ _ ih
section
variable {prog : Program} {w : World} {A : Around} {E : Value → Shared → Prop} {s : Shared} {h₀ : Heap} {L l b : Addr} {news : List (Addr × Obj)} {ys : List Value} {ns : List Int} {n k : Nat}
theorem ne_empty {Q : Value → Shared → Prop} (N : News h₀ L s.heap news) (hl : (l, listOf ys.toArray n) ∈ news) (hb : (b, listOf #[] k) ∈ news) (hi : IntsL ys ns) (hu : A.units + 64 < cLine) (h : Q (.bool (!decide (ns = []))) s) :
    wpAny (model prog w) A (compareOp .NotEq (.ref l) (.ref b)) Q E s :=
  ke_ne_ints (xs := ys) (ys := []) (ms := []) ⟨_, N.get hl, rfl, _, rfl⟩ ⟨_, N.get hb, rfl, _, rfl⟩ hi.are .nil hu h
end
local macro_rules | `(tactic| walk_at "compareOp NotEq ref ref") => `(tactic| (k_here; k_dflt (refine' ne_empty ?k1 ?k2 ?k3 ?k4 ?k5 ?_; (case k1 => k_asm); (case k2 => k_mem); (case k3 => k_mem); (case k4 => assumption); (case k5 => (dsimp only; omega)); k_whole)))
/-- does the piece at i fall -/
def fallsF (p : List Str) (i : Nat) : Bool :=
  match p[i]? with
  | some y => if y != Str.ofString ".." then (List.range (p.length - i)).any fun k => decide (overF ((p.drop i).take (k + 1)) ≤ 0) else (List.range (i + 1)).any fun j => decide (overF ((p.drop j).take (i + 1 - j)) ≥ 0)
  | none => false
theorem kept_any (a : Int) (keep : Nat → Bool) (n : Nat) : (!decide (keptI a keep n = [])) = (List.range n).any keep := by
  unfold keptI
  rw [Bool.eq_iff_iff]
  simp [List.filter_eq_nil_iff]
theorem fallsF_name {p : List Str} {i : Nat} {y : Str} (h : p[i]? = some y) (hy : (y != Str.ofString "..") = true) (a : Int) : fallsF p i = !decide (keptI a (fun k => decide (overF ((p.drop i).take (k + 1)) ≤ 0)) (p.length - i) = []) := by
  unfold fallsF
  rw [h, kept_any]
  simp only [hy, if_true]
theorem fallsF_dots {p : List Str} {i : Nat} {y : Str} (h : p[i]? = some y) (hy : (y != Str.ofString "..") = false) (a : Int) : fallsF p i = !decide (keptI a (fun j => decide (overF ((p.drop j).take (i + 1 - j)) ≥ 0)) (i + 1) = []) := by
  unfold fallsF
  rw [h, kept_any]
  simp only [hy, Bool.false_eq_true, if_false]
set_option maxRecDepth 100000 in
set_option maxHeartbeats 4000000 in
theorem falls_spec (w : World) (l : Addr) (q : List (Str × Tok)) (nl i : Nat) (t : Tok) (hz : q.length ≤ 1000) (hi : i < q.length) :
    Spec w 8 140 169 [.ref l, .int (i : Int) t] (fun _ news => (l, listOf (strValues q).toArray nl) ∈ news) (fun res v => v = .bool (fallsF (q.map (·.1)) i) ∧ res = []) := by
  k_dflt (refine' Spec.enterC (binds := [(Str.ofString "pieces", .ref l), (Str.ofString "i", .int (i : Int) t)]) [(l, listOf (strValues q).toArray nl)] ?hh ?k6 ?k7 ?k9 ?kB ?kD ?_ ?c2 ?c3 ?c4; (case k6 => k_is); (case k7 => k_is); (case k9 => (intro s; exact BindsTo.of_eq (by rfl))); (case kB => exact rfl); (case kD => decide +kernel); (case c2 => exact rfl); (case c3 => exact rfl); (case c4 => exact rfl))
  case hh =>
    intro base news h1 p hp
    rw [List.mem_singleton.mp hp]; exact h1
  intro dp un gd env outer base g h' L' tk mg mb mean news cells' s hdp hun hpre F' N' Y' hlt G' R' X' T'
  k_lt hlt
  k_cells Y'
  (try simp only [List.cons_append, List.nil_append] at N')
  have hz2 : q.length ≤ 2000000 := by omega
  obtain ⟨⟨y, ty⟩, hy⟩ : ∃ p, q[i]? = some p := ⟨_, List.getElem?_eq_getElem hi⟩
  have hv : (strValues q)[((i : Nat) : Int).toNat]? = some (.str y ty) := by rw [Int.toNat_natCast]; unfold strValues; rw [List.getElem?_map, hy]; rfl
  (try dsimp only)
  (try k_fold)
  k_steps
  · refine Halt.mk ?_
    rename Fr _ _ _ _ => F0
    rename News _ _ _ _ => N0
    refine listComp_at (F := F0) G' N0 R' (by with_unfolding_all rfl) (by decide) (by rfl) (by decide) (by rfl) ?_
    k_steps
    refine Halt.mk ?_
    rename Fr _ _ _ _ => F1
    rename News _ _ _ _ => N1
    rename IsRange _ _ _ _ _ _ _ _ => IR
    refine cpack_range (q.length - i) (fun k => decide (overF (((q.map (·.1)).drop i).take (k + 1)) ≤ 0)) rfl IR (small_one (by omega) (by omega) (by rw [strValues_length]; omega) (by rw [strValues_length]; omega)) (by rw [rangeSize_nat, strValues_length]; omega) (by omega) ⟨_, _, _, rfl, G', R', F1, N1⟩ (by rfl) (by rfl) (by decide) ?_ ?_
    · intro C D I j t' ys oC oI c g1 h1 tk1 m₂ hj G1 R1 X1 T1 F2 N2 hC hx
      clear IR F1 N1 X' T'
      k_steps
      refine TestIs.intro ?_ (by k_asm) (by k_asm) (by k_asm) (by k_asm) (fun p hp => by first | exact hp | exact .tail _ hp | exact .tail _ (.tail _ hp))
      have e1 : ((i : Int) + (j : Int) + 1).toNat - (i : Int).toNat = j + 1 := by omega
      rw [e1, Int.toNat_natCast, List.map_take, List.map_drop]
    · intro D c s' ys hys hcs
      obtain ⟨g2, h2, tk2, rfl, G2, R2, F2, N2⟩ := hcs
      clear IR F1 N1 X' T'
      have X2 := G2.X
      have T2 := G2.T
      (try dsimp only)
      k_steps
      refine Done.intro [] (by k_asm) (by k_asm) (News.one (by k_asm) (by k_mem)) ⟨?_, rfl⟩
      rw [fallsF_name (p := q.map (·.1)) (y := y) (by rw [List.getElem?_map, hy]; rfl) (by assumption) ((i : Nat) : Int), List.length_map]
  · refine Halt.mk ?_
    rename Fr _ _ _ _ => F0
    rename News _ _ _ _ => N0
    refine listComp_at (F := F0) G' N0 R' (by with_unfolding_all rfl) (by decide) (by rfl) (by decide) (by rfl) ?_
    k_steps
    refine Halt.mk ?_
    rename Fr _ _ _ _ => F1
    rename News _ _ _ _ => N1
    rename IsRange _ _ _ _ _ _ _ _ => IR
    refine cpack_range (i + 1) (fun j => decide (overF (((q.map (·.1)).drop j).take (i + 1 - j)) ≥ 0)) rfl IR (small_one (by omega) (by omega) (by omega) (by omega)) (by rw [rangeSize_nat]; omega) (by omega) ⟨_, _, _, rfl, G', R', F1, N1⟩ (by rfl) (by rfl) (by decide) ?_ ?_
    · intro C D I j t' ys oC oI c g1 h1 tk1 m₂ hj G1 R1 X1 T1 F2 N2 hC hx
      clear IR F1 N1 X' T'
      k_steps
      refine TestIs.intro ?_ (by k_asm) (by k_asm) (by k_asm) (by k_asm) (fun p hp => by first | exact hp | exact .tail _ hp | exact .tail _ (.tail _ hp))
      have e0 : ((0 : Int) + (j : Int)).toNat = j := by omega
      have e1 : ((i : Int) + 1).toNat - j = i + 1 - j := by omega
      rw [e0, e1, List.map_take, List.map_drop]
    · intro D c s' ys hys hcs
      obtain ⟨g2, h2, tk2, rfl, G2, R2, F2, N2⟩ := hcs
      clear IR F1 N1 X' T'
      have X2 := G2.X
      have T2 := G2.T
      (try dsimp only)
      k_steps
      refine Done.intro [] (by k_asm) (by k_asm) (News.one (by k_asm) (by k_mem)) ⟨?_, rfl⟩
      rw [fallsF_dots (p := q.map (·.1)) (y := y) (by rw [List.getElem?_map, hy]; rfl) (by assumption) 0]
end Mine

end

section
open PySem PySem.W PySem.Calls PyProof.Rows
namespace Mine
theorem fill_part10 : PySem.Challenge.rw_il0001_01 = PySem.Challenge.rw_il0001_01 ∧ Mine.hd.heap_39 = Mine.hd.heap_39 := by k_fill; exact ⟨rfl, rfl⟩
local macro_rules | `(tactic| k_units) => `(tactic| ktr_units)
local macro_rules | `(tactic| k_room) => `(tactic| ktr_room)

theorem keepI_ok (q sq : List (Int × Tok)) : ∀ v ∈ intValues q, ∃ e : Value → Bool, (∀ y ∈ intValues sq, MeetsSeq.EqGives y v (e y)) ∧ (intValues sq).any e = !keepI (sq.map (·.1)) v := by
  intro v hv
  obtain ⟨⟨x, t⟩, _, rfl⟩ := List.mem_map.mp hv
  refine ⟨fun y => match y with | .int a _ => a == x | _ => false, fun y hy => ?_, ?_⟩
  · obtain ⟨⟨a, u⟩, _, rfl⟩ := List.mem_map.mp hy
    exact MeetsSeq.EqGives.int a x u t
  · simp only [keepI, Bool.not_not]
    induction sq with
    | nil => rfl
    | cons p r ih =>
      simp only [intValues, List.map_cons, List.any_cons, List.contains_cons] at ih ⊢
      rw [ih, Bool.beq_comm]
theorem filter_ints (q : List (Int × Tok)) (sk : List Int) : (intValues q).filter (keepI sk) = intValues (q.filter fun p => !sk.contains p.1) := by
  unfold intValues
  rw [List.filter_map]
  rfl
theorem intValues_length (q : List (Int × Tok)) : (intValues q).length = q.length := by simp [intValues]
theorem filter_ints_spec (w : World) (l k : Addr) (q sq : List (Int × Tok)) (nl nk : Nat) (hz : q.length ≤ 2000000) :
    Spec w 4 64 152 [.ref l, .ref k] (fun _ news => (l, listOf (intValues q).toArray nl) ∈ news ∧ (k, listOf (intValues sq).toArray nk) ∈ news)
      (fun res v => ∃ S c, v = .ref S ∧ res = [(S, listOf (intValues (q.filter fun p => !(sq.map (·.1)).contains p.1)).toArray c)]) := by
  have h := filter_spec w l k (intValues q) (intValues sq) nl nk (keepI (sq.map (·.1))) (keepI_ok q sq) (by rw [intValues_length]; exact hz)
  rw [filter_ints] at h
  exact h

section
variable {prog : Program} {w : World} {A : Around} {E : Value → Shared → Prop} {s : Shared} {h₀ : Heap} {L : Addr} {m : Str → Option Value} {news : List (Addr × Obj)}
theorem list_range_N {r : Addr} {b : Int} {t u v : Tok} {Q : Value → Shared → Prop} (n : Nat) (hh : A.handled = none) (F : Fr h₀ L s.heap m) (N : News h₀ L s.heap news) (hr : IsRange s.heap r 0 b 1 t u v) (hb : b = ((n : Nat) : Int)) (hn : n ≤ 2000000)
    (h : ∀ D h' tk (q : List (Int × Tok)) c, Fr h₀ L h' m → News h₀ L h' ((D, listOf (intValues q).toArray c) :: news) → (∀ p ∈ news, p.1 < D) → q.map (·.1) = keptI 0 (fun _ => true) n → q.length ≤ 2000000 → Q (.ref D) { s with heap := h', toks := tk }) :
    wpAny (model prog w) A (call (.type "list") [.ref r]) Q E s := by
  subst hb
  refine call_list_range (n := n) hh hr (small_one (by omega) (by omega) (by omega) (by omega)) (by rw [rangeSize_nat]; omega) (by omega) fun h' tk acc' c' hk hS' hacc => ?_
  obtain ⟨hsz, hget⟩ := hacc
  have hq : ∃ q : List (Int × Tok), acc'.toList = intValues q ∧ q.map (·.1) = keptI 0 (fun _ => true) n := by
    refine ⟨(List.range n).map fun (i : Nat) => ((0 : Int) + (i : Int), match acc'[i]? with | some (.int _ t) => t | _ => default), ?_, ?_⟩
    · refine List.ext_getElem? fun i => ?_
      unfold intValues
      rw [List.map_map, List.getElem?_map, Array.getElem?_toList]
      by_cases hi : i < n
      · have hi2 : i < acc'.size := by rw [hsz]; exact hi
        obtain ⟨t', ht'⟩ := hget i acc'[i] (Array.getElem?_eq_getElem hi2)
        rw [List.getElem?_range hi, Array.getElem?_eq_getElem hi2, ht']
        simp only [Option.map_some, Function.comp, Array.getElem?_eq_getElem hi2, ht']
        simp
      · rw [List.getElem?_eq_none (by simpa using hi), Array.getElem?_eq_none (by rw [hsz]; omega)]
        rfl
    · unfold keptI
      rw [List.map_map, List.filter_eq_self.mpr (by simp)]
      rfl
  obtain ⟨q, e1, e2⟩ := hq
  refine h _ h' tk q c' (F.keeps hk) (fun p hp => ?_) (fun p hp => Heap.lt_size (N p hp).1) e2 (by
    have h1 := keptI_length 0 (fun _ => true) n
    rw [← e2, List.length_map] at h1
    omega)
  rcases List.mem_cons.mp hp with rfl | hp
  · refine ⟨?_, fun e => ?_, ?_⟩
    · rw [← e1]; simpa using hS'
    · obtain ⟨oL, _, _, hL, _⟩ := F.ns
      have : s.heap.objs.size = L := e
      exact absurd (Heap.lt_size hL) (by rw [← this]; exact Nat.lt_irrefl _)
    · cases e : h₀.get? s.heap.objs.size with
      | none => rfl
      | some o => exact absurd (Heap.lt_size (F.keep _ _ e)) (Nat.lt_irrefl _)
  · exact ⟨hk _ _ (N p hp).1, (N p hp).2⟩
end

section
variable {M : Model} {A : Around} {E : Value → Shared → Prop} {s : Shared} {h₀ : Heap} {L a c c2 S : Addr} {m : Str → Option Value} {cn : Str} {cs : Scope} {ccd : Value} {cl : List (Str × Addr)}
  {x : Str} {v : Value} {Q : Unit → Shared → Prop} {news : List (Addr × Obj)} {o o2 oS : Obj} {v₀ : Option Value}
theorem store_cell (F : Fr h₀ L s.heap m) (N : News h₀ L s.heap news) (hc : cl.lookup x = some c) (hm : (c, o) ∈ news) (hd : o.data = .cell v₀) (hm2 : (c2, o2) ∈ news) (hne : c2 ≠ c) (hS : (S, oS) ∈ news) (hSd : oS.data ≠ .cell v₀)
    (h : ∀ h' o', Fr h₀ L h' m → News h₀ L h' [(c, o'), (c2, o2), (S, oS)] → o'.data = .cell (some v) → Q () { s with heap := h' })
    (hk : cs.kind = .function) (hx : (envX cn cs L a ccd cl).kindOf x = some .cell) : wpAny M A (storeName (envX cn cs L a ccd cl) x v) Q E s := by
  have hmem := N (c, o) hm
  refine wpAny_storeName_cell hk hx hc ⟨o, hmem.1, hd⟩ fun h' hv hs => ?_
  obtain ⟨o', ho', hd'⟩ := hv
  have hSc : S ≠ c := fun e => by
    have z := (N _ hS).1
    rw [show (S, oS).1 = c from e, hmem.1] at z
    cases z; exact hSd hd
  refine h h' o' ⟨F.ns.sameBut hs (Ne.symm hmem.2.1), fun b ob e => (hs.2 b (fun q => ?_)).trans (F.keep b ob e), F.above⟩ (fun p hp => ?_) hd'
  · rw [q, hmem.2.2] at e; cases e
  · simp only [List.mem_cons, List.not_mem_nil, or_false] at hp
    rcases hp with rfl | rfl | rfl
    · exact ⟨ho', hmem.2⟩
    · exact ⟨(hs.2 _ hne).trans (N _ hm2).1, (N _ hm2).2⟩
    · exact ⟨(hs.2 _ hSc).trans (N _ hS).1, (N _ hS).2⟩
theorem store_cellA {vs : List Value} {n : Nat} (F : Fr h₀ L s.heap m) (N : News h₀ L s.heap news) (hc : cl.lookup x = some (L + 1)) (hm : (L + 1, o) ∈ news) (hd : o.data = .cell v₀) (hm2 : (L + 1 + 1, o2) ∈ news) (hS : (S, listOf vs.toArray n) ∈ news)
    (h : ∀ h' o', Fr h₀ L h' m → News h₀ L h' [(L + 1, o'), (L + 1 + 1, o2), (S, listOf vs.toArray n)] → o'.data = .cell (some v) → Q () { s with heap := h' })
    (hk : cs.kind = .function) (hx : (envX cn cs L a ccd cl).kindOf x = some .cell) : wpAny M A (storeName (envX cn cs L a ccd cl) x v) Q E s :=
  store_cell F N hc hm hd hm2 (Nat.succ_ne_self _) hS (by intro e; cases e) h hk hx
theorem store_cellB {vs : List Value} {n : Nat} (F : Fr h₀ L s.heap m) (N : News h₀ L s.heap news) (hc : cl.lookup x = some (L + 1 + 1)) (hm : (L + 1 + 1, o) ∈ news) (hd : o.data = .cell v₀) (hm2 : (L + 1, o2) ∈ news) (hS : (S, listOf vs.toArray n) ∈ news)
    (h : ∀ h' o', Fr h₀ L h' m → News h₀ L h' [(L + 1 + 1, o'), (L + 1, o2), (S, listOf vs.toArray n)] → o'.data = .cell (some v) → Q () { s with heap := h' })
    (hk : cs.kind = .function) (hx : (envX cn cs L a ccd cl).kindOf x = some .cell) : wpAny M A (storeName (envX cn cs L a ccd cl) x v) Q E s :=
  store_cell F N hc hm hd hm2 (Ne.symm (Nat.succ_ne_self _)) hS (by intro e; cases e) h hk hx
end
local macro_rules | `(tactic| walk_at "storeName") => `(tactic| (k_here; k_dflt (first
  | (refine' store_cellA ?F ?N ?c ?m ?d ?m2 ?mS ?_ ?a ?b; (case a => rfl); (case b => rfl); (case F => k_asm); (case N => k_asm); (case c => rfl); (case m => k_mem); (case m2 => k_mem); (case mS => k_mem); (case d => k_asm); k_whole; intro h' o' F' N' d'; (try k_sweep))
  | (refine' store_cellB ?F ?N ?c ?m ?d ?m2 ?mS ?_ ?a ?b; (case a => rfl); (case b => rfl); (case F => k_asm); (case N => k_asm); (case c => rfl); (case m => k_mem); (case m2 => k_mem); (case mS => k_mem); (case d => k_asm); k_whole; intro h' o' F' N' d'; (try k_sweep)))))
local macro_rules | `(tactic| walk_at "subscriptTail") => `(tactic| (k_here; (with_reducible show wpAny _ _ (subscriptTail _ _ (Value.ref _) (Value.int _ _)) _ _ _); k_dflt (refine' item_N ?k1 ?k2 ?k3 ?k4 ?k5 ?_; (case k1 => k_asm); (case k2 => k_mem); (case k3 => omega); (case k4 => omega); (case k5 => assumption); k_whole)))
local macro_rules | `(tactic| walk_at "call builtin:len") => `(tactic| (k_here; k_dflt (refine' len_N ?k1 ?k2 ?k3 ?_; (case k1 => k_asm); (case k2 => k_mem); (case k3 => first | omega | assumption | (simp only [strValues_length]; omega) | (simp only [strValues_length]; exact Nat.le_trans (List.length_filter_le _ _) (by omega))); k_whole; intro t' k')))
local macro_rules | `(tactic| walk_at "eval ListComp") => `(tactic| ((with_reducible show wpAny _ _ (eval (PySem.Expr.ListComp _ _ _ _) _) _ _ _); refine Halt.out ?_))
local macro_rules | `(tactic| walk_at "exec Assign cons ListComp") => `(tactic| ((with_reducible show wpAny _ _ (exec (Stmt.Assign _ _ _) _) _ _ _); refine Halt.out ?_))
local macro_rules | `(tactic| walk_at "pyIter ref") => `(tactic| ((with_reducible show wpAny _ _ (pyIter (Value.ref _)) (CPackS _ _ _ _ _ _ _ _ _ _ _ _ _ _ _ _ _ _ _) _ _); refine Halt.out ?_))
local macro_rules | `(tactic| walk_at "call ref") => `(tactic| (k_here; k_dflt (refine' Spec.use (filter_strs_spec _ _ _ _ [(Str.ofString "", _), (Str.ofString ".", _)] _ _ ?ka) ?kG ?kR ?kF ?kN ?kf ?kk ?kd ?ku ?kp ?_; (case kF => k_asm); (case kN => k_asm); (case kG => k_asm); (case kR => k_asm); (case kf => exact rfl); (case kk => exact rfl); (case kd => omega); (case ku => omega); (case kp => exact ⟨by k_mem, by k_mem⟩); (case ka => first | assumption | omega | (have h9 := len_le_of_split (by assumption); omega)); k_whole; intro v h' tk' g' res G' R' X' T' F' N' hp'; obtain ⟨S', c', hv', hr'⟩ := hp'; subst hv'; subst hr'; (try simp only [List.cons_append, List.nil_append] at N'); (try k_sweep))))

local macro_rules | `(tactic| walk_at "call ref") => `(tactic| (k_here; k_dflt (refine' Spec.use (filter_ints_spec _ _ _ _ _ _ _ ?ka) ?kG ?kR ?kF ?kN ?kf ?kk ?kd ?ku ?kp ?_; (case kF => k_asm); (case kN => k_asm); (case kG => k_asm); (case kR => k_asm); (case kf => exact rfl); (case kk => exact rfl); (case kd => omega); (case ku => omega); (case kp => exact ⟨by k_mem, by k_mem⟩); (case ka => assumption); k_whole; intro v h' tk' g' res G' R' X' T' F' N' hp'; obtain ⟨S', c', hv', hr'⟩ := hp'; subst hv'; subst hr'; (try simp only [List.cons_append, List.nil_append] at N'); (try k_sweep))))
local macro_rules | `(tactic| walk_at "call ref") => `(tactic| (k_here; k_dflt (refine' Spec.use (falls_spec _ _ _ _ _ _ ?ka ?kb) ?kG ?kR ?kF ?kN ?kf ?kk ?kd ?ku ?kp ?_; (case kF => k_asm); (case kN => k_asm); (case kG => k_asm); (case kR => k_asm); (case kf => exact rfl); (case kk => exact rfl); (case kd => omega); (case ku => omega); (case kp => k_mem); (case ka => assumption); (case kb => assumption); k_whole; intro v h' tk' g' res G' R' X' T' F' N' hp'; obtain ⟨hv', hr'⟩ := hp'; subst hv'; subst hr'; (try simp only [List.cons_append, List.nil_append] at N'); (try k_sweep))))
local macro_rules | `(tactic| walk_at "call type:list") => `(tactic| (k_here; k_dflt (refine' list_range_N _ ?k0 ?k1 ?k2 ?k3 ?k4 ?k5 ?_; (case k0 => rfl); (case k1 => k_asm); (case k2 => k_asm); (case k3 => assumption); (case k4 => rfl); (case k5 => first | assumption | (rw [strValues_length]; assumption)); k_whole; intro D' h' tk' q' c' F' N' l1 hq' hz'; (try k_lt l1); (try k_sweep))))
/-- how many slashes ahead -/
def leadF (x : Str) : Int := ((x.length : Nat) : Int) - (((Txt.lstripChars x (Str.ofString "/")).length : Nat) : Int)
/-- the pieces that count -/
def partsF (x : Str) : List Str := (Txt.split x (Str.ofString "/")).filter fun y => !([Str.ofString "", Str.ofString "."].contains y)
/-- the places that fall -/
def fallF (lead : Int) (p : List Str) (k : Nat) : Bool := (decide (lead > 0) && (p[k]? == some (Str.ofString ".."))) || fallsF p k
/-- what is kept -/
def keptF (lead : Int) (p : List Str) : List Str := ((List.range p.length).filter fun k => !fallF lead p k).map fun k => p[k]?.getD (Str.ofString "")
def dueOf (lead : Int) (p : List Str) : Str :=
  (if lead = 0 then Str.ofString "" else if lead = 2 then Str.ofString "//" else Str.ofString "/") ++ Txt.join (Str.ofString "/") (keptF lead p)
def dueF (x : Str) : Str := if dueOf (leadF x) (partsF x) != Str.ofString "" then dueOf (leadF x) (partsF x) else Str.ofString "."

section
variable {lead : Int} {p : List Str} {k : Nat} {y : Str}
theorem fall_up (hl : 0 < lead) (hy : p[k]? = some y) (e : (y == Str.ofString "..") = true) : true = fallF lead p k := by
  unfold fallF
  rw [hy]
  simp [hl, eq_of_beq e]
theorem fall_no (hl : ¬ 0 < lead) : fallsF p k = fallF lead p k := by
  unfold fallF
  simp [hl]
theorem fall_name (hy : p[k]? = some y) (e : (y == Str.ofString "..") = false) : fallsF p k = fallF lead p k := by
  unfold fallF
  rw [hy]
  have h : (some y == some (Str.ofString "..")) = false := e
  simp [h]
theorem fall_noB {b : Bool} (hb : fallsF p k = b) (hl : ¬ 0 < lead) : b = fallF lead p k := hb.symm.trans (fall_no hl)
theorem fall_nameB {b : Bool} (hb : fallsF p k = b) (hy : p[k]? = some y) (e : (y == Str.ofString "..") = false) : b = fallF lead p k := hb.symm.trans (fall_name hy e)
theorem keptI_all (n : Nat) : keptI 0 (fun _ => true) n = (List.range n).map fun (k : Nat) => (k : Int) := by
  unfold keptI
  rw [List.filter_eq_self.mpr (by simp)]
  simp
theorem mem_keptI {keep : Nat → Bool} {n k : Nat} (h : k < n) : (keptI 0 keep n).contains (k : Int) = keep k := by
  rw [Bool.eq_iff_iff]
  simp only [List.contains_iff_mem, keptI, List.mem_map, List.mem_filter, List.mem_range]
  constructor
  · rintro ⟨a, ⟨h1, h2⟩, e⟩
    obtain rfl : a = k := by omega
    exact h2
  · intro h1
    exact ⟨k, ⟨h, h1⟩, by omega⟩
/-- the places that stay, as the list of ints gives them -/
theorem stay_ints {q qf : List (Int × Tok)} {keep : Nat → Bool} {n : Nat} (hq : q.map (·.1) = keptI 0 (fun _ => true) n) (hf : qf.map (·.1) = keptI 0 keep n) :
    (q.filter fun p => !(qf.map (·.1)).contains p.1).map (·.1) = ((List.range n).filter fun k => !keep k).map fun (k : Nat) => (k : Int) := by
  have e : (q.filter fun p => !(qf.map (·.1)).contains p.1).map (·.1) = (q.map (·.1)).filter fun z => !(qf.map (·.1)).contains z := by
    rw [List.filter_map]; rfl
  rw [e, hq, hf, keptI_all, List.filter_map]
  congr 1
  refine List.filter_congr fun k hk => ?_
  simp only [Function.comp]
  rw [mem_keptI (List.mem_range.mp hk)]
end

section
variable {lead : Int} {p : List Str} {d x : Str}
theorem dueOf_0 (h : lead = 0) : dueOf lead p = Str.ofString "" ++ Txt.join (Str.ofString "/") (keptF lead p) := by unfold dueOf; rw [if_pos h]
theorem dueOf_2 (h0 : ¬ lead = 0) (h : lead = 2) : dueOf lead p = Str.ofString "//" ++ Txt.join (Str.ofString "/") (keptF lead p) := by unfold dueOf; rw [if_neg h0, if_pos h]
theorem dueOf_1 (h0 : ¬ lead = 0) (h : ¬ lead = 2) : dueOf lead p = Str.ofString "/" ++ Txt.join (Str.ofString "/") (keptF lead p) := by unfold dueOf; rw [if_neg h0, if_neg h]
theorem dueF_at (hd : dueOf (leadF x) (partsF x) = d) (h : (d != Str.ofString "") = true) : dueF x = d := by unfold dueF; rw [hd, if_pos h]
theorem dueF_dot (hd : dueOf (leadF x) (partsF x) = d) (h : (d != Str.ofString "") = false) : dueF x = Str.ofString "." := by unfold dueF; rw [hd, if_neg (by rw [h]; decide)]
theorem keptF_len (lead : Int) (p : List Str) : (keptF lead p).length ≤ p.length := by
  unfold keptF
  rw [List.length_map]
  exact Nat.le_trans (List.length_filter_le _ _) (by simp)
theorem keptF_mem {a : Str} (h : a ∈ keptF lead p) : a ∈ p ∨ a = Str.ofString "" := by
  unfold keptF at h
  obtain ⟨k, _, rfl⟩ := List.mem_map.mp h
  cases e : p[k]? with
  | none => exact .inr rfl
  | some y => exact .inl (List.mem_of_getElem? e)
/-- the i-th place that stays -/
theorem stay_at {q3 : List (Int × Tok)} {ks : List Nat} {i : Nat} {v : Value} (h : q3.map (·.1) = ks.map fun (k : Nat) => (k : Int)) (hv : (intValues q3)[i]? = some v) : ∃ k t, ks[i]? = some k ∧ v = .int ((k : Nat) : Int) t := by
  unfold intValues at hv
  rw [List.getElem?_map] at hv
  cases e : q3[i]? with
  | none => rw [e] at hv; cases hv
  | some p =>
    rw [e] at hv
    have e2 := congrArg (·[i]?) h
    simp only [List.getElem?_map, e, Option.map_some] at e2 hv
    cases e3 : ks[i]? with
    | none => rw [e3] at e2; cases e2
    | some k =>
      rw [e3] at e2
      simp only [Option.map_some, Option.some.injEq] at e2 hv
      exact ⟨k, p.2, rfl, by rw [← hv, e2]⟩
end
local macro_rules | `(tactic| walk_at "call builtin:str.join") => `(tactic| (k_here; k_dflt (refine' join_q ?k1 ?k2 ?_; (case k1 => k_asm); (case k2 => k_asm); k_whole); intro t' k'))

set_option maxRecDepth 100000 in
set_option maxHeartbeats 4000000 in
theorem due_spec (w : World) (x : Str) (t : Tok) (hx : x.length ≤ 998) : Spec w 10 180 174 [.str x t] (fun _ _ => True) (fun res v => (∃ t', v = .str (dueF x) t') ∧ res = []) := by
  k_dflt (refine' Spec.enterC (binds := [(Str.ofString "path", .str x t)]) [] (fun _ _ _ _ h => nomatch h) ?k6 ?k7 ?k9 ?kB ?kD ?_ ?c2 ?c3 ?c4; (case k6 => k_is); (case k7 => k_is); (case k9 => (intro s; exact BindsTo.of_eq (by rfl))); (case kB => exact rfl); (case kD => decide +kernel); (case c2 => exact rfl); (case c3 => exact rfl); (case c4 => exact rfl))
  intro dp un gd env outer base g h' L' tk mg mb mean news cells' s hdp hun hpre F' N' Y' hlt G' R' X' T'
  k_cells Y'
  (try simp only [List.cons_append, List.nil_append] at N')
  have hx2 : x.length ≤ 1048576 := by omega
  (try dsimp only)
  (try k_fold)
  k_steps
  refine Halt.mk ?_
  rename List (Str × Tok) => l0
  rename List.map _ _ = Txt.split _ _ => hsp
  have hl0 : l0.length ≤ 1000 := by have h9 := len_le_of_split hsp; omega
  rename Fr _ _ _ _ => F0
  rename News _ _ _ _ => N0
  generalize hqd : List.filter _ l0 = q at *
  have hql : q.length ≤ 1000 := by rw [← hqd]; exact Nat.le_trans (List.length_filter_le _ _) hl0
  have hP : partsF x = q.map (·.1) := by
    rw [← hqd]
    unfold partsF
    rw [← hsp, List.filter_map]
    rfl
  have hz : q.length ≤ 1000 := hql
  have hz2 : q.length ≤ 2000000 := by omega
  rename ∀ (a : Str), a ∈ _ → _ => hcl
  have hPl : ∀ a ∈ q.map (·.1), a.length ≤ 998 := by
    intro a ha
    rw [← hqd] at ha
    obtain ⟨p, hp, rfl⟩ := List.mem_map.mp ha
    exact Nat.le_trans (hcl _ (List.mem_map.mpr ⟨p, (List.mem_filter.mp hp).1, rfl⟩)) hx
  clear hsp hqd hl0 hcl
  have el : (((x.length : Nat) : Int) - (((Txt.lstripChars x (Str.ofString "/")).length : Nat) : Int)) = leadF x := rfl
  refine assignComp_at (Pf := fun ys => IntsL ys (keptI 0 (fallF (leadF x) (q.map (·.1))) q.length)) (F := F0) (by k_asm) N0 (by k_asm) rfl (by with_unfolding_all rfl) (by with_unfolding_all rfl) (by decide) (by rfl) (by decide) (by rfl) (by rfl) (by rfl) ?_ ?_
  · k_steps
    refine Halt.mk ?_
    rename Fr _ _ _ _ => F1
    rename News _ _ _ _ => N1
    rename IsRange _ _ _ _ _ _ _ _ => IR
    refine cpack_range q.length (fallF (leadF x) (q.map (·.1))) rfl IR (small_one (by omega) (by omega) (by rw [strValues_length]; omega) (by rw [strValues_length]; omega)) (by rw [rangeSize_nat, strValues_length]; omega) (by omega) ⟨_, _, _, rfl, by k_asm, by k_asm, F1, N1⟩ (by rfl) (by rfl) (by decide) ?_ (fun D c s' ys hys hcs => hys)
    intro C D I j t' ys oC oI c g1 h1 tk1 m₂ hj G1 R1 X1 T1 F2 N2 hC hx'
    clear IR F1 N1
    rw [Int.zero_add] at hx'
    obtain ⟨⟨y, ty⟩, hy⟩ : ∃ p, q[j]? = some p := ⟨_, List.getElem?_eq_getElem hj⟩
    have hv : (strValues q)[((j : Nat) : Int).toNat]? = some (.str y ty) := by rw [Int.toNat_natCast]; unfold strValues; rw [List.getElem?_map, hy]; rfl
    have hyP : (q.map (·.1))[j]? = some y := by rw [List.getElem?_map, hy]; rfl
    k_steps
    all_goals (refine TestIs.intro ?_ (by k_asm) (by k_asm) (by k_asm) (by k_asm) (fun p hp => by first | exact hp | exact .tail _ hp | exact .tail _ (.tail _ hp)))
    all_goals first
      | exact fall_up (by assumption) hyP (by assumption)
      | exact fall_noB (by first | assumption | exact Bool.eq_false_iff.mpr (by assumption)) (by first | assumption | omega)
      | exact fall_nameB (by first | assumption | exact Bool.eq_false_iff.mpr (by assumption)) hyP (by first | assumption | exact Bool.eq_false_iff.mpr (by assumption))
  · intro D c ys s' hys hcs
    obtain ⟨g2, h2, tk2, rfl, G2, R2, F2, N2⟩ := hcs
    obtain ⟨qf, hqf, rfl⟩ := hys
    clear F0 N0
    have X2 := G2.X
    have T2 := G2.T
    (try dsimp only)
    k_steps
    refine Halt.mk ?_
    rename Fr _ _ _ _ => F3
    rename News _ _ _ _ => N3
    refine assignComp_at (Pf := fun ys => StrsL ys (keptF (leadF x) (q.map (·.1)))) (F := F3) (by k_asm) N3 (by k_asm) rfl (by with_unfolding_all rfl) (by with_unfolding_all rfl) (by decide) (by rfl) (by decide) (by rfl) (by rfl) (by rfl) ?_ ?_
    · k_steps
      refine Halt.mk ?_
      rename List.map _ _ = keptI 0 (fun _ => true) _ => hqr
      rw [strValues_length] at hqr
      have hst := stay_ints hqr hqf
      rename Fr _ _ _ _ => F5
      rename News _ _ _ _ => N5
      generalize hq3 : List.filter _ _ = q3 at N5 hst
      have hl3 : q3.length ≤ 1000 := by
        have h1 := congrArg List.length hst
        rw [List.length_map, List.length_map] at h1
        have h2 := List.length_filter_le (fun k => !fallF (leadF x) (q.map (·.1)) k) (List.range q.length)
        rw [List.length_range] at h2
        omega
      refine cpack_list (fun p hp => by first | exact .tail _ (.tail _ hp) | exact .tail _ hp) (fun i ys => StrsL ys ((((List.range q.length).filter fun k => !fallF (leadF x) (q.map (·.1)) k).take i).map fun k => (q.map (·.1))[k]?.getD (Str.ofString ""))) rfl (.head _) (by rw [intValues_length]; omega) StrsL.nil (fun i ys h => by rw [h.length, List.length_map, List.length_take]; omega) ⟨_, _, _, rfl, by k_asm, by k_asm, F5, N5⟩ ?_ ?_
      · intro C D I i v ys oC oI c g1 h1 tk1 m₂ hvi hR G1 R1 X1 T1 F6 N6 hC hx'
        clear F5 N5
        obtain ⟨k, t', hk, rfl⟩ := stay_at hst hvi
        have hkq : k < q.length := List.mem_range.mp (List.mem_filter.mp (List.mem_of_getElem? hk)).1
        obtain ⟨⟨y, ty⟩, hy⟩ : ∃ p, q[k]? = some p := ⟨_, List.getElem?_eq_getElem hkq⟩
        have hv : (strValues q)[((k : Nat) : Int).toNat]? = some (.str y ty) := by rw [Int.toNat_natCast]; unfold strValues; rw [List.getElem?_map, hy]; rfl
        k_steps
        refine EltIs.intro ?_ (by k_asm) (by k_asm) (by k_asm) (by k_asm) (fun p hp => by first | exact hp | exact .tail _ hp | exact .tail _ (.tail _ hp))
        have hyP : (q.map (·.1))[k]?.getD (Str.ofString "") = y := by rw [List.getElem?_map, hy]; rfl
        rw [List.take_succ, hk, List.map_append]
        show StrsL _ (_ ++ [(q.map (·.1))[k]?.getD (Str.ofString "")])
        rw [hyP]
        exact hR.snoc y ty
      · intro D c s' ys hR hcs
        rw [intValues_length, show q3.length = ((List.range q.length).filter fun k => !fallF (leadF x) (q.map (·.1)) k).length by rw [← List.length_map (f := fun (k : Nat) => (k : Int)), ← hst, List.length_map], List.take_length] at hR
        unfold keptF
        rw [List.length_map]
        exact hR
    · intro D c ys s' hys hcs
      obtain ⟨g4, h4, tk4, rfl, G4, R4, F4, N4⟩ := hcs
      obtain ⟨qk, hqk, rfl⟩ := hys
      clear F3 N3
      have X4 := G4.X
      have T4 := G4.T
      have hlm : ∀ a ∈ qk.map (·.1), a.length ≤ 998 := by
        intro a ha
        rw [hqk] at ha
        rcases keptF_mem ha with h | h
        · exact hPl a h
        · rw [h]; decide
      have hlq : (qk.map (·.1)).length ≤ 1000 := by
        have h1 := keptF_len (leadF x) (q.map (·.1))
        rw [← hqk, List.length_map (as := q)] at h1
        omega
      have hls := sum_le_mul 998 _ hlm
      have hok : ((qk.map (fun x => x.1)).map (·.length)).sum + (qk.map (fun x => x.1)).length * (Str.ofString "/").length ≤ 16777216 := by
        have h1 : (Str.ofString "/").length = 1 := by decide
        rw [h1]
        omega
      have hjl : (Txt.join (Str.ofString "/") (qk.map (fun x => x.1))).length ≤ 1003100 := by
        have h1 : (Str.ofString "/").length = 1 := by decide
        have h2 := size_glued (Str.ofString "/") (qk.map (fun x => x.1))
        rw [h1] at h2
        unfold Txt.join
        omega
      have k0 : Txt.join (Str.ofString "/") (keptF (leadF x) (partsF x)) = Txt.join (Str.ofString "/") (qk.map (fun x => x.1)) := by rw [hP, hqk]
      (try dsimp only)
      k_steps
      all_goals ((try dsimp only); (try k_unfold))
      all_goals (refine Done.intro [] (by k_asm) (by k_asm) News.nil ⟨str_same ?_, rfl⟩)
      all_goals first
        | exact dueF_at ((dueOf_0 (by assumption)).trans (congrArg _ k0)) (by assumption)
        | exact dueF_dot ((dueOf_0 (by assumption)).trans (congrArg _ k0)) (by first | assumption | exact Bool.eq_false_iff.mpr (by assumption))
        | exact dueF_at ((dueOf_2 (by assumption) (by assumption)).trans (congrArg _ k0)) (by assumption)
        | exact dueF_dot ((dueOf_2 (by assumption) (by assumption)).trans (congrArg _ k0)) (by first | assumption | exact Bool.eq_false_iff.mpr (by assumption))
        | exact dueF_at ((dueOf_1 (by assumption) (by assumption)).trans (congrArg _ k0)) (by assumption)
        | exact dueF_dot ((dueOf_1 (by assumption) (by assumption)).trans (congrArg _ k0)) (by first | assumption | exact Bool.eq_false_iff.mpr (by assumption))
end Mine

end

section
open PySem PySem.W PySem.Calls PyProof.Rows
namespace Mine
theorem fill_part11 : PySem.Challenge.rw_il0001_01 = PySem.Challenge.rw_il0001_01 ∧ Mine.hd.heap_39 = Mine.hd.heap_39 := by k_fill; exact ⟨rfl, rfl⟩
local macro_rules | `(tactic| k_units) => `(tactic| ktr_units)
local macro_rules | `(tactic| k_room) => `(tactic| ktr_room)
local macro_rules | `(tactic| walk_at "exec Assign cons ListComp") => `(tactic| ((with_reducible show wpAny _ _ (exec (Stmt.Assign _ _ _) _) _ _ _); refine Halt.out ?_))
local macro_rules | `(tactic| walk_at "pyIter ref") => `(tactic| ((with_reducible show wpAny _ _ (pyIter (Value.ref _)) (CPackS _ _ _ _ _ _ _ _ _ _ _ _ _ _ _ _ _ _ _) _ _); refine Halt.out ?_))
local macro_rules | `(tactic| walk_at "call builtin:str.join") => `(tactic| (k_here; k_dflt (refine' join_q ?k1 ?k2 ?_; (case k1 => k_asm); (case k2 => k_asm); k_whole); intro t' k'))

theorem IntsAre.vals : ∀ {vs : List Value} {ns : List Int}, IntsAre vs ns → ∃ q : List (Int × Tok), vs = intValues q ∧ q.map (·.1) = ns
  | _, _, .nil => ⟨[], rfl, rfl⟩
  | _, _, .cons x t r => by
    obtain ⟨q, rfl, rfl⟩ := IntsAre.vals r
    exact ⟨(x, t) :: q, rfl, rfl⟩

/-- the piece that a number stands for -/
def pieceF (z : Int) : Str := ([Str.ofString "", Str.ofString ".", Str.ofString "..", Str.ofString "a", Str.ofString "..", Str.ofString "b", Str.ofString "...", Str.ofString "a"][(z.fmod 8).toNat]?).getD (Str.ofString "")

section
variable {prog : Program} {w : World} {A : Around} {E : Value → Shared → Prop} {s : Shared} {h₀ : Heap} {L l : Addr} {m : Str → Option Value} {news : List (Addr × Obj)} {vs : List Value}
theorem slice_7 {value slice : PySem.Expr} {u : Tok} {Q : Value → Shared → Prop} (F : Fr h₀ L s.heap m) (N : News h₀ L s.heap news) (hl : h₀.IsList l vs.toArray) (hz : vs.length ≤ 2000000)
    (h : ∀ D h', Fr h₀ L h' m → News h₀ L h' ((D, listOf (vs.take 7).toArray 0) :: news) → (∀ p ∈ news, p.1 < D) → Q (.ref D) { s with heap := h' })
    (hs : subscripted slice false (.ref l) (.ref s.heap.objs.size) = operate [.ref s.heap.objs.size, .ref l] (getItem (.ref l) (.ref s.heap.objs.size))) (ht : ∀ r, letTemporaryGo value (.ref l) r = pure ()) :
    wpAny (model prog w) A (subscriptTail value slice (.ref l) (.ref s.heap.objs.size)) Q E { s with heap := s.heap.push { cls := .type "slice", data := .fields #[.none, .int 7 u, .none] } } := by
  refine kms_slice_lit F N (hl.at fun o e => F.keep _ _ e) IsPart.none (IsPart.int 7 u) ?_ h hs ht (by rw [List.size_toArray]; exact size_line hz)
  unfold kms_pick
  have e1 : kms_lo none vs.length = 0 := by simp [kms_lo]
  have e2 : kms_hi (some 7) vs.length = min 7 vs.length := by simp [kms_hi]
  simp only [e1, e2, List.drop_zero, Nat.sub_zero]
  by_cases hh : 7 ≤ vs.length
  · rw [Nat.min_eq_left hh]
  · rw [Nat.min_eq_right (by omega), List.take_of_length_le (Nat.le_refl _), List.take_of_length_le (by omega)]
theorem len_base {Q : Value → Shared → Prop} (F : Fr h₀ L s.heap m) (hl : h₀.IsList l vs.toArray) (hz : vs.length ≤ 2000000) (h : ∀ t k, Q (.int ((vs.length : Nat) : Int) t) { s with toks := k }) :
    wpAny (model prog w) A (call (.builtin "len") [.ref l]) Q E s :=
  len_list (items := vs.toArray) (hl.at fun o e => F.keep _ _ e) (by rw [List.size_toArray]; omega) (by rw [List.size_toArray]; exact h _ _)
theorem cat_q {a b : Addr} {qa qb : List (Str × Tok)} {na nb : Nat} {Q : Value → Shared → Prop} (F : Fr h₀ L s.heap m) (N : News h₀ L s.heap news) (ha : (a, listOf (strValues qa).toArray na) ∈ news) (hb : (b, listOf (strValues qb).toArray nb) ∈ news) (hz : qa.length + qb.length ≤ 2000000)
    (h : ∀ D h', Fr h₀ L h' m → News h₀ L h' ((D, listOf (strValues (qa ++ qb)).toArray 0) :: news) → (∀ p ∈ news, p.1 < D) → Q (.ref D) { s with heap := h' }) : wpAny (model prog w) A (binaryOp .Add (.ref a) (.ref b)) Q E s :=
  kmk_add_lit F N ⟨_, N.get ha, rfl, _, rfl⟩ ⟨_, N.get hb, rfl, _, rfl⟩ (by simp [strValues]) h (size_line (by show (strValues qa).length + (strValues qb).length ≤ _; rw [strValues_length, strValues_length]; exact hz))
end
local macro_rules | `(tactic| walk_at "binaryOp Add ref ref") => `(tactic| (k_here; k_dflt (refine' cat_q ?k1 ?k2 ?k3 ?k4 ?k5 ?_; (case k1 => k_asm); (case k2 => k_asm); (case k3 => k_mem); (case k4 => k_mem); (case k5 => omega); k_whole; intro D' h' F' N' l1; (try k_lt l1); (try k_sweep))))
local macro_rules | `(tactic| walk_at "call builtin:len") => `(tactic| (k_here; k_dflt (refine' len_base ?k1 ?k2 ?k3 ?_; (case k1 => k_asm); (case k2 => assumption); (case k3 => (rw [intValues_length]; omega)); k_whole; intro t' k')))
local macro_rules | `(tactic| walk_at "subscriptTail Name Slice ref ref") => `(tactic| (k_here; (with_reducible show wpAny _ _ (subscriptTail _ (PySem.Expr.Slice _ _ none _) (Value.ref _) (Value.ref _)) _ _ _); k_dflt (refine' slice_7 ?F ?N ?l ?z ?_ ?s ?t; (case F => k_asm); (case N => k_asm); (case l => assumption); (case z => (rw [intValues_length]; omega)); (case s => with_unfolding_all rfl); (case t => kmk_pure); k_whole; intro D' h' F' N' l1; (try k_lt l1); (try k_sweep))))
theorem piece_end {ys : List Value} {ns : List Int} {i : Nat} {z : Int} {x : Str} {t : Tok} (hR : StrsL ys ((ns.take i).map pieceF)) (hk : ns[i]? = some z) (e : pieceF z = x) : StrsL (ys ++ [.str x t]) ((ns.take (i + 1)).map pieceF) := by
  subst e
  rw [List.take_succ, hk, List.map_append]
  exact hR.snoc (pieceF z) t
theorem piece_at {z : Int} {k : Nat} {x : Str} (h : z.fmod 8 = ((k : Nat) : Int)) (e : ([Str.ofString "", Str.ofString ".", Str.ofString "..", Str.ofString "a", Str.ofString "..", Str.ofString "b", Str.ofString "...", Str.ofString "a"][k]?).getD (Str.ofString "") = x) : pieceF z = x := by
  unfold pieceF
  rw [h, Int.toNat_natCast]
  exact e
theorem pieceF_len (z : Int) : (pieceF z).length ≤ 3 := by
  unfold pieceF
  generalize (z.fmod 8).toNat = k
  match k with
  | 0 => decide
  | 1 => decide
  | 2 => decide
  | 3 => decide
  | 4 => decide
  | 5 => decide
  | 6 => decide
  | 7 => decide
  | _ + 8 => show (Str.ofString "").length ≤ 3; decide
/-- the path that a script and what stands behind give -/
def pathF (ns : List Int) (behind : List Str) : Str :=
  Txt.mul (Str.ofString "/") (((ns.length : Nat) : Int).fmod 4) ++ Txt.join (Str.ofString "/") ((ns.take 7).map pieceF ++ behind)
set_option maxRecDepth 100000 in
set_option maxHeartbeats 4000000 in
theorem path_spec (w : World) (sc b : Addr) (qn : List (Int × Tok)) (bq : List (Str × Tok)) (nb : Nat) (hn : qn.length ≤ 63) (hb : bq.length ≤ 20) (hbl : ∀ a ∈ bq.map (·.1), a.length ≤ 3) :
    Spec w 2 60 157 [.ref sc, .ref b] (fun base news => base.IsList sc (intValues qn).toArray ∧ (b, listOf (strValues bq).toArray nb) ∈ news) (fun res v => (∃ t, v = .str (pathF (qn.map (·.1)) (bq.map (·.1))) t) ∧ res = []) := by
  k_dflt (refine' Spec.enter (binds := [(Str.ofString "script", .ref sc), (Str.ofString "behind", .ref b)]) [(b, listOf (strValues bq).toArray nb)] ?hh ?k6 ?k7 ?k9 ?kB ?_ ?c2 ?c3 ?c4 ?c5; (case k6 => k_is); (case k7 => k_is); (case k9 => (intro s; exact BindsTo.of_eq (by rfl))); (case c5 => decide); (case kB => exact locs rfl); (case c2 => exact rfl); (case c3 => exact rfl); (case c4 => exact rfl))
  case hh =>
    intro base news h1 p hp
    rw [List.mem_singleton.mp hp]; exact h1.2
  intro dp un gd env outer base g h' L' tk mg mb mean news s hdp hun hpre F' N' hlt G' R' X' T'
  k_lt hlt
  have hsg : g.IsList sc (intValues qn).toArray := hpre.1.at fun o e => G'.stays _ _ e
  (try dsimp only)
  (try k_fold)
  k_steps
  refine Halt.mk ?_
  rename Fr _ _ _ _ => F0
  rename News _ _ _ _ => N0
  refine assignComp_at (Pf := fun ys => StrsL ys (((qn.map (·.1)).take 7).map pieceF)) (F := F0) (by k_asm) N0 (by k_asm) rfl (by with_unfolding_all rfl) (by with_unfolding_all rfl) (by decide) (by rfl) (by decide) (by rfl) (by rfl) (by rfl) ?_ ?_
  · k_steps
    refine Halt.mk ?_
    rename Fr _ _ _ _ => F5
    rename News _ _ _ _ => N5
    have ht7 : (intValues qn).take 7 = intValues (qn.take 7) := by unfold intValues; rw [List.map_take]
    rw [ht7] at N5
    refine cpack_list (fun p hp => by first | exact hp | exact .tail _ hp | exact .tail _ (.tail _ hp)) (fun i ys => StrsL ys ((((qn.map (·.1)).take 7).take i).map pieceF)) rfl (.head _) (by rw [intValues_length, List.length_take]; omega) StrsL.nil (fun i ys h => by rw [h.length, List.length_map, List.length_take]; omega) ⟨_, _, _, rfl, by k_asm, by k_asm, F5, N5⟩ ?_ ?_
    · intro C D I i v ys oC oI c g1 h1 tk1 m₂ hvi hR G1 R1 X1 T1 F6 N6 hC hx'
      clear F5 N5
      obtain ⟨z, t', hk, rfl⟩ : ∃ z t', ((qn.map (·.1)).take 7)[i]? = some z ∧ v = .int z t' := by
        unfold intValues at hvi
        rw [List.getElem?_map] at hvi
        rw [← List.map_take, List.getElem?_map]
        cases e : (qn.take 7)[i]? with
        | none => rw [e] at hvi; cases hvi
        | some p => rw [e] at hvi; cases hvi; exact ⟨_, _, rfl, rfl⟩
      k_steps
      all_goals (refine EltIs.intro ?_ (by k_asm) (by k_asm) (by k_asm) (by k_asm) (fun p hp => by first | exact hp | exact .tail _ hp | exact .tail _ (.tail _ hp)))
      all_goals refine piece_end hR hk ?_
      all_goals first
        | exact piece_at (k := 0) (by assumption) rfl
        | exact piece_at (k := 1) (by assumption) rfl
        | exact piece_at (k := 2) (by assumption) rfl
        | exact piece_at (k := 3) (by assumption) rfl
        | exact piece_at (k := 4) (by assumption) rfl
        | exact piece_at (k := 5) (by assumption) rfl
        | exact piece_at (k := 6) (by assumption) rfl
        | exact piece_at (k := 7) (by assumption) rfl
    · intro D c s' ys hR hcs
      rw [intValues_length, show (qn.take 7).length = ((qn.map (·.1)).take 7).length by simp, List.take_length] at hR
      exact hR
  · intro D c ys s' hys hcs
    obtain ⟨g2, h2, tk2, rfl, G2, R2, F2, N2⟩ := hcs
    obtain ⟨qp, hqp, rfl⟩ := hys
    have X2 := G2.X
    have T2 := G2.T
    have hsg2 : g2.IsList sc (intValues qn).toArray := hpre.1.at fun o e => G2.stays _ _ e
    clear hsg
    have hqpl : qp.length ≤ 7 := by
      have h1 := congrArg List.length hqp
      rw [List.length_map, List.length_map, List.length_take] at h1
      omega
    have hlm : ∀ a ∈ (qp ++ bq).map (·.1), a.length ≤ 3 := by
      intro a ha
      rw [List.map_append, hqp] at ha
      rcases List.mem_append.mp ha with h | h
      · obtain ⟨z, _, rfl⟩ := List.mem_map.mp h
        exact pieceF_len z
      · exact hbl a h
    have hlq : ((qp ++ bq).map (·.1)).length ≤ 27 := by
      rw [List.length_map, List.length_append]
      omega
    have hls := sum_le_mul 3 _ hlm
    have hok : (((qp ++ bq).map (fun x => x.1)).map (·.length)).sum + ((qp ++ bq).map (fun x => x.1)).length * (Str.ofString "/").length ≤ 16777216 := by
      have h1 : (Str.ofString "/").length = 1 := by decide
      rw [h1]
      omega
    have hjl : (Txt.join (Str.ofString "/") ((qp ++ bq).map (fun x => x.1))).length ≤ 200 := by
      have h1 : (Str.ofString "/").length = 1 := by decide
      have h2 := size_glued (Str.ofString "/") ((qp ++ bq).map (fun x => x.1))
      rw [h1] at h2
      unfold Txt.join
      omega
    (try dsimp only)
    k_steps
    refine Done.intro [] (by k_asm) (by k_asm) (News.one (by k_asm) (by k_mem)) ⟨str_same ?_, rfl⟩
    unfold pathF
    rw [intValues_length, List.map_append, hqp, List.length_map]
end Mine

end

section
open PySem PySem.W PySem.Calls PyProof.Rows
namespace Mine
abbrev up : Str := Str.ofString ".."
/-- a piece's weight -/
def wt (c : Str) : Int := if c == up then -1 else 1
theorem overF_nil : overF [] = 0 := rfl
theorem namesF_append (a b : List Str) : namesF (a ++ b) = namesF a + namesF b := by unfold namesF; rw [List.filter_append, List.length_append]
theorem overF_append (a b : List Str) : overF (a ++ b) = overF a + overF b := by
  unfold overF
  rw [namesF_append, List.length_append]
  omega
theorem overF_one (c : Str) : overF [c] = wt c := by
  unfold overF namesF wt
  cases h : c == up <;> simp [List.filter_cons, h, up] at h ⊢ <;> simp [h]
theorem fallsF_snoc {q : List Str} {c : Str} {i : Nat} (h : i < q.length) : fallsF (q ++ [c]) i = (fallsF q i || (q[i] != up && decide (overF (q.drop i) + wt c ≤ 0))) := by
  unfold fallsF
  rw [List.getElem?_append_left h, List.getElem?_eq_getElem h]
  simp only []
  by_cases e : (q[i] != up) = true
  · rw [if_pos e, if_pos e, List.length_append, List.length_singleton, show q.length + 1 - i = (q.length - i) + 1 by omega, List.range_succ, List.any_append]
    have e1 : ((List.range (q.length - i)).any fun k => decide (overF (((q ++ [c]).drop i).take (k + 1)) ≤ 0)) = (List.range (q.length - i)).any fun k => decide (overF ((q.drop i).take (k + 1)) ≤ 0) := by
      rw [Bool.eq_iff_iff]
      simp only [List.any_eq_true, List.mem_range]
      constructor
      · rintro ⟨k, hk, h2⟩
        refine ⟨k, hk, ?_⟩
        rw [List.drop_append_of_le_length (by omega), List.take_append_of_le_length (by rw [List.length_drop]; omega)] at h2
        exact h2
      · rintro ⟨k, hk, h2⟩
        refine ⟨k, hk, ?_⟩
        rw [List.drop_append_of_le_length (by omega), List.take_append_of_le_length (by rw [List.length_drop]; omega)]
        exact h2
    rw [e1]
    congr 1
    simp only [List.any_cons, List.any_nil, Bool.or_false, e, Bool.true_and]
    rw [List.drop_append_of_le_length (by omega), List.take_of_length_le (by rw [List.length_append, List.length_drop, List.length_singleton]; omega), overF_append, overF_one]
  · rw [if_neg e, if_neg e]
    simp only [Bool.not_eq_true] at e
    rw [e, Bool.false_and, Bool.or_false, Bool.eq_iff_iff]
    simp only [List.any_eq_true, List.mem_range]
    constructor
    · rintro ⟨j, hj, h2⟩
      refine ⟨j, hj, ?_⟩
      rw [List.drop_append_of_le_length (by omega), List.take_append_of_le_length (by rw [List.length_drop]; omega)] at h2
      exact h2
    · rintro ⟨j, hj, h2⟩
      refine ⟨j, hj, ?_⟩
      rw [List.drop_append_of_le_length (by omega), List.take_append_of_le_length (by rw [List.length_drop]; omega)]
      exact h2
theorem fallsF_last_name {q : List Str} {c : Str} (h : (c != up) = true) : fallsF (q ++ [c]) q.length = false := by
  unfold fallsF
  have e : (q ++ [c])[q.length]? = some c := by simp
  rw [e]
  simp only [h, if_true, List.length_append, List.length_singleton]
  rw [show q.length + 1 - q.length = 1 by omega]
  simp only [List.range_one, List.any_cons, List.any_nil, Bool.or_false]
  rw [List.drop_append_of_le_length (Nat.le_refl _), List.drop_length, List.nil_append]
  show decide (overF [c] ≤ 0) = false
  rw [overF_one]
  unfold wt
  have h2 : (c == up) = false := by simpa [bne] using h
  rw [h2]
  decide
theorem fallsF_last_up {q : List Str} {c : Str} (h : (c == up) = true) : fallsF (q ++ [c]) q.length = decide (∃ j, j ≤ q.length ∧ overF (q.drop j) ≥ 1) := by
  unfold fallsF
  have e : (q ++ [c])[q.length]? = some c := by simp
  have h2 : (c != up) = false := by simp [bne, h]
  rw [e]
  simp only [h2, Bool.false_eq_true, if_false]
  rw [Bool.eq_iff_iff, decide_eq_true_iff]
  simp only [List.any_eq_true, List.mem_range, decide_eq_true_eq]
  have hw : wt c = -1 := by unfold wt; rw [h]; rfl
  have key : ∀ j, j ≤ q.length → overF (((q ++ [c]).drop j).take (q.length + 1 - j)) = overF (q.drop j) - 1 := by
    intro j hj
    rw [List.drop_append_of_le_length hj, List.take_of_length_le (by rw [List.length_append, List.length_drop, List.length_singleton]; omega), overF_append, overF_one, hw]
    omega
  constructor
  · rintro ⟨j, hj, h3⟩
    rw [key j (by omega)] at h3
    exact ⟨j, by omega, by omega⟩
  · rintro ⟨j, hj, h3⟩
    exact ⟨j, by omega, by rw [key j hj]; omega⟩

/-- what is kept, with what stands over it -/
def K (lead : Int) (q : List Str) : List (Str × Int) := ((List.range q.length).filter fun k => !fallF lead q k).map fun k => (q[k]?.getD (Str.ofString ""), overF (q.drop k))
theorem K_fst (lead : Int) (q : List Str) : (K lead q).map (·.1) = keptF lead q := by
  unfold K keptF
  rw [List.map_map]
  rfl
/-- does a kept thing stay behind one piece more -/
def stays1 (c : Str) (x : Str × Int) : Bool := x.1 == up || decide (x.2 + wt c > 0)
theorem K_snoc (lead : Int) (q : List Str) (c : Str) : K lead (q ++ [c]) = ((K lead q).filter (stays1 c)).map (fun x => (x.1, x.2 + wt c)) ++ if fallF lead (q ++ [c]) q.length then [] else [(c, wt c)] := by
  unfold K
  rw [List.length_append, List.length_singleton, List.range_succ, List.filter_append, List.map_append]
  congr 1
  · rw [List.filter_map, List.filter_filter, List.map_map]
    have e1 : ((List.range q.length).filter fun k => !fallF lead (q ++ [c]) k) = (List.range q.length).filter fun k => ((stays1 c ∘ fun k => (q[k]?.getD (Str.ofString ""), overF (q.drop k))) k && !fallF lead q k) := by
      refine List.filter_congr fun k hk => ?_
      have hk := List.mem_range.mp hk
      simp only [fallF, fallsF_snoc hk, List.getElem?_append_left hk, List.getElem?_eq_getElem hk, stays1, Function.comp, Option.getD_some, bne]
      cases (decide (lead > 0) && (some q[k] == some (Str.ofString ".."))) <;> cases fallsF q k <;> simp
      cases q[k] == up <;> simp
      rw [Bool.eq_iff_iff]
      simp only [decide_eq_true_eq, Bool.not_eq_true', decide_eq_false_iff_not]
      omega
    rw [e1]
    refine List.map_congr_left fun k hk => ?_
    have hk := List.mem_range.mp (List.mem_filter.mp hk).1
    simp only [Function.comp]
    rw [List.getElem?_append_left hk, List.drop_append_of_le_length (by omega), overF_append, overF_one]
  · by_cases hf : fallF lead (q ++ [c]) q.length = true
    · simp [List.filter_cons, hf]
    · simp only [List.filter_cons, List.filter_nil]
      rw [if_neg hf]
      simp only [Bool.not_eq_true] at hf
      rw [hf]
      simp only [Bool.not_false, if_true, List.map_cons, List.map_nil, List.getElem?_concat_length, Option.getD_some]
      rw [List.drop_append_of_le_length (Nat.le_refl _), List.drop_length, List.nil_append, overF_one]

/-- names that stand, from the last one back over 1, 2, .. -/
def Down : List (Str × Int) → Prop
  | [] => True
  | x :: m => x.2 = ((m.length : Nat) : Int) + 1 ∧ (x.1 == up) = false ∧ Down m
theorem Down.push {c : Str} (hc : (c == up) = false) : ∀ {M : List (Str × Int)}, Down M → Down (M.map (fun x => (x.1, x.2 + 1)) ++ [(c, 1)])
  | [], _ => ⟨rfl, hc, trivial⟩
  | x :: m, h => ⟨by
    have e : (m.map (fun (x : Str × Int) => (x.1, x.2 + 1)) ++ [(c, (1 : Int))]).length = m.length + 1 := by simp
    have := h.1
    show x.2 + 1 = (((m.map (fun (x : Str × Int) => (x.1, x.2 + 1)) ++ [(c, (1 : Int))]).length : Nat) : Int) + 1
    rw [e]
    omega, h.2.1, Down.push hc h.2.2⟩
theorem Down.ge : ∀ {M : List (Str × Int)}, Down M → ∀ x ∈ M, x.2 ≥ 1 ∧ (x.1 == up) = false
  | [], _, x, hx => by cases hx
  | y :: m, h, x, hx => by
    rcases List.mem_cons.mp hx with rfl | hx
    · exact ⟨by have := h.1; omega, h.2.1⟩
    · exact Down.ge h.2.2 x hx
theorem Down.pop {c : Str} (hw : wt c = -1) : ∀ {M : List (Str × Int)}, Down M → (M.filter (stays1 c)).map (fun x => (x.1, x.2 + wt c)) = M.dropLast.map (fun x => (x.1, x.2 - 1)) ∧ Down (M.dropLast.map fun x => (x.1, x.2 - 1))
  | [], _ => ⟨rfl, trivial⟩
  | [x], h => by
    have h1 := h.1
    have e : stays1 c x = false := by
      unfold stays1
      rw [h.2.1, hw, Bool.false_or, decide_eq_false_iff_not]
      simp only [List.length_nil] at h1
      omega
    simp [List.filter_cons, e, Down]
  | x :: y :: m, h => by
    have h1 := h.1
    have ih := Down.pop hw (M := y :: m) h.2.2
    have e : stays1 c x = true := by
      unfold stays1
      rw [h.2.1, hw, Bool.false_or, decide_eq_true_iff]
      simp only [List.length_cons] at h1
      omega
    rw [List.filter_cons, if_pos e, List.map_cons, ih.1, List.dropLast_cons₂, List.map_cons, hw]
    refine ⟨rfl, ?_, h.2.1, ih.2⟩
    simp only [List.length_map, List.length_dropLast, List.length_cons] at h1 ⊢
    omega
/-- what the kept things are like -/
structure Inv (lead : Int) (q : List Str) (U M : List (Str × Int)) : Prop where
  eq : K lead q = U ++ M
  ups : ∀ x ∈ U, (x.1 == up) = true
  down : Down M
  top : ∀ j, j ≤ q.length → overF (q.drop j) ≤ ((M.length : Nat) : Int)
  hit : ∃ j, j ≤ q.length ∧ overF (q.drop j) = ((M.length : Nat) : Int)
  none : lead > 0 → U = []
theorem drop_snoc {q : List Str} {c : Str} {j : Nat} (h : j ≤ q.length) : overF ((q ++ [c]).drop j) = overF (q.drop j) + wt c := by
  rw [List.drop_append_of_le_length h, overF_append, overF_one]
theorem drop_all {q : List Str} {c : Str} : overF ((q ++ [c]).drop (q.length + 1)) = 0 := by
  rw [List.drop_of_length_le (by simp)]; rfl
theorem ups_stay {U : List (Str × Int)} {c : Str} (h : ∀ x ∈ U, (x.1 == up) = true) : U.filter (stays1 c) = U := List.filter_eq_self.mpr fun x hx => by unfold stays1; rw [h x hx]; rfl
theorem stk_eq {root : Str} {lead : Int} {q : List Str} (hr : root.length = 0 ↔ ¬ lead > 0) (hq : ∀ a ∈ q, a.length ≠ 0 ∧ a ≠ Str.ofString ".") : ∃ U M, Inv lead q U M ∧ q.foldl (stepF root) [] = (K lead q).map (·.1) := by
  generalize hn : q.length = n
  induction n generalizing q with
  | zero =>
    obtain rfl := List.eq_nil_of_length_eq_zero hn
    exact ⟨[], [], ⟨rfl, nofun, trivial, fun j _ => by rw [List.drop_nil]; exact Int.le_refl _, ⟨0, Nat.le_refl _, rfl⟩, fun _ => rfl⟩, rfl⟩
  | succ n ih =>
    rcases List.eq_nil_or_concat q with rfl | ⟨q, c, rfl⟩
    · cases hn
    rw [List.concat_eq_append] at hq hn ⊢
    have hn' : q.length = n := by simpa using hn
    obtain ⟨U, M, I, hs⟩ := ih (fun a ha => hq a (List.mem_append_left _ ha)) hn'
    have hc := hq c (List.mem_append_right _ (.head _))
    rw [List.foldl_append, List.foldl_cons, List.foldl_nil, hs]
    have hst : ∀ stk, stepF root stk c = if c ≠ up ∨ (root.length = 0 ∧ stk = []) ∨ stk.getLast? = some up then stk ++ [c] else stk.dropLast := by
      intro stk
      unfold stepF
      rw [if_neg (fun h => h.elim hc.1 hc.2)]
    rw [hst, K_snoc, I.eq, List.filter_append, List.map_append, ups_stay I.ups]
    cases hcu : c == up with
    | false =>
      have hw : wt c = 1 := by unfold wt; rw [hcu]; rfl
      have hne : c ≠ up := fun e => by rw [e] at hcu; simp at hcu
      have hM : M.filter (stays1 c) = M := List.filter_eq_self.mpr fun x hx => by
        have := I.down.ge x hx
        unfold stays1
        rw [this.2, hw, Bool.false_or, decide_eq_true_iff]
        omega
      have hf : fallF lead (q ++ [c]) q.length = false := by
        unfold fallF
        rw [fallsF_last_name (by simp [bne, hcu])]
        have e : (q ++ [c])[q.length]? = some c := by simp
        rw [e]
        have e2 : (some c == some (Str.ofString "..")) = false := hcu
        rw [e2]; simp
      rw [hM, hf, if_pos (.inl hne), hw]
      refine ⟨U.map (fun x => (x.1, x.2 + 1)), M.map (fun x => (x.1, x.2 + 1)) ++ [(c, 1)], ⟨?_, ?_, I.down.push hcu, ?_, ?_, fun h => by rw [I.none h]; rfl⟩, ?_⟩
      · rw [K_snoc, I.eq, List.filter_append, List.map_append, ups_stay I.ups, hM, hf, hw, List.append_assoc]; rfl
      · intro x hx
        obtain ⟨y, hy, rfl⟩ := List.mem_map.mp hx
        exact I.ups y hy
      · intro j hj
        simp only [List.length_append, List.length_map, List.length_singleton] at hj ⊢
        by_cases h : j ≤ q.length
        · rw [drop_snoc h, hw]; have := I.top j h; omega
        · obtain rfl : j = q.length + 1 := by omega
          rw [drop_all]; omega
      · obtain ⟨j, hj, e⟩ := I.hit
        refine ⟨j, by rw [List.length_append]; omega, ?_⟩
        rw [drop_snoc hj, hw, e]; simp
      · simp [List.map_append, Function.comp_def]
    | true =>
      obtain rfl : c = up := eq_of_beq hcu
      have hw : wt up = -1 := by unfold wt; rw [hcu]; rfl
      have hgl : fallsF (q ++ [up]) q.length = decide (M ≠ []) := by
        rw [fallsF_last_up hcu, Bool.eq_iff_iff, decide_eq_true_iff, decide_eq_true_iff]
        constructor
        · rintro ⟨j, hj, h⟩ rfl
          have := I.top j hj
          simp only [List.length_nil] at this
          omega
        · intro hM
          obtain ⟨j, hj, e⟩ := I.hit
          have : M.length ≠ 0 := fun h => hM (List.eq_nil_of_length_eq_zero h)
          exact ⟨j, hj, by omega⟩
      have hf : fallF lead (q ++ [up]) q.length = (decide (lead > 0) || decide (M ≠ [])) := by
        unfold fallF
        have e : (q ++ [up])[q.length]? = some up := by simp
        rw [hgl, e]
        have e2 : (some up == some (Str.ofString "..")) = true := by simp
        rw [e2, Bool.and_true]
      obtain ⟨p1, p2⟩ := I.down.pop hw
      have hinv : Inv lead (q ++ [up]) (U.map (fun x => (x.1, x.2 + -1)) ++ if M = [] ∧ ¬ lead > 0 then [(up, -1)] else []) (M.dropLast.map fun x => (x.1, x.2 - 1)) := by
        refine ⟨?_, ?_, p2, ?_, ?_, ?_⟩
        · rw [K_snoc, I.eq, List.filter_append, List.map_append, ups_stay I.ups, p1, hf, hw]
          by_cases hM : M = []
          · subst hM
            by_cases hl : lead > 0 <;> simp [hl]
          · simp [hM]
        · intro x hx
          rcases List.mem_append.mp hx with hx | hx
          · obtain ⟨y, hy, rfl⟩ := List.mem_map.mp hx
            exact I.ups y hy
          · split at hx
            · rw [List.mem_singleton.mp hx]; exact hcu
            · cases hx
        · intro j hj
          simp only [List.length_append, List.length_map, List.length_singleton, List.length_dropLast] at hj ⊢
          by_cases h : j ≤ q.length
          · rw [drop_snoc h, hw]; have := I.top j h; omega
          · obtain rfl : j = q.length + 1 := by omega
            rw [drop_all]; omega
        · simp only [List.length_map, List.length_dropLast]
          by_cases hM : M.length = 0
          · exact ⟨q.length + 1, by simp, by rw [drop_all, hM]; rfl⟩
          · obtain ⟨j, hj, e⟩ := I.hit
            refine ⟨j, by rw [List.length_append]; omega, ?_⟩
            rw [drop_snoc hj, hw, e]; omega
        · intro h
          rw [I.none h]
          simp [h]
      refine ⟨_, _, hinv, ?_⟩
      rw [List.map_append (f := fun (x : Str × Int) => (x.1, x.2 + wt up)), p1, hf, hw]
      have hm : ∀ (l : List (Str × Int)) (z : Int), (l.map fun x => (x.1, x.2 + z)).map (·.1) = l.map (·.1) := fun l z => by rw [List.map_map]; rfl
      have hm2 : ∀ (l : List (Str × Int)), (l.map fun x => (x.1, x.2 - 1)).map (·.1) = l.map (·.1) := fun l => by rw [List.map_map]; rfl
      simp only [List.map_append, hm, hm2]
      rcases List.eq_nil_or_concat M with rfl | ⟨M', x, rfl⟩
      · by_cases hl : lead > 0
        · have hr2 : ¬ root.length = 0 := fun h => (hr.mp h) hl
          rw [I.none hl]
          simp [hr2, hl]
        · have hr2 : root.length = 0 := hr.mpr hl
          have hcnd : up ≠ up ∨ root.length = 0 ∧ U.map (·.1) ++ ([] : List (Str × Int)).map (·.1) = [] ∨ (U.map (·.1) ++ ([] : List (Str × Int)).map (·.1)).getLast? = some up := by
            right
            rcases List.eq_nil_or_concat U with rfl | ⟨U', y, rfl⟩
            · left; exact ⟨hr2, rfl⟩
            · right
              have := I.ups y (by simp)
              simp [eq_of_beq this]
          rw [if_pos hcnd]
          simp [hl]
      · rw [List.concat_eq_append] at I ⊢
        have hx := (I.down.ge x (List.mem_append_right _ (.head _))).2
        have hxu : x.1 ≠ up := fun e => by rw [e] at hx; simp at hx
        have hcnd : ¬ (up ≠ up ∨ root.length = 0 ∧ U.map (·.1) ++ (M' ++ [x]).map (·.1) = [] ∨ (U.map (·.1) ++ (M' ++ [x]).map (·.1)).getLast? = some up) := by
          rintro (h | ⟨_, h⟩ | h)
          · exact h rfl
          · simp at h
          · rw [List.map_append, ← List.append_assoc, List.map_cons, List.map_nil, List.getLast?_append] at h
            simp at h
            exact hxu h
        rw [if_neg hcnd]
        have e3 : decide (M' ++ [x] ≠ []) = true := by simp
        rw [e3, Bool.or_true, if_pos rfl, List.dropLast_concat, List.map_append, ← List.append_assoc, List.map_cons, List.map_nil, List.dropLast_concat]
        simp
end Mine

end

section
open PySem PySem.W PySem.Calls PyProof.Rows PySem.Builtin.Str
namespace Mine
abbrev cs (x : Str) : List Nat := x.cps.toList
theorem str_ext {x y : Str} (h : cs x = cs y) : x = y := by
  cases x with | mk a => cases y with | mk b => exact congrArg Str.mk (Array.toList_inj.mp h)
theorem cs_len (x : Str) : (cs x).length = x.length := by unfold cs Str.length; simp
theorem slice_nat (x : Str) (a b : Nat) (hab : a ≤ b) : cs (Txt.slice x (some (a : Int)) (some (b : Int))) = ((cs x).drop a).take (b - a) := by
  have e : strSliceIndices (some (a : Int)) (some (b : Int)) 1 x.length = strSliceIndices (some ((min a x.length : Nat) : Int)) (some ((min b x.length : Nat) : Int)) 1 x.length := by
    simp only [strSliceIndices, show (1 : Int) > 0 by decide, if_true]
    congr 1 <;> (repeat' split) <;> omega
  have e2 : Txt.slice x (some (a : Int)) (some (b : Int)) = Txt.slice x (some ((min a x.length : Nat) : Int)) (some ((min b x.length : Nat) : Int)) := by
    unfold Txt.slice
    rw [e]
  rw [e2]
  show cs (StrLaws.sliceText x _ _) = _
  have hl := cs_len x
  rw [StrLaws.sliceText_plain ⟨by omega, by omega, by rw [hl]; omega⟩]
  show ((cs x).drop _).take _ = _
  refine List.ext_getElem? fun i => ?_
  simp only [List.getElem?_take, List.getElem?_drop]
  by_cases h1 : i < b - a
  · rw [if_pos h1]
    by_cases h2 : a + i < x.length
    · rw [if_pos (by omega)]
      congr 1
      omega
    · have hr : (cs x)[a + i]? = none := List.getElem?_eq_none (by rw [hl]; omega)
      rw [hr]
      split
      · exact List.getElem?_eq_none (by rw [hl]; omega)
      · rfl
  · rw [if_neg h1, if_neg (by omega)]
theorem slice_to (x : Str) (b : Nat) : cs (Txt.slice x none (some (b : Int))) = (cs x).take b := by
  have e2 : Txt.slice x none (some (b : Int)) = Txt.slice x (some ((0 : Nat) : Int)) (some (b : Int)) := by
    unfold Txt.slice
    have e : strSliceIndices none (some (b : Int)) 1 x.length = strSliceIndices (some ((0 : Nat) : Int)) (some (b : Int)) 1 x.length := by
      simp only [strSliceIndices, show (1 : Int) > 0 by decide, if_true]
      congr 1 <;> (repeat' split) <;> omega
    rw [e]
  rw [e2, slice_nat x 0 b (Nat.zero_le _), List.drop_zero, Nat.sub_zero]
theorem slice_from (x : Str) (a : Nat) : cs (Txt.slice x (some (a : Int)) none) = (cs x).drop a := by
  have e2 : Txt.slice x (some (a : Int)) none = Txt.slice x (some (a : Int)) (some ((a + x.length : Nat) : Int)) := by
    unfold Txt.slice
    have e : strSliceIndices (some (a : Int)) none 1 x.length = strSliceIndices (some (a : Int)) (some ((a + x.length : Nat) : Int)) 1 x.length := by
      simp only [strSliceIndices, show (1 : Int) > 0 by decide, if_true]
      congr 1 <;> (repeat' split) <;> omega
    rw [e]
  rw [e2, slice_nat x a _ (by omega), List.take_of_length_le (by rw [List.length_drop, cs_len]; omega)]

/-- a list cut at slashes -/
def sp : List Nat → List (List Nat)
  | [] => [[]]
  | c :: r => if c = 47 then [] :: sp r else match sp r with
    | [] => [[c]]
    | h :: t => (c :: h) :: t
def jn : List (List Nat) → List Nat
  | [] => []
  | [x] => x
  | x :: r => x ++ 47 :: jn r
theorem sp_ne : ∀ l, sp l ≠ []
  | [] => by simp [sp]
  | c :: r => by
    unfold sp
    split
    · simp
    · cases sp r <;> simp
theorem sp_free : ∀ (x l : List Nat), 47 ∉ x → sp (x ++ l) = match sp l with | [] => [x] | h :: t => (x ++ h) :: t
  | [], l, _ => by
    cases e : sp l with
    | nil => exact absurd e (sp_ne l)
    | cons h t => simp [e]
  | c :: r, l, h => by
    have hc : c ≠ 47 := fun e => h (by simp [e])
    have ih := sp_free r l fun hm => h (List.mem_cons_of_mem _ hm)
    cases e : sp l with
    | nil => exact absurd e (sp_ne l)
    | cons a t =>
      rw [e] at ih
      simp only at ih
      rw [List.cons_append, sp, if_neg hc, ih]
      rfl
theorem sp_jn : ∀ P : List (List Nat), P ≠ [] → (∀ x ∈ P, 47 ∉ x) → sp (jn P) = P
  | [], h, _ => absurd rfl h
  | [x], _, h => by
    have := sp_free x [] (h x (.head _))
    simpa [jn, sp] using this
  | x :: y :: r, _, h => by
    have ih := sp_jn (y :: r) (by simp) fun z hz => h z (.tail _ hz)
    have e : jn (x :: y :: r) = x ++ 47 :: jn (y :: r) := rfl
    rw [e, sp_free x _ (h x (.head _))]
    have e2 : sp (47 :: jn (y :: r)) = [] :: sp (jn (y :: r)) := by rw [sp, if_pos rfl]
    rw [e2, ih]
    simp
theorem join_cs : ∀ P : List Str, cs (Str.join (Str.ofString "/") P) = jn (P.map cs)
  | [] => rfl
  | [x] => rfl
  | x :: y :: r => by
    have ih := join_cs (y :: r)
    have e : Str.join (Str.ofString "/") (x :: y :: r) = x ++ Str.ofString "/" ++ Str.join (Str.ofString "/") (y :: r) := rfl
    rw [e]
    have ha : ∀ a b : Str, cs (a ++ b) = cs a ++ cs b := fun a b => by
      show (a.cps ++ b.cps).toList = _
      simp
    rw [ha, ha, ih, show cs (Str.ofString "/") = [47] from by decide]
    simp [jn]
theorem split_cs (x : Str) : (Txt.split x (Str.ofString "/")).map cs = sp (cs x) := by
  have h1 := StrLaws.join_split x (Str.ofString "/")
  have h2 := StrLaws.split_free x 47
  have e47 : (⟨#[47]⟩ : Str) = Str.ofString "/" := by decide
  rw [e47] at h2
  have h3 : (Txt.split x (Str.ofString "/")).map cs ≠ [] := by
    intro e
    have e1 : Txt.split x (Str.ofString "/") = [] := List.map_eq_nil_iff.mp e
    have hx : x = Str.empty := by rw [e1] at h1; exact h1.symm
    subst hx
    have : Txt.split Str.empty (Str.ofString "/") = [Str.empty] := by decide
    rw [this] at e1; cases e1
  rw [← sp_jn _ h3 (fun z hz => by obtain ⟨a, ha, rfl⟩ := List.mem_map.mp hz; exact h2 a ha), ← join_cs, h1]
/-- a cut behind a slash -/
theorem split_slash {x y : Str} (h : cs x = 47 :: cs y) : Txt.split x (Str.ofString "/") = Str.ofString "" :: Txt.split y (Str.ofString "/") := by
  have h1 := split_cs x
  rw [h, sp, if_pos rfl, ← split_cs y] at h1
  have inj : ∀ {a b : List Str}, a.map cs = b.map cs → a = b := by
    intro a
    induction a with
    | nil => intro b e; cases b with | nil => rfl | cons _ _ => cases e
    | cons p r ih =>
      intro b e
      cases b with
      | nil => cases e
      | cons p' r' =>
        simp only [List.map_cons, List.cons.injEq] at e
        rw [str_ext e.1, ih e.2]
  refine inj ?_
  rw [h1, List.map_cons]
  rfl

theorem ne_slash (y : Str) : (y != Str.ofString "/") = !decide (cs y = [47]) := by
  have e : (y == Str.ofString "/") = decide (cs y = [47]) := by
    rw [Bool.eq_iff_iff, beq_iff_eq, decide_eq_true_iff]
    constructor
    · rintro rfl; decide
    · intro h; exact str_ext (h.trans (by decide))
  unfold bne
  rw [e]
theorem eq_slash (y : Str) : (y == Str.ofString "/") = decide (cs y = [47]) := by
  have := ne_slash y
  unfold bne at this
  simpa using this
theorem lead_eq (x : Str) : leadF x = ((((cs x).takeWhile (· == 47)).length : Nat) : Int) := by
  have hg : (Str.ofString "/").cps.contains = fun c => c == 47 := by
    funext c
    have : (Str.ofString "/").cps = #[47] := by decide
    rw [this]
    simp [Array.contains, BEq.comm]
  have e : (Txt.lstripChars x (Str.ofString "/")).length = x.length - ((cs x).takeWhile (· == 47)).length := by
    unfold Txt.lstripChars
    rw [PyProof.Rows.stripBy_eq, hg]
    unfold stripLo stripHi strSub
    simp only [Bool.false_eq_true, if_false, if_true]
    show (x.cps.extract _ _).size = _
    rw [Array.size_extract]
    show min x.cps.size x.cps.size - _ = x.cps.size - _
    rw [Nat.min_self]
  have hle : ((cs x).takeWhile (· == 47)).length ≤ x.length := by
    rw [← cs_len]
    exact (List.takeWhile_prefix _).length_le
  unfold leadF
  rw [e]
  omega
def keepP (y : Str) : Bool := !([Str.ofString "", Str.ofString "."].contains y)
theorem cs_slice_mk (l : List Nat) : cs ⟨l.toArray⟩ = l := by simp [cs]
theorem root_tail (x : Str) : partsF x = (Txt.split (tailF x) (Str.ofString "/")).filter keepP ∧ (if leadF x = 0 then Str.ofString "" else if leadF x = 2 then Str.ofString "//" else Str.ofString "/") = rootF x ∧ ((rootF x).length = 0 ↔ ¬ leadF x > 0) := by
  have s1 : cs (Txt.slice x none (some 1)) = (cs x).take 1 := slice_to x 1
  have s2 : cs (Txt.slice x (some 1) (some 2)) = ((cs x).drop 1).take 1 := slice_nat x 1 2 (by omega)
  have s3 : cs (Txt.slice x (some 2) (some 3)) = ((cs x).drop 2).take 1 := slice_nat x 2 3 (by omega)
  have s4 : cs (Txt.slice x (some 1) none) = (cs x).drop 1 := slice_from x 1
  have s5 : cs (Txt.slice x (some 2) none) = (cs x).drop 2 := slice_from x 2
  have s6 : cs (Txt.slice x none (some 2)) = (cs x).take 2 := slice_to x 2
  have hl := lead_eq x
  have k0 : keepP (Str.ofString "") = false := by decide
  rw [show partsF x = (Txt.split x (Str.ofString "/")).filter keepP from rfl]
  unfold rootF tailF
  rw [ne_slash, ne_slash, eq_slash, s1, s2, s3, hl]
  generalize hL : cs x = l at *
  match l with
  | [] => exact ⟨by simp, by simp, by simp; decide⟩
  | c :: r =>
    by_cases hc : c = 47
    · subst hc
      match r with
      | [] =>
        have hs := split_slash (x := x) (y := Txt.slice x (some 1) none) (by rw [s4, hL]; rfl)
        refine ⟨?_, ?_, ?_⟩
        · rw [hs, List.filter_cons]; simp [k0]
        · simp
        · simp; decide
      | d :: t =>
        have hs := split_slash (x := x) (y := Txt.slice x (some 1) none) (by rw [s4, hL]; rfl)
        by_cases hd : d = 47
        · subst hd
          match t with
          | [] =>
            have hs2 := split_slash (x := Txt.slice x (some 1) none) (y := Txt.slice x (some 2) none) (by rw [s4, s5]; rfl)
            have hr : Txt.slice x none (some 2) = Str.ofString "//" := str_ext (by rw [s6]; decide)
            refine ⟨?_, ?_, ?_⟩
            · rw [hs, hs2, List.filter_cons, List.filter_cons]; simp [k0]
            · simp [hr]
            · simp [hr]; decide
          | e :: u =>
            by_cases he : e = 47
            · subst he
              refine ⟨?_, ?_, ?_⟩
              · rw [hs, List.filter_cons]; simp [k0]
              · have e3 : ((47 :: 47 :: 47 :: u).takeWhile (· == 47)).length = (u.takeWhile (· == 47)).length + 3 := by simp
                rw [e3, if_neg (by omega), if_neg (by omega)]
                simp
              · have e3 : ((47 :: 47 :: 47 :: u).takeWhile (· == 47)).length = (u.takeWhile (· == 47)).length + 3 := by simp
                have e4 : (Str.ofString "/").length = 1 := by decide
                rw [e3]
                simp [e4]
                omega
            · have hs2 := split_slash (x := Txt.slice x (some 1) none) (y := Txt.slice x (some 2) none) (by rw [s4, s5]; rfl)
              have hr : Txt.slice x none (some 2) = Str.ofString "//" := str_ext (by rw [s6]; show [47, 47] = _; decide)
              refine ⟨?_, ?_, ?_⟩
              · rw [hs, hs2, List.filter_cons, List.filter_cons]; simp [k0, he]
              · simp [hr, he]
              · simp [hr, he]; decide
        · refine ⟨?_, ?_, ?_⟩
          · rw [hs, List.filter_cons]; simp [k0, hd]
          · simp [hd]
          · simp [hd]; decide
    · exact ⟨by simp [hc], by simp [hc], by simp [hc]; decide⟩
theorem fold_keep (root : Str) : ∀ (P : List Str) (stk : List Str), P.foldl (stepF root) stk = (P.filter keepP).foldl (stepF root) stk
  | [], _ => rfl
  | c :: P, stk => by
    rw [List.filter_cons]
    by_cases h : keepP c = true
    · rw [if_pos h, List.foldl_cons, List.foldl_cons, fold_keep root P]
    · rw [if_neg h, List.foldl_cons, ← fold_keep root P]
      congr 1
      unfold stepF
      rw [if_pos ?_]
      have h' : c ∈ [Str.ofString "", Str.ofString "."] := by
        rw [← List.contains_iff_mem]
        unfold keepP at h
        cases e : [Str.ofString "", Str.ofString "."].contains c
        · rw [e] at h; exact absurd rfl h
        · rfl
      simp only [List.mem_cons, List.not_mem_nil, or_false] at h'
      rcases h' with rfl | rfl
      · exact .inl (by decide)
      · exact .inr rfl
theorem len_zero {x : Str} : x.length = 0 ↔ x = Str.ofString "" := by
  constructor
  · intro h
    have e : cs x = [] := List.eq_nil_of_length_eq_zero (by rw [cs_len]; exact h)
    exact str_ext (e.trans (by decide))
  · rintro rfl; decide
theorem pure_law (x : Str) : normF x = dueF x := by
  obtain ⟨h1, h2, h3⟩ := root_tail x
  have hq : ∀ a ∈ partsF x, a.length ≠ 0 ∧ a ≠ Str.ofString "." := by
    intro a ha
    unfold partsF at ha
    have h := (List.mem_filter.mp ha).2
    simp only [Bool.not_eq_true', List.contains_eq_mem, List.mem_cons, List.not_mem_nil, or_false, decide_eq_false_iff_not, not_or] at h
    exact ⟨fun e => h.1 (len_zero.mp e), h.2⟩
  obtain ⟨U, M, _, hs⟩ := stk_eq (root := rootF x) (lead := leadF x) h3 hq
  have hd : rootF x ++ Txt.join (Str.ofString "/") ((Txt.split (tailF x) (Str.ofString "/")).foldl (stepF (rootF x)) []) = dueOf (leadF x) (partsF x) := by
    unfold dueOf
    rw [fold_keep, ← h1, hs, K_fst, h2]
  unfold normF dueF
  rw [hd]
  by_cases hx : x.length = 0
  · obtain rfl := len_zero.mp hx
    rw [if_pos hx]
    decide
  · rw [if_neg hx]
    by_cases hz : (dueOf (leadF x) (partsF x)).length = 0
    · rw [if_pos hz, if_neg (by rw [len_zero.mp hz]; decide)]
    · rw [if_neg hz, if_pos (by rw [bne_iff_ne]; exact fun e => hz (len_zero.mpr e))]
end Mine

end

section
open PySem PySem.W PySem.Calls PyProof.Rows
namespace Mine
theorem fill_part12 : PySem.Challenge.rw_il0001_01 = PySem.Challenge.rw_il0001_01 ∧ Mine.hd.heap_39 = Mine.hd.heap_39 := by k_fill; exact ⟨rfl, rfl⟩
local macro_rules | `(tactic| k_units) => `(tactic| ktr_units)
local macro_rules | `(tactic| k_room) => `(tactic| ktr_room)

def behindA : List Str := [Str.ofString "a", Str.ofString "..", Str.ofString "..", Str.ofString "b", Str.ofString ".", Str.ofString "", Str.ofString "c", Str.ofString "..", Str.ofString "a"]
def behindB : List Str := [Str.ofString "a", Str.ofString ".."]
theorem pathA_spec (w : World) (sc b : Addr) (qn : List (Int × Tok)) (t1 t2 t3 t4 t5 t6 t7 t8 t9 : Tok) (nb : Nat) (hn : qn.length ≤ 63) :
    Spec w 2 60 157 [.ref sc, .ref b] (fun base news => base.IsList sc (intValues qn).toArray ∧ (b, listOf #[.str (Str.ofString "a") t1, .str (Str.ofString "..") t2, .str (Str.ofString "..") t3, .str (Str.ofString "b") t4, .str (Str.ofString ".") t5, .str (Str.ofString "") t6, .str (Str.ofString "c") t7, .str (Str.ofString "..") t8, .str (Str.ofString "a") t9] nb) ∈ news)
      (fun res v => (∃ t, v = .str (pathF (qn.map (·.1)) behindA) t) ∧ res = []) :=
  path_spec w sc b qn [(Str.ofString "a", t1), (Str.ofString "..", t2), (Str.ofString "..", t3), (Str.ofString "b", t4), (Str.ofString ".", t5), (Str.ofString "", t6), (Str.ofString "c", t7), (Str.ofString "..", t8), (Str.ofString "a", t9)] nb hn (by show 9 ≤ 20; decide)
    (show ∀ a ∈ behindA, a.length ≤ 3 by decide)
theorem pathB_spec (w : World) (sc b : Addr) (qn : List (Int × Tok)) (t1 t2 : Tok) (nb : Nat) (hn : qn.length ≤ 63) :
    Spec w 2 60 157 [.ref sc, .ref b] (fun base news => base.IsList sc (intValues qn).toArray ∧ (b, listOf #[.str (Str.ofString "a") t1, .str (Str.ofString "..") t2] nb) ∈ news)
      (fun res v => (∃ t, v = .str (pathF (qn.map (·.1)) behindB) t) ∧ res = []) :=
  path_spec w sc b qn [(Str.ofString "a", t1), (Str.ofString "..", t2)] nb hn (by show 2 ≤ 20; decide) (show ∀ a ∈ behindB, a.length ≤ 3 by decide)
theorem pathF_len (ns : List Int) (behind : List Str) (hb : behind.length ≤ 20) (hbl : ∀ a ∈ behind, a.length ≤ 3) : (pathF ns behind).length ≤ 998 := by
  have hlm : ∀ a ∈ (ns.take 7).map pieceF ++ behind, a.length ≤ 3 := by
    intro a ha
    rcases List.mem_append.mp ha with h | h
    · obtain ⟨z, _, rfl⟩ := List.mem_map.mp h
      exact pieceF_len z
    · exact hbl a h
  have hlq : ((ns.take 7).map pieceF ++ behind).length ≤ 27 := by
    rw [List.length_append, List.length_map, List.length_take]
    omega
  have hls := sum_le_mul 3 _ hlm
  have h1 : (Str.ofString "/").length = 1 := by decide
  have h2 := size_glued (Str.ofString "/") ((ns.take 7).map pieceF ++ behind)
  rw [h1] at h2
  have h3 := len_mul (Str.ofString "/") (((ns.length : Nat) : Int).fmod 4)
  have h4 : (((ns.length : Nat) : Int).fmod 4) < 4 := fmod_hi _ (by decide)
  have h5 : 0 ≤ (((ns.length : Nat) : Int).fmod 4) := fmod_lo _ (by decide)
  have e : ∀ a b : Str, (a ++ b).length = a.length + b.length := fun a b => Str.length_append a b
  unfold pathF
  rw [e]
  have h6 : (Txt.join (Str.ofString "/") ((ns.take 7).map pieceF ++ behind)).length ≤ 200 := by
    unfold Txt.join
    omega
  rw [h1] at h3
  have h7 : ((Txt.mul (Str.ofString "/") (((ns.length : Nat) : Int).fmod 4)).length : Int) ≤ 4 := by
    rw [h3]
    split <;> omega
  omega

theorem strs_end {f : Str → Str} {ys : List Value} {ns : List Str} {i : Nat} {z x : Str} {t : Tok} (hR : StrsL ys ((ns.take i).map f)) (hk : ns[i]? = some z) (e : x = f z) : StrsL (ys ++ [.str x t]) ((ns.take (i + 1)).map f) := by
  subst e
  rw [List.take_succ, hk, List.map_append]
  exact hR.snoc (f z) t

local macro_rules | `(tactic| walk_at "eval ListComp") => `(tactic| ((with_reducible show wpAny _ _ (eval (PySem.Expr.ListComp _ _ _ _) _) _ _ _); refine Halt.out ?_))
local macro_rules | `(tactic| walk_at "pyIter ref") => `(tactic| ((with_reducible show wpAny _ _ (pyIter (Value.ref _)) (CPackS _ _ _ _ _ _ _ _ _ _ _ _ _ _ _ _ _ _ _) _ _); refine Halt.out ?_))
local macro_rules | `(tactic| walk_at "call ref") => `(tactic| ((with_reducible show wpAny _ _ (call (Value.ref _) _) _ _ _); refine Halt.out ?_))
local macro_rules | `(tactic| walk_at "call ref") => `(tactic| (k_here; k_dflt (refine' Spec.use (pathB_spec _ _ _ _ _ _ _ ?ka) ?kG ?kR ?kF ?kN ?kf ?kk ?kd ?ku ?kp ?_; (case kF => k_asm); (case kN => k_asm); (case kG => k_asm); (case kR => k_asm); (case kf => exact rfl); (case kk => exact rfl); (case kp => exact ⟨by assumption, by k_mem⟩); (case kd => exact Nat.le_of_ble_eq_true rfl); (case ku => exact Nat.le_of_ble_eq_true rfl); (case ka => assumption); k_whole; intro v h' tk' g' res G' R' X' T' F' N' hp'; obtain ⟨⟨t', hv'⟩, hr'⟩ := hp'; subst hv'; subst hr'; (try simp only [List.cons_append, List.nil_append] at N'); (try k_sweep))))
local macro_rules | `(tactic| walk_at "call ref") => `(tactic| (k_here; k_dflt (refine' Spec.use (pathA_spec _ _ _ _ _ _ _ _ _ _ _ _ _ _ ?ka) ?kG ?kR ?kF ?kN ?kf ?kk ?kd ?ku ?kp ?_; (case kF => k_asm); (case kN => k_asm); (case kG => k_asm); (case kR => k_asm); (case kf => exact rfl); (case kk => exact rfl); (case kp => exact ⟨by assumption, by k_mem⟩); (case kd => exact Nat.le_of_ble_eq_true rfl); (case ku => exact Nat.le_of_ble_eq_true rfl); (case ka => assumption); k_whole; intro v h' tk' g' res G' R' X' T' F' N' hp'; obtain ⟨⟨t', hv'⟩, hr'⟩ := hp'; subst hv'; subst hr'; (try simp only [List.cons_append, List.nil_append] at N'); (try k_sweep))))
local macro_rules | `(tactic| walk_at "call ref") => `(tactic| (k_here; k_dflt (refine' Spec.use (normpath_spec _ _ _ ?ka) ?kG ?kR ?kF ?kN ?kf ?kk ?kd ?ku ?kp ?_; (case kF => k_asm); (case kN => k_asm); (case kG => k_asm); (case kR => k_asm); (case kf => exact rfl); (case kk => exact rfl); (case kp => trivial); (case kd => exact Nat.le_of_ble_eq_true rfl); (case ku => exact Nat.le_of_ble_eq_true rfl); (case ka => omega); k_whole; intro v h' tk' g' res G' R' X' T' F' N' hp'; obtain ⟨⟨t', hv'⟩, hr'⟩ := hp'; subst hv'; subst hr'; (try simp only [List.cons_append, List.nil_append] at N'); (try k_sweep))))
local macro_rules | `(tactic| walk_at "call ref") => `(tactic| (k_here; k_dflt (refine' Spec.use (due_spec _ _ _ ?ka) ?kG ?kR ?kF ?kN ?kf ?kk ?kd ?ku ?kp ?_; (case kF => k_asm); (case kN => k_asm); (case kG => k_asm); (case kR => k_asm); (case kf => exact rfl); (case kk => exact rfl); (case kp => trivial); (case kd => exact Nat.le_of_ble_eq_true rfl); (case ku => exact Nat.le_of_ble_eq_true rfl); (case ka => omega); k_whole; intro v h' tk' g' res G' R' X' T' F' N' hp'; obtain ⟨⟨t', hv'⟩, hr'⟩ := hp'; subst hv'; subst hr'; (try simp only [List.cons_append, List.nil_append] at N'); (try k_sweep))))
/-- the two paths drawn -/
def drawnF (ns : List Int) : List Str := [pathF ns behindA, pathF ns behindB]
theorem drawn_len {ns : List Int} {z : Str} (h : z ∈ drawnF ns) : z.length ≤ 998 := by
  unfold drawnF at h
  simp only [List.mem_cons, List.not_mem_nil, or_false] at h
  rcases h with rfl | rfl
  · exact pathF_len _ _ (by decide) (by decide)
  · exact pathF_len _ _ (by decide) (by decide)
theorem two_at {ns : List Int} {t u : Tok} {i : Nat} {v : Value} (h : ([.str (pathF ns behindA) t, .str (pathF ns behindB) u] : List Value)[i]? = some v) : ∃ z t', (drawnF ns)[i]? = some z ∧ v = .str z t' ∧ z.length ≤ 998 := by
  match i, h with
  | 0, h => cases h; exact ⟨_, _, rfl, rfl, drawn_len (.head _)⟩
  | 1, h => cases h; exact ⟨_, _, rfl, rfl, drawn_len (.tail _ (.head _))⟩
  | i + 2, h => cases h
section
variable {w : World} {A : Around} {E : Value → Shared → Prop} {s : Shared} {h₀ : Heap} {L a b : Addr} {news : List (Addr × Obj)} {n k : Nat} {qa qb : List (Str × Tok)}
theorem eq_strs {Q : Value → Shared → Prop} (N : News h₀ L s.heap news) (ha : (a, listOf (strValues qa).toArray n) ∈ news) (hb : (b, listOf (strValues qb).toArray k) ∈ news) (e : qa.map (·.1) = qb.map (·.1)) (hu : A.units < cLine) (h : Q (.bool true) s) :
    wpAny (model prog w) A (compareOp .Eq (.ref a) (.ref b)) Q E s := by
  have hl : qa.length = qb.length := by rw [← List.length_map (f := (·.1)), e, List.length_map]
  refine SeqAt.eq_listAt (e := fun _ => true) (items := (strValues qa).toArray) (items2 := (strValues qb).toArray) ⟨_, N.get ha, rfl, _, rfl⟩ ⟨_, N.get hb, rfl, _, rfl⟩ (by rw [List.size_toArray, List.size_toArray, strValues_length, strValues_length, hl]) hu (fun j h1 h2 => ?_) (by rw [List.all_eq_true.mpr fun _ _ => rfl]; exact h)
  rw [List.size_toArray, strValues_length] at h1 h2
  have e1 : (strValues qa).toArray[j] = .str qa[j].1 qa[j].2 := by simp [strValues]
  have e2 : (strValues qb).toArray[j] = .str qb[j].1 qb[j].2 := by simp [strValues]
  have e3 : qa[j].1 = qb[j].1 := by
    have z := congrArg (·[j]?) e
    simp only [List.getElem?_map, List.getElem?_eq_getElem h1, List.getElem?_eq_getElem h2, Option.map_some, Option.some.injEq] at z
    exact z
  rw [e1, e2, e3]
  have z := SeqAt.EqAt.str_str (A := A.in1) (s := s) qb[j].1 qa[j].2 qb[j].1 qb[j].2
  rw [beq_self_eq_true] at z
  exact z
end
local macro_rules | `(tactic| walk_at "compareOp Eq ref ref") => `(tactic| (k_here; k_dflt (refine' eq_strs ?k1 ?k2 ?k3 ?k4 ?k5 ?_; (case k1 => k_asm); (case k2 => k_mem); (case k3 => k_mem); (case k4 => assumption); (case k5 => exact Nat.le_of_ble_eq_true rfl); k_whole)))
theorem Rebase.ofG {w : World} {base g : Heap} {rest : List Env} {mean : ExcName → Option Value} {mg mb : Str → Option Value} (_ : Gnd w base rest g mean mg mb) : Rebase (frs rest) g g := Rebase.refl _ _
theorem drawn_same (ns : List Int) : (drawnF ns).map normF = (drawnF ns).map dueF := List.map_congr_left fun x _ => pure_law x
theorem fr_over {g g' h : Heap} {L : Addr} {m : Str → Option Value} (R : Rebase (frs []) g g') (F : Fr g' L h m) : Fr g L h m := ⟨F.ns, fun b o e => F.keep _ _ (R.exact (by simp [frs]) e), R.size ▸ F.above⟩
theorem drawn_take (ns : List Int) (n : Nat) (h : n = 2) (f : Str → Str) : ((drawnF ns).take n).map f = (drawnF ns).map f := by subst h; rfl
set_option maxRecDepth 100000 in
set_option maxHeartbeats 1600000 in
theorem t1 : PySem.Challenge.rw_il0001_01.Holds := Mine.hd (by
  k_go0
  (all_goals try k_fold)
  rename Top _ _ _ _ _ _ => T0
  rename Frag.In _ _ => KX0
  rename Below _ _ _ _ => K0
  have G0 : Gnd _ _ [] _ _ _ _ := ⟨K0.stays, K0.frames, KX0, T0⟩
  rename Fr _ _ _ _ => F0
  rename News _ _ _ _ => N0
  have R0 := Rebase.ofG G0
  rename IntsAre _ _ => hI
  rename Heap.IsList _ _ _ => hL
  obtain ⟨qn, hqv, hqn⟩ := IntsAre.vals hI
  subst hqv
  rename ¬ _ < _ => hlen0
  have hlen : qn.length ≤ 63 := by rw [← hqn, List.length_map] at hlen0; omega
  k_steps
  rename Fr _ _ _ _ => F3
  rename News _ _ _ _ => N3
  refine Halt.mk ?_
  refine listComp_at (F := F3) (by k_asm) N3 (by k_asm) (by with_unfolding_all rfl) (by decide) (by rfl) (by decide) (by rfl) ?_
  k_steps
  · refine Halt.mk ?_
    rename Fr _ _ _ _ => F5
    rename News _ _ _ _ => N5
    refine cpack_list (vs := [.str (pathF (qn.map (·.1)) behindA) _, .str (pathF (qn.map (·.1)) behindB) _]) (fun p hp => by first | exact hp | exact .tail _ hp | exact .tail _ (.tail _ hp)) (fun i ys => StrsL ys (((drawnF (qn.map (·.1))).take i).map normF)) rfl (by k_mem) (by show 2 ≤ 2000000; decide) StrsL.nil (fun i ys h => by rw [h.length, List.length_map, List.length_take]; omega) ⟨_, _, _, rfl, by k_asm, by k_asm, F5, N5⟩ ?_ ?_
    · intro C D I i v ys oC oI c g1 h1 tk1 m₂ hvi hR G1 R1 X1 T1 F6 N6 hC hx'
      clear F5 N5
      obtain ⟨z, t', hk, rfl, hzl⟩ := two_at hvi
      k_steps
      refine EltIs.intro ?_ (by k_asm) (by k_asm) (by k_asm) (by k_asm) (fun p hp => by first | exact hp | exact .tail _ hp | exact .tail _ (.tail _ hp))
      exact strs_end hR hk rfl
    · intro D c s' ys hR hcs
      obtain ⟨g2, h2, tk2, rfl, G2, R2, F2, N2⟩ := hcs
      obtain ⟨qa, hqa, rfl⟩ := hR
      clear F5 N5
      have X2 := G2.X
      have T2 := G2.T
      (try dsimp only)
      k_steps
      rename Fr _ _ _ _ => F7
      rename News _ _ _ _ => N7
      refine Halt.mk ?_
      refine listComp_at (F := F7) (by k_asm) N7 (by k_asm) (by with_unfolding_all rfl) (by decide) (by rfl) (by decide) (by rfl) ?_
      k_steps
      refine Halt.mk ?_
      rename Fr _ _ _ _ => F8
      rename News _ _ _ _ => N8
      refine cpack_list (vs := [.str (pathF (qn.map (·.1)) behindA) _, .str (pathF (qn.map (·.1)) behindB) _]) (fun p hp => by first | exact hp | exact .tail _ hp | exact .tail _ (.tail _ hp)) (fun i ys => StrsL ys (((drawnF (qn.map (·.1))).take i).map dueF)) rfl (by k_mem) (by show 2 ≤ 2000000; decide) StrsL.nil (fun i ys h => by rw [h.length, List.length_map, List.length_take]; omega) ⟨_, _, _, rfl, by k_asm, by k_asm, F8, N8⟩ ?_ ?_
      · intro C D I i v ys oC oI c g1 h1 tk1 m₂ hvi hR G1 R1 X1 T1 F6 N6 hC hx'
        clear F8 N8
        obtain ⟨z, t', hk, rfl, hzl⟩ := two_at hvi
        k_steps
        refine EltIs.intro ?_ (by k_asm) (by k_asm) (by k_asm) (by k_asm) (fun p hp => by first | exact hp | exact .tail _ hp | exact .tail _ (.tail _ hp))
        exact strs_end hR hk rfl
      · intro D2 c2 s' ys hR hcs
        obtain ⟨g3, h3, tk3, rfl, G3, R3, F9, N9⟩ := hcs
        obtain ⟨qb, hqb, rfl⟩ := hR
        clear F8 N8
        have X3 := G3.X
        have T3 := G3.T
        have heq : qa.map (·.1) = qb.map (·.1) := by
          exact hqa.trans ((drawn_take _ _ rfl _).trans ((drawn_same _).trans ((drawn_take _ _ rfl _).symm.trans hqb.symm)))
        (try dsimp only)
        k_steps
        have F10 := fr_over R3 F9
        clear F9
        k_steps)
end Mine

end

theorem PySem.Challenge.cw_il0001_01_holds : PySem.Challenge.rw_il0001_01.Holds := by
  exact Mine.t1

