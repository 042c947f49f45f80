import PyProof.Rows.All
import Wide.All
import OpenK.AllK
import Wide.FinOn
import Lean
import PySem.Challenge.RW_pa0016_01
set_option Elab.async false
set_option compiler.extract_closed false
namespace Mine
-- A2
section
open PySem PySem.W PySem.Calls PyProof.Rows
/-- the top of a text comes to a state from which its functions may be called -/
noncomputable def Beh (p q : Program) (loose : List Str) (XP : (Str → Option Value) → Heap → Prop) (YP : World → Heap → Prop) (w : World) : Prop :=
  (∃ s, AfterRun (opening p) w s) ∧ ∀ s, AfterRun (opening p) w s → ∃ s₀, fenceModules? p s = some s₀ ∧ s₀.gens = #[] ∧ ∃ s₁, TopRan p w s₀ s₁ ∧ s₁.asleep ∧ s₁.gens = #[] ∧ s₁.heap.isNs mainGlobals = true ∧
    Ground q loose [] XP w s₁ (s₁.heap.nsMap mainGlobals) (s₁.heap.nsMap builtinsNs) s₁.heap ∧ YP w s₁.heap
/-- a row without records holds where its top ran and its function, called from there, answers -/
theorem holds_ran {r : OpenRow} {q : Program} {loose : List Str} {XP : (Str → Option Value) → Heap → Prop} {YP : World → Heap → Prop} {d : DefRec} {kwd : List (Str × PySem.Expr)}
    (beh : ∀ w, Beh r.prog q loose XP YP w) (hrec : r.records = [])
    (hXk : ∀ mg h h', XP mg h → (∀ b o, h.get? b = some o → h'.get? b = some o) → XP mg h') (hYk : ∀ w h h', YP w h → (∀ b o, h.get? b = some o → h'.get? b = some o) → YP w h')
    (hdef : defOf q r.name = some (d, kwd)) (hp : r.prog.theDef r.name = some (d.params, d.body, d.scope)) (hk : kwWritten? d.params.kwonlyargs d.params.kw_defaults = some kwd)
    (k1 : r.wellSaid = true) (hop : opensWell r.prog = true) (hfr : frees r.toRowW = true) (hwi : r.within = []) (hb : r.prog.bare) (hw : r.toRowW.promised)
    (call : ∀ (w : World) (s₀ s₁ : Shared) (mg mb : Str → Option Value), Ground q loose r.records XP w s₀ mg mb s₁.heap → YP w s₁.heap → s₁.gens = #[] → ∀ (f : Addr), mg r.name = some (.ref f) → ∀ (args : List WData) (vs : List Value) (as : List Addr),
      r.claim.pre args = true → WData.layableAll args = true → ReadsAllW r.records (classAt s₀.heap) s₁.heap vs args as → WellAll w.params s₁.heap vs args → (∀ a ∈ as, (a == sysModules) = false) →
        wpAny (model r.prog w) callerA (PySem.call (.ref f) vs) (fun v s' => GoodWG r.claim (classAt s₀.heap) (ExcName.means s₀.heap) args s₁ (.ok (.ret v)) s')
          (fun e s' => GoodWG r.claim (classAt s₀.heap) (ExcName.means s₀.heap) args s₁ (.error e) s') s₁) : r.Holds := by
  obtain ⟨hsame, hu, ha, hap, hm⟩ := frees_parts hfr
  have hi := ident_freeW hu ha hap
  have nil : ∀ {x}, x ∉ r.claim.records := fun {x} z => by
    have z : x ∈ r.records := z
    rw [hrec] at z; cases z
  refine ⟨k1, hw, ⟨hb, hop, by show r.makers.map _ = []; rw [hm]; rfl⟩, hw.witness, fun w => ⟨(beh w).1, fun s' hs' => ?_⟩⟩
  obtain ⟨s₀, hf, hg0, s, hT, hz, hgens, hg, G0, y⟩ := (beh w).2 s' hs'
  refine ⟨s₀, hf, hg0, s, hT, fun n hn => ?_, fun x hx => (nil hx).elim, fun x hx => (nil hx).elim, ?_⟩
  · obtain rfl : n = r.name := by split at hn <;> simp_all
    exact pinned_of_view hg G0 hdef hp hk
  have G : Ground q loose r.records XP w s (s.heap.nsMap mainGlobals) (s.heap.nsMap builtinsNs) s.heap := by rw [hrec]; exact G0
  refine ClaimW.callFrom_of_specG (c := r.claim) hz hgens fun args hpre hlay ord hord => ?_
  obtain ⟨⟨vs, s₁⟩, hlaid⟩ := Option.isSome_iff_exists.mp (layAllW_isSome (P := w.params) (ord := ord) G.has args r.args s (pre_splitW hpre).1)
  have keeps := layAllW_keeps _ _ _ hlaid
  have hal := layAllW_rest _ _ _ hlaid
  obtain ⟨as, hrd, hin, hold⟩ := reads_layAllW hord _ _ _ hlaid hlay s₁.heap (fun _ _ e => e)
  have L : Laid r.records w s s₁ args vs as := ⟨⟨ord, hord, hlaid⟩, hrd, hin, hold, keeps, hal.1.trans hgens, hal.2.2.1⟩
  have G₁ := G.keeps hXk keeps
  obtain ⟨f, _, _, _, _, _, _, hmg, _⟩ := G₁.fn hdef
  have hmg' := hmg
  have hn := defOf_name hdef
  refine ⟨vs, s₁, hlaid, ?_⟩
  refine wpAny_bind (wpAny_nsGet G₁.T.g ?_)
  rw [hmg]
  refine wpAny_bind (wpAny_mono (call w s s₁ _ _ G₁ (hYk _ _ _ y keeps) L.gens f hmg args vs as hpre hlay L.reads L.well (L.low G.low)) (fun v s' g => wpAny_pure ?_) fun e s' g => ?_)
  · have z := g.laid (c := r.claim) hsame hwi hi L
    exact ⟨_, rfl, z.1, z.2.1, z.2.2, fun _ => ⟨namesKept_of hT hg _ keeps g.2.1.old, fun x hx => (nil hx).elim⟩⟩
  · have z := g.laid (c := r.claim) hsame hwi hi L
    exact ⟨z.1, z.2.1, z.2.2, fun _ => ⟨namesKept_of hT hg _ keeps g.2.1.old, fun x hx => (nil hx).elim⟩⟩
end
-- Ev
section
open PySem PySem.W

noncomputable abbrev EOut (α : Type) := Option (Except Value α × Pos × SharedT)
noncomputable abbrev ECode := Ctx → Pos → SharedT → Option (Result × SharedT)

noncomputable def evT {α : Type} (up : Nat → Bool) (den : ECode) (prog : Program) (w : World) (Γ : Ctx) (t : Sem α) : Pos → SharedT → EOut α :=
  @Sem.rec α (fun _ => Pos → SharedT → EOut α)
    (fun a p s => some (.ok a, p, s))
    (fun e p s => some (.error e, p, s))
    (fun _ _ _ => none)
    (fun _ _ _ => none)
    (fun _ _ ih p s => ih () p s)
    (fun p' _ ih _ s => ih () p' s)
    (fun a _ _ ih p s => match Nat.blt a s.n with
      | true => match s.tree.get a with
        | some o => match alive o with
          | some o' => ih o' p s
          | none => none
        | none => none
      | false => none)
    (fun a _ f _ ih p s => match Nat.blt a s.n with
      | true => match s.tree.get a with
        | some o => match alive o with
          | some _ => match up a with
            | true => ih () p ⟨s.tree.set a f, s.n, s.life, s.gens, s.drawn, s.toks, s.os⟩
            | false => none
          | none => none
        | none => none
      | false => none)
    (fun o _ ih p s => match ((s.tree.ins s.n o).get s.n).isSome with
      | true => ih s.n p ⟨s.tree.ins s.n o, s.n + 1, s.life, s.gens, s.drawn, s.toks, s.os⟩
      | false => none)
    (fun a _ ih p s => match Nat.blt a s.n with
      | true => match s.tree.get a with
        | some o => ih (alive o) p s
        | none => none
      | false => ih none p s)
    (fun _ _ ih p s => ih () p s)
    (fun _ _ _ _ _ => none)
    (fun _ ih p s => ih s.toks p ⟨s.tree, s.n, s.life, s.gens, s.drawn, s.toks + 1, s.os⟩)
    (fun _ ih p s => ih ⟨prog, w.params⟩ p s)
    (fun _ _ _ _ _ _ => none)
    (fun _ _ _ _ _ _ => none)
    (fun c h _ _ _ ih p s => match den (Γ.enter c h p) p s with
      | some (r, s') => ih r p s'
      | none => none)
    (fun own _ ih p s => ih (if own then Γ.own else Γ.handled) p s)
    (fun _ _ _ _ _ => none)
    (fun _ _ _ _ _ => none)
    (fun _ _ _ _ _ _ _ => none)
    (fun _ _ _ _ _ _ _ => none)
    (fun _ ih p s => ih ((Γ.code, p) :: Γ.below) p s)
    (fun _ _ _ _ _ => none)
    (fun _ ih p s => ih 0 p s)
    (fun _ _ _ _ _ _ _ _ => none)
    t

noncomputable def evC (up : Nat → Bool) (dn : Code → Sem Fin) (prog : Program) (w : World) (n : Nat) : ECode :=
  @Nat.rec (fun _ => ECode) (fun _ _ _ => none)
    (fun _ ih Γ p s => match evT up ih prog w Γ (dn Γ.code) p s with
      | some (.ok (.done f), _, s') => some (.ok f, s')
      | some (.ok (.again c), p', s') => match c.quiet with
        | true => ih (Γ.goto c) p' s'
        | false => none
      | some (.error e, _, s') => some (.error e, s')
      | none => none) n

/-- what the evaluator says of a run is so -/
noncomputable def ESound (dn : Code → Sem Fin) (prog : Program) (w : World) (den : ECode) : Prop :=
  ∀ Γ p s r s', den Γ p s = some (r, s') → Returns ⟨dn, prog, w⟩ Γ p s.abs r s'.abs

theorem get_abs {s : SharedT} {a : Addr} {o o' : Obj} (hb : Nat.blt a s.n = true) (hg : s.tree.get a = some o) (ha : alive o = some o') : s.abs.heap.get? a = some o' := by
  have h : a < s.n := Nat.le_of_ble_eq_true hb
  exact (abs_get h hg).trans ha

theorem evT_sound {α : Type} {up : Nat → Bool} {dn : Code → Sem Fin} {prog : Program} {w : World} {den : ECode} (hden : ESound dn prog w den) (Γ : Ctx) (t : Sem α) :
    ∀ (p : Pos) (s : SharedT) (r : Except Value α) (p' : Pos) (s' : SharedT) (Q : α → Pos → Shared → Prop) (E : Value → Pos → Shared → Prop),
      evT up den prog w Γ t p s = some (r, p', s') → (match r with | .ok a => Q a p' s'.abs | .error e => E e p' s'.abs) → Sem.wp ⟨dn, prog, w⟩ Γ t Q E p s.abs := by
  induction t with
  | pure a => intro p s r p' s' Q E e h; cases e; exact h
  | raise x => intro p s r p' s' Q E e h; cases e; exact h
  | unsupported _ => intro p s r p' s' Q E e h; cases e
  | finish _ => intro p s r p' s' Q E e h; cases e
  | rule tag k ih => intro p s r p' s' Q E e h; exact ih () p s r p' s' Q E e h
  | «at» p₀ k ih => intro p s r p' s' Q E e h; exact ih () p₀ s r p' s' Q E e h
  | load a part k ih =>
    intro p s r p' s' Q E e h
    change (match Nat.blt a s.n with
      | true => match s.tree.get a with
        | some o => match alive o with
          | some o' => evT up den prog w Γ (k o') p s
          | none => none
        | none => none
      | false => none) = _ at e
    split at e
    · rename_i hb
      split at e
      · rename_i o hg
        split at e
        · rename_i o' ha
          exact ⟨o', get_abs hb hg ha, ih o' p s r p' s' Q E e h⟩
        · cases e
      · cases e
    · cases e
  | update a part f k ih =>
    intro p s r p' s' Q E e h
    change (match Nat.blt a s.n with
      | true => match s.tree.get a with
        | some o => match alive o with
          | some _ => match up a with
            | true => evT up den prog w Γ (k ()) p ⟨s.tree.set a f, s.n, s.life, s.gens, s.drawn, s.toks, s.os⟩
            | false => none
          | none => none
        | none => none
      | false => none) = _ at e
    split at e
    · rename_i hb
      split at e
      · rename_i o hg
        split at e
        · rename_i o' ha
          split at e
          case h_2 => cases e
          have z := ih () p _ r p' s' Q E e h
          refine ⟨by rw [get_abs hb hg ha]; rfl, ?_⟩
          have q : (SharedT.abs ⟨s.tree.set a f, s.n, s.life, s.gens, s.drawn, s.toks, s.os⟩) = { s.abs with heap := s.abs.heap.update a f } := by
            show Shared.mk (absHeap (s.tree.set a f) s.n s.life) _ _ _ _ = _
            rw [absHeap_set hg]; rfl
          rw [q] at z
          exact z
        · cases e
      · cases e
    · cases e
  | alloc o k ih =>
    intro p s r p' s' Q E e h
    change (match ((s.tree.ins s.n o).get s.n).isSome with
      | true => evT up den prog w Γ (k s.n) p ⟨s.tree.ins s.n o, s.n + 1, s.life, s.gens, s.drawn, s.toks, s.os⟩
      | false => none) = _ at e
    split at e
    · rename_i hg
      have z := ih s.n p _ r p' s' Q E e h
      have q : (SharedT.abs ⟨s.tree.ins s.n o, s.n + 1, s.life, s.gens, s.drawn, s.toks, s.os⟩) = { s.abs with heap := s.abs.heap.push o } := by
        show Shared.mk (absHeap (s.tree.ins s.n o) (s.n + 1) s.life) _ _ _ _ = _
        rw [absHeap_ins hg]; rfl
      rw [q] at z
      have n : s.abs.heap.objs.size = s.n := absHeap_size ..
      show Sem.wp _ Γ (k s.abs.heap.objs.size) Q E p _
      rw [n]
      exact z
    · cases e
  | loadIfAlive a k ih =>
    intro p s r p' s' Q E e h
    change (match Nat.blt a s.n with
      | true => match s.tree.get a with
        | some o => evT up den prog w Γ (k (alive o)) p s
        | none => none
      | false => evT up den prog w Γ (k none) p s) = _ at e
    show Sem.wp _ Γ (k (s.abs.heap.get? a)) Q E p _
    split at e
    · rename_i hb
      split at e
      · rename_i o hg
        have h' : a < s.n := Nat.le_of_ble_eq_true hb
        have q : s.abs.heap.get? a = alive o := abs_get h' hg
        rw [q]
        exact ih _ p s r p' s' Q E e h
      · cases e
    · rename_i hb
      have h' : ¬ a < s.n := fun z => by have : Nat.blt a s.n = true := Nat.ble_eq_true_of_le z; rw [this] at hb; cases hb
      have q : s.abs.heap.get? a = none := abs_get_none h'
      rw [q]
      exact ih _ p s r p' s' Q E e h
  | point l k ih => intro p s r p' s' Q E e h; exact ih () p s r p' s' Q E e h
  | register a k _ => intro p s r p' s' Q E e h; cases e
  | fresh k ih => intro p s r p' s' Q E e h; exact ih s.toks p ⟨s.tree, s.n, s.life, s.gens, s.drawn, s.toks + 1, s.os⟩ r p' s' Q E e h
  | ask k ih => intro p s r p' s' Q E e h; exact ih ⟨prog, w.params⟩ p s r p' s' Q E e h
  | choose src n k _ => intro p s r p' s' Q E e h; cases e
  | os q l k _ => intro p s r p' s' Q E e h; cases e
  | call c hd g l k ih =>
    intro p s r p' s' Q E e h
    change (match den (Γ.enter c hd p) p s with
      | some (r, s') => evT up den prog w Γ (k r) p s'
      | none => none) = _ at e
    split at e
    · rename_i r₁ s₁ h₁
      exact ⟨r₁, s₁.abs, hden _ _ _ _ _ h₁, ih r₁ p s₁ r p' s' Q E e h⟩
    · cases e
  | handled own k ih => intro p s r p' s' Q E e h; exact ih _ p s r p' s' Q E e h
  | newGen c k _ => intro p s r p' s' Q E e h; cases e
  | genState g k _ => intro p s r p' s' Q E e h; cases e
  | resume g x l k _ => intro p s r p' s' Q E e h; cases e
  | yield v g l k _ => intro p s r p' s' Q E e h; cases e
  | stack k ih => intro p s r p' s' Q E e h; exact ih _ p s r p' s' Q E e h
  | fork c k _ => intro p s r p' s' Q E e h; cases e
  | thread k ih => intro p s r p' s' Q E e h; exact ih 0 p s r p' s' Q E e h
  | await a f d l k _ => intro p s r p' s' Q E e h; cases e

theorem evC_sound (up : Nat → Bool) (dn : Code → Sem Fin) (prog : Program) (w : World) : ∀ n, ESound dn prog w (evC up dn prog w n) := by
  intro n
  induction n with
  | zero => intro Γ p s r s' e; cases e
  | succ n ih =>
    intro Γ p s r s' e
    have key : wpCode ⟨dn, prog, w⟩ Γ (fun r₁ s₁ => r₁ = r ∧ s₁ = s'.abs) p s.abs := by
      rw [wpCode_iff_wp]
      change (match evT up (evC up dn prog w n) prog w Γ (dn Γ.code) p s with
        | some (.ok (.done f), _, s') => (some (Except.ok f, s') : Option (Result × SharedT))
        | some (.ok (.again c), p', s') => match c.quiet with
          | true => evC up dn prog w n (Γ.goto c) p' s'
          | false => none
        | some (.error e, _, s') => some (.error e, s')
        | none => none) = _ at e
      split at e
      · rename_i f p₁ s₁ h₁
        cases e
        exact evT_sound ih Γ _ p s _ p₁ _ _ _ h₁ ⟨rfl, rfl⟩
      · rename_i c p₁ s₁ h₁
        split at e
        · rename_i hq
          exact evT_sound ih Γ _ p s _ p₁ s₁ _ _ h₁ ⟨hq, _, _, ih _ _ _ _ _ e, rfl, rfl⟩
        · cases e
      · rename_i x p₁ s₁ h₁
        cases e
        exact evT_sound ih Γ _ p s _ p₁ _ _ _ h₁ ⟨rfl, rfl⟩
      · cases e
    obtain ⟨r₁, s₁, h, rfl, rfl⟩ := key
    exact h

/-- what a run of the evaluator leaves as it was -/
structure Kept (up : Nat → Bool) (s s' : SharedT) : Prop where
  life : s'.life = s.life
  gens : s'.gens = s.gens
  os : s'.os = s.os
  old : ∀ b o, up b = false → s.abs.heap.get? b = some o → s'.abs.heap.get? b = some o
theorem Kept.rfl {up : Nat → Bool} {s : SharedT} : Kept up s s := ⟨Eq.refl _, Eq.refl _, Eq.refl _, fun _ _ _ h => h⟩
theorem Kept.trans {up : Nat → Bool} {s₁ s₂ s₃ : SharedT} (h : Kept up s₁ s₂) (k : Kept up s₂ s₃) : Kept up s₁ s₃ :=
  ⟨k.life.trans h.life, k.gens.trans h.gens, k.os.trans h.os, fun b o hb ho => k.old b o hb (h.old b o hb ho)⟩
theorem Kept.toks {up : Nat → Bool} {s : SharedT} {k : Nat} : Kept up s ⟨s.tree, s.n, s.life, s.gens, s.drawn, k, s.os⟩ := ⟨Eq.refl _, Eq.refl _, Eq.refl _, fun _ _ _ h => h⟩
theorem Kept.set {up : Nat → Bool} {s : SharedT} {a : Nat} {f : Obj → Obj} {o : Obj} (hg : s.tree.get a = some o) (hu : up a = true) : Kept up s ⟨s.tree.set a f, s.n, s.life, s.gens, s.drawn, s.toks, s.os⟩ := by
  refine ⟨Eq.refl _, Eq.refl _, Eq.refl _, fun b o' hb ho => ?_⟩
  show (absHeap (s.tree.set a f) s.n s.life).get? b = _
  rw [absHeap_set hg]
  have hne : b ≠ a := fun z => by rw [z, hu] at hb; cases hb
  exact (Heap.get?_update_ne _ _ _ _ hne).trans ho
theorem Kept.ins {up : Nat → Bool} {s : SharedT} {o : Obj} {k : Nat} (hg : ((s.tree.ins s.n o).get s.n).isSome = true) : Kept up s ⟨s.tree.ins s.n o, s.n + 1, s.life, s.gens, s.drawn, k, s.os⟩ := by
  refine ⟨Eq.refl _, Eq.refl _, Eq.refl _, fun b o' hb ho => ?_⟩
  show (absHeap (s.tree.ins s.n o) (s.n + 1) s.life).get? b = _
  rw [absHeap_ins hg]
  exact Heap.get?_push_of_some _ ho
noncomputable def EKept (up : Nat → Bool) (den : ECode) : Prop := ∀ Γ p s r s', den Γ p s = some (r, s') → Kept up s s'
theorem evT_kept {α : Type} {up : Nat → Bool} {prog : Program} {w : World} {den : ECode} (hden : EKept up den) (Γ : Ctx) (t : Sem α) :
    ∀ (p : Pos) (s : SharedT) (r : Except Value α) (p' : Pos) (s' : SharedT), evT up den prog w Γ t p s = some (r, p', s') → Kept up s s' := by
  induction t with
  | pure a => intro p s r p' s' e; cases e; exact .rfl
  | raise x => intro p s r p' s' e; cases e; exact .rfl
  | unsupported _ => intro p s r p' s' e; cases e
  | finish _ => intro p s r p' s' e; cases e
  | rule tag k ih => intro p s r p' s' e; exact ih () p s r p' s' e
  | «at» p₀ k ih => intro p s r p' s' e; exact ih () p₀ s r p' s' e
  | load a part k ih =>
    intro p s r p' s' e
    change (match Nat.blt a s.n with
      | true => match s.tree.get a with
        | some o => match alive o with
          | some o' => evT up den prog w Γ (k o') p s
          | none => none
        | none => none
      | false => none) = _ at e
    split at e
    · split at e
      · split at e
        · exact ih _ p s r p' s' e
        · cases e
      · cases e
    · cases e
  | update a part f k ih =>
    intro p s r p' s' e
    change (match Nat.blt a s.n with
      | true => match s.tree.get a with
        | some o => match alive o with
          | some _ => match up a with
            | true => evT up den prog w Γ (k ()) p ⟨s.tree.set a f, s.n, s.life, s.gens, s.drawn, s.toks, s.os⟩
            | false => none
          | none => none
        | none => none
      | false => none) = _ at e
    split at e
    · split at e
      · rename_i o hg
        split at e
        · split at e
          · rename_i hu
            exact (Kept.set hg hu).trans (ih () p _ r p' s' e)
          · cases e
        · cases e
      · cases e
    · cases e
  | alloc o k ih =>
    intro p s r p' s' e
    change (match ((s.tree.ins s.n o).get s.n).isSome with
      | true => evT up den prog w Γ (k s.n) p ⟨s.tree.ins s.n o, s.n + 1, s.life, s.gens, s.drawn, s.toks, s.os⟩
      | false => none) = _ at e
    split at e
    · rename_i hg
      exact (Kept.ins hg).trans (ih s.n p _ r p' s' e)
    · cases e
  | loadIfAlive a k ih =>
    intro p s r p' s' e
    change (match Nat.blt a s.n with
      | true => match s.tree.get a with
        | some o => evT up den prog w Γ (k (alive o)) p s
        | none => none
      | false => evT up den prog w Γ (k none) p s) = _ at e
    split at e
    · split at e
      · exact ih _ p s r p' s' e
      · cases e
    · exact ih _ p s r p' s' e
  | point l k ih => intro p s r p' s' e; exact ih () p s r p' s' e
  | register a k _ => intro p s r p' s' e; cases e
  | fresh k ih => intro p s r p' s' e; exact Kept.toks.trans (ih s.toks p ⟨s.tree, s.n, s.life, s.gens, s.drawn, s.toks + 1, s.os⟩ r p' s' e)
  | ask k ih => intro p s r p' s' e; exact ih ⟨prog, w.params⟩ p s r p' s' e
  | choose src n k _ => intro p s r p' s' e; cases e
  | os q l k _ => intro p s r p' s' e; cases e
  | call c hd g l k ih =>
    intro p s r p' s' e
    change (match den (Γ.enter c hd p) p s with
      | some (r, s') => evT up den prog w Γ (k r) p s'
      | none => none) = _ at e
    split at e
    · rename_i r₁ s₁ h₁
      exact (hden _ _ _ _ _ h₁).trans (ih r₁ p s₁ r p' s' e)
    · cases e
  | handled own k ih => intro p s r p' s' e; exact ih _ p s r p' s' e
  | newGen c k _ => intro p s r p' s' e; cases e
  | genState g k _ => intro p s r p' s' e; cases e
  | resume g x l k _ => intro p s r p' s' e; cases e
  | yield v g l k _ => intro p s r p' s' e; cases e
  | stack k ih => intro p s r p' s' e; exact ih _ p s r p' s' e
  | fork c k _ => intro p s r p' s' e; cases e
  | thread k ih => intro p s r p' s' e; exact ih 0 p s r p' s' e
  | await a f d l k _ => intro p s r p' s' e; cases e
theorem evC_kept (up : Nat → Bool) (dn : Code → Sem Fin) (prog : Program) (w : World) : ∀ n, EKept up (evC up dn prog w n) := by
  intro n
  induction n with
  | zero => intro Γ p s r s' e; cases e
  | succ n ih =>
    intro Γ p s r s' e
    change (match evT up (evC up dn prog w n) prog w Γ (dn Γ.code) p s with
      | some (.ok (.done f), _, s') => (some (Except.ok f, s') : Option (Result × SharedT))
      | some (.ok (.again c), p', s') => match c.quiet with
        | true => evC up dn prog w n (Γ.goto c) p' s'
        | false => none
      | some (.error e, _, s') => some (.error e, s')
      | none => none) = _ at e
    split at e
    · rename_i h₁
      cases e
      exact evT_kept ih Γ _ p s _ _ _ h₁
    · rename_i h₁
      split at e
      · exact (evT_kept ih Γ _ p s _ _ _ h₁).trans (ih _ _ _ _ _ e)
      · cases e
    · rename_i h₁
      cases e
      exact evT_kept ih Γ _ p s _ _ _ h₁
    · cases e

end
-- A3
section
set_option maxRecDepth 100000
open PySem PySem.W PySem.Calls PyProof.Rows
/-- a heap's objects, one after the other, as a tree -/
noncomputable def build : List Obj → BT → Nat → Option (BT × Nat)
  | [], t, n => some (t, n)
  | o :: r, t, n => match ((t.ins n o).get n).isSome with
    | true => build r (t.ins n o) (n + 1)
    | false => none
theorem build_spec (life : Life) : ∀ (l : List Obj) (t : BT) (n : Nat) (t' : BT) (n' : Nat), build l t n = some (t', n') → absHeap t' n' life = l.foldl Heap.push (absHeap t n life)
  | [], t, n, t', n', h => by cases h; rfl
  | o :: r, t, n, t', n', h => by
    rw [build] at h
    split at h
    · rename_i g
      rw [build_spec life r _ _ _ _ h, List.foldl_cons, absHeap_ins g]
    · cases h
theorem pushes (life : Life) : ∀ (l : List Obj) (a : Array Obj), (l.foldl Heap.push ⟨a, life⟩) = ⟨a ++ l.toArray, life⟩
  | [], a => by simp
  | o :: r, a => by
    rw [List.foldl_cons]
    show List.foldl Heap.push ⟨a.push o, life⟩ r = _
    rw [pushes life r]
    simp
theorem build_all {h : Heap} {t : BT} {n : Nat} (e : build h.objs.toList .nil 0 = some (t, n)) : absHeap t n h.life = h := by
  rw [build_spec h.life _ _ _ _ _ e]
  have : absHeap .nil 0 h.life = ⟨#[], h.life⟩ := rfl
  rw [this, pushes]
  simp
theorem build_kept {up : Nat → Bool} {life : Life} {gens : Array GenState} {drawn : Drawn} {os : OsState} {k₀ : Nat} {k : Nat} : ∀ (l : List Obj) (t : BT) (n : Nat) (t' : BT) (n' : Nat), build l t n = some (t', n') → Kept up ⟨t, n, life, gens, drawn, k₀, os⟩ ⟨t', n', life, gens, drawn, k, os⟩
  | [], t, n, t', n', h => by cases h; exact Kept.toks (s := ⟨t, n, life, gens, drawn, k₀, os⟩)
  | o :: r, t, n, t', n', h => by
    rw [build] at h
    split at h
    · rename_i g
      exact (Kept.ins (s := ⟨t, n, life, gens, drawn, k₀, os⟩) (k := k₀) g).trans (build_kept r _ _ _ _ h)
    · cases h
end
-- K1
section
open PySem PySem.W PyProof.Rows
set_option maxRecDepth 100000
set_option maxHeartbeats 4000000
/-- the parameters, the body and the names of the def that stands at a place of the text's top -/
noncomputable def defAt (i : Nat) : Arguments × List Stmt × Scope := match PySem.Challenge.pw_pa0016_01.main.body[i]? with
  | some (.FunctionDef _ a b _ _ _ sc _ _ _) => (a, b, sc)
  | _ => default
noncomputable def pairsOf : List (Option PySem.Expr) → List PySem.Expr → List (Int × Str)
  | some (.Constant (.int k) _ _) :: ks, .Constant (.str x) _ _ :: vs => (k, x) :: pairsOf ks vs
  | _, _ => []
/-- the rows of the table b3_exceptions, read off the text's own statement -/
noncomputable def b3Pairs : List (Int × Str) := match PySem.Challenge.pw_pa0016_01.main.body[22]? with
  | some (PySem.Stmt.Assign _ (PySem.Expr.Dict ks vs _) _) => pairsOf ks vs
  | _ => []
noncomputable def b3Tok (i : Nat) : Nat := if i < 646 then 485 + 3 * i else 2423 + 2 * (i - 646)
noncomputable def b3Ents : Nat → List (Int × Str) → List DictEntry
  | _, [] => []
  | i, (k, x) :: r => { hash := k, key := .int k (b3Tok i), val := .str x (b3Tok i + 1) } :: b3Ents (i + 1) r
noncomputable def b3Obj : Obj := { cls := .type "dict", data := .dict (b3Ents 0 b3Pairs).toArray 650 }
noncomputable abbrev F38 : {x : Arguments × List Stmt × Scope // x = defAt 1} := ⟨_, by conv => rhs; whnf⟩
noncomputable abbrev F51 : {x : Arguments × List Stmt × Scope // x = defAt 5} := ⟨_, by conv => rhs; whnf⟩
noncomputable abbrev F71 : {x : Arguments × List Stmt × Scope // x = defAt 8} := ⟨_, by conv => rhs; whnf⟩
noncomputable abbrev F78 : {x : Arguments × List Stmt × Scope // x = defAt 9} := ⟨_, by conv => rhs; whnf⟩
noncomputable abbrev F87 : {x : Arguments × List Stmt × Scope // x = defAt 11} := ⟨_, by conv => rhs; whnf⟩
noncomputable abbrev F94 : {x : Arguments × List Stmt × Scope // x = defAt 13} := ⟨_, by conv => rhs; whnf⟩
noncomputable abbrev F101 : {x : Arguments × List Stmt × Scope // x = defAt 14} := ⟨_, by conv => rhs; whnf⟩
noncomputable abbrev F108 : {x : Arguments × List Stmt × Scope // x = defAt 17} := ⟨_, by conv => rhs; whnf⟩
noncomputable abbrev F116 : {x : Arguments × List Stmt × Scope // x = defAt 18} := ⟨_, by conv => rhs; whnf⟩
noncomputable abbrev F134 : {x : Arguments × List Stmt × Scope // x = defAt 21} := ⟨_, by conv => rhs; whnf⟩
noncomputable abbrev F180 : {x : Arguments × List Stmt × Scope // x = defAt 23} := ⟨_, by conv => rhs; whnf⟩
noncomputable abbrev F187 : {x : Arguments × List Stmt × Scope // x = defAt 25} := ⟨_, by conv => rhs; whnf⟩
noncomputable abbrev F194 : {x : Arguments × List Stmt × Scope // x = defAt 26} := ⟨_, by conv => rhs; whnf⟩
noncomputable abbrev F201 : {x : Arguments × List Stmt × Scope // x = defAt 27} := ⟨_, by conv => rhs; whnf⟩
noncomputable abbrev F206 : {x : Arguments × List Stmt × Scope // x = defAt 28} := ⟨_, by conv => rhs; whnf⟩
noncomputable abbrev F213 : {x : Arguments × List Stmt × Scope // x = defAt 29} := ⟨_, by conv => rhs; whnf⟩
noncomputable abbrev F218 : {x : Arguments × List Stmt × Scope // x = defAt 30} := ⟨_, by conv => rhs; whnf⟩
noncomputable abbrev F223 : {x : Arguments × List Stmt × Scope // x = defAt 31} := ⟨_, by conv => rhs; whnf⟩
noncomputable abbrev F228 : {x : Arguments × List Stmt × Scope // x = defAt 32} := ⟨_, by conv => rhs; whnf⟩

noncomputable def K (P : Params) : Frag :=
  (nat_lit 2, { cls := Value.none, data := Data.dict #[{ hash := PyData.keyHash P (Str.ofString "\x69mport.loaded._sre"), key := Value.str (Str.ofString "\x69mport.loaded._sre") 183, val := Value.bool true }, { hash := PyData.keyHash P (Str.ofString "class._frozen_importlib.BuiltinImporter"), key := Value.str (Str.ofString "class._frozen_importlib.BuiltinImporter") 185, val := Value.ref 14 }, { hash := PyData.keyHash P (Str.ofString "watched.\x69mport"), key := Value.str (Str.ofString "watched.\x69mport") 206, val := Value.ref 18 }, { hash := PyData.keyHash P (Str.ofString "class._frozen_importlib.ModuleSpec"), key := Value.str (Str.ofString "class._frozen_importlib.ModuleSpec") 216, val := Value.ref 22 }, { hash := PyData.keyHash P (Str.ofString "sys.modules.booked-epoch"), key := Value.str (Str.ofString "sys.modules.booked-epoch") 245, val := Value.int 3 0 }, { hash := PyData.keyHash P (Str.ofString "\x69mport.later-laid._sre"), key := Value.str (Str.ofString "\x69mport.later-laid._sre") 270, val := Value.bool true }, { hash := PyData.keyHash P (Str.ofString "watched.library"), key := Value.str (Str.ofString "watched.library") 272, val := Value.ref 27 }, { hash := PyData.keyHash P (Str.ofString "watched.library-objects"), key := Value.str (Str.ofString "watched.library-objects") 0, val := Value.str (Str.ofString "\x0c") 0 }, { hash := PyData.keyHash P (Str.ofString "watched.library-deep._sre"), key := Value.str (Str.ofString "watched.library-deep._sre") 273, val := Value.str (Str.ofString "\x04\x00\x00\x0b\x04\x00\x00\x0b\x04\x00\x00\x03\x04\x00\x00\x0b\x08\x04dict\x02") 0 }] 9 }) ::
  (nat_lit 3, { cls := Value.type "dict", data := Data.dict #[{ hash := PyData.keyHash P (Str.ofString "__name__"), key := Value.str (Str.ofString "__name__") 165, val := Value.str (Str.ofString "law_pa0016_01") 2444 }, { hash := PyData.keyHash P (Str.ofString "__doc__"), key := Value.str (Str.ofString "__doc__") 166, val := Value.none }, { hash := PyData.keyHash P (Str.ofString "__package__"), key := Value.str (Str.ofString "__package__") 167, val := Value.none }, { hash := PyData.keyHash P (Str.ofString "__loader__"), key := Value.str (Str.ofString "__loader__") 168, val := Value.builtin "__main__.__loader__#opaque" }, { hash := PyData.keyHash P (Str.ofString "__spec__"), key := Value.str (Str.ofString "__spec__") 169, val := Value.none }, { hash := PyData.keyHash P (Str.ofString "__annotations__"), key := Value.str (Str.ofString "__annotations__") 170, val := Value.ref 6 }, { hash := PyData.keyHash P (Str.ofString "__builtins__"), key := Value.str (Str.ofString "__builtins__") 171, val := Value.ref 4 }, { hash := PyData.keyHash P (Str.ofString "__file__"), key := Value.str (Str.ofString "__file__") 173, val := Value.str (Str.ofString "/claim/cut.py") 172 }, { hash := PyData.keyHash P (Str.ofString "__cached__"), key := Value.str (Str.ofString "__cached__") 174, val := Value.none }, { hash := PyData.keyHash P (Str.ofString "_sre"), key := Value.str (Str.ofString "_sre") 275, val := Value.ref 12 }, { hash := PyData.keyHash P (Str.ofString "_wall"), key := Value.str (Str.ofString "_wall") 288, val := Value.ref 38 }, { hash := PyData.keyHash P (Str.ofString "_twin_re_1"), key := Value.str (Str.ofString "_twin_re_1") 320, val := Value.ref 43 }, { hash := PyData.keyHash P (Str.ofString "bytes_types"), key := Value.str (Str.ofString "bytes_types") 321, val := Value.ref 44 }, { hash := PyData.keyHash P (Str.ofString "_bytes_from_decode_data"), key := Value.str (Str.ofString "_bytes_from_decode_data") 328, val := Value.ref 51 }, { hash := PyData.keyHash P (Str.ofString "Error"), key := Value.str (Str.ofString "Error") 348, val := Value.ref 61 }, { hash := PyData.keyHash P (Str.ofString "_ascii_buffer"), key := Value.str (Str.ofString "_ascii_buffer") 356, val := Value.ref 71 }, { hash := PyData.keyHash P (Str.ofString "_buffer"), key := Value.str (Str.ofString "_buffer") 364, val := Value.ref 78 }, { hash := PyData.keyHash P (Str.ofString "_NO_SEP"), key := Value.str (Str.ofString "_NO_SEP") 365, val := Value.ref 79 }, { hash := PyData.keyHash P (Str.ofString "b2a_hex"), key := Value.str (Str.ofString "b2a_hex") 376, val := Value.ref 87 }, { hash := PyData.keyHash P (Str.ofString "hexlify"), key := Value.str (Str.ofString "hexlify") 377, val := Value.ref 87 }, { hash := PyData.keyHash P (Str.ofString "_hex_value"), key := Value.str (Str.ofString "_hex_value") 384, val := Value.ref 94 }, { hash := PyData.keyHash P (Str.ofString "a2b_hex"), key := Value.str (Str.ofString "a2b_hex") 397, val := Value.ref 101 }, { hash := PyData.keyHash P (Str.ofString "unhexlify"), key := Value.str (Str.ofString "unhexlify") 398, val := Value.ref 101 }, { hash := PyData.keyHash P (Str.ofString "b16encode"), key := Value.str (Str.ofString "b16encode") 407, val := Value.ref 108 }, { hash := PyData.keyHash P (Str.ofString "b16decode"), key := Value.str (Str.ofString "b16decode") 415, val := Value.ref 116 }, { hash := PyData.keyHash P (Str.ofString "b1_set"), key := Value.str (Str.ofString "b1_set") 477, val := Value.ref 124 }, { hash := PyData.keyHash P (Str.ofString "in_table_b1"), key := Value.str (Str.ofString "in_table_b1") 484, val := Value.ref 134 }, { hash := PyData.keyHash P (Str.ofString "b3_exceptions"), key := Value.str (Str.ofString "b3_exceptions") 2435, val := Value.ref 135 }, { hash := PyData.keyHash P (Str.ofString "map_table_b3"), key := Value.str (Str.ofString "map_table_b3") 2443, val := Value.ref 180 }, { hash := PyData.keyHash P (Str.ofString "_law_nothing"), key := Value.str (Str.ofString "_law_nothing") 2452, val := Value.ref 187 }, { hash := PyData.keyHash P (Str.ofString "_law_code"), key := Value.str (Str.ofString "_law_code") 2463, val := Value.ref 194 }, { hash := PyData.keyHash P (Str.ofString "_law_piece"), key := Value.str (Str.ofString "_law_piece") 2472, val := Value.ref 201 }, { hash := PyData.keyHash P (Str.ofString "_law_prepared"), key := Value.str (Str.ofString "_law_prepared") 2478, val := Value.ref 206 }, { hash := PyData.keyHash P (Str.ofString "_law_read"), key := Value.str (Str.ofString "_law_read") 2488, val := Value.ref 213 }, { hash := PyData.keyHash P (Str.ofString "_law_due"), key := Value.str (Str.ofString "_law_due") 2494, val := Value.ref 218 }, { hash := PyData.keyHash P (Str.ofString "_law_holds"), key := Value.str (Str.ofString "_law_holds") 2500, val := Value.ref 223 }, { hash := PyData.keyHash P (Str.ofString "law"), key := Value.str (Str.ofString "law") 2506, val := Value.ref 228 }] 37 }) ::
  (nat_lit 37, { cls := Value.type "code", data := Data.fields #[Value.str (Str.ofString "_wall") 282, Value.str (Str.ofString "_wall") 283, Value.str (Str.ofString "/claim/cut.py") 284, Value.int 2 0, Value.int 1 0, Value.int 0 0, Value.int 0 0, Value.int 3 0, Value.ref 32, Value.bool true, Value.int 276 0, Value.ref 33, Value.none, Value.ref 34, Value.ref 35, Value.ref 36, Value.int 286 0, Value.int 2 0, Value.str (Str.ofString "/claim/cut.py") 287] }) ::
  (nat_lit 38, { cls := Value.type "function", data := Data.func { name := Str.ofString "_wall", qualname := Str.ofString "_wall", params := F38.1.1, body := FuncBody.stmts F38.1.2.1, scope := F38.1.2.2, globals := 3, closure := [], defaults := Value.none, kwdefaults := Value.none, pyModule := Value.str (Str.ofString "__main__") 164, code := Value.ref 37 } }) ::
  (nat_lit 42, { cls := Value.type "tuple", data := Data.seq #[Value.int 14 0, Value.int 12 0, Value.int 4 0, Value.int 1 0, Value.int 1 0, Value.int 21 0, Value.int 22 0, Value.int 48 0, Value.int 57 0, Value.int 22 0, Value.int 65 0, Value.int 70 0, Value.int 0 0, Value.int 13 0, Value.int 9 0, Value.int 21 0, Value.int 22 0, Value.int 48 0, Value.int 57 0, Value.int 22 0, Value.int 65 0, Value.int 70 0, Value.int 0 0, Value.int 1 0] }) ::
  (nat_lit 43, { cls := Value.type "re.Pattern", data := Data.fields #[Value.bytes #[91, 94, 48, 45, 57, 65, 45, 70, 93] 292, Value.int 0 319, Value.int 0 0, Value.none, Value.none, Value.ref 42, Value.int 1 0] }) ::
  (nat_lit 44, { cls := Value.type "tuple", data := Data.seq #[Value.type "bytes", Value.type "bytearray"] }) ::
  (nat_lit 50, { cls := Value.type "code", data := Data.fields #[Value.str (Str.ofString "_bytes_from_decode_data") 322, Value.str (Str.ofString "_bytes_from_decode_data") 323, Value.str (Str.ofString "/claim/cut.py") 324, Value.int 8 0, Value.int 1 0, Value.int 0 0, Value.int 0 0, Value.int 3 0, Value.ref 45, Value.bool true, Value.int 276 0, Value.ref 46, Value.none, Value.ref 47, Value.ref 48, Value.ref 49, Value.int 326 0, Value.int 8 0, Value.str (Str.ofString "/claim/cut.py") 327] }) ::
  (nat_lit 51, { cls := Value.type "function", data := Data.func { name := Str.ofString "_bytes_from_decode_data", qualname := Str.ofString "_bytes_from_decode_data", params := F51.1.1, body := FuncBody.stmts F51.1.2.1, scope := F51.1.2.2, globals := 3, closure := [], defaults := Value.none, kwdefaults := Value.none, pyModule := Value.str (Str.ofString "cpy313.base64") 289, code := Value.ref 50 } }) ::
  (nat_lit 52, { cls := Value.type "tuple", data := Data.seq #[Value.type "ValueError"] }) ::
  (nat_lit 60, { cls := Value.type "dict", data := Data.dict #[{ hash := PyData.keyHash P (Str.ofString "__module__"), key := Value.str (Str.ofString "__module__") 338, val := Value.str (Str.ofString "binascii") 329 }, { hash := PyData.keyHash P (Str.ofString "__firstlineno__"), key := Value.str (Str.ofString "__firstlineno__") 342, val := Value.int 21 341 }, { hash := PyData.keyHash P (Str.ofString "__static_attributes__"), key := Value.str (Str.ofString "__static_attributes__") 343, val := Value.ref 59 }, { hash := PyData.keyHash P (Str.ofString "__weakref__"), key := Value.str (Str.ofString "__weakref__") 345, val := Value.ref 62 }, { hash := PyData.keyHash P (Str.ofString "__doc__"), key := Value.str (Str.ofString "__doc__") 346, val := Value.none }] 3 }) ::
  (nat_lit 61, { cls := Value.type "type", data := Data.cls { name := Str.ofString "Error", bases := [Value.type "ValueError"], mro := [Value.ref 61, Value.type "ValueError", Value.type "Exception", Value.type "BaseException", Value.type "object"], ns := 60, qualname := Str.ofString "Error" }, slots := #[some (Value.ref 52), none, some (Value.str (Str.ofString "Error") 331), some (Value.str (Str.ofString "Error") 339), some (Value.builtin "ValueError.__new__"), some (Value.bool true)] }) ::
  (nat_lit 62, { cls := Value.type "getset_descriptor", data := Data.fields #[Value.str (Str.ofString "__weakref__") 344, Value.ref 61, Value.builtin "ExceptionGroup.__weakref__", Value.none] }) ::
  (nat_lit 70, { cls := Value.type "code", data := Data.fields #[Value.str (Str.ofString "_ascii_buffer") 349, Value.str (Str.ofString "_ascii_buffer") 350, Value.str (Str.ofString "/claim/cut.py") 351, Value.int 23 0, Value.int 1 0, Value.int 0 0, Value.int 0 0, Value.int 3 0, Value.ref 65, Value.bool true, Value.int 276 0, Value.ref 66, Value.none, Value.ref 67, Value.ref 68, Value.ref 69, Value.int 354 0, Value.int 23 0, Value.str (Str.ofString "/claim/cut.py") 355] }) ::
  (nat_lit 71, { cls := Value.type "function", data := Data.func { name := Str.ofString "_ascii_buffer", qualname := Str.ofString "_ascii_buffer", params := F71.1.1, body := FuncBody.stmts F71.1.2.1, scope := F71.1.2.2, globals := 3, closure := [], defaults := Value.none, kwdefaults := Value.none, pyModule := Value.str (Str.ofString "binascii") 329, code := Value.ref 70 } }) ::
  (nat_lit 77, { cls := Value.type "code", data := Data.fields #[Value.str (Str.ofString "_buffer") 357, Value.str (Str.ofString "_buffer") 358, Value.str (Str.ofString "/claim/cut.py") 359, Value.int 34 0, Value.int 1 0, Value.int 0 0, Value.int 0 0, Value.int 3 0, Value.ref 72, Value.bool true, Value.int 276 0, Value.ref 73, Value.none, Value.ref 74, Value.ref 75, Value.ref 76, Value.int 362 0, Value.int 34 0, Value.str (Str.ofString "/claim/cut.py") 363] }) ::
  (nat_lit 78, { cls := Value.type "function", data := Data.func { name := Str.ofString "_buffer", qualname := Str.ofString "_buffer", params := F78.1.1, body := FuncBody.stmts F78.1.2.1, scope := F78.1.2.2, globals := 3, closure := [], defaults := Value.none, kwdefaults := Value.none, pyModule := Value.str (Str.ofString "binascii") 329, code := Value.ref 77 } }) ::
  (nat_lit 79, { cls := Value.type "object" }) ::
  (nat_lit 80, { cls := Value.type "tuple", data := Data.seq #[Value.ref 79, Value.int 1 366] }) ::
  (nat_lit 86, { cls := Value.type "code", data := Data.fields #[Value.str (Str.ofString "b2a_hex") 367, Value.str (Str.ofString "b2a_hex") 368, Value.str (Str.ofString "/claim/cut.py") 369, Value.int 42 0, Value.int 3 0, Value.int 0 0, Value.int 0 0, Value.int 3 0, Value.ref 81, Value.bool true, Value.int 276 0, Value.ref 82, Value.none, Value.ref 83, Value.ref 84, Value.ref 85, Value.int 374 0, Value.int 42 0, Value.str (Str.ofString "/claim/cut.py") 375] }) ::
  (nat_lit 87, { cls := Value.type "function", data := Data.func { name := Str.ofString "b2a_hex", qualname := Str.ofString "b2a_hex", params := F87.1.1, body := FuncBody.stmts F87.1.2.1, scope := F87.1.2.2, globals := 3, closure := [], defaults := Value.ref 80, kwdefaults := Value.none, pyModule := Value.str (Str.ofString "binascii") 329, code := Value.ref 86 } }) ::
  (nat_lit 93, { cls := Value.type "code", data := Data.fields #[Value.str (Str.ofString "_hex_value") 378, Value.str (Str.ofString "_hex_value") 379, Value.str (Str.ofString "/claim/cut.py") 380, Value.int 59 0, Value.int 1 0, Value.int 0 0, Value.int 0 0, Value.int 3 0, Value.ref 88, Value.bool true, Value.int 276 0, Value.ref 89, Value.none, Value.ref 90, Value.ref 91, Value.ref 92, Value.int 382 0, Value.int 59 0, Value.str (Str.ofString "/claim/cut.py") 383] }) ::
  (nat_lit 94, { cls := Value.type "function", data := Data.func { name := Str.ofString "_hex_value", qualname := Str.ofString "_hex_value", params := F94.1.1, body := FuncBody.stmts F94.1.2.1, scope := F94.1.2.2, globals := 3, closure := [], defaults := Value.none, kwdefaults := Value.none, pyModule := Value.str (Str.ofString "binascii") 329, code := Value.ref 93 } }) ::
  (nat_lit 100, { cls := Value.type "code", data := Data.fields #[Value.str (Str.ofString "a2b_hex") 385, Value.str (Str.ofString "a2b_hex") 386, Value.str (Str.ofString "/claim/cut.py") 387, Value.int 67 0, Value.int 1 0, Value.int 1 0, Value.int 0 0, Value.int 3 0, Value.ref 95, Value.bool true, Value.int 276 0, Value.ref 96, Value.none, Value.ref 97, Value.ref 98, Value.ref 99, Value.int 395 0, Value.int 67 0, Value.str (Str.ofString "/claim/cut.py") 396] }) ::
  (nat_lit 101, { cls := Value.type "function", data := Data.func { name := Str.ofString "a2b_hex", qualname := Str.ofString "a2b_hex", params := F101.1.1, body := FuncBody.stmts F101.1.2.1, scope := F101.1.2.2, globals := 3, closure := [], defaults := Value.none, kwdefaults := Value.none, pyModule := Value.str (Str.ofString "binascii") 329, code := Value.ref 100 } }) ::
  (nat_lit 107, { cls := Value.type "code", data := Data.fields #[Value.str (Str.ofString "b16encode") 401, Value.str (Str.ofString "b16encode") 402, Value.str (Str.ofString "/claim/cut.py") 403, Value.int 84 0, Value.int 1 0, Value.int 0 0, Value.int 0 0, Value.int 3 0, Value.ref 102, Value.bool true, Value.int 276 0, Value.ref 103, Value.none, Value.ref 104, Value.ref 105, Value.ref 106, Value.int 405 0, Value.int 84 0, Value.str (Str.ofString "/claim/cut.py") 406] }) ::
  (nat_lit 108, { cls := Value.type "function", data := Data.func { name := Str.ofString "b16encode", qualname := Str.ofString "b16encode", params := F108.1.1, body := FuncBody.stmts F108.1.2.1, scope := F108.1.2.2, globals := 3, closure := [], defaults := Value.none, kwdefaults := Value.none, pyModule := Value.str (Str.ofString "cpy313.base64") 399, code := Value.ref 107 } }) ::
  (nat_lit 109, { cls := Value.type "tuple", data := Data.seq #[Value.bool false] }) ::
  (nat_lit 115, { cls := Value.type "code", data := Data.fields #[Value.str (Str.ofString "b16decode") 408, Value.str (Str.ofString "b16decode") 409, Value.str (Str.ofString "/claim/cut.py") 410, Value.int 86 0, Value.int 2 0, Value.int 0 0, Value.int 0 0, Value.int 3 0, Value.ref 110, Value.bool true, Value.int 276 0, Value.ref 111, Value.none, Value.ref 112, Value.ref 113, Value.ref 114, Value.int 413 0, Value.int 86 0, Value.str (Str.ofString "/claim/cut.py") 414] }) ::
  (nat_lit 116, { cls := Value.type "function", data := Data.func { name := Str.ofString "b16decode", qualname := Str.ofString "b16decode", params := F116.1.1, body := FuncBody.stmts F116.1.2.1, scope := F116.1.2.2, globals := 3, closure := [], defaults := Value.ref 109, kwdefaults := Value.none, pyModule := Value.str (Str.ofString "cpy313.base64") 399, code := Value.ref 115 } }) ::
  (nat_lit 124, { cls := Value.type "set", data := Data.set #[(65024, Value.int 65024 434), (65025, Value.int 65025 435), (65026, Value.int 65026 436), (65027, Value.int 65027 437), (65028, Value.int 65028 438), (65029, Value.int 65029 439), (6150, Value.int 6150 420), (65030, Value.int 65030 440), (65031, Value.int 65031 441), (65032, Value.int 65032 442), (65033, Value.int 65033 443), (6155, Value.int 6155 421), (6156, Value.int 6156 422), (6157, Value.int 6157 423), (8203, Value.int 8203 424), (8204, Value.int 8204 425), (8205, Value.int 8205 426), (65034, Value.int 65034 444), (65035, Value.int 65035 445), (65036, Value.int 65036 446), (65037, Value.int 65037 447), (65038, Value.int 65038 448), (65039, Value.int 65039 449), (173, Value.int 173 418), (847, Value.int 847 419), (8288, Value.int 8288 427), (65279, Value.int 65279 428)] 29 { mask := 127, place := #[0, 1, 2, 3, 4, 5, 6, 7, 8, 9, 10, 11, 12, 13, 14, 15, 16, 17, 18, 19, 20, 21, 22, 45, 79, 96, 127], dummies := #[], finger := 0, led := !P.followText "set-order", moves := 2, plain := true } }) ::
  (nat_lit 133, { cls := Value.type "code", data := Data.fields #[Value.str (Str.ofString "in_table_b1") 478, Value.str (Str.ofString "in_table_b1") 479, Value.str (Str.ofString "/claim/cut.py") 480, Value.int 95 0, Value.int 1 0, Value.int 0 0, Value.int 0 0, Value.int 3 0, Value.ref 128, Value.bool true, Value.int 276 0, Value.ref 129, Value.none, Value.ref 130, Value.ref 131, Value.ref 132, Value.int 482 0, Value.int 95 0, Value.str (Str.ofString "/claim/cut.py") 483] }) ::
  (nat_lit 134, { cls := Value.type "function", data := Data.func { name := Str.ofString "in_table_b1", qualname := Str.ofString "in_table_b1", params := F134.1.1, body := FuncBody.stmts F134.1.2.1, scope := F134.1.2.2, globals := 3, closure := [], defaults := Value.none, kwdefaults := Value.none, pyModule := Value.str (Str.ofString "cpy313.stringprep") 416, code := Value.ref 133 } }) ::
  (nat_lit 135, b3Obj) ::
  (nat_lit 179, { cls := Value.type "code", data := Data.fields #[Value.str (Str.ofString "map_table_b3") 2436, Value.str (Str.ofString "map_table_b3") 2437, Value.str (Str.ofString "/claim/cut.py") 2438, Value.int 98 0, Value.int 1 0, Value.int 0 0, Value.int 0 0, Value.int 3 0, Value.ref 174, Value.bool true, Value.int 276 0, Value.ref 175, Value.none, Value.ref 176, Value.ref 177, Value.ref 178, Value.int 2441 0, Value.int 98 0, Value.str (Str.ofString "/claim/cut.py") 2442] }) ::
  (nat_lit 180, { cls := Value.type "function", data := Data.func { name := Str.ofString "map_table_b3", qualname := Str.ofString "map_table_b3", params := F180.1.1, body := FuncBody.stmts F180.1.2.1, scope := F180.1.2.2, globals := 3, closure := [], defaults := Value.none, kwdefaults := Value.none, pyModule := Value.str (Str.ofString "cpy313.stringprep") 416, code := Value.ref 179 } }) ::
  (nat_lit 186, { cls := Value.type "code", data := Data.fields #[Value.str (Str.ofString "_law_nothing") 2446, Value.str (Str.ofString "_law_nothing") 2447, Value.str (Str.ofString "/claim/cut.py") 2448, Value.int 104 0, Value.int 1 0, Value.int 0 0, Value.int 0 0, Value.int 3 0, Value.ref 181, Value.bool true, Value.int 276 0, Value.ref 182, Value.none, Value.ref 183, Value.ref 184, Value.ref 185, Value.int 2450 0, Value.int 104 0, Value.str (Str.ofString "/claim/cut.py") 2451] }) ::
  (nat_lit 187, { cls := Value.type "function", data := Data.func { name := Str.ofString "_law_nothing", qualname := Str.ofString "_law_nothing", params := F187.1.1, body := FuncBody.stmts F187.1.2.1, scope := F187.1.2.2, globals := 3, closure := [], defaults := Value.none, kwdefaults := Value.none, pyModule := Value.str (Str.ofString "law_pa0016_01") 2444, code := Value.ref 186 } }) ::
  (nat_lit 193, { cls := Value.type "code", data := Data.fields #[Value.str (Str.ofString "_law_code") 2453, Value.str (Str.ofString "_law_code") 2454, Value.str (Str.ofString "/claim/cut.py") 2455, Value.int 108 0, Value.int 1 0, Value.int 0 0, Value.int 0 0, Value.int 3 0, Value.ref 188, Value.bool true, Value.int 276 0, Value.ref 189, Value.none, Value.ref 190, Value.ref 191, Value.ref 192, Value.int 2461 0, Value.int 108 0, Value.str (Str.ofString "/claim/cut.py") 2462] }) ::
  (nat_lit 194, { cls := Value.type "function", data := Data.func { name := Str.ofString "_law_code", qualname := Str.ofString "_law_code", params := F194.1.1, body := FuncBody.stmts F194.1.2.1, scope := F194.1.2.2, globals := 3, closure := [], defaults := Value.none, kwdefaults := Value.none, pyModule := Value.str (Str.ofString "law_pa0016_01") 2444, code := Value.ref 193 } }) ::
  (nat_lit 200, { cls := Value.type "code", data := Data.fields #[Value.str (Str.ofString "_law_piece") 2464, Value.str (Str.ofString "_law_piece") 2465, Value.str (Str.ofString "/claim/cut.py") 2466, Value.int 123 0, Value.int 1 0, Value.int 0 0, Value.int 0 0, Value.int 3 0, Value.ref 195, Value.bool true, Value.int 276 0, Value.ref 196, Value.none, Value.ref 197, Value.ref 198, Value.ref 199, Value.int 2470 0, Value.int 123 0, Value.str (Str.ofString "/claim/cut.py") 2471] }) ::
  (nat_lit 201, { cls := Value.type "function", data := Data.func { name := Str.ofString "_law_piece", qualname := Str.ofString "_law_piece", params := F201.1.1, body := FuncBody.stmts F201.1.2.1, scope := F201.1.2.2, globals := 3, closure := [], defaults := Value.none, kwdefaults := Value.none, pyModule := Value.str (Str.ofString "law_pa0016_01") 2444, code := Value.ref 200 } }) ::
  (nat_lit 205, { cls := Value.type "code", data := Data.fields #[Value.str (Str.ofString "_law_prepared") 2473, Value.str (Str.ofString "_law_prepared") 2474, Value.str (Str.ofString "/claim/cut.py") 2475, Value.int 135 0, Value.int 1 0, Value.int 0 0, Value.int 0 0, Value.int 3 0, Value.ref 202, Value.bool true, Value.int 276 0, Value.ref 203, Value.none, Value.none, Value.none, Value.ref 204, Value.int 2476 0, Value.int 135 0, Value.str (Str.ofString "/claim/cut.py") 2477] }) ::
  (nat_lit 206, { cls := Value.type "function", data := Data.func { name := Str.ofString "_law_prepared", qualname := Str.ofString "_law_prepared", params := F206.1.1, body := FuncBody.stmts F206.1.2.1, scope := F206.1.2.2, globals := 3, closure := [], defaults := Value.none, kwdefaults := Value.none, pyModule := Value.str (Str.ofString "law_pa0016_01") 2444, code := Value.ref 205 } }) ::
  (nat_lit 212, { cls := Value.type "code", data := Data.fields #[Value.str (Str.ofString "_law_read") 2479, Value.str (Str.ofString "_law_read") 2480, Value.str (Str.ofString "/claim/cut.py") 2481, Value.int 137 0, Value.int 2 0, Value.int 0 0, Value.int 0 0, Value.int 3 0, Value.ref 207, Value.bool true, Value.int 276 0, Value.ref 208, Value.none, Value.ref 209, Value.ref 210, Value.ref 211, Value.int 2486 0, Value.int 137 0, Value.str (Str.ofString "/claim/cut.py") 2487] }) ::
  (nat_lit 213, { cls := Value.type "function", data := Data.func { name := Str.ofString "_law_read", qualname := Str.ofString "_law_read", params := F213.1.1, body := FuncBody.stmts F213.1.2.1, scope := F213.1.2.2, globals := 3, closure := [], defaults := Value.none, kwdefaults := Value.none, pyModule := Value.str (Str.ofString "law_pa0016_01") 2444, code := Value.ref 212 } }) ::
  (nat_lit 217, { cls := Value.type "code", data := Data.fields #[Value.str (Str.ofString "_law_due") 2489, Value.str (Str.ofString "_law_due") 2490, Value.str (Str.ofString "/claim/cut.py") 2491, Value.int 143 0, Value.int 3 0, Value.int 0 0, Value.int 0 0, Value.int 3 0, Value.ref 214, Value.bool true, Value.int 276 0, Value.ref 215, Value.none, Value.none, Value.none, Value.ref 216, Value.int 2492 0, Value.int 143 0, Value.str (Str.ofString "/claim/cut.py") 2493] }) ::
  (nat_lit 218, { cls := Value.type "function", data := Data.func { name := Str.ofString "_law_due", qualname := Str.ofString "_law_due", params := F218.1.1, body := FuncBody.stmts F218.1.2.1, scope := F218.1.2.2, globals := 3, closure := [], defaults := Value.none, kwdefaults := Value.none, pyModule := Value.str (Str.ofString "law_pa0016_01") 2444, code := Value.ref 217 } }) ::
  (nat_lit 222, { cls := Value.type "code", data := Data.fields #[Value.str (Str.ofString "_law_holds") 2495, Value.str (Str.ofString "_law_holds") 2496, Value.str (Str.ofString "/claim/cut.py") 2497, Value.int 152 0, Value.int 2 0, Value.int 0 0, Value.int 0 0, Value.int 3 0, Value.ref 219, Value.bool true, Value.int 276 0, Value.ref 220, Value.none, Value.none, Value.none, Value.ref 221, Value.int 2498 0, Value.int 152 0, Value.str (Str.ofString "/claim/cut.py") 2499] }) ::
  (nat_lit 223, { cls := Value.type "function", data := Data.func { name := Str.ofString "_law_holds", qualname := Str.ofString "_law_holds", params := F223.1.1, body := FuncBody.stmts F223.1.2.1, scope := F223.1.2.2, globals := 3, closure := [], defaults := Value.none, kwdefaults := Value.none, pyModule := Value.str (Str.ofString "law_pa0016_01") 2444, code := Value.ref 222 } }) ::
  (nat_lit 227, { cls := Value.type "code", data := Data.fields #[Value.str (Str.ofString "law") 2501, Value.str (Str.ofString "law") 2502, Value.str (Str.ofString "/claim/cut.py") 2503, Value.int 162 0, Value.int 1 0, Value.int 0 0, Value.int 0 0, Value.int 3 0, Value.ref 224, Value.bool true, Value.int 276 0, Value.ref 225, Value.none, Value.none, Value.none, Value.ref 226, Value.int 2504 0, Value.int 162 0, Value.str (Str.ofString "/claim/cut.py") 2505] }) ::
  (nat_lit 228, { cls := Value.type "function", data := Data.func { name := Str.ofString "law", qualname := Str.ofString "law", params := F228.1.1, body := FuncBody.stmts F228.1.2.1, scope := F228.1.2.2, globals := 3, closure := [], defaults := Value.none, kwdefaults := Value.none, pyModule := Value.str (Str.ofString "law_pa0016_01") 2444, code := Value.ref 227 } }) :: []
end
-- B1
section
set_option maxRecDepth 100000
open PySem PySem.W PySem.Calls PyProof.Rows
section
variable {prog : Program} {w : World} {A : Around} {E : Value → Shared → Prop} {s : Shared}
/-- one entry of whole number put into a dict that has it not -/
theorem set_int {d : Addr} {o : Obj} {es : Array DictEntry} {ep : Nat} {k : Int} {t : Tok} {v : Value} {Q : Unit → Shared → Prop} (ho : s.heap.get? d = some o) (hd : o.data = .dict es ep) (hk : IntKeys es) (hn : es.findIdx? (fun e => Value.isInt k e.key) = none) (hz : es.size ≤ 1000)
    (h : Q () { s with heap := s.heap.update d (Obj.mapDictKeys (·.push ⟨hashInt k, .int k t, v⟩)), toks := s.toks + 1 }) : wpAny (model prog w) A (dictSet d (.int k t) v) Q E s := by
  unfold dictSet
  refine wpAny_holding (wpAny_bind (wpAny_pyHash_int ?_))
  unfold dictSetHashed
  refine wpAny_holding (wpAny_bind (wpAny_dictFind_int ho hd hk ?_))
  rw [hn]
  refine wpAny_bind (wpAny_rule ?_)
  exact wpAny_updateDictKeysTo ho hd h (by rw [Array.size_push, sizeLine_eq]; omega)
/-- the entries that a run of written pairs makes, from a count of tokens on -/
noncomputable def ents3 (P : Nat) : Nat → List (Int × Str) → List DictEntry
  | _, [] => []
  | t, (k, x) :: r => ⟨hashInt k, .int k t, .str x (t + 1)⟩ :: ents3 P (t + P) r
/-- a written pair: a whole number and a text -/
structure PairIs (M : Model) (A : Around) (p : Sem Value × Sem Value) (q : Int × Str) : Prop where
  key : ∀ {E : Value → Shared → Prop} {s : Shared} {Q : Value → Shared → Prop}, Q (.int q.1 s.toks) { s with toks := s.toks + 1 } → wpAny M A p.1 Q E s
  val : ∀ {E : Value → Shared → Prop} {s : Shared} {Q : Value → Shared → Prop}, Q (.str q.2 s.toks) { s with toks := s.toks + 1 } → wpAny M A p.2 Q E s
noncomputable def PairsAre (M : Model) (A : Around) : List (Sem Value × Sem Value) → List (Int × Str) → Prop
  | [], [] => True
  | p :: ps, q :: qs => PairIs M A p q ∧ PairsAre M A ps qs
  | _, _ => False
/-- the keys of what stands, and of what comes, are all different -/
noncomputable def Apart (es : List DictEntry) (qs : List (Int × Str)) : Prop := (∀ q ∈ qs, ∀ e ∈ es, Value.isInt q.1 e.key = false) ∧ (qs.map (·.1)).Nodup
theorem Apart.find {es : List DictEntry} {q : Int × Str} {qs : List (Int × Str)} (h : Apart es (q :: qs)) : es.toArray.findIdx? (fun e => Value.isInt q.1 e.key) = none := by
  rw [Array.findIdx?_eq_none_iff]
  intro e he
  exact h.1 q (.head _) e (by simpa using he)
theorem Apart.next {es : List DictEntry} {q : Int × Str} {qs : List (Int × Str)} {t u : Tok} {x : Str} (h : Apart es (q :: qs)) : Apart (es ++ [⟨hashInt q.1, .int q.1 t, .str x u⟩]) qs := by
  have hn := List.nodup_cons.mp (show (q.1 :: qs.map (·.1)).Nodup from h.2)
  refine ⟨fun p hp e he => ?_, hn.2⟩
  rcases List.mem_append.mp he with he | he
  · exact h.1 p (.tail _ hp) e he
  · rw [List.mem_singleton.mp he]
    show (q.1 == p.1) = false
    rw [beq_eq_false_iff_ne]
    intro z
    exact hn.1 (by rw [z]; exact List.mem_map.mpr ⟨p, hp, rfl⟩)
theorem intKeys_push {es : List DictEntry} {k : Int} {t : Tok} {v : Value} (h : PySem.IntKeys es.toArray) : PySem.IntKeys (es ++ [(⟨hashInt k, .int k t, v⟩ : DictEntry)]).toArray := by
  intro e he
  have he : e ∈ es ++ [(⟨hashInt k, .int k t, v⟩ : DictEntry)] := by simpa using he
  rcases List.mem_append.mp he with he | he
  · exact h e (by simpa using he)
  · rw [List.mem_singleton.mp he]; exact ⟨k, t, rfl, rfl⟩
/-- a dict's object -/
noncomputable abbrev dct (es : List DictEntry) (ep : Nat) : Obj := { cls := .type "dict", data := .dict es.toArray ep }
noncomputable def setAt (h : Heap) (d : Addr) (o : Obj) : Heap := h.update d fun _ => o
theorem heap_ext {a b : Heap} (h : ∀ i : Nat, a.objs[i]? = b.objs[i]?) (hl : a.life = b.life) : a = b := by
  cases a; cases b
  simp only at hl; subst hl
  congr 1
  exact Array.ext_getElem? h
theorem setAt_setAt (h : Heap) (d : Addr) (o o' : Obj) : setAt (setAt h d o) d o' = setAt h d o' := by
  refine heap_ext (fun i => ?_) rfl
  show ((h.objs.modify d _).modify d _)[i]? = (h.objs.modify d _)[i]?
  rw [Array.getElem?_modify, Array.getElem?_modify, Array.getElem?_modify]
  split
  · rw [Option.map_map]; rfl
  · rfl
theorem update_is {h : Heap} {d : Addr} {o : Obj} {f : Obj → Obj} (e : h.objs[d]? = some o) : h.update d f = setAt h d (f o) := by
  refine heap_ext (fun i => ?_) rfl
  show (h.objs.modify d _)[i]? = (h.objs.modify d _)[i]?
  rw [Array.getElem?_modify, Array.getElem?_modify]
  split
  · rename_i z; subst z; rw [e]; rfl
  · rfl
theorem get_at {h : Heap} {d : Addr} {es : List DictEntry} {ep : Nat} (e : h.objs[d]? = some (dct es ep)) : h.get? d = some (dct es ep) := by
  unfold Heap.get?
  rw [e]
theorem at_setAt {h : Heap} {d : Addr} {o o' : Obj} (e : h.objs[d]? = some o) : (setAt h d o').objs[d]? = some o' := by
  show (h.objs.modify d _)[d]? = _
  rw [Array.getElem?_modify, if_pos rfl, e]; rfl
theorem setAt_self {h : Heap} {d : Addr} {o : Obj} (e : h.objs[d]? = some o) : setAt h d o = h := by
  refine heap_ext (fun i => ?_) rfl
  show (h.objs.modify d _)[i]? = _
  rw [Array.getElem?_modify]
  split
  · rename_i z; subst z; rw [e]; rfl
  · rfl
theorem fill {d : Addr} {f : (Sem Value × Sem Value) → PUnit → Sem (ForInStep PUnit)} (hf : ∀ p u, f p u = (do let kv ← p.1; let vv ← holding [kv] p.2; holding [kv, vv] (dictSet d kv vv); pure (ForInStep.yield PUnit.unit))) :
    ∀ (ps : List (Sem Value × Sem Value)) (qs : List (Int × Str)) (es : List DictEntry) (ep : Nat) (s : Shared) (Q : PUnit → Shared → Prop), PairsAre (model prog w) A ps qs → s.heap.objs[d]? = some (dct es ep) → PySem.IntKeys es.toArray → Apart es qs → es.length + qs.length ≤ 1000 →
      Q PUnit.unit { s with heap := setAt s.heap d (dct (es ++ ents3 3 s.toks qs) (ep + qs.length)), toks := s.toks + 3 * qs.length } → wpAny (model prog w) A (forIn ps PUnit.unit f) Q E s
  | [], [], es, ep, s, Q, _, ho, _, _, _, h => by
    rw [List.forIn_nil]
    refine wpAny_pure ?_
    have e : setAt s.heap d (dct (es ++ ents3 3 s.toks []) (ep + 0)) = s.heap := by
      rw [show es ++ ents3 3 s.toks [] = es by simp [ents3]]
      exact setAt_self ho
    have h2 : Q PUnit.unit { s with heap := setAt s.heap d (dct (es ++ ents3 3 s.toks []) (ep + 0)), toks := s.toks + 0 } := h
    rw [e] at h2
    exact h2
  | p :: ps, q :: qs, es, ep, s, Q, hp, ho, hk, ha, hl, h => by
    rw [List.forIn_cons, hf]
    refine wpAny_bind (wpAny_bind (hp.1.key (wpAny_bind (wpAny_holding (hp.1.val (wpAny_bind (wpAny_holding ?_)))))))
    refine set_int (o := dct es ep) (get_at ho) rfl hk ha.find (by simp only [List.length_cons] at hl; simp; omega) ?_
    refine wpAny_pure ?_
    rw [update_is ho]
    have hm : Obj.mapDictKeys (fun x => x.push ⟨hashInt q.1, .int q.1 s.toks, .str q.2 (s.toks + 1)⟩) (dct es ep) = dct (es ++ [⟨hashInt q.1, .int q.1 s.toks, .str q.2 (s.toks + 1)⟩]) (ep + 1) := by
      show ({ cls := .type "dict", data := .dict (es.toArray.push _) (ep + 1) } : Obj) = _
      rw [List.push_toArray]
    rw [hm]
    refine fill hf ps qs _ (ep + 1) _ Q hp.2 (at_setAt ho) (intKeys_push hk) ha.next (by simp only [List.length_cons, List.length_append, List.length_nil] at hl ⊢; omega) ?_
    have e1 : (es ++ [⟨hashInt q.1, .int q.1 s.toks, .str q.2 (s.toks + 1)⟩]) ++ ents3 3 (s.toks + 1 + 1 + 1) qs = es ++ ents3 3 s.toks (q :: qs) := by
      rw [List.append_assoc]; rfl
    have e2 : ep + 1 + qs.length = ep + (q :: qs).length := by rw [List.length_cons]; omega
    have e3 : s.toks + 1 + 1 + 1 + 3 * qs.length = s.toks + 3 * (q :: qs).length := by rw [List.length_cons]; omega
    dsimp only
    rw [setAt_setAt, e1, e2, e3]
    exact h
  | [], _ :: _, _, _, _, _, hp, _, _, _, _, _ => hp.elim
  | _ :: _, [], _, _, _, _, hp, _, _, _, _, _ => hp.elim
end
end
-- B2
section
set_option maxRecDepth 100000
open PySem PySem.W PySem.Calls PyProof.Rows
section
variable {prog : Program} {w : World} {A : Around} {E : Value → Shared → Prop} {s : Shared}
/-- a heap with more objects at its end -/
noncomputable def pushAll (h : Heap) (l : List Obj) : Heap := l.foldl Heap.push h
theorem pushAll_objs (h : Heap) (l : List Obj) : (pushAll h l) = ⟨h.objs ++ l.toArray, h.life⟩ := by
  cases h; exact pushes _ l _
theorem pushAll_snoc (h : Heap) (l : List Obj) (o : Obj) : (pushAll h l).push o = pushAll h (l ++ [o]) := by
  unfold pushAll; rw [List.foldl_append]; rfl
theorem pushAll_cons (h : Heap) (l : List Obj) (o : Obj) : pushAll (h.push o) l = pushAll h (o :: l) := rfl
theorem push_at (h : Heap) (o : Obj) : (h.push o).objs[h.objs.size]? = some o := by
  show (h.objs.push o)[h.objs.size]? = _
  simp
theorem pushAll_at {h : Heap} {l : List Obj} {i : Nat} {o : Obj} (e : h.objs[i]? = some o) : (pushAll h l).objs[i]? = some o := by
  rw [pushAll_objs]
  show (h.objs ++ l.toArray)[i]? = _
  rw [Array.getElem?_append_left]
  · exact e
  · exact (Array.getElem?_eq_some_iff.mp e).1
theorem setAt_push (h : Heap) (o o' : Obj) : setAt (h.push o) h.objs.size o' = h.push o' := by
  refine heap_ext (fun i => ?_) rfl
  show ((h.objs.push o).modify h.objs.size _)[i]? = (h.objs.push o')[i]?
  rw [Array.getElem?_modify, Array.getElem?_push, Array.getElem?_push]
  by_cases z : h.objs.size = i
  · subst z; simp
  · rw [if_neg z, if_neg (fun q => z q.symm), if_neg (fun q => z q.symm)]
theorem setAt_pushAll {h : Heap} {d : Addr} {l : List Obj} {o o' : Obj} (e : h.objs[d]? = some o) : setAt (pushAll h l) d o' = pushAll (setAt h d o') l := by
  rw [pushAll_objs, pushAll_objs]
  refine heap_ext (fun i => ?_) rfl
  show ((h.objs ++ l.toArray).modify d fun _ => o')[i]? = ((h.objs.modify d fun _ => o') ++ l.toArray)[i]?
  have hd : d < h.objs.size := (Array.getElem?_eq_some_iff.mp e).1
  rw [Array.getElem?_modify]
  by_cases z : d = i
  · subst z
    rw [if_pos rfl, Array.getElem?_append_left hd, Array.getElem?_append_left (by simpa using hd), Array.getElem?_modify, if_pos rfl]
  · rw [if_neg z]
    by_cases q : i < h.objs.size
    · rw [Array.getElem?_append_left q, Array.getElem?_append_left (by simpa using q), Array.getElem?_modify, if_neg z]
    · rw [Array.getElem?_append_right (Nat.le_of_not_lt q), Array.getElem?_append_right (by simpa using Nat.le_of_not_lt q)]
      simp
theorem intKeys_nil : PySem.IntKeys ([] : List DictEntry).toArray := fun e he => by simp at he
theorem PairsAre.length {M : Model} : ∀ {ps : List (Sem Value × Sem Value)} {qs : List (Int × Str)}, PairsAre M A ps qs → ps.length = qs.length
  | [], [], _ => rfl
  | _ :: _, _ :: _, h => congrArg (· + 1) (PairsAre.length h.2)
  | [], _ :: _, h => h.elim
  | _ :: _, [], h => h.elim
theorem sub_long {ps : List (Sem Value × Sem Value)} {qs : List (Int × Str)} {Q : Addr → Shared → Prop} (hp : PairsAre (model prog w) A ps qs) (hl : qs.length = 17) (ha : (qs.map (·.1)).Nodup)
    (h : Q s.heap.objs.size { s with heap := s.heap.push (dct (ents3 3 s.toks qs) qs.length), toks := s.toks + 3 * qs.length }) : wpAny (model prog w) A (subDict ps) Q E s := by
  unfold subDict
  refine wpAny_bind (wpAny_alloc (wpAny_bind (wpAny_holding ?_)))
  rw [if_neg (by rw [hp.length, hl]; decide)]
  refine wpAny_bind (wpAny_rule ?_)
  refine wpAny_bind (fill (fun p u => rfl) ps qs [] 0 _ _ hp (push_at _ _) intKeys_nil ⟨fun _ _ _ he => (by cases he), ha⟩ (by rw [hl]; decide) ?_)
  refine wpAny_pure (wpAny_pure ?_)
  dsimp only
  rw [setAt_push, List.nil_append, Nat.zero_add]
  exact h
end
end
-- B3
section
set_option maxRecDepth 100000
open PySem PySem.W PySem.Calls PyProof.Rows
section
variable {prog : Program} {w : World} {A : Around} {E : Value → Shared → Prop} {s : Shared}
/-- the written pairs as values -/
noncomputable def vals3 : Nat → List (Int × Str) → List (Value × Value)
  | _, [] => []
  | t, (k, x) :: r => (.int k t, .str x (t + 1)) :: vals3 (t + 2) r
theorem evalPairs_are : ∀ (ps : List (Sem Value × Sem Value)) (qs : List (Int × Str)) (s : Shared) (Q : List (Value × Value) → Shared → Prop), PairsAre (model prog w) A ps qs →
      Q (vals3 s.toks qs) { s with toks := s.toks + 2 * qs.length } → wpAny (model prog w) A (evalPairs ps) Q E s
  | [], [], s, Q, _, h => wpAny_pure h
  | p :: ps, q :: qs, s, Q, hp, h => by
    unfold evalPairs
    refine wpAny_bind (hp.1.key (wpAny_bind (wpAny_holding (hp.1.val (wpAny_bind (wpAny_holding ?_))))))
    refine evalPairs_are ps qs _ _ hp.2 (wpAny_pure ?_)
    have e3 : s.toks + 1 + 1 + 2 * qs.length = s.toks + 2 * (q :: qs).length := by rw [List.length_cons]; omega
    dsimp only
    rw [e3]
    exact h
  | [], _ :: _, _, _, hp, _ => hp.elim
  | _ :: _, [], _, _, hp, _ => hp.elim
theorem fillV {d : Addr} {f : (Value × Value) → PUnit → Sem (ForInStep PUnit)} (hf : ∀ p u, f p u = (do dictSet d p.1 p.2; pure (ForInStep.yield PUnit.unit))) :
    ∀ (qs : List (Int × Str)) (t : Nat) (es : List DictEntry) (ep : Nat) (s : Shared) (Q : PUnit → Shared → Prop), s.heap.objs[d]? = some (dct es ep) → PySem.IntKeys es.toArray → Apart es qs → es.length + qs.length ≤ 1000 →
      Q PUnit.unit { s with heap := setAt s.heap d (dct (es ++ ents3 2 t qs) (ep + qs.length)), toks := s.toks + qs.length } → wpAny (model prog w) A (forIn (vals3 t qs) PUnit.unit f) Q E s
  | [], t, es, ep, s, Q, ho, _, _, _, h => by
    unfold vals3
    rw [List.forIn_nil]
    refine wpAny_pure ?_
    have e : setAt s.heap d (dct (es ++ ents3 2 t []) (ep + 0)) = s.heap := by
      rw [show es ++ ents3 2 t [] = es by simp [ents3]]
      exact setAt_self ho
    have h2 : Q PUnit.unit { s with heap := setAt s.heap d (dct (es ++ ents3 2 t []) (ep + 0)), toks := s.toks + 0 } := h
    rw [e] at h2
    exact h2
  | (k, x) :: qs, t, es, ep, s, Q, ho, hk, ha, hl, h => by
    unfold vals3
    rw [List.forIn_cons, hf]
    refine wpAny_bind (wpAny_bind ?_)
    refine set_int (o := dct es ep) (get_at ho) rfl hk ha.find (by simp only [List.length_cons] at hl; simp; omega) ?_
    refine wpAny_pure ?_
    rw [update_is ho]
    have hm : Obj.mapDictKeys (fun y => y.push ⟨hashInt k, .int k t, .str x (t + 1)⟩) (dct es ep) = dct (es ++ [⟨hashInt k, .int k t, .str x (t + 1)⟩]) (ep + 1) := by
      show ({ cls := .type "dict", data := .dict (es.toArray.push _) (ep + 1) } : Obj) = _
      rw [List.push_toArray]
    rw [hm]
    refine fillV hf qs (t + 2) _ (ep + 1) _ Q (at_setAt ho) (intKeys_push hk) ha.next (by simp only [List.length_cons, List.length_append, List.length_nil] at hl ⊢; omega) ?_
    have e1 : (es ++ [⟨hashInt k, .int k t, .str x (t + 1)⟩]) ++ ents3 2 (t + 2) qs = es ++ ents3 2 t ((k, x) :: qs) := by
      rw [List.append_assoc]; rfl
    have e2 : ep + 1 + qs.length = ep + ((k, x) :: qs).length := by rw [List.length_cons]; omega
    have e3 : s.toks + 1 + qs.length = s.toks + ((k, x) :: qs).length := by rw [List.length_cons]; omega
    dsimp only
    rw [setAt_setAt, e1, e2, e3]
    exact h
theorem sub_short {ps : List (Sem Value × Sem Value)} {qs : List (Int × Str)} {Q : Addr → Shared → Prop} (hp : PairsAre (model prog w) A ps qs) (hl : qs.length ≤ 15) (ha : (qs.map (·.1)).Nodup)
    (h : Q s.heap.objs.size { s with heap := s.heap.push (dct (ents3 2 s.toks qs) qs.length), toks := s.toks + 3 * qs.length }) : wpAny (model prog w) A (subDict ps) Q E s := by
  unfold subDict
  refine wpAny_bind (wpAny_alloc (wpAny_bind (wpAny_holding ?_)))
  rw [if_pos (by rw [hp.length]; exact hl)]
  refine wpAny_bind (evalPairs_are ps qs _ _ hp (wpAny_holding ?_))
  refine wpAny_bind (fillV (fun p u => rfl) qs _ [] 0 _ _ (push_at _ _) intKeys_nil ⟨fun _ _ _ he => (by cases he), ha⟩ (by simp only [List.length_nil]; omega) ?_)
  refine wpAny_pure (wpAny_pure ?_)
  dsimp only
  have e3 : s.toks + 2 * qs.length + qs.length = s.toks + 3 * qs.length := by omega
  rw [setAt_push, List.nil_append, Nat.zero_add, e3]
  exact h
theorem at_ne {h : Heap} {d a : Addr} {o o' : Obj} (n : d ≠ a) (e : h.objs[a]? = some o) : (setAt h d o').objs[a]? = some o := by
  show (h.objs.modify d _)[a]? = _
  rw [Array.getElem?_modify, if_neg n]; exact e
theorem mergeLoop {d a : Addr} {P ep2 : Nat} (hda : d ≠ a) {f : Nat → PUnit → Sem (ForInStep PUnit)} (hf : ∀ i u, f i u = (do
      let some e := (← dictEntries a)[i]? | unsupported "dict.changed-during-merge"
      holding [e.key, e.val] do
        if false then
          if (← dictFind d e.key e.hash).isSome then rule "dict.merge.duplicate-key"; raiseNew (← newExc (.type "KeyError") [e.key])
        dictPut d e.hash e.key e.val
      if (← dictEpoch a) != ep2 then unsupported "dict.changed-during-merge"
      pure (ForInStep.yield PUnit.unit))) :
    ∀ (qs : List (Int × Str)) (t : Nat) (pre es : List DictEntry) (ep : Nat) (s : Shared) (Q : PUnit → Shared → Prop), s.heap.objs[d]? = some (dct es ep) → s.heap.objs[a]? = some (dct (pre ++ ents3 P t qs) ep2) → PySem.IntKeys es.toArray → Apart es qs → es.length + qs.length ≤ 1000 →
      Q PUnit.unit { s with heap := setAt s.heap d (dct (es ++ ents3 P t qs) (ep + qs.length)) } → wpAny (model prog w) A (forIn (List.range' pre.length qs.length) PUnit.unit f) Q E s
  | [], t, pre, es, ep, s, Q, ho, _, _, _, _, h => by
    rw [List.length_nil, List.range'_zero, List.forIn_nil]
    refine wpAny_pure ?_
    have e : setAt s.heap d (dct (es ++ ents3 P t []) (ep + 0)) = s.heap := by
      rw [show es ++ ents3 P t [] = es by simp [ents3]]
      exact setAt_self ho
    have h2 : Q PUnit.unit { s with heap := setAt s.heap d (dct (es ++ ents3 P t []) (ep + 0)) } := h
    rw [e] at h2
    exact h2
  | (k, x) :: qs, t, pre, es, ep, s, Q, ho, ho2, hk, ha, hl, h => by
    rw [List.length_cons, List.range'_succ, List.forIn_cons, hf]
    refine wpAny_bind (wpAny_bind (wpAny_dictEntries (get_at ho2) rfl ?_))
    have e : (pre ++ ents3 P t ((k, x) :: qs)).toArray[pre.length]? = some ⟨hashInt k, .int k t, .str x (t + 1)⟩ := by
      rw [List.getElem?_toArray, List.getElem?_append_right (Nat.le_refl _), Nat.sub_self]; rfl
    rw [e]
    refine wpAny_bind (wpAny_holding ?_)
    dsimp only
    rw [if_neg (by decide)]
    unfold dictPut
    refine wpAny_bind (wpAny_dictFind_int (get_at ho) rfl hk ?_)
    rw [ha.find]
    refine wpAny_updateDictKeysTo (get_at ho) rfl ?_ (by rw [Array.size_push, sizeLine_eq]; simp only [List.length_cons] at hl; simp; omega)
    refine wpAny_bind (wpAny_dictEpoch (o := dct (pre ++ ents3 P t ((k, x) :: qs)) ep2) ?_ rfl ?_)
    · rw [update_is ho]
      exact get_at (at_ne hda ho2)
    rw [if_neg (by simp)]
    refine wpAny_pure ?_
    rw [update_is ho]
    have hm : Obj.mapDictKeys (fun y => y.push ⟨hashInt k, .int k t, .str x (t + 1)⟩) (dct es ep) = dct (es ++ [⟨hashInt k, .int k t, .str x (t + 1)⟩]) (ep + 1) := by
      show ({ cls := .type "dict", data := .dict (es.toArray.push _) (ep + 1) } : Obj) = _
      rw [List.push_toArray]
    rw [hm]
    have hlen : pre.length + 1 = (pre ++ [(⟨hashInt k, .int k t, .str x (t + 1)⟩ : DictEntry)]).length := by simp
    have hpre : pre ++ ents3 P t ((k, x) :: qs) = (pre ++ [⟨hashInt k, .int k t, .str x (t + 1)⟩]) ++ ents3 P (t + P) qs := by rw [List.append_assoc]; rfl
    rw [hlen]
    refine mergeLoop hda hf qs (t + P) _ _ (ep + 1) _ Q (at_setAt ho) (by rw [← hpre]; exact at_ne hda ho2) (intKeys_push hk) ha.next (by simp only [List.length_cons, List.length_append, List.length_nil] at hl ⊢; omega) ?_
    have e1 : (es ++ [⟨hashInt k, .int k t, .str x (t + 1)⟩]) ++ ents3 P (t + P) qs = es ++ ents3 P t ((k, x) :: qs) := by
      rw [List.append_assoc]; rfl
    have e2 : ep + 1 + qs.length = ep + ((k, x) :: qs).length := by rw [List.length_cons]; omega
    dsimp only
    rw [setAt_setAt, e1, e2]
    exact h
end
end
-- B4
section
set_option maxRecDepth 100000
open PySem PySem.W PySem.Calls PyProof.Rows
section
variable {prog : Program} {w : World} {A : Around} {E : Value → Shared → Prop} {s : Shared}
theorem merge {d a : Addr} {P t ep ep2 : Nat} {qs : List (Int × Str)} {e0 : DictEntry} {es : List DictEntry} {Q : Unit → Shared → Prop} (hda : d ≠ a) (hs : (a == sysModules) = false) (ho : s.heap.objs[d]? = some (dct (e0 :: es) ep)) (ho2 : s.heap.objs[a]? = some (dct (ents3 P t qs) ep2)) (hk : PySem.IntKeys (e0 :: es).toArray) (ha : Apart (e0 :: es) qs) (hl : (e0 :: es).length + qs.length ≤ 1000)
    (h : Q () { s with heap := setAt s.heap d (dct ((e0 :: es) ++ ents3 P t qs) (ep + qs.length)) }) : wpAny (model prog w) A (mergeMapping d (.ref a) false) Q E s := by
  have hT : s.TypeIs (.ref a) "dict" := ⟨_, get_at ho2, rfl⟩
  unfold mergeMapping
  refine wpAny_bind (wpAny_isInstance hT PySem.F.sub_dict_dict ?_)
  rw [if_pos rfl]
  refine wpAny_bind (wpAny_specialOf hT PySem.F.slot_dict_iter.lookup ?_)
  refine wpAny_bind (wpAny_pure ?_)
  have eb : ((some (Value.builtin "dict.__iter__") : Option Value) == some (.builtin "dict.__iter__")) = true := by kernel_rfl
  rw [eb]
  dsimp only
  rw [if_neg (by rw [hs]; decide)]
  refine wpAny_bind (wpAny_dictEntries (get_at ho) rfl ?_)
  rw [if_neg (by simp)]
  refine wpAny_bind (wpAny_dictEntries (get_at ho2) rfl (wpAny_bind (wpAny_dictEpoch (get_at ho2) rfl ?_)))
  have hsz : ∀ (qs : List (Int × Str)) (t : Nat), (ents3 P t qs).length = qs.length := by
    intro qs
    induction qs with
    | nil => intro t; rfl
    | cons q qs ih => intro t; show (ents3 P (t + P) qs).length + 1 = _; rw [ih]; rfl
  have hr : List.range (ents3 P t qs).toArray.size = List.range' ([] : List DictEntry).length qs.length := by
    rw [List.size_toArray, hsz, List.range_eq_range']; rfl
  rw [hr]
  refine wpAny_bind (mergeLoop (P := P) hda (fun i u => rfl) qs t [] (e0 :: es) ep s _ ho (by rw [List.nil_append]; exact ho2) hk ha hl (wpAny_pure h))
end
end
-- B5
section
set_option maxRecDepth 100000
open PySem PySem.W PySem.Calls PyProof.Rows
section
variable {prog : Program} {w : World} {A : Around} {E : Value → Shared → Prop} {s : Shared}
theorem hsz {P : Nat} : ∀ (qs : List (Int × Str)) (t : Nat), (ents3 P t qs).length = qs.length
  | [], t => rfl
  | q :: qs, t => congrArg (· + 1) (hsz qs (t + P))
/-- what a display has built so far: the entries of its dict, and the dicts of its runs -/
noncomputable abbrev Built := Option (List DictEntry × List Obj)
noncomputable def heapOf (h : Heap) : Built → Heap
  | none => h
  | some (es, subs) => pushAll (h.push (dct es es.length)) subs
noncomputable def mainOf (h : Heap) : Built → Option Addr
  | none => none
  | some _ => some h.objs.size
noncomputable def Built.run (P t : Nat) (c : List (Int × Str)) : Built → Built
  | none => some (ents3 P t c, [])
  | some (es, subs) => some (es ++ ents3 P t c, subs ++ [dct (ents3 P t c) c.length])
/-- the loop of a display over its pairs, in runs of 17 -/
noncomputable def disp : List (Int × Str) → List (Int × Str) → Nat → Built → Built × List (Int × Str) × Nat
  | [], r, t, b => (b, r, t)
  | q :: qs, r, t, b => match Nat.beq r.length 16 with
    | true => disp qs [] (t + 3 * 17) (b.run 3 t (r ++ [q]))
    | false => disp qs (r ++ [q]) t b
noncomputable def BuiltOk (b : Built) (qs : List (Int × Str)) : Prop := match b with
  | none => (qs.map (·.1)).Nodup
  | some (es, _) => es ≠ [] ∧ PySem.IntKeys es.toArray ∧ Apart es qs
noncomputable def Built.len : Built → Nat
  | none => 0
  | some (es, _) => es.length
theorem intKeys_ents {P : Nat} : ∀ (c : List (Int × Str)) (t : Nat) (es : List DictEntry), PySem.IntKeys es.toArray → PySem.IntKeys (es ++ ents3 P t c).toArray
  | [], t, es, h => by rw [show es ++ ents3 P t [] = es by simp [ents3]]; exact h
  | (k, x) :: c, t, es, h => by
    have := intKeys_ents (P := P) c (t + P) _ (intKeys_push (k := k) (t := t) (v := .str x (t + 1)) h)
    rw [List.append_assoc] at this
    exact this
theorem Apart.run {P : Nat} : ∀ (c : List (Int × Str)) (t : Nat) {es : List DictEntry} {qs : List (Int × Str)}, Apart es (c ++ qs) → Apart (es ++ ents3 P t c) qs
  | [], t, es, qs, h => by rw [show es ++ ents3 P t [] = es by simp [ents3]]; exact h
  | (k, x) :: c, t, es, qs, h => by
    have := Apart.run (P := P) c (t + P) (h.next (t := t) (u := t + 1) (x := x))
    rw [List.append_assoc] at this
    exact this
theorem Apart.left {es : List DictEntry} {c qs : List (Int × Str)} (h : Apart es (c ++ qs)) : Apart es c :=
  ⟨fun q hq => h.1 q (List.mem_append_left _ hq), by have := h.2; rw [List.map_append] at this; exact (List.nodup_append.mp this).1⟩
theorem BuiltOk.run {P t : Nat} {b : Built} {c qs : List (Int × Str)} (hc : c ≠ []) (h : BuiltOk b (c ++ qs)) : BuiltOk (b.run P t c) qs := by
  cases b with
  | none =>
    have h : Apart [] (c ++ qs) := ⟨fun _ _ _ he => (by simp at he), h⟩
    have r := h.run (P := P) c t
    have k := intKeys_ents (P := P) c t [] intKeys_nil
    rw [List.nil_append] at r k
    refine ⟨fun z => hc ?_, k, r⟩
    have := congrArg List.length z
    rw [hsz] at this
    exact List.eq_nil_of_length_eq_zero this
  | some x =>
    obtain ⟨es, subs⟩ := x
    obtain ⟨h1, h2, h3⟩ := h
    refine ⟨fun z => h1 (List.append_eq_nil_iff.mp z).1, intKeys_ents c t es h2, h3.run c t⟩
theorem Built.len_run {P t : Nat} {b : Built} {c : List (Int × Str)} : (b.run P t c).len = b.len + c.length := by
  cases b with
  | none => show (ents3 P t c).length = 0 + c.length; rw [hsz, Nat.zero_add]
  | some x => show (x.1 ++ ents3 P t c).length = x.1.length + c.length; rw [List.length_append, hsz]
theorem pushAll_size (h : Heap) (l : List Obj) : (pushAll h l).objs.size = h.objs.size + l.length := by
  rw [pushAll_objs]; show (h.objs ++ l.toArray).size = _; simp
theorem push_size (h : Heap) (o : Obj) : (h.push o).objs.size = h.objs.size + 1 := by
  show (h.objs.push o).size = _; simp
/-- what a run does to a display: a dict of its own, and that dict put into the main one -/
theorem flush_main {h : Heap} {es : List DictEntry} {subs : List Obj} {P : Nat} {c : List (Int × Str)} {ps : List (Sem Value × Sem Value)} {Q : PUnit → Shared → Prop} {E' : Value → Shared → Prop}
    (hsub : ∀ {s : Shared} {Q : Addr → Shared → Prop}, Q s.heap.objs.size { s with heap := s.heap.push (dct (ents3 P s.toks c) c.length), toks := s.toks + 3 * c.length } → wpAny (model prog w) A (subDict ps) Q E s)
    (hb : BuiltOk (some (es, subs)) c) (hl : es.length + c.length ≤ 1000) (hs : s.heap = heapOf h (some (es, subs))) (hsys : sysModules < h.objs.size)
    (hq : Q PUnit.unit { s with heap := heapOf h (Built.run P s.toks c (some (es, subs))), toks := s.toks + 3 * c.length }) :
    wpAny (model prog w) A (subDict ps) (fun a s' => wpAny (model prog w) A (mergeMapping h.objs.size (.ref a) false) (fun u s'' => Q u s'') E' s') E s := by
  obtain ⟨h1, h2, h3⟩ := hb
  refine hsub ?_
  rw [hs]
  show wpAny _ _ (mergeMapping h.objs.size (.ref (pushAll (h.push (dct es es.length)) subs).objs.size) false) _ _ { s with heap := (pushAll (h.push (dct es es.length)) subs).push (dct (ents3 P s.toks c) c.length), toks := s.toks + 3 * c.length }
  have hn : h.objs.size < (pushAll (h.push (dct es es.length)) subs).objs.size := by rw [pushAll_size, push_size]; omega
  have e1 : ((pushAll (h.push (dct es es.length)) subs).push (dct (ents3 P s.toks c) c.length)) = pushAll (h.push (dct es es.length)) (subs ++ [dct (ents3 P s.toks c) c.length]) := pushAll_snoc _ _ _
  have hd : ((pushAll (h.push (dct es es.length)) subs).push (dct (ents3 P s.toks c) c.length)).objs[h.objs.size]? = some (dct es es.length) := by
    rw [e1]; exact pushAll_at (push_at _ _)
  cases es with
  | nil => exact absurd rfl h1
  | cons e0 es =>
    refine merge (P := P) (t := s.toks) (qs := c) (ep2 := c.length) (Nat.ne_of_lt hn) ?_ hd (push_at _ _) h2 h3 hl ?_
    · rw [beq_eq_false_iff_ne]
      intro z
      rw [z] at hn
      exact absurd hn (Nat.not_lt.mpr (Nat.le_of_lt hsys))
    · dsimp only
      rw [e1, setAt_pushAll (push_at _ _), setAt_push]
      have e2 : ((e0 :: es) ++ ents3 P s.toks c).length = (e0 :: es).length + c.length := by rw [List.length_append, hsz]
      have e3 : heapOf h (Built.run P s.toks c (some (e0 :: es, subs))) = pushAll (h.push (dct ((e0 :: es) ++ ents3 P s.toks c) ((e0 :: es).length + c.length))) (subs ++ [dct (ents3 P s.toks c) c.length]) := by
        rw [← e2]; rfl
      rw [← e3]
      exact hq
theorem flush_none {h : Heap} {P : Nat} {c : List (Int × Str)} {ps : List (Sem Value × Sem Value)} {Q : Addr → Shared → Prop}
    (hsub : ∀ {s : Shared} {Q : Addr → Shared → Prop}, Q s.heap.objs.size { s with heap := s.heap.push (dct (ents3 P s.toks c) c.length), toks := s.toks + 3 * c.length } → wpAny (model prog w) A (subDict ps) Q E s)
    (hs : s.heap = h) (hq : Q h.objs.size { s with heap := heapOf h (Built.run P s.toks c none), toks := s.toks + 3 * c.length }) : wpAny (model prog w) A (subDict ps) Q E s := by
  subst hs
  refine hsub ?_
  have e : heapOf s.heap (Built.run P s.toks c none) = s.heap.push (dct (ents3 P s.toks c) c.length) := by
    show s.heap.push (dct (ents3 P s.toks c) (ents3 P s.toks c).length) = _
    rw [hsz]
  rw [e] at hq
  exact hq
end
end
-- B6
section
set_option maxRecDepth 100000
open PySem PySem.W PySem.Calls PyProof.Rows
section
variable {prog : Program} {w : World} {A : Around} {E : Value → Shared → Prop} {s : Shared}
theorem PairsAre.snoc {M : Model} {k v : Sem Value} {q : Int × Str} (h2 : PairIs M A (k, v) q) : ∀ {ps : List (Sem Value × Sem Value)} {qs : List (Int × Str)}, PairsAre M A ps qs → PairsAre M A (ps ++ [(k, v)]) (qs ++ [q])
  | [], [], _ => ⟨h2, trivial⟩
  | _ :: _, _ :: _, h => ⟨h.1, PairsAre.snoc h2 h.2⟩
  | [], _ :: _, h => h.elim
  | _ :: _, [], h => h.elim
noncomputable abbrev DState := Option Addr × List (Sem Value × Sem Value)
theorem displayLoop {h : Heap} {f : (Option (Sem Value) × Sem Value) → DState → Sem (ForInStep DState)}
    (hf1 : ∀ (k v : Sem Value) (m : Option Addr) (run : List (Sem Value × Sem Value)) {Q : ForInStep DState → Shared → Prop} {s : Shared}, run.length ≠ 16 → Q (.yield ⟨m, run ++ [(k, v)]⟩) s → wpAny (model prog w) A (f (some k, v) ⟨m, run⟩) Q E s)
    (hf2 : ∀ (k v : Sem Value) (run : List (Sem Value × Sem Value)) {Q : ForInStep DState → Shared → Prop} {s : Shared}, run.length = 16 → wpAny (model prog w) A (subDict (run ++ [(k, v)])) (fun a s' => Q (.yield ⟨some a, []⟩) s') E s → wpAny (model prog w) A (f (some k, v) ⟨none, run⟩) Q E s)
    (hf3 : ∀ (d : Addr) (k v : Sem Value) (run : List (Sem Value × Sem Value)) {Q : ForInStep DState → Shared → Prop} {s : Shared}, run.length = 16 → (∀ E' : Value → Shared → Prop, wpAny (model prog w) A (subDict (run ++ [(k, v)])) (fun a s' => wpAny (model prog w) A (mergeMapping d (.ref a) false) (fun _ s'' => Q (.yield ⟨some d, []⟩) s'') E' s') E s) → wpAny (model prog w) A (f (some k, v) ⟨some d, run⟩) Q E s)
    (hsys : sysModules < h.objs.size) :
    ∀ (ps : List (Sem Value × Sem Value)) (qs : List (Int × Str)) (run : List (Sem Value × Sem Value)) (qrun : List (Int × Str)) (b : Built) (s : Shared) (Q : DState → Shared → Prop),
      PairsAre (model prog w) A ps qs → PairsAre (model prog w) A run qrun → BuiltOk b (qrun ++ qs) → b.len + (qrun ++ qs).length ≤ 1000 → s.heap = heapOf h b →
      (∀ run', PairsAre (model prog w) A run' (disp qs qrun s.toks b).2.1 → BuiltOk (disp qs qrun s.toks b).1 (disp qs qrun s.toks b).2.1 → (disp qs qrun s.toks b).1.len + (disp qs qrun s.toks b).2.1.length ≤ 1000 →
        Q ⟨mainOf h (disp qs qrun s.toks b).1, run'⟩ { s with heap := heapOf h (disp qs qrun s.toks b).1, toks := (disp qs qrun s.toks b).2.2 }) →
      wpAny (model prog w) A (forIn (ps.map fun p => (some p.1, p.2)) (⟨mainOf h b, run⟩ : DState) f) Q E s
  | [], [], run, qrun, b, s, Q, _, hr, hb, hl, hs, hq => by
    rw [List.map_nil, List.forIn_nil]
    refine wpAny_pure ?_
    rw [List.append_nil] at hb hl
    have := hq run hr hb hl
    unfold disp at this
    dsimp only at this
    rw [← hs] at this
    exact this
  | p :: ps, q :: qs, run, qrun, b, s, Q, hp, hr, hb, hl, hs, hq => by
    rw [List.map_cons, List.forIn_cons]
    refine wpAny_bind ?_
    have hrl := hr.length
    have hr2 : PairsAre (model prog w) A (run ++ [(p.1, p.2)]) (qrun ++ [q]) := hr.snoc hp.1
    have e1 : qrun ++ (q :: qs) = (qrun ++ [q]) ++ qs := by rw [List.append_assoc]; rfl
    unfold disp at hq
    by_cases c : qrun.length = 16
    · have cb : Nat.beq qrun.length 16 = true := by rw [c]; rfl
      rw [cb] at hq
      dsimp only at hq
      have hc17 : (qrun ++ [q]).length = 17 := by rw [List.length_append, c]; rfl
      have hne : qrun ++ [q] ≠ [] := by simp
      rw [e1] at hb hl
      have hb2 := hb.run (P := 3) (t := s.toks) hne
      have hl2 : (b.run 3 s.toks (qrun ++ [q])).len + ([] ++ qs : List (Int × Str)).length ≤ 1000 := by
        rw [Built.len_run]; rw [List.length_append] at hl; simp only [List.nil_append]; omega
      have hsub : ∀ {s : Shared} {Q : Addr → Shared → Prop}, ((qrun ++ [q]).map (·.1)).Nodup → Q s.heap.objs.size { s with heap := s.heap.push (dct (ents3 3 s.toks (qrun ++ [q])) (qrun ++ [q]).length), toks := s.toks + 3 * (qrun ++ [q]).length } → wpAny (model prog w) A (subDict (run ++ [(p.1, p.2)])) Q E s :=
        fun nd hh => sub_long hr2 hc17 nd hh
      cases b with
      | none =>
        have nd : ((qrun ++ [q]).map (·.1)).Nodup := by
          have hb : (((qrun ++ [q]) ++ qs).map (·.1)).Nodup := hb
          rw [List.map_append] at hb
          exact (List.nodup_append.mp hb).1
        refine hf2 p.1 p.2 run (by rw [hrl]; exact c) (flush_none (P := 3) (h := h) (c := qrun ++ [q]) (hsub nd) hs ?_)
        refine displayLoop hf1 hf2 hf3 hsys ps qs [] [] (Built.run 3 s.toks (qrun ++ [q]) none) _ Q hp.2 trivial hb2 hl2 rfl ?_
        dsimp only
        rw [hc17]
        exact hq
      | some x =>
        obtain ⟨es, subs⟩ := x
        have nd : ((qrun ++ [q]).map (·.1)).Nodup := hb.2.2.left.2
        refine hf3 h.objs.size p.1 p.2 run (by rw [hrl]; exact c) (fun E' => flush_main (P := 3) (h := h) (es := es) (subs := subs) (c := qrun ++ [q]) (Q := fun _ s'' => _) (hsub nd) ⟨hb.1, hb.2.1, hb.2.2.left⟩ ?_ hs hsys ?_)
        · have hl : es.length + ((qrun ++ [q]) ++ qs).length ≤ 1000 := hl
          rw [List.length_append] at hl; omega
        · refine displayLoop hf1 hf2 hf3 hsys ps qs [] [] (Built.run 3 s.toks (qrun ++ [q]) (some (es, subs))) _ Q hp.2 trivial hb2 hl2 rfl ?_
          dsimp only
          rw [hc17]
          exact hq
    · have cb : Nat.beq qrun.length 16 = false := by
        cases z : Nat.beq qrun.length 16 with
        | false => rfl
        | true => exact absurd (Nat.eq_of_beq_eq_true z) c
      rw [cb] at hq
      refine hf1 p.1 p.2 _ run (by rw [hrl]; exact c) ?_
      exact displayLoop hf1 hf2 hf3 hsys ps qs _ _ b s Q hp.2 hr2 (by rw [← e1]; exact hb) (by rw [← e1]; exact hl) hs hq
  | [], _ :: _, _, _, _, _, _, hp, _, _, _, _, _ => hp.elim
  | _ :: _, [], _, _, _, _, _, hp, _, _, _, _, _ => hp.elim
end
end
-- B7
section
set_option maxRecDepth 100000
open PySem PySem.W PySem.Calls PyProof.Rows
section
variable {prog : Program} {w : World} {A : Around} {E : Value → Shared → Prop} {s : Shared}
theorem isEmpty_snoc {α : Type} (l : List α) (a : α) : (l ++ [a]).isEmpty = false := by cases l <;> rfl
theorem display_is {ps : List (Sem Value × Sem Value)} {qs r : List (Int × Str)} {es : List DictEntry} {subs : List Obj} {t : Nat} {Q : Value → Shared → Prop} (hp : PairsAre (model prog w) A ps qs) (nd : (qs.map (·.1)).Nodup) (hl : qs.length ≤ 1000) (hsys : sysModules < s.heap.objs.size)
    (hd : disp qs [] s.toks none = (some (es, subs), r, t)) (hr : r.length ≤ 15) (hr0 : r ≠ [])
    (h : Q (.ref s.heap.objs.size) { s with heap := heapOf s.heap (Built.run 2 t r (some (es, subs))), toks := t + 3 * r.length }) : wpAny (model prog w) A (dictDisplay (ps.map fun p => (some p.1, p.2))) Q E s := by
  unfold dictDisplay
  refine wpAny_bind (displayLoop (h := s.heap) ?_ ?_ ?_ hsys ps qs [] [] none s _ hp trivial nd (by show 0 + qs.length ≤ 1000; omega) rfl ?_)
  · intro k v m run Q s hne hq
    dsimp only
    rw [if_neg (by simp only [List.length_append, List.length_cons, List.length_nil, beq_iff_eq]; omega)]
    exact wpAny_pure hq
  · intro k v run Q s he hq
    dsimp only
    rw [if_pos (by simp only [List.length_append, List.length_cons, List.length_nil, he]; rfl), isEmpty_snoc]
    rw [if_neg (by decide)]
    refine wpAny_bind (wpAny_bind (wpAny_mono hq (fun a s' z => wpAny_pure (wpAny_pure z)) fun _ _ z => z))
  · intro d k v run Q s he hq
    dsimp only
    rw [if_pos (by simp only [List.length_append, List.length_cons, List.length_nil, he]; rfl), isEmpty_snoc]
    rw [if_neg (by decide)]
    refine wpAny_bind (wpAny_bind (wpAny_holding (wpAny_mono (hq _) (fun a s' z => wpAny_bind (wpAny_onRaise (wpAny_holding (wpAny_mono z (fun _ s'' y => wpAny_pure (wpAny_pure y)) fun _ _ y => y)))) fun _ _ z => z)))
  · rw [hd]
    intro run hrun hb hl2
    dsimp only at hrun hb hl2 ⊢
    have hne : run.isEmpty = false := by
      cases run with
      | nil => cases r with
        | nil => exact absurd rfl hr0
        | cons _ _ => exact hrun.elim
      | cons _ _ => rfl
    rw [hne, if_neg (by decide)]
    have nd2 : (r.map (·.1)).Nodup := hb.2.2.2
    have hsub : ∀ {E : Value → Shared → Prop} {s : Shared} {Q : Addr → Shared → Prop}, Q s.heap.objs.size { s with heap := s.heap.push (dct (ents3 2 s.toks r) r.length), toks := s.toks + 3 * r.length } → wpAny (model prog w) A (subDict run) Q E s :=
      fun hh => sub_short hrun hr nd2 hh
    show wpAny _ _ (_ >>= _) _ _ _
    refine wpAny_bind (wpAny_bind (wpAny_holding ?_))
    refine wpAny_mono (flush_main (E := E) (h := s.heap) (es := es) (subs := subs) (P := 2) (c := r) (Q := fun _ s'' => Q (.ref s.heap.objs.size) s'') (s := { s with heap := heapOf s.heap (some (es, subs)), toks := t }) hsub hb hl2 rfl hsys h)
      (fun a s' z => wpAny_bind (wpAny_onRaise (wpAny_holding (wpAny_mono z (fun _ s'' y => wpAny_pure (wpAny_pure y)) fun _ _ y => y)))) fun _ _ z => z
end
end
-- B8
section
set_option maxRecDepth 100000
open PySem PySem.W PySem.Calls PyProof.Rows
section
variable {prog : Program} {w : World} {A : Around} {E : Value → Shared → Prop} {s : Shared}
noncomputable def keyIn : Option PySem.Expr → Option Int
  | some (.Constant (.int k) _ _) => some k
  | _ => none
noncomputable def txtIn : PySem.Expr → Option Str
  | .Constant (.str x) _ _ => some x
  | _ => none
/-- the written pairs of a display: whole numbers and texts, nothing else -/
noncomputable def pairsIn (ks : List (Option PySem.Expr)) : List PySem.Expr → Option (List (Int × Str)) :=
  ks.rec (fun vs => match vs with | [] => some [] | _ :: _ => none)
    fun k _ ih vs => match vs with
      | [] => none
      | v :: vs => (keyIn k).bind fun a => (txtIn v).bind fun x => (ih vs).map ((a, x) :: ·)
theorem keyIn_is {M : Model} {k : Option PySem.Expr} {a : Int} {env : Env} (h : keyIn k = some a) : ∃ t : Sem Value, evalOpt k env = some t ∧ ∀ {E : Value → Shared → Prop} {s : Shared} {Q : Value → Shared → Prop}, Q (.int a s.toks) { s with toks := s.toks + 1 } → wpAny M A t Q E s := by
  unfold keyIn at h
  split at h
  · rename_i k' x y
    cases h
    refine ⟨eval (.Constant (.int a) x y) env, rfl, fun h => ?_⟩
    rw [arm_eval_Constant]
    exact wpAny_mkInt h
  · cases h
theorem txtIn_is {M : Model} {v : PySem.Expr} {a : Str} {env : Env} (h : txtIn v = some a) : ∀ {E : Value → Shared → Prop} {s : Shared} {Q : Value → Shared → Prop}, Q (.str a s.toks) { s with toks := s.toks + 1 } → wpAny M A (eval v env) Q E s := by
  intro E s Q hq
  unfold txtIn at h
  split at h
  · cases h
    rw [arm_eval_Constant]
    exact wpAny_mkText hq
  · cases h
theorem items_are (env : Env) (pos : Pos) : ∀ (ks : List (Option PySem.Expr)) (vs : List PySem.Expr) (qs : List (Int × Str)), pairsIn ks vs = some qs →
    ∃ ps : List (Sem Value × Sem Value), (evalEachOpt ks env).zip ((evalEach vs env).map fun v => do let x ← v; standAt pos; pure x) = ps.map (fun p => (some p.1, p.2)) ∧ PairsAre (model prog w) A ps qs := by
  intro ks
  induction ks with
  | nil =>
    intro vs qs h
    cases vs with
    | nil => cases h; exact ⟨[], rfl, trivial⟩
    | cons => cases h
  | cons k ks ih =>
    intro vs qs h
    cases vs with
    | nil => cases h
    | cons v vs =>
      obtain ⟨a, ha, h⟩ := Option.bind_eq_some_iff.mp (show (keyIn k).bind (fun a => (txtIn v).bind fun x => (pairsIn ks vs).map ((a, x) :: ·)) = some qs from h)
      obtain ⟨x, hx, h⟩ := Option.bind_eq_some_iff.mp h
      obtain ⟨qs', e, rfl⟩ := Option.map_eq_some_iff.mp h
      obtain ⟨ps, e1, e2⟩ := ih vs qs' e
      obtain ⟨t, et, ht⟩ := keyIn_is (M := model prog w) (A := A) (env := env) ha
      refine ⟨(t, (do let x ← eval v env; standAt pos; pure x)) :: ps, ?_, ⟨⟨fun h => ht h, fun h => ?_⟩, e2⟩⟩
      · rw [arm_evalEachOpt_cons, arm_evalEach_cons, List.map_cons, List.zip_cons_cons, e1, List.map_cons, et]
      · exact wpAny_bind (txtIn_is hx (wpAny_bind (wpAny_standAt (wpAny_pure h))))
theorem dict_is {ks : List (Option PySem.Expr)} {vs : List PySem.Expr} {pos : Pos} {env : Env} {qs r : List (Int × Str)} {es : List DictEntry} {subs : List Obj} {t : Nat} {Q : Value → Shared → Prop} (hp : pairsIn ks vs = some qs) (nd : (qs.map (·.1)).Nodup) (hl : qs.length ≤ 1000) (hsys : sysModules < s.heap.objs.size)
    (hd : disp qs [] s.toks none = (some (es, subs), r, t)) (hr : r.length ≤ 15) (hr0 : r ≠ [])
    (h : Q (.ref s.heap.objs.size) { s with heap := heapOf s.heap (Built.run 2 t r (some (es, subs))), toks := t + 3 * r.length }) : wpAny (model prog w) A (eval (.Dict ks vs pos) env) Q E s := by
  obtain ⟨ps, e1, e2⟩ := items_are (prog := prog) (w := w) (A := A) env pos ks vs qs hp
  show wpAny _ _ (do standAt pos; dictDisplay ((evalEachOpt ks env).zip ((evalEach vs env).map fun v => do let x ← v; standAt pos; pure x))) _ _ _
  rw [e1]
  exact wpAny_bind (wpAny_standAt (display_is e2 nd hl hsys hd hr hr0 h))
end
end
-- A4
section
set_option maxRecDepth 100000
open PySem PySem.W PySem.Calls PyProof.Rows
/-- what is so of the code's tree is so of the thread that runs it, up to its last leaf -/
theorem ran_of_wpP {prog : Program} {w : World} {t : Sem PySem.Fin} {c : Code} {p : Pos} {s : Shared} {P : Shared → Prop} (hreg : s.asleep) (hg : ∀ S, P S → S.gens = #[])
    (h : PySem.Sem.wp (model prog w) (Ctx.of c []) t (fun f _ s' => f = .done (.ret .none) ∧ P s') (fun _ _ _ => False) p s) :
    ∃ S, P S ∧ ∃ n t', schedN (denote table) prog w n (.single s ⟨t, c, p, []⟩) = .running (.single S t') ∧ through t' = true := by
  obtain ⟨n, s', σ, p', leaf, hn, hf, hl⟩ := wp_reaches h
  obtain ⟨a, rfl, rfl, hP⟩ : ∃ a, leaf = .pure a ∧ a = .done (.ret .none) ∧ P s' := by
    rcases hl with ⟨a, e, h1, h2⟩ | ⟨e, _, h⟩
    · exact ⟨a, e, h1, h2⟩
    · exact h.elim
  have hg' := hg _ hP
  obtain rfl : σ = s' := Shared.eq_of_forget_eq hf hg'
  refine ⟨σ, hP, ?_⟩
  have h2 : PySem.Sem.wp (model prog w) ⟨c, none, none, [], none⟩ t (Sem.finPost (model prog w) ⟨c, none, none, [], none⟩ fun r s' => (r = .ok (.ret .none)) ∧ leftWithCleanup s'.gens = false)
      (fun e _ s' => ((.error e : Result) = .ok (.ret .none)) ∧ leftWithCleanup s'.gens = false) p s := by
    refine Sem.wp_mono _ _ t (fun fin p' s' h' => ?_) (fun _ _ _ h' => h'.elim) p s h
    obtain ⟨rfl, hp⟩ := h'
    exact ⟨rfl, by rw [hg _ hp]; simp [leftWithCleanup]⟩
  obtain ⟨n2, r, s2, hh, hR⟩ := (wp_iff_halts t (fun r _ => r = .ok (.ret .none)) p s).mp h2
  obtain ⟨s3, hr, _, hc⟩ := runNI_real (denote table) prog w hh (outcomeOf_ends r)
  refine ⟨n, ⟨.pure (.done (.ret .none)), c, p', []⟩, ?_, ?_⟩
  · rcases schedN_single (denote table) prog w n s ⟨t, c, p, []⟩ hreg with e | ⟨k, s', t', e, hcc⟩ | ⟨k, s', e⟩
    · rw [e]
      have hn' : runN (denote table) prog w n s ⟨t, c, p, []⟩ = .running σ ⟨.pure (.done (.ret .none)), c, p', []⟩ := hn
      rw [hn']; rfl
    · rw [hc k s' t' e] at hcc; cases hcc
    · have a := runN_mono (denote table) prog w n2 k s _ _ s3 hr
      have b := runN_mono (denote table) prog w k n2 s _ _ s' e
      rw [Nat.add_comm, b] at a
      injection a with a1 _
      subst hR
      cases a1
  · rfl
theorem wp_execs_app {M : Model} {Γ : Ctx} {env : Env} {R : List Stmt} {Q : Flow → Pos → Shared → Prop} {E : Value → Pos → Shared → Prop} : ∀ (A : List Stmt) (p : Pos) (s : Shared),
    PySem.Sem.wp M Γ (execs A env) (fun f p' s' => f = .next ∧ PySem.Sem.wp M Γ (execs R env) Q E p' s') E p s → PySem.Sem.wp M Γ (execs (A ++ R) env) Q E p s
  | [], p, s, h => h.2
  | a :: A, p, s, h => by
    have h' : PySem.Sem.wp M Γ (exec a env >>= fun f => match f with | .next => execs A env | f => pure f) (fun f p' s' => f = .next ∧ PySem.Sem.wp M Γ (execs R env) Q E p' s') E p s := h
    rw [Sem.wp_bind'] at h'
    show PySem.Sem.wp M Γ (exec a env >>= fun f => match f with | .next => execs (A ++ R) env | f => pure f) Q E p s
    rw [Sem.wp_bind']
    refine Sem.wp_mono _ _ _ (fun f p' s' z => ?_) (fun _ _ _ z => z) p s h'
    cases f with
    | next => exact wp_execs_app A p' s' z
    | _ => exact absurd z.1 (by intro q; cases q)
/-- the display as a step of the evaluator: its objects are known before -/
noncomputable def dictEval (tk0 tk1 : Nat) (objs : List Obj) (S : SharedT) : Option (Addr × SharedT) := match Nat.beq S.toks tk0 with
  | true => match Nat.blt sysModules S.n with
    | true => match build objs S.tree S.n with
      | some (tr, n) => some (S.n, ⟨tr, n, S.life, S.gens, S.drawn, tk1, S.os⟩)
      | none => none
    | false => none
  | false => none
theorem in_any (Γ : Ctx) : Γ.In { handled := Γ.handled, depth := frameCount Γ.below + Γ.code.weight, frames := none, guards := none, units := Γ.units } :=
  ⟨rfl, Nat.le_refl _, (fun _ h => by cases h), (fun _ h => by cases h), Nat.le_refl _⟩
/-- what is known of the display's pairs, and of the objects that it makes -/
structure DictFacts (qs : List (Int × Str)) (tk0 tk1 : Nat) (objs : List Obj) : Prop where
  nd : (qs.map (·.1)).Nodup
  le : qs.length ≤ 1000
  ok : ∃ es subs r t es' subs', disp qs [] tk0 none = (some (es, subs), r, t) ∧ r.length ≤ 15 ∧ r ≠ [] ∧ Built.run 2 t r (some (es, subs)) = some (es', subs') ∧ objs = dct es' es'.length :: subs' ∧ tk1 = t + 3 * r.length
theorem dictEval_wp {prog : Program} {w : World} {Γ : Ctx} {ks : List (Option PySem.Expr)} {vs : List PySem.Expr} {pos p : Pos} {env : Env} {qs : List (Int × Str)} {tk0 tk1 : Nat} {objs : List Obj} {S S' : SharedT} {a : Addr} {Q : Value → Pos → Shared → Prop} {E : Value → Pos → Shared → Prop}
    (hp : pairsIn ks vs = some qs) (F : DictFacts qs tk0 tk1 objs) (h : dictEval tk0 tk1 objs S = some (a, S')) (hQ : ∀ q, Q (.ref a) q S'.abs) : PySem.Sem.wp (model prog w) Γ (eval (.Dict ks vs pos) env) Q E p S.abs := by
  unfold dictEval at h
  split at h
  · rename_i ht
    split at h
    · rename_i hn
      split at h
      · rename_i tr n hb
        cases h
        obtain ⟨es, subs, r, t, es', subs', h1, h2, h3, h4, rfl, rfl⟩ := F.ok
        have ht : S.toks = tk0 := Nat.eq_of_beq_eq_true ht
        have hn : sysModules < S.n := Nat.le_of_ble_eq_true hn
        have hsz : S.abs.heap.objs.size = S.n := absHeap_size ..
        have key : wpAny (model prog w) { handled := Γ.handled, depth := frameCount Γ.below + Γ.code.weight, frames := none, guards := none, units := Γ.units } (eval (.Dict ks vs pos) env)
            (fun v s' => v = .ref S.n ∧ s' = SharedT.abs ⟨tr, n, S.life, S.gens, S.drawn, t + 3 * r.length, S.os⟩) (fun _ _ => False) S.abs := by
          refine dict_is (es := es) (subs := subs) (r := r) (t := t) hp F.nd F.le (by rw [hsz]; exact hn) (by show disp qs [] S.toks none = _; rw [ht]; exact h1) h2 h3 ⟨by rw [hsz], ?_⟩
          rw [h4]
          have e := build_spec S.life _ _ _ _ _ hb
          show Shared.mk (heapOf (absHeap S.tree S.n S.life) (some (es', subs'))) _ _ _ _ = Shared.mk (absHeap tr n S.life) _ _ _ _
          rw [e]
          rfl
        refine Sem.wp_mono _ _ _ (fun v p' s' z => ?_) (fun _ _ _ z => z.elim) p _ (key Γ p (in_any Γ))
        obtain ⟨rfl, rfl⟩ := z
        exact hQ p'
      · cases h
    · cases h
  · cases h
end
-- A5
section
set_option maxRecDepth 100000
open PySem PySem.W PySem.Calls PyProof.Rows
noncomputable def ok? {α : Type} : EOut α → Option (α × Pos × SharedT)
  | some (.ok a, p, s) => some (a, p, s)
  | _ => none
theorem ev_wp {α : Type} {up : Nat → Bool} {p : Program} {w : World} {N : Nat} {Γ : Ctx} {t : Sem α} {pos p' : Pos} {S S' : SharedT} {a : α} {Q : α → Pos → Shared → Prop} {E : Value → Pos → Shared → Prop}
    (h : ok? (evT up (evC up (denote table) p w N) p w Γ t pos S) = some (a, p', S')) (hQ : Q a p' S'.abs) : PySem.Sem.wp (model p w) Γ t Q E pos S.abs := by
  unfold ok? at h
  split at h
  · rename_i a1 p1 s1 e
    cases h
    exact evT_sound (evC_sound up (denote table) p w N) Γ t pos _ _ _ _ Q E e hQ
  · cases h
structure HeadOut where
  ctx : Ctx
  env : Env
  ts : List PySem.Expr
  ks : List (Option PySem.Expr)
  vs : List PySem.Expr
  dp : Pos
  rest : List Stmt
  a : Addr
  S : SharedT
noncomputable abbrev ctx0 : Ctx := Ctx.of (.builtin "claim.caller" {}) []
noncomputable abbrev topEnv (p : Program) (code : Value) (frame : Addr) : Env := { scope := p.main.scope, locals := mainNs, globals := mainNs, cells := [], code, frame := some frame }
noncomputable abbrev ctx1 (p : Program) (code : Value) (frame : Addr) (q : Pos) : Ctx := ctx0.enter (.body (behindTheImports p) (topEnv p code frame)) none q
/-- the top's code and frame, by the evaluator -/
noncomputable def headA (up : Nat → Bool) (dn : Code → Sem PySem.Fin) (mc : Module → Str → Option Nat → Sem Value) (nb : Value → Addr → Addr → Addr → Sem Addr) (p : Program) (w : World) (N : Nat) (s₀ : Shared) : Option (Value × Addr × Pos × SharedT) :=
  (build s₀.heap.objs.toList .nil 0).bind fun x =>
  (ok? (evT up (evC up dn p w N) p w ctx0 (mc p.main p.main.file none) default ⟨x.1, x.2, s₀.heap.life, s₀.gens, s₀.drawn, s₀.toks, s₀.os⟩)).bind fun y =>
  (ok? (evT up (evC up dn p w N) p w ctx0 (nb y.1 mainNs mainNs builtinsNs) y.2.1 y.2.2)).map fun z => (y.1, z.1, z.2.1, z.2.2)
noncomputable def goesOn : Flow × Pos × SharedT → Option (Pos × SharedT)
  | (.next, p, S) => some (p, S)
  | _ => none
/-- the statements ahead of the display -/
noncomputable def headB (up : Nat → Bool) (dn : Code → Sem PySem.Fin) (bs : List Stmt → Env → Sem Unit) (ex : List Stmt → Env → Sem Flow) (p : Program) (w : World) (N k : Nat) (Γ : Ctx) (env : Env) (p2 : Pos) (S2 : SharedT) : Option (Pos × SharedT) :=
  (ok? (evT up (evC up dn p w N) p w Γ (bs (behindTheImports p) env) p2 S2)).bind fun x =>
  (ok? (evT up (evC up dn p w N) p w Γ (ex ((behindTheImports p).take k) env) x.2.1 x.2.2)).bind goesOn
structure DictLine where
  ts : List PySem.Expr
  ks : List (Option PySem.Expr)
  vs : List PySem.Expr
  dp : Pos
  ap : Pos
  rest : List Stmt
noncomputable def lineOf : List Stmt → Option DictLine
  | s :: R => match s with
    | .Assign ts v ap => match v with
      | .Dict ks vs dp => some ⟨ts, ks, vs, dp, ap, R⟩
      | _ => none
    | _ => none
  | [] => none
theorem lineOf_is {l : List Stmt} {d : DictLine} (h : lineOf l = some d) : l = .Assign d.ts (.Dict d.ks d.vs d.dp) d.ap :: d.rest := by
  cases l with
  | nil => cases h
  | cons s R =>
    cases s with
    | Assign ts v ap =>
      cases v with
      | Dict ks vs dp => cases h; rfl
      | _ => cases h
    | _ => cases h
noncomputable def isNo : Bool × Pos × SharedT → Option SharedT
  | (false, _, S) => some S
  | _ => none
/-- the top of a text up to its display, by the evaluator -/
noncomputable def headC (up : Nat → Bool) (dn : Code → Sem PySem.Fin) (mc : Module → Str → Option Nat → Sem Value) (nb : Value → Addr → Addr → Addr → Sem Addr) (bs : List Stmt → Env → Sem Unit) (ex : List Stmt → Env → Sem Flow) (sw : List PySem.Expr → PySem.Expr → Nat → Env → Sem Bool)
    (p : Program) (w : World) (N k tk0 tk1 : Nat) (objs : List Obj) (s₀ : Shared) : Option HeadOut :=
  (headA up dn mc nb p w N s₀).bind fun a =>
  (headB up dn bs ex p w N k (ctx1 p a.1 a.2.1 a.2.2.1) (topEnv p a.1 a.2.1) a.2.2.1 a.2.2.2).bind fun b =>
  (lineOf ((behindTheImports p).drop k)).bind fun d =>
  ((ok? (evT up (evC up dn p w N) p w (ctx1 p a.1 a.2.1 a.2.2.1) (sw d.ts (.Dict d.ks d.vs d.dp) d.ap.line (topEnv p a.1 a.2.1)) d.ap b.2)).bind isNo).bind fun S5 =>
  (dictEval tk0 tk1 objs S5).map fun x => ⟨ctx1 p a.1 a.2.1 a.2.2.1, topEnv p a.1 a.2.1, d.ts, d.ks, d.vs, d.dp, d.rest, x.1, x.2⟩
/-- the top of a text behind its display -/
noncomputable def tailC (up : Nat → Bool) (dn : Code → Sem PySem.Fin) (ex : List Stmt → Env → Sem Flow) (ss : List PySem.Expr → PySem.Expr → Env → Sem (Option (List Str))) (as : Env → Value → Option (List Str) → List (Value → Sem Unit) → Sem Flow) (ae : List PySem.Expr → Env → List (Bool × (Value → Sem Unit)))
    (p : Program) (w : World) (N : Nat) (q : Pos) (d : HeadOut) : Option SharedT :=
  (ok? (evT up (evC up dn p w N) p w d.ctx (ss d.ts (.Dict d.ks d.vs d.dp) d.env) q d.S)).bind fun y =>
  ((ok? (evT up (evC up dn p w N) p w d.ctx (as d.env (.ref d.a) y.1 ((ae d.ts d.env).map (·.2))) y.2.1 y.2.2)).bind goesOn).bind fun x =>
  ((ok? (evT up (evC up dn p w N) p w d.ctx (ex d.rest d.env) x.1 x.2)).bind goesOn).map (·.2)
theorem goesOn_is {x : Flow × Pos × SharedT} {y : Pos × SharedT} (h : goesOn x = some y) : x = (.next, y) := by
  unfold goesOn at h
  split at h
  · cases h; rfl
  · cases h
theorem isNo_is {x : Bool × Pos × SharedT} {S : SharedT} (h : isNo x = some S) : ∃ p, x = (false, p, S) := by
  unfold isNo at h
  split at h
  · cases h; exact ⟨_, rfl⟩
  · cases h
theorem ok_kept {α : Type} {up : Nat → Bool} {dn : Code → Sem PySem.Fin} {p : Program} {w : World} {N : Nat} {Γ : Ctx} {t : Sem α} {pos p' : Pos} {S S' : SharedT} {a : α}
    (h : ok? (evT up (evC up dn p w N) p w Γ t pos S) = some (a, p', S')) : Kept up S S' := by
  unfold ok? at h
  split at h
  · rename_i a1 p1 s1 e
    cases h
    exact evT_kept (evC_kept up dn p w N) Γ t pos _ _ _ _ e
  · cases h
theorem dict_kept {up : Nat → Bool} {tk0 tk1 : Nat} {objs : List Obj} {S S' : SharedT} {a : Addr} (h : dictEval tk0 tk1 objs S = some (a, S')) : Kept up S S' := by
  unfold dictEval at h
  split at h
  · split at h
    · split at h
      · rename_i tr n hb
        cases h
        exact build_kept _ _ _ _ _ hb
      · cases h
    · cases h
  · cases h
theorem headA_kept {up : Nat → Bool} {dn : Code → Sem PySem.Fin} {mc : Module → Str → Option Nat → Sem Value} {nb : Value → Addr → Addr → Addr → Sem Addr} {p : Program} {w : World} {N : Nat} {s₀ : Shared} {a : Value × Addr × Pos × SharedT}
    (h : headA up dn mc nb p w N s₀ = some a) : ∃ S₀ : SharedT, S₀.abs = s₀ ∧ Kept up S₀ a.2.2.2 := by
  obtain ⟨x, hb, h⟩ := Option.bind_eq_some_iff.mp h
  obtain ⟨y, h1, h⟩ := Option.bind_eq_some_iff.mp h
  obtain ⟨z, h2, rfl⟩ := Option.map_eq_some_iff.mp h
  refine ⟨⟨x.1, x.2, s₀.heap.life, s₀.gens, s₀.drawn, s₀.toks, s₀.os⟩, ?_, (ok_kept h1).trans (ok_kept h2)⟩
  show Shared.mk (absHeap x.1 x.2 s₀.heap.life) _ _ _ _ = _
  rw [build_all hb]
theorem headB_kept {up : Nat → Bool} {dn : Code → Sem PySem.Fin} {bs : List Stmt → Env → Sem Unit} {ex : List Stmt → Env → Sem Flow} {p : Program} {w : World} {N k : Nat} {Γ : Ctx} {env : Env} {p2 : Pos} {S2 : SharedT} {b : Pos × SharedT}
    (h : headB up dn bs ex p w N k Γ env p2 S2 = some b) : Kept up S2 b.2 := by
  obtain ⟨x, h1, h⟩ := Option.bind_eq_some_iff.mp h
  obtain ⟨y, h2, h⟩ := Option.bind_eq_some_iff.mp h
  have := goesOn_is h
  subst this
  exact (ok_kept h1).trans (ok_kept h2)
theorem head_kept {up : Nat → Bool} {dn : Code → Sem PySem.Fin} {mc : Module → Str → Option Nat → Sem Value} {nb : Value → Addr → Addr → Addr → Sem Addr} {bs : List Stmt → Env → Sem Unit} {ex : List Stmt → Env → Sem Flow} {sw : List PySem.Expr → PySem.Expr → Nat → Env → Sem Bool}
    {p : Program} {w : World} {N k tk0 tk1 : Nat} {objs : List Obj} {s₀ : Shared} {d : HeadOut} (hd : headC up dn mc nb bs ex sw p w N k tk0 tk1 objs s₀ = some d) : ∃ S₀ : SharedT, S₀.abs = s₀ ∧ Kept up S₀ d.S := by
  obtain ⟨a, ha, hd⟩ := Option.bind_eq_some_iff.mp hd
  obtain ⟨b, hb, hd⟩ := Option.bind_eq_some_iff.mp hd
  obtain ⟨l, hl, hd⟩ := Option.bind_eq_some_iff.mp hd
  obtain ⟨S5, h5, hd⟩ := Option.bind_eq_some_iff.mp hd
  obtain ⟨y, h6, rfl⟩ := Option.map_eq_some_iff.mp hd
  obtain ⟨z, h7, h8⟩ := Option.bind_eq_some_iff.mp h5
  obtain ⟨q, rfl⟩ := isNo_is h8
  obtain ⟨S₀, e, k⟩ := headA_kept ha
  exact ⟨S₀, e, k.trans ((headB_kept hb).trans ((ok_kept h7).trans (dict_kept h6)))⟩
theorem tail_kept {up : Nat → Bool} {dn : Code → Sem PySem.Fin} {ex : List Stmt → Env → Sem Flow} {ss : List PySem.Expr → PySem.Expr → Env → Sem (Option (List Str))} {as : Env → Value → Option (List Str) → List (Value → Sem Unit) → Sem Flow} {ae : List PySem.Expr → Env → List (Bool × (Value → Sem Unit))}
    {p : Program} {w : World} {N : Nat} {q : Pos} {d : HeadOut} {S : SharedT} (hS : tailC up dn ex ss as ae p w N q d = some S) : Kept up d.S S := by
  obtain ⟨y, h7, hS⟩ := Option.bind_eq_some_iff.mp hS
  obtain ⟨x, h8, hS⟩ := Option.bind_eq_some_iff.mp hS
  obtain ⟨z, h9, rfl⟩ := Option.map_eq_some_iff.mp hS
  obtain ⟨x', h8, e8⟩ := Option.bind_eq_some_iff.mp h8
  obtain ⟨z', h9, e9⟩ := Option.bind_eq_some_iff.mp h9
  have := goesOn_is e8
  subst this
  have := goesOn_is e9
  subst this
  exact (ok_kept h7).trans ((ok_kept h8).trans (ok_kept h9))
theorem headA_wp {up : Nat → Bool} {p : Program} {w : World} {N : Nat} {s₀ : Shared} {a : Value × Addr × Pos × SharedT} {K : Value → Addr → Sem PySem.Fin} {Q : PySem.Fin → Pos → Shared → Prop} {E : Value → Pos → Shared → Prop}
    (h : headA up (denote table) (@moduleCode) (@newBodyFrame) p w N s₀ = some a) (hK : PySem.Sem.wp (model p w) ctx0 (K a.1 a.2.1) Q E a.2.2.1 a.2.2.2.abs) :
    PySem.Sem.wp (model p w) ctx0 (moduleCode p.main p.main.file none >>= fun code => newBodyFrame code mainNs mainNs builtinsNs >>= fun frame => K code frame) Q E default s₀ := by
  obtain ⟨x, hb, h⟩ := Option.bind_eq_some_iff.mp h
  obtain ⟨y, h1, h⟩ := Option.bind_eq_some_iff.mp h
  obtain ⟨z, h2, rfl⟩ := Option.map_eq_some_iff.mp h
  have e0 : SharedT.abs ⟨x.1, x.2, s₀.heap.life, s₀.gens, s₀.drawn, s₀.toks, s₀.os⟩ = s₀ := by
    show Shared.mk (absHeap x.1 x.2 s₀.heap.life) _ _ _ _ = _
    rw [build_all hb]
  rw [Sem.wp_bind', ← e0]
  refine ev_wp h1 ?_
  rw [Sem.wp_bind']
  exact ev_wp h2 hK
theorem headB_wp {up : Nat → Bool} {p : Program} {w : World} {N k : Nat} {Γ : Ctx} {env : Env} {p2 : Pos} {S2 : SharedT} {b : Pos × SharedT} {R : List Stmt} {Q : Result → Shared → Prop} (hc : Γ.code = .body (behindTheImports p) env) (hR : (behindTheImports p).drop k = R)
    (h : headB up (denote table) blockStart execs p w N k Γ env p2 S2 = some b) (hK : PySem.Sem.wp (model p w) Γ (execs R env) (fun f _ s' => Q (.ok f) s') (fun _ _ _ => False) b.1 b.2.abs) : wpCode (model p w) Γ Q p2 S2.abs := by
  obtain ⟨x, h1, h⟩ := Option.bind_eq_some_iff.mp h
  obtain ⟨y, h2, h⟩ := Option.bind_eq_some_iff.mp h
  have := goesOn_is h
  subst this
  rw [wpCode_iff_wp, hc]
  show PySem.Sem.wp (model p w) Γ (blockStart (behindTheImports p) env >>= fun _ => (execs (behindTheImports p) env).onRaise («leaving» env) >>= fun f => (pure (Fin.done f) : Sem PySem.Fin)) _ _ p2 S2.abs
  rw [Sem.wp_bind']
  refine ev_wp h1 ?_
  rw [Sem.wp_bind', Sem.wp_onRaise]
  rw [← List.take_append_drop k (behindTheImports p), hR]
  refine wp_execs_app _ _ _ (ev_wp h2 ⟨rfl, ?_⟩)
  exact Sem.wp_mono _ _ _ (fun f _ s' z => z) (fun _ _ _ z => z.elim) _ _ hK
theorem tail_wp {up : Nat → Bool} {p : Program} {w : World} {N : Nat} {q : Pos} {d : HeadOut} {S : SharedT} {Q : Flow → Pos → Shared → Prop} {E : Value → Pos → Shared → Prop} (hS : tailC up (denote table) execs swappedStores assignStores assignEach p w N q d = some S) (hQ : ∀ q, Q .next q S.abs) :
    PySem.Sem.wp (model p w) d.ctx (swappedStores d.ts (.Dict d.ks d.vs d.dp) d.env >>= fun y => assignStores d.env (.ref d.a) y ((assignEach d.ts d.env).map (·.2))) (fun f p' s' => PySem.Sem.wp (model p w) d.ctx (match f with | .next => execs d.rest d.env | f => pure f) Q E p' s') E q d.S.abs := by
  obtain ⟨y, h7, hS⟩ := Option.bind_eq_some_iff.mp hS
  obtain ⟨x, h8, hS⟩ := Option.bind_eq_some_iff.mp hS
  obtain ⟨z, h9, rfl⟩ := Option.map_eq_some_iff.mp hS
  obtain ⟨x', h8, e8⟩ := Option.bind_eq_some_iff.mp h8
  obtain ⟨z', h9, e9⟩ := Option.bind_eq_some_iff.mp h9
  have := goesOn_is e8
  subst this
  have := goesOn_is e9
  subst this
  rw [Sem.wp_bind']
  exact ev_wp h7 (ev_wp h8 (ev_wp h9 (hQ _)))
theorem chain_wp {up : Nat → Bool} {p : Program} {w : World} {N N' k tk0 tk1 : Nat} {objs : List Obj} {s₀ : Shared} {d : HeadOut} {qs : List (Int × Str)} {P : Shared → Prop}
    (hd : headC up (denote table) (@moduleCode) (@newBodyFrame) blockStart execs swapsWithSole p w N k tk0 tk1 objs s₀ = some d) (hq : pairsIn d.ks d.vs = some qs) (F : DictFacts qs tk0 tk1 objs)
    (ht : ∀ q, ∃ S, tailC up (denote table) execs swappedStores assignStores assignEach p w N' q d = some S ∧ P S.abs) :
    PySem.Sem.wp (model p w) ctx0 (topStub p).cur (fun f _ s' => f = .done (.ret .none) ∧ P s') (fun _ _ _ => False) default s₀ := by
  obtain ⟨a, ha, hd⟩ := Option.bind_eq_some_iff.mp hd
  obtain ⟨b, hb, hd⟩ := Option.bind_eq_some_iff.mp hd
  obtain ⟨l, hl, hd⟩ := Option.bind_eq_some_iff.mp hd
  obtain ⟨S5, h5, hd⟩ := Option.bind_eq_some_iff.mp hd
  obtain ⟨y, h6, rfl⟩ := Option.map_eq_some_iff.mp hd
  obtain ⟨z, h7, h8⟩ := Option.bind_eq_some_iff.mp h5
  obtain ⟨q7, rfl⟩ := isNo_is h8
  refine headA_wp (K := fun code frame => run (.body (behindTheImports p) (topEnv p code frame)) >>= fun _ => ret .none) ha ?_
  rw [Sem.wp_bind']
  have key : wpCode (model p w) (ctx1 p a.1 a.2.1 a.2.2.1) (fun r s' => r = .ok .next ∧ P s') a.2.2.1 a.2.2.2.abs := by
    refine headB_wp rfl (lineOf_is hl) hb ?_
    show PySem.Sem.wp (model p w) (ctx1 p a.1 a.2.1 a.2.2.1) (exec (.Assign l.ts (.Dict l.ks l.vs l.dp) l.ap) (topEnv p a.1 a.2.1) >>= fun f => match f with | .next => execs l.rest (topEnv p a.1 a.2.1) | f => pure f) _ _ b.1 b.2.abs
    rw [Sem.wp_bind', arm_exec_Assign, Sem.wp_bind']
    show PySem.Sem.wp (model p w) (ctx1 p a.1 a.2.1 a.2.2.1) (swapsWithSole l.ts (.Dict l.ks l.vs l.dp) l.ap.line (topEnv p a.1 a.2.1) >>= _) _ _ l.ap b.2.abs
    rw [Sem.wp_bind']
    refine ev_wp h7 ?_
    rw [if_neg (by decide), Sem.wp_bind']
    refine dictEval_wp hq F h6 fun q => ?_
    obtain ⟨S, hS, hP⟩ := ht q
    exact tail_wp hS fun _ => ⟨rfl, hP⟩
  obtain ⟨r, s', hr, rfl, hP⟩ := key
  exact ⟨_, s', hr, rfl, hP⟩
end
-- B9
section
set_option maxRecDepth 1000000
set_option maxHeartbeats 0
open PySem PySem.W PySem.Calls PyProof.Rows
noncomputable def b3D : Built × List (Int × Str) × Nat := disp b3Pairs [] 485 none
noncomputable def b3Run : Built := Built.run 2 b3D.2.2 b3D.2.1 b3D.1
noncomputable def b3Subs : List Obj := match b3Run with
  | some (_, subs) => subs
  | none => []
noncomputable def risingB : Int → List (Int × Str) → Bool
  | _, [] => true
  | k, (a, _) :: r => decide (k < a) && risingB a r
theorem risingB_ge : ∀ {k : Int} {l : List (Int × Str)}, risingB k l = true → ∀ a ∈ l.map (·.1), k < a
  | k, [], _, a, h => by cases h
  | k, (b, x) :: r, e, a, h => by
    obtain ⟨e1, e2⟩ := Bool.and_eq_true_iff.mp (show (decide (k < b) && risingB b r) = true from e)
    have e1 := of_decide_eq_true e1
    rcases List.mem_cons.mp h with h | h
    · rw [h]; exact e1
    · have := risingB_ge e2 a h; omega
theorem risingB_nodup : ∀ {k : Int} {l : List (Int × Str)}, risingB k l = true → (l.map (·.1)).Nodup
  | k, [], _ => List.nodup_nil
  | k, (b, x) :: r, e => by
    obtain ⟨e1, e2⟩ := Bool.and_eq_true_iff.mp (show (decide (k < b) && risingB b r) = true from e)
    refine List.nodup_cons.mpr ⟨fun h => ?_, risingB_nodup e2⟩
    have := risingB_ge e2 _ h
    exact absurd this (Int.lt_irrefl _)
theorem b3_risingB : risingB 0 b3Pairs = true := by kernel_rfl
theorem b3_le : Nat.ble b3Pairs.length 1000 = true := by kernel_rfl
theorem b3D_some : b3D.1.isSome = true := by kernel_rfl
theorem b3_r : Nat.ble b3D.2.1.length 15 = true := by kernel_rfl
theorem b3_r0 : b3D.2.1.isEmpty = false := by kernel_rfl
theorem b3_tk : b3D.2.2 + 3 * b3D.2.1.length = 2435 := by kernel_rfl
theorem b3_obj : (match b3Run with | some (es, _) => dct es es.length | none => default) = b3Obj := by kernel_rfl
theorem b3_facts : DictFacts b3Pairs 485 2435 (b3Obj :: b3Subs) := by
  obtain ⟨⟨es, subs⟩, e⟩ := Option.isSome_iff_exists.mp b3D_some
  have hr : b3Run = some (es ++ ents3 2 b3D.2.2 b3D.2.1, subs ++ [dct (ents3 2 b3D.2.2 b3D.2.1) b3D.2.1.length]) := by
    unfold b3Run
    rw [e]; rfl
  refine ⟨risingB_nodup b3_risingB, Nat.le_of_ble_eq_true b3_le, es, subs, b3D.2.1, b3D.2.2, es ++ ents3 2 b3D.2.2 b3D.2.1, subs ++ [dct (ents3 2 b3D.2.2 b3D.2.1) b3D.2.1.length], ?_, Nat.le_of_ble_eq_true b3_r, ?_, ?_, ?_, b3_tk.symm⟩
  · show b3D = _
    rw [← e]
  · intro z
    have := b3_r0
    rw [z] at this; cases this
  · rfl
  · rw [← b3_obj]
    unfold b3Subs
    rw [hr]
end
-- A6
section
set_option maxRecDepth 1000000
set_option maxHeartbeats 0
open PySem PySem.W PySem.Calls PyProof.Rows
noncomputable abbrev pp : Program := PySem.Challenge.rw_pa0016_01.prog
noncomputable def s0F (w : World) : Option Shared := (Fast.tw10274390034422433532 Fast.tw14364793385576792824 (opening pp) w 100000 (Fast.tw1435165496053646825 (opening pp)).1 (Fast.tw1435165496053646825 (opening pp)).2).bind (fenceModules? pp)
/-- what the top may write: its own, and what it made -/
noncomputable def upT (a : Nat) : Bool := Nat.ble 28 a || Nat.beq a mainNs || Nat.beq a cStatics || Nat.beq a 6
noncomputable def headK (w : World) (s₀ : Shared) : Option HeadOut := headC upT (Fast.tw11892475500146522536 Fast.tw14364793385576792824) @Fast.tw17154629097778926822 @Fast.tw12822647523644345616 Fast.tw1066825118222455980 Fast.tw12563942051412417395 Fast.tw7783108440312521181 pp w 2000 21 485 2435 (b3Obj :: b3Subs) s₀
noncomputable def tailK (w : World) (q : Pos) (d : HeadOut) : Option SharedT := tailC upT (Fast.tw11892475500146522536 Fast.tw14364793385576792824) Fast.tw12563942051412417395 Fast.tw4016559146275205325 Fast.tw2470068587113613483 Fast.tw15628205474173192105 pp w 2000 q d
end
-- A7
section
set_option maxRecDepth 1000000
set_option maxHeartbeats 0
open PySem PySem.W PySem.Calls PyProof.Rows
noncomputable def w4 (w : World) (a b : Bool) : World := (w.withFollow "set-order" a).withFollow "special-get-raises" b
noncomputable def endK (w w' : World) (q : Pos) : Option (Shared × SharedT) := (s0F w).bind fun s => (headK w' s).bind fun d => (tailK w' q d).map fun S => (s, S)
/-- the text as it is looked at: its law, and what it brings in -/
noncomputable def qq : Program := view pp [0, 32]
noncomputable def looseL : List Str := ["_wall", "_twin_re_1", "bytes_types", "_bytes_from_decode_data", "Error", "_ascii_buffer", "_buffer", "_NO_SEP", "b2a_hex", "hexlify", "_hex_value", "a2b_hex", "unhexlify", "b16encode", "b16decode", "b1_set", "in_table_b1", "b3_exceptions", "map_table_b3", "_law_nothing", "_law_code", "_law_piece", "_law_prepared", "_law_read", "_law_due", "_law_holds"]
/-- what is looked at when the top has ended -/
noncomputable def lookK (w' : World) (s₀ s : Shared) := (staticsOk (importedModules pp.main.body) s₀.heap s.heap && namesBound pp s.heap && laidKept s₀.heap s.heap && s₀.heap.isNs mainGlobals && (s₀.gens.size == 0),
  s₀.heap.nsMap mainGlobals "__annotations__", s₀.heap.objs.size, Fast.tw4187177175401517315 qq looseL (importedModules pp.main.body) (xlAt qq []) true s, ((K w'.params).map (·.1)).map s.heap.get?)
noncomputable def goodK (w' : World) := (true, (some (.ref 6) : Option Value), 28, openGood qq looseL, (K w'.params).map fun p => some p.2)
end
-- A8
section
set_option maxRecDepth 1000000
set_option maxHeartbeats 0
open PySem PySem.W PySem.Calls PyProof.Rows
theorem end_f (w : World) (q : Pos) (a : Bool) : (endK w (w4 w a false) q).map (fun x => lookK (w4 w a false) x.1 x.2.abs) = some (goodK (w4 w a false)) := by kernel_rfl
theorem end_t (w : World) (q : Pos) (a : Bool) : (endK w (w4 w a true) q).map (fun x => lookK (w4 w a true) x.1 x.2.abs) = some (goodK (w4 w a true)) := by kernel_rfl
end
-- A9
section
set_option maxRecDepth 1000000
set_option maxHeartbeats 0
open PySem PySem.W PySem.Calls PyProof.Rows
noncomputable def pairsAt (p : Program) (k : Nat) : Option (List (Int × Str)) := (lineOf ((behindTheImports p).drop k)).bind fun d => pairsIn d.ks d.vs
theorem head_pairs {up : Nat → Bool} {dn : Code → Sem PySem.Fin} {mc : Module → Str → Option Nat → Sem Value} {nb : Value → Addr → Addr → Addr → Sem Addr} {bs : List Stmt → Env → Sem Unit} {ex : List Stmt → Env → Sem Flow} {sw : List PySem.Expr → PySem.Expr → Nat → Env → Sem Bool}
    {p : Program} {w : World} {N k tk0 tk1 : Nat} {objs : List Obj} {s₀ : Shared} {d : HeadOut} (hd : headC up dn mc nb bs ex sw p w N k tk0 tk1 objs s₀ = some d) : pairsIn d.ks d.vs = pairsAt p k := by
  obtain ⟨a, ha, hd⟩ := Option.bind_eq_some_iff.mp hd
  obtain ⟨b, hb, hd⟩ := Option.bind_eq_some_iff.mp hd
  obtain ⟨l, hl, hd⟩ := Option.bind_eq_some_iff.mp hd
  obtain ⟨S5, h5, hd⟩ := Option.bind_eq_some_iff.mp hd
  obtain ⟨y, h6, rfl⟩ := Option.map_eq_some_iff.mp hd
  unfold pairsAt
  rw [hl]; rfl
theorem beq_no {a b : Nat} (h : a ≠ b) : Nat.beq a b = false := by
  cases z : Nat.beq a b with
  | false => rfl
  | true => exact absurd (Nat.eq_of_beq_eq_true z) h
theorem ble_no {a b : Nat} (h : b < a) : Nat.ble a b = false := by
  cases z : Nat.ble a b with
  | false => rfl
  | true => exact absurd (Nat.le_of_ble_eq_true z) (Nat.not_le.mpr h)
theorem b3_at : pairsAt pp 21 = some b3Pairs := by kernel_rfl
theorem endK_good (w : World) (q : Pos) : (endK w w q).map (fun x => lookK w x.1 x.2.abs) = some (goodK w) := by
  have e : w4 w (w.params.followText "set-order") (w.params.followText "special-get-raises") = w := by
    unfold w4
    rw [World.withFollow_self w "set-order", World.withFollow_self w "special-get-raises"]
  cases hb : w.params.followText "special-get-raises" <;> rw [hb] at e
  · have := end_f w q (w.params.followText "set-order"); rw [e] at this; exact this
  · have := end_t w q (w.params.followText "set-order"); rw [e] at this; exact this
theorem behK (w : World) : Beh pp qq looseL (XL qq []) (InK K) w := by
  have hw := endK_good w
  obtain ⟨x, hx, hl⟩ := Option.map_eq_some_iff.mp (hw default)
  unfold endK at hx
  obtain ⟨s₀, h0, hx⟩ := Option.bind_eq_some_iff.mp hx
  obtain ⟨d, hd, hx⟩ := Option.bind_eq_some_iff.mp hx
  obtain ⟨S, hS, rfl⟩ := Option.map_eq_some_iff.mp hx
  have hq : ∀ q, ∃ S, tailK w q d = some S ∧ lookK w s₀ S.abs = goodK w := by
    intro q
    obtain ⟨x, hx, hl⟩ := Option.map_eq_some_iff.mp (hw q)
    unfold endK at hx
    obtain ⟨s', h0', hx⟩ := Option.bind_eq_some_iff.mp hx
    rw [h0] at h0'; cases h0'
    obtain ⟨d', hd', hx⟩ := Option.bind_eq_some_iff.mp hx
    rw [hd] at hd'; cases hd'
    obtain ⟨S, hS, rfl⟩ := Option.map_eq_some_iff.mp hx
    exact ⟨S, hS, hl⟩
  clear hl hS hw hx
  unfold s0F at h0
  rw [← Fast.te10274390034422433532, ← Fast.te14364793385576792824, ← Fast.te1435165496053646825, ← table_eq_tree] at h0
  unfold headK at hd
  rw [← Fast.te11892475500146522536, ← Fast.te14364793385576792824, ← table_eq_tree, ← Fast.te12563942051412417395, ← Fast.te17154629097778926822, ← Fast.te12822647523644345616, ← Fast.te1066825118222455980, ← Fast.te7783108440312521181] at hd
  unfold tailK at hq
  rw [← Fast.te11892475500146522536, ← Fast.te14364793385576792824, ← table_eq_tree, ← Fast.te12563942051412417395, ← Fast.te4016559146275205325, ← Fast.te2470068587113613483, ← Fast.te15628205474173192105] at hq
  obtain ⟨s, h4, h5⟩ := Option.bind_eq_some_iff.mp h0
  have A := AfterImport.of_importEnds h4
  refine ⟨⟨s, A⟩, fun s' hs' => ?_⟩
  obtain rfl : s' = s := AfterImport.unique hs' A
  have z : s₀.asleep := Shared.asleep_of_life (fence_lifeW h5) A.life
  obtain ⟨S₀, e₀, k₀⟩ := head_kept hd
  obtain ⟨Sx, _, hlx⟩ := hq default
  have hg0 : s₀.gens = #[] := by
    have := congrArg Prod.fst hlx
    obtain ⟨_, this⟩ := Bool.and_eq_true_iff.mp this
    exact Array.eq_empty_of_size_eq_zero (beq_iff_eq.mp this)
  obtain ⟨s₁, ⟨S, hS, hl, hk⟩, n, t', hrun, hthr⟩ := ran_of_wpP (P := fun s => ∃ S : SharedT, s = S.abs ∧ lookK w s₀ s = goodK w ∧ Kept upT S₀ S) z (by
      rintro _ ⟨S, rfl, _, k⟩
      show S.gens = #[]
      rw [k.gens]
      show S₀.abs.gens = #[]
      rw [e₀]; exact hg0) (chain_wp hd ((head_pairs hd).trans b3_at) b3_facts (fun q => by
      obtain ⟨S, h1, h2⟩ := hq q
      exact ⟨S, h1, S, rfl, h2, k₀.trans (tail_kept h1)⟩))
  have hB := congrArg Prod.fst hl
  have hann : s₀.heap.nsMap mainGlobals "__annotations__" = some (.ref 6) := congrArg (fun x => x.2.1) hl
  have hsz : s₀.heap.objs.size = 28 := congrArg (fun x => x.2.2.1) hl
  have hseen : openSeen qq looseL (importedModules pp.main.body) (xlAt qq []) true s₁ = openGood qq looseL := by
    rw [Fast.te4187177175401517315]
    exact congrArg (fun x => x.2.2.2.1) hl
  have hobs : ((K w.params).map (·.1)).map s₁.heap.get? = (K w.params).map fun p => some p.2 := congrArg (fun x => x.2.2.2.2) hl
  obtain ⟨hB, _⟩ := Bool.and_eq_true_iff.mp hB
  obtain ⟨hB, hns⟩ := Bool.and_eq_true_iff.mp hB
  obtain ⟨hB, hlk⟩ := Bool.and_eq_true_iff.mp hB
  obtain ⟨hs, hnb⟩ := Bool.and_eq_true_iff.mp hB
  obtain ⟨G, g0, g1, g2, g3, g4, g5⟩ := ground_of_open (w := w) (XP := XL qq []) (fun s hs => xl_of s hs) (by rfl) hseen
  have l : s₁.heap.life = s₀.heap.life := by
    rw [hS, ← e₀]; exact hk.life
  have os : s₁.os = s₀.os := by
    rw [hS, ← e₀]; exact hk.os
  have hg1 : s₁.gens = #[] := by
    rw [hS]
    show S.gens = #[]
    rw [hk.gens]
    show S₀.abs.gens = #[]
    rw [e₀]; exact hg0
  refine ⟨s₀, h5, hg0, s₁, ⟨⟨n, t', hrun, hthr⟩, l, Shared.rest_eq os, fun b o hb hn => ?_, g2, statics_of_ok hs, g3, g4, g5, fun g hg => (by rw [hg1] at hg; simp at hg), names_of_bound hnb, laid_of_kept hlk⟩, Shared.asleep_of_life l z, hg1, g1, G, InK.of (as := (K w.params).map (·.1)) (fun _ => ?_) w s₁ hobs⟩
  · have hlt : b < 28 := by rw [← hsz]; exact Heap.lt_size hb
    rw [hS]
    refine hk.old b o ?_ (by rw [e₀]; exact hb)
    unfold upT
    rw [Bool.or_eq_false_iff, Bool.or_eq_false_iff, Bool.or_eq_false_iff]
    refine ⟨⟨⟨?_, ?_⟩, ?_⟩, ?_⟩
    · exact ble_no hlt
    · exact beq_no fun q => hn (.inl q)
    · exact beq_no fun q => hn (.inr (.inl q))
    · exact beq_no fun q => hn (.inr (.inr (by rw [q]; exact (Pin.globalOf_eq hns _).trans hann)))
  · rfl
end
-- Z0
section
open PySem PySem.W PyProof.Rows
set_option maxRecDepth 100000
set_option maxHeartbeats 0
theorem said_looks : looksOpen PySem.Challenge.rw_pa0016_01.row.prog = true := by
  unfold looksOpen
  repeat' (with_reducible refine look_both ?_ ?_)
  all_goals decide +kernel
theorem said_row : PySem.Challenge.rw_pa0016_01.row.wellSaid = true := by
  unfold OpenRow.wellSaid OpenRow.partSaid
  repeat' (with_reducible refine look_both ?_ ?_)
  · exact said_looks
  all_goals decide +kernel
theorem said : PySem.Challenge.rw_pa0016_01.wellSaid = true := by
  unfold OpenLaw.wellSaid
  repeat' (with_reducible refine look_both ?_ ?_)
  · exact said_row
  all_goals decide +kernel
end
-- CBase
section
open PySem PySem.W PyProof.Rows
set_option maxRecDepth 100000
noncomputable abbrev prog : Program := PySem.Challenge.rw_pa0016_01.prog

/-- a call of a def of the text, from any frame: what comes back is P, the frame and the ledger stay, and no object is changed -/
noncomputable abbrev ConP (w : World) (f : Addr) (vs : List Value) (d u : Nat) (P : Value → Prop) : Prop :=
  ∀ (p : Program) (loose : List Str) (mean : ExcName → Option Value) (mg mb : Str → Option Value)
    (dp un : Nat) (gd : Option (List Code)) (cn : Str) (cs : Scope) (a : Addr) (ccd : Value) (cl : List (Str × Addr)) (outer : List Env) (A₀ : Around) (base h₀ : Heap) (L : Addr) (m : Str → Option Value) (news : List (Addr × Obj)) (s : Shared) (Q E : Value → Shared → Prop),
    Below A₀ base outer h₀ → Fr h₀ L s.heap m → (K w.params).In h₀ → News h₀ L s.heap news → Top p loose mean mg mb h₀ → cs.kind = .function →
    dp + d < recursionLimit → un + u < cLine →
    (∀ (v : Value) (h' : Heap) (tk' : Nat), P v → Fr h₀ L h' m → News h₀ L h' news → InElt s.heap h' → Q v { s with heap := h', toks := tk' }) →
      wpAny (model prog w) (ktrTop dp un gd cn cs L a ccd cl outer) (call (.ref f) vs) Q E s
theorem ConP.use {w : World} {f : Addr} {vs : List Value} {d u : Nat} {P : Value → Prop} {p : Program} {loose : List Str} {mean : ExcName → Option Value} {mg mb : Str → Option Value}
    {dp un : Nat} {gd : Option (List Code)} {cn : Str} {cs : Scope} {a : Addr} {ccd : Value} {cl : List (Str × Addr)} {outer : List Env} {A₀ : Around} {base h₀ : Heap} {L : Addr} {m : Str → Option Value} {news : List (Addr × Obj)} {s : Shared} {Q E : Value → Shared → Prop}
    (C : ConP w f vs d u P) (B : Below A₀ base outer h₀) (F : Fr h₀ L s.heap m) (X : (K w.params).In h₀) (N : News h₀ L s.heap news) (T : Top p loose mean mg mb h₀) (hk : cs.kind = .function) (hd : dp + d < recursionLimit) (hu : un + u < cLine)
    (ret : ∀ (v : Value) (h' : Heap) (tk' : Nat), P v → Fr h₀ L h' m → News h₀ L h' news → InElt s.heap h' → Q v { s with heap := h', toks := tk' }) :
    wpAny (model prog w) (ktrTop dp un gd cn cs L a ccd cl outer) (call (.ref f) vs) Q E s := C p loose mean mg mb dp un gd cn cs a ccd cl outer A₀ base h₀ L m news s Q E B F X N T hk hd hu ret
theorem ConP.useA {w : World} {f : Addr} {vs : List Value} {d u : Nat} {P : Value → Prop} {p : Program} {loose : List Str} {mean : ExcName → Option Value} {mg mb : Str → Option Value}
    {dp un : Nat} {gd : Option (List Code)} {cn : Str} {cs : Scope} {a : Addr} {ccd : Value} {cl : List (Str × Addr)} {outer : List Env} {A₀ : Around} {base h₀ : Heap} {L : Addr} {m : Str → Option Value} {news : List (Addr × Obj)} {s : Shared} {Q E : Value → Shared → Prop}
    (C : ConP w f vs d u P) 
    (ret : ∀ (v : Value) (h' : Heap) (tk' : Nat), P v → Fr h₀ L h' m → News h₀ L h' news → InElt s.heap h' → Q v { s with heap := h', toks := tk' }) (B : Below A₀ base outer h₀ := by k_asm) (F : Fr h₀ L s.heap m := by k_asm) (X : (K w.params).In h₀ := by k_asm) (N : News h₀ L s.heap news := by k_asm) (T : Top p loose mean mg mb h₀ := by k_asm) (hk : cs.kind = .function := by first | rfl | assumption) (hd : dp + d < recursionLimit := by first | k_room | decide) (hu : un + u < cLine := by k_units) :
    wpAny (model prog w) (ktrTop dp un gd cn cs L a ccd cl outer) (call (.ref f) vs) Q E s := C p loose mean mg mb dp un gd cn cs a ccd cl outer A₀ base h₀ L m news s Q E B F X N T hk hd hu ret
theorem retP {P : Value → Prop} {h₀ h₁ h' : Heap} {L : Addr} {m : Str → Option Value} {news : List (Addr × Obj)} {s : Shared} {Q : Value → Shared → Prop} {v : Value} {tk' : Nat}
    (hret : ∀ (v : Value) (h' : Heap) (tk' : Nat), P v → Fr h₀ L h' m → News h₀ L h' news → InElt h₁ h' → Q v { s with heap := h', toks := tk' }) (e : P v) (F : Fr h₀ L h' m) (N : News h₀ L h' news) (I : InElt h₁ h') : Q v { s with heap := h', toks := tk' } := hret v h' tk' e F N I
/-- a text, or nothing -/
noncomputable def Told (v : Value) : Option Str → Prop
  | none => v = .none
  | some x => ∃ t, v = .str x t
noncomputable abbrev IsInt (n : Int) (v : Value) : Prop := ∃ t, v = .int n t
noncomputable abbrev IsStr (x : Str) (v : Value) : Prop := ∃ t, v = .str x t
noncomputable abbrev IsBytes (x : Array UInt8) (v : Value) : Prop := ∃ t, v = .bytes x t
end
-- L6
section
open PySem PySem.W PyProof.Rows PySem.Builtin PySem.Builtin._codecs
set_option maxRecDepth 100000
/-- an exception just made: it has no traceback and no context yet -/
structure NewX (h h' : Heap) (e : Addr) (cls : String) : Prop where
  keeps : ∀ b o, h.get? b = some o → h'.get? b = some o
  new : h.get? e = none
  there : ∃ ob vs a0, h'.get? e = some ob ∧ ob.cls = .type cls ∧ ob.data = .fields vs ∧ vs[0]? = some a0 ∧ vs[1]? = some .none ∧ vs[2]? = some .none
theorem uee_new : ExcNewFacts "UnicodeEncodeError" "UnicodeEncodeError.__new__" where
  ends := by decide +kernel
  owner := by decide +kernel
  entry := entryFor_alias (id' := "BaseException.__new__") (by rw [fastTable_eq_tree]; kernel_rfl) (by first | rfl | decide +kernel) (by decide +kernel) (by rw [fastTable_eq_tree]; kernel_rfl)
  sub := by rw [isSubtype_type]; kernel_rfl
  notAttr := by rw [isSubtype_type]; kernel_rfl
  notName := by rw [isSubtype_type]; kernel_rfl
  made := by kernel_rfl
theorem uee_notType : (Value.type "UnicodeEncodeError" == Value.type "type") = false := by decide +kernel
theorem uee_canMake : ((Manifest.find? "UnicodeEncodeError").bind fun x => List.findSome? (fun t => (Manifest.find? t).bind fun b =>
    if b.noNew = true then some true else if (b.attrs.any fun x => x.fst == "__new__") = true then some false else none) x.mro).getD false = false := by kernel_rfl
theorem uee_noVector (args : Args) : checkTypeCall "UnicodeEncodeError" args = pure () := by kernel_rfl
theorem uee_mro : mroOf (.type "UnicodeEncodeError") = pure [.type "UnicodeEncodeError", .type "UnicodeError", .type "ValueError", .type "Exception", .type "BaseException", .type "object"] := by rw [mroOf_type]; kernel_rfl
theorem uee_madeBy : Bind.madeBy (.type "UnicodeEncodeError") = pure (some "UnicodeEncodeError.__new__") := by kernel_rfl
theorem uee_newOk (rest : List Value) : checkBuiltinCall "UnicodeEncodeError.__new__" ⟨.type "UnicodeEncodeError" :: rest, []⟩ = pure () := by kernel_rfl
theorem uee_init : Slot "UnicodeEncodeError" "__init__" "UnicodeEncodeError.__init__" := .of (owner := "UnicodeEncodeError") (n := "__init__") (by rw [typeLookup_type, builtinLookup_eq_fast]; kernel_rfl) (by decide +kernel) (by decide +kernel) (by decide +kernel)
    (by first | exact .inl (by decide +kernel) | exact .inr (by decide +kernel)) (by rw [isSubtype_type]; kernel_rfl)
theorem uee_initEntry : entryFor table "UnicodeEncodeError.__init__" = some Builtin.«UnicodeEncodeError.__init__» := entryFor_of_tree (by kernel_rfl)
theorem uee_argsOk (a b c d e f : Value) : argsOk "UnicodeEncodeError.__init__" ⟨[a, b, c, d, e, f], []⟩ := by
  unfold argsOk; kernel_rfl
open PySem.Builtin.UnicodeEncodeError in
noncomputable def uTail : Option Members → List Value
  | none => []
  | some m => [m.encoding, m.object, rawInt m.start, rawInt m.stop, m.reason]
open PySem.Builtin.UnicodeEncodeError in
noncomputable def uObj (t : Value) (m : Option Members) : Obj := { cls := .type "UnicodeEncodeError", data := .fields (t :: .none :: .none :: .none :: .bool false :: .none :: uTail m).toArray }
section
variable {prog : Program} {w : World} {A : Around} {E : Value → Shared → Prop} {s : Shared} {e : Addr} {t : Value}
open PySem.Builtin.UnicodeEncodeError
theorem uTail_len (m : Option Members) : (uTail m).length ≤ 5 := by cases m <;> simp [uTail]
theorem u_set {x : Option Members} {m : Members} {Q : Unit → Shared → Prop} (ho : s.heap.get? e = some (uObj t x))
    (h : ∀ h', h'.get? e = some (uObj t (some m)) → Heap.SameBut e s.heap h' → Q () { s with heap := h' }) :
    wpAny (model prog w) A (setMembers (.ref e) m) Q E s := by
  unfold setMembers
  refine wpAny_updateFields ho rfl ?_ ?_
  · refine h _ ?_ (Heap.SameBut.update ..)
    rw [Heap.get?_update_self _ ho rfl]
    simp [uObj, Obj.mapFields, uTail]
  · have := uTail_len x
    simp [sizeLine_eq]
theorem u_mem {x : Option Members} {Q : Members → Shared → Prop} (ho : s.heap.get? e = some (uObj t x)) (h : Q (x.getD {}) s) : wpAny (model prog w) A (members (.ref e)) Q E s := by
  unfold members
  refine wpAny_bind (wpAny_fieldsOf ho rfl ?_)
  cases x with
  | none => simpa [uTail] using wpAny_pure h
  | some m => simpa [uTail, rawInt] using wpAny_pure h
set_option maxHeartbeats 2000000 in
theorem init_uee {x1 x2 x5 : Str} {t1 t2 t3 t4 t5 : Tok} {i j : Int} (hi0 : 0 ≤ i) (hi : i < 2 ^ 63) (hj0 : 0 ≤ j) (hj : j < 2 ^ 63) {Q : Fin → Shared → Prop}
    (ho : s.heap.get? e = some (uObj t none))
    (h : ∀ h' t' m', h'.get? e = some (uObj t' (some m')) → (∀ b o, b ≠ e → s.heap.get? b = some o → h'.get? b = some o) → Q (.done (.ret .none)) { s with heap := h' }) :
    wpAny (model prog w) A (Builtin.«UnicodeEncodeError.__init__» ⟨[.ref e, .str x1 t1, .str x2 t2, .int i t3, .int j t4, .str x5 t5], []⟩) Q E s := by
  unfold Builtin.«UnicodeEncodeError.__init__» beginInit
  simp only [bind_assoc, pure_bind, List.isEmpty_nil, Bool.not_true, Bool.false_eq_true, if_false]
  refine wpAny_bind (wpAny_field (x := t) ho rfl rfl ?_)
  unfold newTuple
  refine wpAny_bind (wpAny_newObj_type ?_)
  have ho1 := Heap.get?_push_of_some ({ cls := .type "tuple", data := .seq [Value.str x1 t1, .str x2 t2, .int i t3, .int j t4, .str x5 t5].toArray } : Obj) ho
  refine wpAny_bind (wpAny_setField ho1 rfl (by show 0 < 6; decide) ?_)
  have g1 := Heap.get?_update_self (Obj.mapFields (·.setIfInBounds 0 (.ref s.heap.objs.size))) ho1 rfl
  have k1 := Heap.SameBut.update (s.heap.push ({ cls := .type "tuple", data := .seq [Value.str x1 t1, .str x2 t2, .int i t3, .int j t4, .str x5 t5].toArray } : Obj)) e (Obj.mapFields (·.setIfInBounds 0 (.ref s.heap.objs.size)))
  have K1 : ∀ b o, b ≠ e → s.heap.get? b = some o → ((s.heap.push ({ cls := .type "tuple", data := .seq [Value.str x1 t1, .str x2 t2, .int i t3, .int j t4, .str x5 t5].toArray } : Obj)).update e (Obj.mapFields (·.setIfInBounds 0 (.ref s.heap.objs.size)))).get? b = some o :=
    fun b o hb q => (k1.2 b hb).trans (Heap.get?_push_of_some _ q)
  dsimp only
  revert g1 K1
  generalize (s.heap.push ({ cls := .type "tuple", data := .seq [Value.str x1 t1, .str x2 t2, .int i t3, .int j t4, .str x5 t5].toArray } : Obj)).update e (Obj.mapFields (·.setIfInBounds 0 (.ref s.heap.objs.size))) = h1
  intro g1 K1
  have g1' : h1.get? e = some (uObj (.ref s.heap.objs.size) none) := g1
  clear g1 k1 ho1
  refine wpAny_bind (wpAny_letGo ?_)
  refine wpAny_bind ?_
  rw [if_pos (show (5 == 5) = true from rfl)]
  refine wpAny_bind (u_mem (s := { s with heap := h1 }) g1' ?_)
  refine wpAny_bind (u_set (s := { s with heap := h1 }) g1' fun h2 g2 k2 => ?_)
  refine wpAny_bind (wpAny_letGo ?_)
  refine wpAny_bind (u_mem (s := { s with heap := h2 }) g2 ?_)
  refine wpAny_bind (u_set (s := { s with heap := h2 }) g2 fun h3 g3 k3 => ?_)
  refine wpAny_bind (wpAny_letGo ?_)
  refine wpAny_bind (u_mem (s := { s with heap := h3 }) g3 ?_)
  refine wpAny_bind (u_set (s := { s with heap := h3 }) g3 fun h4 g4 k4 => ?_)
  refine wpAny_bind (wpAny_letGo ?_)
  rw [if_neg (by show ¬ ((5 != 5) = true); decide)]
  refine wpAny_pure ?_
  dsimp only
  have str : ∀ (n : Nat) (x : Str) (t : Tok) (s' : Shared) (Q' : Unit → Shared → Prop), Q' () s' → wpAny (model prog w) A (UnicodeEncodeError.strArgument "UnicodeEncodeError.__init__" n (.str x t)) Q' E s' := fun n x t s' Q' q => by
    unfold UnicodeEncodeError.strArgument
    refine wpAny_bind (wpAny_pure ?_)
    exact wpAny_pure q
  have siz : ∀ (k : Int) (t : Tok) (s' : Shared) (Q' : Int → Shared → Prop), 0 ≤ k → k < 2 ^ 63 → Q' k s' → wpAny (model prog w) A (UnicodeEncodeError.sizeArgument "UnicodeEncodeError.__init__" (.int k t)) Q' E s' := fun k t s' Q' h0 h1 q => by
    unfold UnicodeEncodeError.sizeArgument asIndex
    refine wpAny_bind (wpAny_bind (wpAny_pure (wpAny_pure ?_)))
    rw [if_neg (by simp only [Bool.or_eq_true, decide_eq_true_eq]; omega)]
    exact wpAny_pure q
  refine wpAny_bind (str _ _ _ _ _ ?_)
  refine wpAny_bind (str _ _ _ _ _ ?_)
  unfold initRange
  refine wpAny_bind (wpAny_bind (siz _ _ _ _ hi0 hi ?_))
  refine wpAny_bind (u_mem (s := { s with heap := h4 }) g4 ?_)
  refine wpAny_bind (u_set (s := { s with heap := h4 }) g4 fun h5 g5 k5 => ?_)
  refine wpAny_bind (siz _ _ _ _ hj0 hj ?_)
  refine wpAny_bind (u_mem (s := { s with heap := h5 }) g5 ?_)
  refine (u_set (s := { s with heap := h5 }) g5 fun h6 g6 k6 => ?_)
  refine wpAny_bind (str _ _ _ _ _ ?_)
  refine wpAny_bind (u_mem (s := { s with heap := h6 }) g6 ?_)
  refine wpAny_bind (u_set (s := { s with heap := h6 }) g6 fun h7 g7 k7 => ?_)
  refine wpAny_pure (h h7 _ _ g7 fun b o hb q => ?_)
  exact (k7.2 b hb).trans ((k6.2 b hb).trans ((k5.2 b hb).trans ((k4.2 b hb).trans ((k3.2 b hb).trans ((k2.2 b hb).trans (K1 b o hb q))))))
end
section
variable {prog : Program} {w : World} {A : Around}
theorem newOf_uee {hp h h' : Heap} {e : Addr} {t : Value} {m : PySem.Builtin.UnicodeEncodeError.Members} (k : ∀ b o, hp.get? b = some o → h.get? b = some o) (hn : hp.get? e = none)
    (g : h'.get? e = some (uObj t (some m))) (k' : ∀ b o, b ≠ e → h.get? b = some o → h'.get? b = some o) : NewX hp h' e "UnicodeEncodeError" := by
  refine ⟨fun b o q => k' b o (fun z => by rw [z, hn] at q; cases q) (k b o q), hn, _, (t :: .none :: .none :: .none :: .bool false :: .none :: uTail (some m)).toArray, t, g, rfl, rfl, ?_⟩
  generalize uTail (some m) = z
  exact ⟨List.getElem?_toArray, List.getElem?_toArray, List.getElem?_toArray⟩
set_option maxHeartbeats 2000000 in
theorem type_call_uee {x1 x2 x5 : Str} {t1 t2 t3 t4 t5 : Tok} {i j : Int} (hi0 : 0 ≤ i) (hi : i < 2 ^ 63) (hj0 : 0 ≤ j) (hj : j < 2 ^ 63) {E : Value → Shared → Prop} {Q : Fin → Shared → Prop}
    {hp : Heap} {g : Array GenState} {d : Drawn} {tk : Nat} {os : OsState}
    (h : ∀ h' e, NewX hp h' e "UnicodeEncodeError" → Q (.done (.ret (.ref e))) ⟨h', g, d, tk, os⟩) :
    wpAny (model prog w) A (Builtin.«type.__call__» ⟨[.type "UnicodeEncodeError", .str x1 t1, .str x2 t2, .int i t3, .int j t4, .str x5 t5], []⟩) Q E ⟨hp, g, d, tk, os⟩ := by
  have hnt := uee_notType
  have hcan := uee_canMake
  have hchk := uee_noVector ⟨[.str x1 t1, .str x2 t2, .int i t3, .int j t4, .str x5 t5], []⟩
  have hmro := uee_mro
  have hmade := uee_madeBy
  wp_walk
  refine codeAny_call_builtin_code (Code.quiet_builtin _ (by decide +kernel)) (wpAny_of_eq (uee_newOk _) ?_)
  refine codeAny_exc_new uee_new ?_ (by show 5 ≤ _; decide)
  show wpAny _ _ _ _ _ _
  have hget : ((hp.push { cls := .type "tuple", data := .seq #[.str x1 t1, .str x2 t2, .int i t3, .int j t4, .str x5 t5] }).push
      { cls := .type "UnicodeEncodeError", data := .fields #[.ref hp.objs.size, .none, .none, .none, .bool false, .none] }).get? (hp.objs.size + 1) = some
      { cls := .type "UnicodeEncodeError", data := .fields #[.ref hp.objs.size, .none, .none, .none, .bool false, .none] } := by heap_get
  refine wpAny_bind (wpAny_isInstance ⟨_, hget, rfl⟩ uee_new.sub ?_)
  wp_step
  refine wpAny_bind (wpAny_holding (wpAny_callSpecial?_slot ⟨_, hget, rfl⟩ uee_init (wpAny_call (codeAny_call_builtin uee_init.plain uee_initEntry (uee_init.check _ _ _ _ _ _ _ _ ⟨_, hget, rfl⟩ (uee_argsOk _ _ _ _ _ _) ?_)))))
  refine init_uee (t := .ref hp.objs.size) hi0 hi hj0 hj hget fun h' t' m' g' k' => ?_
  have N := newOf_uee (hp := hp) (fun b o q => Heap.get?_push_of_some _ (Heap.get?_push_of_some _ q)) (Heap.get?_none_of_le (Nat.le_succ _)) g' k'
  have Z := h _ _ N
  clear hget
  dsimp only
  rw [if_neg (by decide)]
  exact wpAny_pure Z
theorem call_uee {x1 x2 x5 : Str} {t1 t2 t3 t4 t5 : Tok} {i j : Int} (hi0 : 0 ≤ i) (hi : i < 2 ^ 63) (hj0 : 0 ≤ j) (hj : j < 2 ^ 63) {E : Value → Shared → Prop} {Q : Value → Shared → Prop} {s : Shared}
    (h : ∀ h' e, NewX s.heap h' e "UnicodeEncodeError" → Q (.ref e) { s with heap := h' }) :
    wpAny (model prog w) A (call (.type "UnicodeEncodeError") [.str x1 t1, .str x2 t2, .int i t3, .int j t4, .str x5 t5]) Q E s := by
  refine wpAny_call (codeAny_of_tree ?_)
  show wpAny _ _ (again (.builtin "type.__call__" ⟨.type "UnicodeEncodeError" :: [.str x1 t1, .str x2 t2, .int i t3, .int j t4, .str x5 t5], []⟩)) _ _ _
  exact wpAny_pure ⟨Code.quiet_builtin _ (by decide +kernel), codeAny_builtin entry_typeCall (type_call_uee hi0 hi hj0 hj (fun h' e hm => h h' e hm))⟩
end
end
-- T1
section
open PySem PySem.W PyProof.Rows PySem.Builtin PySem.Builtin._codecs
set_option maxRecDepth 100000
section
variable {prog : Program} {w : World} {A : Around} {E : Value → Shared → Prop} {s : Shared}
noncomputable def encA (x : Str) : Array UInt8 := x.cps.foldl (fun acc y => acc ++ (asciiCodec.bytesOf y).toArray) #[]
theorem encL (l : List Nat) : ∀ acc : Array UInt8, (l.foldl (fun acc y => acc ++ (asciiCodec.bytesOf y).toArray) acc).toList = acc.toList ++ l.map Nat.toUInt8 := by
  induction l with
  | nil => intro acc; simp
  | cons c r ih => intro acc; rw [List.foldl_cons, ih]; simp [asciiCodec]
theorem encA_list (x : Str) : (encA x).toList = x.cps.toList.map Nat.toUInt8 := by
  unfold encA
  rw [← Array.foldl_toList, encL]; rfl
theorem encA_size (x : Str) : (encA x).size = x.cps.size := by
  rw [← Array.length_toList, encA_list, List.length_map, Array.length_toList]
theorem fold_size (a : Array Nat) : (a.foldl (fun acc y => acc ++ (asciiCodec.bytesOf y).toArray) #[]).size = a.size := by
  rw [← Array.foldl_toList, ← Array.length_toList, encL]; simp
theorem fidx_le (p : Nat → Bool) (a : Array Nat) (d : Nat) : (Array.findIdx? p a).getD d ≤ a.size + d := by
  cases q : Array.findIdx? p a with
  | none => simp
  | some i => have := (Array.findIdx?_eq_some_iff_getElem.mp q).1; simp only [Option.getD_some]; omega
theorem ex0 (a : Array Nat) : a.extract 0 a.size = a := by simp
theorem narrow_ok {x : Str} {self : Value} (hx : ∀ c ∈ x.cps, c < 128) (hl : x.length ≤ 1048576) {Q : Array UInt8 → Shared → Prop} (h : Q (encA x) s) : wpAny (model prog w) A (encodeNarrow "str.encode" asciiCodec none self x) Q E s := by
  have hbad : ∀ c ∈ x.cps, asciiCodec.bad c = false := fun c hc => by simp only [asciiCodec, decide_eq_false_iff_not]; have := hx c hc; omega
  have hfind : Array.findIdx? asciiCodec.bad x.cps = none := by
    rw [Array.findIdx?_eq_none_iff]; intro c hc; simp [hbad c hc]
  have hsz : (encA x).size ≤ sizeLine := by
    rw [encA_size, sizeLine_eq]; show x.length ≤ _; omega
  unfold encodeNarrow
  simp only [Std.Legacy.Range.forIn_eq_forIn_range', Std.Legacy.Range.size]
  refine wpAny_bind ?_
  rw [show (x.length - 0 + 1 - 1) / 1 = x.length by simp]
  cases hn : x.length with
  | zero =>
    rw [List.range'_zero, List.forIn_nil]
    refine wpAny_pure (wpAny_pure ?_)
    have : x.cps = #[] := Array.eq_empty_of_size_eq_zero hn
    have q : encA x = #[] := by unfold encA; rw [this]; rfl
    rw [q] at h; exact h
  | succ n =>
    have hpos : 0 < x.cps.size := by show 0 < x.length; omega
    rw [List.range'_succ, List.forIn_cons]
    refine wpAny_bind ?_
    dsimp only
    rw [if_neg (by show ¬ 0 > sizeLine; exact Nat.not_lt_zero _)]
    rw [Array.getElem?_eq_getElem hpos]
    dsimp only
    rw [if_pos (by rw [hbad _ (Array.getElem_mem hpos)]; rfl)]
    refine wpAny_pure ?_
    dsimp only
    rw [ex0, hfind]
    dsimp only [Option.getD]
    rw [ex0, show 0 + x.cps.size = x.cps.size from Nat.zero_add _]
    show wpAny _ _ (forIn (List.range' (0 + 1) n) (x.cps.size, encA x, ({} : Faults)) _) _ _ _
    cases n with
    | zero => rw [List.range'_zero, List.forIn_nil]; exact wpAny_pure (wpAny_pure h)
    | succ n =>
      rw [List.range'_succ, List.forIn_cons]
      refine wpAny_bind ?_
      dsimp only
      rw [if_neg (by omega), Array.getElem?_eq_none (Nat.le_refl _)]
      exact wpAny_pure (wpAny_pure (wpAny_pure h))
theorem raise_fault {α : Type} {x : Str} {t : Tok} {i j : Nat} (hi : i < 2 ^ 62) (hj : j < 2 ^ 62) (hh : A.handled = none) {Q : α → Shared → Prop}
    (h : ∀ h' e tk', NewX s.heap h' e "UnicodeEncodeError" → E (.ref e) { s with heap := h', toks := tk' }) :
    wpAny (model prog w) A (raiseEncodeFault ({} : Faults) asciiCodec.name (.str x t) i j asciiCodec.reason : Sem α) Q E s := by
  unfold raiseEncodeFault
  refine wpAny_bind ?_
  wp_delta
  try dsimp only
  refine wpAny_bind (wpAny_mkStr ?_ (by decide))
  refine wpAny_bind (wpAny_pure ?_)
  refine wpAny_bind (wpAny_mkInt ?_)
  refine wpAny_bind (wpAny_mkInt ?_)
  refine wpAny_bind (wpAny_mkStr ?_ (by decide))
  refine call_uee (by omega) (by omega) (by omega) (by omega) fun h' e N => ?_
  unfold raiseNew
  refine wpAny_bind (wpAny_handled ?_)
  rw [hh]
  first
    | refine wpAny_throw ?_
    | refine wpAny_bind (wpAny_pure (wpAny_throw ?_))
  exact h h' e _ N
theorem narrow_bad {x : Str} {t : Tok} (hx : ∃ c ∈ x.cps, 128 ≤ c) (hl : x.length ≤ 1048576) (hh : A.handled = none) {Q : Array UInt8 → Shared → Prop}
    (h : ∀ h' e tk', NewX s.heap h' e "UnicodeEncodeError" → E (.ref e) { s with heap := h', toks := tk' }) :
    wpAny (model prog w) A (encodeNarrow "str.encode" asciiCodec none (.str x t) x) Q E s := by
  have hsize : x.cps.size = x.length := rfl
  obtain ⟨j, hfind⟩ : ∃ j, Array.findIdx? asciiCodec.bad x.cps = some j := by
    cases q : Array.findIdx? asciiCodec.bad x.cps with
    | some j => exact ⟨j, rfl⟩
    | none =>
      rw [Array.findIdx?_eq_none_iff] at q
      obtain ⟨c, hc, h1⟩ := hx
      have := q c hc
      simp only [asciiCodec, decide_eq_false_iff_not] at this
      omega
  obtain ⟨hj, hjb, hjg⟩ := Array.findIdx?_eq_some_iff_getElem.mp hfind
  unfold encodeNarrow
  simp only [Std.Legacy.Range.forIn_eq_forIn_range', Std.Legacy.Range.size]
  refine wpAny_bind ?_
  rw [show (x.length - 0 + 1 - 1) / 1 = x.length by simp]
  obtain ⟨n, hn⟩ : ∃ n, x.length = n + 1 := ⟨x.length - 1, by omega⟩
  have hpos : 0 < x.cps.size := by omega
  rw [hn, List.range'_succ, List.forIn_cons]
  refine wpAny_bind ?_
  dsimp only
  rw [if_neg (by show ¬ 0 > sizeLine; exact Nat.not_lt_zero _)]
  rw [Array.getElem?_eq_getElem hpos]
  dsimp only
  by_cases h0 : j = 0
  · subst h0
    rw [if_neg (by rw [hjb]; decide)]
    refine wpAny_bind (wpAny_rule ?_)
    refine wpAny_bind (raise_fault (by omega) ?_ hh h)
    have q := fidx_le (fun y => !asciiCodec.bad y) (x.cps.extract 0 x.cps.size) (x.cps.size - 0)
    rw [Array.size_extract] at q
    omega
  · rw [if_pos (by rw [Bool.eq_false_iff.mpr (hjg 0 (by omega))]; rfl)]
    refine wpAny_pure ?_
    dsimp only
    rw [ex0, hfind]
    dsimp only [Option.getD]
    rw [show 0 + j = j from Nat.zero_add _]
    obtain ⟨n', rfl⟩ : ∃ n', n = n' + 1 := ⟨n - 1, by omega⟩
    rw [List.range'_succ, List.forIn_cons]
    refine wpAny_bind ?_
    dsimp only
    rw [if_neg ?_, Array.getElem?_eq_getElem hj]
    · dsimp only
      rw [if_neg (by rw [hjb]; decide)]
      refine wpAny_bind (wpAny_rule ?_)
      refine wpAny_bind (raise_fault (by omega) ?_ hh h)
      have q := fidx_le (fun y => !asciiCodec.bad y) (x.cps.extract j x.cps.size) (x.cps.size - j)
      rw [Array.size_extract] at q
      have q' : j + (Array.findIdx? (fun y => !asciiCodec.bad y) (x.cps.extract j x.cps.size)).getD (x.cps.size - j) < 2 ^ 62 := by omega
      exact q'
    · rw [fold_size, Array.size_extract, sizeLine_eq]; omega
theorem encode_ascii_tree (x : Str) (t u : Tok) : «str.encode» ⟨[.str x t, .str (Str.ofString "ascii") u], []⟩ = (do ret (← (do mkBytes (← encodeNarrow "str.encode" asciiCodec none (.str x t) x)))) := by
  kernel_rfl
theorem encode_ok {x : Str} {t u : Tok} (hx : ∀ c ∈ x.cps, c < 128) (hl : x.length ≤ 1048576) {Q : Value → Shared → Prop} (h : ∀ t', Q (.bytes (encA x) t') { s with toks := s.toks + 1 }) :
    wpAny (model prog w) A (call (.builtin "str.encode") [.str x t, .str (Str.ofString "ascii") u]) Q E s :=
  wpAny_call (codeAny_call_builtin F.slot_str_encode.plain F.entry_str_encode (F.slot_str_encode.check _ _ _ _ _ _ _ _ (typeIs_str _ _ _) (F.args_str_encode_2 _ _) (by
    rw [encode_ascii_tree]
    refine wpAny_bind (wpAny_bind (narrow_ok hx hl ?_))
    unfold mkBytes
    rw [if_neg (by rw [encA_size, sizeLine_eq]; show ¬ x.length > _; omega)]
    exact wpAny_bind (wpAny_fresh (wpAny_pure (wpAny_pure (h _)))))))
theorem encode_bad {x : Str} {t u : Tok} (hx : ∃ c ∈ x.cps, 128 ≤ c) (hl : x.length ≤ 1048576) (hh : A.handled = none) {Q : Value → Shared → Prop}
    (h : ∀ h' e tk', NewX s.heap h' e "UnicodeEncodeError" → E (.ref e) { s with heap := h', toks := tk' }) :
    wpAny (model prog w) A (call (.builtin "str.encode") [.str x t, .str (Str.ofString "ascii") u]) Q E s :=
  wpAny_call (codeAny_call_builtin F.slot_str_encode.plain F.entry_str_encode (F.slot_str_encode.check _ _ _ _ _ _ _ _ (typeIs_str _ _ _) (F.args_str_encode_2 _ _) (by
    rw [encode_ascii_tree]
    refine wpAny_bind (wpAny_bind (narrow_bad hx hl ?_ h))
    exact hh)))
end
end
-- T2
section
open PySem PySem.W PyProof.Rows PySem.Builtin
set_option maxRecDepth 100000
theorem method_encode {M : Model} {A : Around} {E : Value → Shared → Prop} {s : Shared} {x : Str} {t : Tok} {pl : Sem Bool} {Q : Value × List Value → Shared → Prop} (h : Q (.builtin "str.encode", [.str x t]) s) : wpAny M A (getMethod (.str x t) (Str.ofString "encode") pl) Q E s := by
  with_reducible exact getMethod_builtin (typeIs_str _ _ _) PySem.F.plainAttrs_str PySem.F.slot_str_encode PySem.F.type_str_encode (fun b e => nomatch e) h
end
-- T3
section
open PySem PySem.W PyProof.Rows PySem.Builtin
set_option maxRecDepth 100000
set_option maxHeartbeats 4000000
section
variable {prog : Program} {w : World} {A : Around} {E : Value → Shared → Prop} {s : Shared} {env : Env}
theorem unchain_entry : entryFor table "proto.unchain" = some Builtin.«proto.unchain» := entryFor_of_tree (by kernel_rfl)
theorem unchain_none {e e1 : Addr} {oe : Obj} {vs : Array Value} (he : s.heap.get? e1 = some oe) (hd : oe.data = .fields vs) (h2 : vs[2]? = some .none) {Q : Value → Shared → Prop} (h : Q .none s) :
    wpAny (model prog w) A (runValue (.builtin "proto.unchain" ⟨[.ref e, .ref e1, .ref e1, .bool false], []⟩)) Q E s := by
  refine wpAny_runValue ?_
  refine codeAny_builtin unchain_entry ?_
  unfold Builtin.«proto.unchain»
  dsimp only
  refine wpAny_bind (wpAny_field he hd h2 ?_)
  rw [if_pos (by decide)]
  first | exact wpAny_pure h | exact wpAny_bind (wpAny_pure (wpAny_pure h))
theorem raiseStmt_in {cls : String} (F : ExcRaiseFacts cls) {e1 : Addr} {x : Sem Value} {Q : Flow → Shared → Prop} (hh : A.handled = some (.ref e1))
    (h : wpAny (model prog w) A x (fun v s₁ => ∃ e t, v = .ref e ∧ s₁.heap.get? e = some { cls := .type cls, data := .fields #[.ref t, .none, .none, .none, .bool false, .none] } ∧ e1 ≠ e ∧
      (∃ oe vs, s₁.heap.get? e1 = some oe ∧ oe.data = .fields vs ∧ vs[2]? = some .none) ∧ E (.ref e) { s₁ with heap := s₁.heap.update e (Obj.mapFields (·.setIfInBounds 2 (.ref e1))) }) E s) :
    wpAny (model prog w) A (raiseStmt env (some x) none) Q E s := by
  unfold raiseStmt
  refine wpAny_bind (wpAny_mono h (fun v s₁ h₁ => ?_) fun _ _ x => x)
  obtain ⟨e, t, rfl, he, hne, ⟨oe, vs, h1, hd, h2⟩, hE⟩ := h₁
  obtain ⟨hp, g, d, tk, os⟩ := s₁
  have hsub := F.isExc
  have hmeta := F.plainMeta
  repeat (first | refine wpAny_loadPart he ?_ | wp_step)
  unfold raiseNew
  refine wpAny_bind (wpAny_handled ?_)
  rw [hh]
  dsimp only
  rw [if_pos (by simp [hne])]
  refine wpAny_bind (wpAny_holding (unchain_none h1 hd h2 ?_))
  refine wpAny_bind ?_
  unfold updateField
  refine wpAny_bind (wpAny_load he ?_)
  dsimp only
  rw [if_pos (by simp)]
  exact wpAny_update he (wpAny_throw hE)
end
end
-- T4
section
open PySem PySem.W PyProof.Rows PySem.Builtin
set_option maxRecDepth 100000
set_option maxHeartbeats 4000000
/-- the exception has one mark of the way and no context; over B nothing is changed -/
noncomputable def OnceX (B : Heap) (l : List Env) (e : Addr) (X : String) (h : Heap) : Prop :=
  B.StaysIn h ∧ B.get? e = none ∧ h.FunFrames B l ∧ ∃ oe vs T oT ts, h.get? e = some oe ∧ oe.cls = .type X ∧ oe.data = .fields vs ∧ vs[1]? = some (.ref T) ∧ vs[2]? = some .none ∧ B.get? T = none ∧ T ≠ e ∧ h.get? T = some oT ∧ oT.data = .fields ts ∧ 3 < ts.size
section
variable {M : Model} {A : Around} {E : Value → Shared → Prop} {s : Shared}
theorem flight_once {B : Heap} {l : List Env} {e : Addr} {X : String} {Q : Unit → Shared → Prop} (hO : OnceX B l e X s.heap)
    (h : ∀ h', OnceX B l e X h' → s.heap.UpToSlots h' → Q () { s with heap := h' }) : wpAny M A (setFlight (.ref e) none) Q E s := by
  obtain ⟨f1, f2, f3, oe, vs, T, oT, ts, he, hc, hd, h1, h2, hnT, hTe, hT, hdT, hsz⟩ := hO
  have other : ∀ b, b ≠ T → (s.heap.update T (Obj.mapFields (·.setIfInBounds 3 ((none : Option Addr).elim Value.none fun f => rawInt f)))).get? b = s.heap.get? b :=
    fun b hb => Heap.get?_update_other _ _ (Ne.symm hb)
  have noRecord : ∀ b o, s.heap.get? b = some o → (∀ vs, o.data ≠ .fields vs) → b ≠ T := fun b o hb hnf q => by
    rw [q, hT] at hb; injection hb with hb; subst hb; exact hnf ts hdT
  unfold setFlight
  refine wpAny_bind (wpAny_field he hd h1 ?_)
  rw [if_pos (show (Value.ref T != Value.none) = true from by simp)]
  refine wpAny_setField hT hdT hsz (h _ ?_ fun b o hb hnf => ⟨o.slots, (other b (noRecord b o hb hnf)).trans hb⟩)
  refine ⟨fun b o hbo => (other b fun q => by rw [q, hnT] at hbo; cases hbo).trans (f1 b o hbo), f2, f3.of_keeps fun b o hb hnf => ⟨o, (other b (noRecord b o hb hnf)).trans hb, rfl⟩, ?_⟩
  exact ⟨oe, vs, T, _, _, (other e (Ne.symm hTe)).trans he, hc, hd, h1, h2, hnT, hTe, Heap.get?_update_self _ hT (Obj.isFreed_of_fields (Obj.data_mapFields hdT _)), Obj.data_mapFields hdT _, by simp [hsz]⟩
theorem note_first {B : Heap} {env : Env} {outer : List Env} {L e : Addr} {X : String} {oe : Obj} {vs : Array Value} {Q : Unit → Shared → Prop}
    (hfr : A.frames = some (env :: outer)) (hl : s.heap.FunFrames B (env :: outer)) (hf : env.frame = some L)
    (he : s.heap.get? e = some oe) (hc : oe.cls = .type X) (hkb : B.StaysIn s.heap) (hen : B.get? e = none) (hd : oe.data = .fields vs) (h1 : vs[1]? = some .none) (h2 : vs[2]? = some .none)
    (h : ∀ h', OnceX B (env :: outer) e X h' → s.heap.UpToSlots h' → Q () { s with heap := h' }) : wpAny M A (noteFrame (.ref e) env) Q E s := by
  have hsz : 1 < vs.size := (Array.getElem?_eq_some_iff.mp h1).1
  have hene : e ∉ (env :: outer).filterMap (·.frame) := fun hm => by
    obtain ⟨_, o, ho, hnf⟩ := hl.mem hm
    rw [he] at ho; injection ho with ho; subst ho; exact hnf vs hd
  unfold noteFrame
  simp only [hf]
  refine wpAny_bind (wpAny_field he hd h1 ?_)
  rw [if_neg (by decide)]
  refine wpAny_bind (wpAny_frameOf_fun hfr hl hf fun h₁ hs₁ => ?_)
  refine wpAny_bind (wpAny_entryPlaceOf fun pl hpl => ?_)
  unfold EntryCells.newEntry newFields
  refine wpAny_bind (wpAny_newObj_type ?_ (hpl.sizeOk5 _ _ _ _ _))
  have he₁ : h₁.get? e = some oe := (hs₁.2.1 e hene).trans he
  have kb₁ : B.StaysIn h₁ := fun b o hbo => (hs₁.2.1 b fun hm => by rw [(hl.mem hm).1] at hbo; cases hbo).trans (hkb b o hbo)
  generalize hX : ({ cls := .type "traceback", dict := none, data := .fields _ } : Obj) = oX
  have hfr' : oX.isFreed = false := by rw [← hX]; rfl
  have he₂ := Heap.get?_push_of_some (h := h₁) oX he₁
  have hTe : h₁.objs.size ≠ e := Nat.ne_of_gt (Heap.lt_size he₁)
  have hd₃ := Obj.data_mapFields hd (·.setIfInBounds 1 (Value.ref h₁.objs.size))
  have he₃ := Heap.get?_update_self (Obj.mapFields (·.setIfInBounds 1 (Value.ref h₁.objs.size))) he₂ (Obj.isFreed_of_fields hd₃)
  have hT₃ := (Heap.get?_update_other (h₁.push oX) (Obj.mapFields (·.setIfInBounds 1 (Value.ref h₁.objs.size))) (Ne.symm hTe)).trans (Heap.get?_push_size h₁ hfr')
  have keep : ∀ b o, b ≠ e → h₁.get? b = some o → ((h₁.push oX).update e (Obj.mapFields (·.setIfInBounds 1 (Value.ref h₁.objs.size)))).get? b = some o := fun b o hbe hb => by
    rw [Heap.get?_update_other _ _ (Ne.symm hbe)]
    exact Heap.get?_push_of_some _ hb
  have noRecord : ∀ b o, s.heap.get? b = some o → (∀ vs, o.data ≠ .fields vs) → b ≠ e := fun b o hb hnf q => by
    rw [q, he] at hb; injection hb with hb; subst hb; exact hnf vs hd
  refine wpAny_setField he₂ hd hsz (h _ ?_ ?_)
  · refine ⟨fun b o hbo => keep b o (fun q => by rw [q, hen] at hbo; cases hbo) (kb₁ b o hbo), hen, hl.of_keeps fun b o hb hnf => ?_, ?_⟩
    · obtain ⟨sl, hs⟩ := hs₁.2.2 b o hb
      exact ⟨_, keep b _ (noRecord b o hb hnf) hs, rfl⟩
    · subst hX
      exact ⟨_, _, h₁.objs.size, _, _, he₃, (Obj.cls_mapFields _ _).trans hc, hd₃, by simp [hsz], by rw [Array.getElem?_setIfInBounds_ne (by decide)]; exact h2, kb₁.fresh, hTe, hT₃, rfl, by simp only [List.size_toArray, List.length_append, List.length_cons, List.length_nil]; omega⟩
  · intro b o hb hnf
    obtain ⟨sl, hs⟩ := hs₁.2.2 b o hb
    exact ⟨sl, keep b _ (noRecord b o hb hnf) hs⟩
end
section
variable {prog : Program} {w : World} {A₀ : Around} {E : Value → Shared → Prop} {s' : Shared} {base g h : Heap} {outer : List Env} {L a e : Addr} {m : Str → Option Value} {name : Str} {scope : Scope} {cd : Value}
  {b₀ : Stmt} {suite : List Stmt} {pos np : Pos} {rest : List ExceptHandler} {Q : Flow → Shared → Prop} {KF : Frag}
  {p : Program} {loose : List Str} {mean : ExcName → Option Value} {mg mb : Str → Option Value} {x : Str} {X T' : String}
/-- an exception that the suite of a try has just made, and the clause that takes it -/
theorem caught_here (hx : NewX h s'.heap e X) (F : Fr g L h m) (K : Below A₀ base outer g) (XB : KF.In base) (TB : Top p loose mean mg mb base)
    (ex : nsIn KF mainGlobals x = some none) (hv : bootBuiltins x = some (.type T')) (hn' : x ≠ "__name__")
    (hexc : isSubtype (.type T') (.type "BaseException") = pure true) (hnt : isSubtype (.type ((Manifest.find? T').elim "type" fun y => y.metatype)) (.type "tuple") = pure false) (hsub : isSubtype (.type X) (.type T') = pure true)
    (k : ∀ h' g' B, KtsTurn (outer.filterMap (·.frame)) g g' → Fr g' L h' m → Below A₀ base outer g' → KF.In g' → Top p loose mean mg mb g' → OnceX B (envOf name scope L a cd :: outer) e X h' →
      (∀ b o, h.get? b = some o → b ∉ (envOf name scope L a cd :: outer).filterMap (·.frame) → B.get? b = some o) → h.UpToSlots h' →
      wpAny (model prog w) ((A₀.deeper (envOf name scope L a cd)).mark (some (.ref e))) (execs (b₀ :: suite) (envOf name scope L a cd)) Q E { s' with heap := h' })
    (hk : scope.kind = .function := by rfl) (hxn : (envOf name scope L a cd).kindOf x = some .globalImplicit := by rfl) (hd : (x == ("__debug__" : Str)) = false := by decide)
    (hE : PassesOwnAt (model prog w) ((A₀.deeper (envOf name scope L a cd)).mark (some (.ref e))) (A₀.deeper (envOf name scope L a cd)) (envOf name scope L a cd) E := by passes_own) :
    wpAny (model prog w) (A₀.deeper (envOf name scope L a cd)) (noteFrame (.ref e) (envOf name scope L a cd))
      (fun _ s₂ => wpAny (model prog w) (A₀.deeper (envOf name scope L a cd)) (setFlight (.ref e) none) (fun _ s₃ =>
        wpAny (model prog w) (A₀.deeper (envOf name scope L a cd)) (handleBy (.ref e) (envOf name scope L a cd) (.ExceptHandler (some (.Name x np)) none (b₀ :: suite) pos :: rest)) Q E s₃) E s₂) E s' := by
  have K' := K.push (name := name) (a := a) (cd := cd) F hk
  have hin : ∀ env ∈ (envOf name scope L a cd :: outer), ∀ b, env.frame = some b → b ∈ (envOf name scope L a cd :: outer).filterMap (·.frame) := fun env he b hb => List.mem_filterMap.mpr ⟨env, he, hb⟩
  have hBG : ∀ b o, h.get? b = some o → b ∉ (envOf name scope L a cd :: outer).filterMap (·.frame) → (hideAll h ((envOf name scope L a cd :: outer).filterMap (·.frame))).get? b = some o := fun b o q nm => hideAll_get _ q nm
  have hsm : h.UpToSlots s'.heap := Heap.UpToSlots.of_keeps hx.keeps
  have hen : (hideAll h ((envOf name scope L a cd :: outer).filterMap (·.frame))).get? e = none := by
    cases q : (hideAll h ((envOf name scope L a cd :: outer).filterMap (·.frame))).get? e with
    | none => rfl
    | some o => have := of_hideAll _ q; rw [hx.new] at this; cases this
  obtain ⟨ob, vs, a0, he, hcls, hdt, _, h1, h2⟩ := hx.there
  refine note_first K'.stack ((funFrames_hide K'.frames hin).of_keeps fun b o hb _ => ⟨o, hx.keeps b o hb, rfl⟩) rfl he hcls (fun b o hb => hx.keeps b o (of_hideAll _ hb)) hen hdt h1 h2 fun h₄ O₄ s₄ => ?_
  refine flight_once O₄ fun h₅ O₅ s₅ => ?_
  have hsm₅ := hsm.trans (s₄.trans s₅)
  obtain ⟨g₅, T₅, F₅, K₅⟩ := kts_ground K F hBG O₅.1 hsm₅
  have X₅ : KF.In g₅ := XB.keeps K₅.stays
  have P₅ : TopRead p loose mg mb g₅ := topRead_of (TB.keeps K₅.stays)
  obtain ⟨oe, _, _, _, _, hoe, hoc, _⟩ := O₅.2.2.2
  refine wpAny_handleBy_builtin (X := X) (T := T') (b := true) hexc hnt hsub (name_B F₅ X₅ P₅ ex hv hn' ⟨rfl, ⟨oe, hoe, hoc⟩, ?_⟩ hk hxn hd)
  refine flight_once O₅ fun h₆ O₆ s₆ => ?_
  obtain ⟨g₆, T₆, F₆, K₆⟩ := kts_ground K F hBG O₆.1 (hsm₅.trans s₆)
  exact wpAny_passesOwnAt hE (k h₆ g₆ _ T₆ F₆ K₆ (XB.keeps K₆.stays) (TB.keeps K₆.stays) O₆ hBG (hsm₅.trans s₆))
end
end
-- T5
section
open PySem PySem.W PyProof.Rows PySem.Builtin
set_option maxRecDepth 100000
set_option maxHeartbeats 4000000
section
variable {prog : Program} {w : World} {A : Around} {E : Value → Shared → Prop} {s : Shared} {env : Env}
/-- raise C("words"), inside a clause that handles e1: the new exception gets e1 as its context -/
theorem raise_text_in {cls newId initId : String} (F : ExcCallFacts cls newId initId) (G : ExcRaiseFacts cls) {e1 : Addr} {x msg : Str} {k : Nat} {np cpos pos cp : Pos} {Q : Flow → Shared → Prop}
    (hh : A.handled = some (.ref e1)) (h1 : ∃ oe vs, s.heap.get? e1 = some oe ∧ oe.data = .fields vs ∧ vs[2]? = some .none)
    (hn : ∀ {Q' : Value → Shared → Prop}, Q' (.type cls) s → wpAny (model prog w) A (eval (.Name x np) env) Q' E s)
    (h : ∀ h' e tk' vs, Heap.MadeExc s.heap h' e cls vs → E (.ref e) { s with heap := h'.update e (Obj.mapFields (·.setIfInBounds 2 (.ref e1))), toks := tk' }) :
    wpAny (model prog w) A (exec (.Raise (some (.Call (.Name x np) [.Constant (.str msg) k cp] [] cpos)) none pos) env) Q E s := by
  rw [arm_exec_Raise]
  show wpAny (model prog w) A (do standAt pos; raiseStmt env (some (do let v ← eval (.Call (.Name x np) [.Constant (.str msg) k cp] [] cpos) env; standAt pos; pure v)) none) Q E s
  refine wpAny_bind (wpAny_standAt (raiseStmt_in G hh (wpAny_bind (wpAny_Call_ofName (hn ?_)))))
  refine callWith_excType rfl ?_
  show wpAny (model prog w) A (evalArgs (.type cls) true [(false, eval (.Constant (.str msg) k cp) env)] []) _ E s
  refine Calls.evalArgs_plain (Calls.spliced_cons (wpAny_Constant_str ?_))
  refine Calls.spliced_nil ?_
  refine wpAny_call_exc F (hrest := by size_fits) fun h' e hm => ?_
  refine wpAny_bind (wpAny_standAt (wpAny_pure ?_))
  obtain ⟨t, ht, _, _⟩ := hm.there
  obtain ⟨oe, vs, ho, hd, h2⟩ := h1
  refine ⟨e, t, rfl, ht, fun q => ?_, ⟨oe, vs, hm.keeps _ _ ho, hd, h2⟩, ?_⟩
  · have := hm.new; rw [← q, ho] at this; cases this
  · exact h h' e _ _ hm
end
section
variable {M : Model} {A : Around} {E : Value → Shared → Prop} {s' : Shared} {base g h h₂ G : Heap} {outer : List Env} {L a e e1 : Addr} {m : Str → Option Value} {name : Str} {scope : Scope} {cd : Value} {Q : Unit → Shared → Prop} {news : List (Addr × Obj)}
theorem leave_in {cls : String} {vs : List Value} (K : Below A base outer g) (hx : Heap.MadeExc h h₂ e cls vs) (F : Fr g L h m) (hG : ∀ b o, G.get? b = some o → b ∉ outer.filterMap (·.frame) → h.get? b = some o ∧ b ≠ L) (hU : G.UpToSlots h)
    (hN : ∀ q ∈ news, h.get? q.1 = some q.2 ∧ q.1 ∉ (envOf name scope L a cd :: outer).filterMap (·.frame) ∧ G.get? q.1 = none ∧ base.get? q.1 = none)
    (hs : s'.heap = h₂.update e (Obj.mapFields (·.setIfInBounds 2 (.ref e1))))
    (hQ : ∀ h' t, RaisedS base G outer e (.type cls) t vs news h' → G.UpToSlots h' → Q () { s' with heap := h' }) (hk : scope.kind = .function := by rfl) :
    wpAny M (A.deeper (envOf name scope L a cd)) (leaving (envOf name scope L a cd) (.ref e)) Q E s' := by
  have K' := K.push (name := name) (a := a) (cd := cd) F hk
  have hin : ∀ env ∈ (envOf name scope L a cd :: outer), ∀ b, env.frame = some b → b ∈ (envOf name scope L a cd :: outer).filterMap (·.frame) := fun env he b hb => List.mem_filterMap.mpr ⟨env, he, hb⟩
  have st : base.StaysIn (hideAll h ((envOf name scope L a cd :: outer).filterMap (·.frame))) := fun b o q => hideAll_get _ (K'.stays b o q) fun hm => by
    rw [(K'.frames.mem hm).1] at q; cases q
  have sg : ∀ b o, G.get? b = some o → b ∉ outer.filterMap (·.frame) → (hideAll h ((envOf name scope L a cd :: outer).filterMap (·.frame))).get? b = some o := fun b o q nm => by
    obtain ⟨q1, q2⟩ := hG b o q nm
    refine hideAll_get _ q1 fun hm => ?_
    rcases kts_mem hm with z | z
    · exact q2 z
    · exact nm z
  obtain ⟨t, he, htn, ht⟩ := hx.there
  have keep : ∀ b o, h.get? b = some o → s'.heap.get? b = some o := fun b o q => by
    have hb : e ≠ b := fun z => by rw [← z, hx.new] at q; cases q
    rw [hs, Heap.get?_update_other _ _ hb]
    exact hx.keeps b o q
  have hte : e ≠ t := fun z => by rw [z, ht] at he; cases he
  have ht' : s'.heap.get? t = some { cls := .type "tuple", data := .seq vs.toArray } := by
    rw [hs, Heap.get?_update_other _ _ hte]; exact ht
  have fresh : ∀ b, h.get? b = none → (hideAll h ((envOf name scope L a cd :: outer).filterMap (·.frame))).get? b = none := fun b hb => by
    cases q : (hideAll h ((envOf name scope L a cd :: outer).filterMap (·.frame))).get? b with
    | none => rfl
    | some o => have := of_hideAll _ q; rw [hb] at this; cases this
  have he' : s'.heap.get? e = some { cls := .type cls, data := .fields #[.ref t, .none, .ref e1, .none, .bool false, .none] } := by
    rw [hs]; exact Heap.get?_update_self _ he rfl
  refine wpAny_leaving_firstW (a0 := .ref t) K'.stack ((funFrames_hide K'.frames hin).of_keeps fun b o hb _ => ⟨o, keep b o hb, rfl⟩) rfl he' (fun b o hb => keep b o (of_hideAll _ hb)) (fresh e hx.new) rfl rfl rfl fun h' hL => ?_
  obtain ⟨k1, ⟨_, _, k2⟩, k3, k4⟩ := hL
  have k4' : s'.heap.UpToSlots h' := k4
  have R : RaisedS base G outer e (.type cls) t vs news h' := ⟨⟨_, st, sg, (fun q hq => ⟨hideAll_get _ (hN q hq).1 (hN q hq).2.1, (hN q hq).2.2⟩), ⟨k1, fresh e hx.new, k2, k3⟩, fresh t htn⟩, Heap.TupAt.of_slots ⟨_, _, ht', rfl, rfl⟩ k4'⟩
  exact hQ h' t R (hU.trans ((Heap.UpToSlots.of_keeps keep).trans k4'))
end
end
section
open PySem PySem.W PyProof.Rows
local macro_rules | `(tactic| k_room) => `(tactic| ((try simp only [depth_mark, depth_under_make, depth_under_kw, depth_in1, depth_deeper, depth_caller]); (try dsimp only [ktrTop]); omega))
local macro_rules | `(tactic| k_units) => `(tactic| ktr_units)
local macro_rules | `(tactic| walk_at "ite") => `(tactic| (with_reducible first | refine ite_tt ?_ | refine ite_ff ?_))
local macro_rules | `(tactic| walk_at "getMethod str") => `(tactic| (k_here; (with_reducible show wpAny _ _ (getMethod (Value.str _ _) (Str.ofString "encode") _) _ _ _); refine method_encode ?_))
local macro_rules | `(tactic| walk_at "call type:type") => `(tactic| (k_here; (with_reducible show wpAny _ _ (call (Value.type "type") [Value.ref _]) _ _ _); k_dflt (refine' type_got ?tgN ?tgG ?tgB ?_; (case tgG => assumption); (case tgN => assumption); (case tgB => decide); k_whole)))
local macro_rules | `(tactic| walk_at "call builtin:str.encode") => `(tactic| (k_here; (try dsimp only); refine encode_ok (by assumption) (by omega) ?_; intro t'))
local macro_rules | `(tactic| walk_at "call type:type") => `(tactic| (k_here; (with_reducible show wpAny _ _ (call (Value.type "type") [Value.bytes _ _]) _ _ _); (refine call_type_of (Tx := "bytes") rfl (by decide +kernel) ?_)))
local macro_rules | `(tactic| walk_at "call builtin:len") => `(tactic| (k_here; (with_reducible show wpAny _ _ (call (Value.builtin "len") [Value.bytes _ _]) _ _ _); (refine KBw.len_K rfl (by rw [KBw.ints_length]; omega) ?_); rw [KBw.ints_length]))
local macro_rules | `(tactic| walk_at "led") => `(tactic| first | assumption | exact List.Mem.head _ | (refine List.Mem.tail _ ?_; walk_at "led"))
-- F2
section
open PySem PySem.W PyProof.Rows
set_option maxRecDepth 100000
set_option maxHeartbeats 4000000
local macro_rules | `(tactic| walk_at "call builtin:str.encode") => `(tactic| (k_here; (try dsimp only); refine encode_bad (by assumption) (by omega) (by with_unfolding_all rfl) ?_; intro h' e' tk' hN'))
theorem dec_bad {w : World} {x : Str} (hx : x.length ≤ 1048576) (hb : ∃ c ∈ x.cps, 128 ≤ c) (t : Tok) {p : Program} {loose : List Str} {mean : ExcName → Option Value} {mg mb : Str → Option Value}
    {dp un : Nat} {gd : Option (List Code)} {cn : Str} {cs : Scope} {a : Addr} {ccd : Value} {cl : List (Str × Addr)} {outer : List Env} {A₀ : Around} {base h₀ : Heap} {L : Addr} {m : Str → Option Value} {news : List (Addr × Obj)} {s : Shared} {Q E : Value → Shared → Prop}
    (B : Below A₀ base outer h₀) (F : Fr h₀ L s.heap m) (X : (K w.params).In h₀) (N : News h₀ L s.heap news) (T : Top p loose mean mg mb h₀) (XB : (K w.params).In base) (TB : Top p loose mean mg mb base) (hk : cs.kind = .function) (hd : dp + 2 < recursionLimit) (hu : un + 30 < cLine)
    (hE : ∀ e h' tk' g' t' vs, Fr h₀ L g' m → RaisedS base g' (envX cn cs L a ccd cl :: outer) e (.type "ValueError") t' vs news h' → g'.UpToSlots h' → E (.ref e) { s with heap := h', toks := tk' }) :
    wpAny (model PySem.Challenge.rw_pa0016_01.prog w) (ktrTop dp un gd cn cs L a ccd cl outer) (call (.ref 51) [.str x t]) Q E s := by
  revert B F X N T XB TB hk hd hu hE
  k_fill
  intro B F X N T XB TB hk hd hu hE
  have cE₀ := InElt.start s.heap
  refine wpAny_call ?_
  k_dflt (refine' code_defG ?k1 ?k2 ?k3 ?k4 ?k5 ?kA ?kF ?kK ?k6 ?k7 ?k8 ?k9 ?kB ?_ ?c2 ?c3 ?c4 ?c5; (case kA => exact rfl); (case kF => exact rfl); (case kK => assumption); (case k1 => k_asm); (case k2 => k_asm); (case k3 => k_asm); (case k4 => k_asm); (case k5 => k_asm); (case k6 => k_is); (case k7 => k_is); (case k8 => ktr_room); (case k9 => first | exact BindsTo.of_eq rfl | exact binds_K (by k_in) rfl (by k_is) rfl rfl rfl); (case c5 => decide); (case kB => exact locs rfl); (case c2 => exact rfl); (case c3 => exact rfl); (case c4 => exact rfl); k_whole; intro g' L' h' FG' F' N' B' X' T' kG'; (try dsimp only); (try k_lift B'); (try k_fold))
  k_steps
  rename_i h₁ e₁ tk₁ hN₁
  have hsub : isSubtype (.type "UnicodeEncodeError") (.type "UnicodeEncodeError") = pure true := by rw [isSubtype_type]; kernel_rfl
  have hexc : isSubtype (.type "UnicodeEncodeError") (.type "BaseException") = pure true := by rw [isSubtype_type]; kernel_rfl
  have hnt : isSubtype (.type ((Manifest.find? "UnicodeEncodeError").elim "type" fun y => y.metatype)) (.type "tuple") = pure false := by rw [isSubtype_type]; kernel_rfl
  refine caught_here (T' := "UnicodeEncodeError") hN₁ F' B' XB TB (by k_is) (by boot_by_name) (by decide) hexc hnt hsub ?_
  intro h₂ g₂ B₂ t₂ F₂ b₂ X₂ T₂ O₂ k₂ u₂
  have kb : ∀ b o, g'.get? b = some o → h'.get? b = some o ∧ b ≠ L' := fun b o z =>
    ⟨F'.keep b o z, fun y => by rw [y, kts_self F'] at z; cases z⟩
  refine wpAny_execs_cons (raise_text_in PySem.F.excCall_ValueError PySem.F.excRaise_ValueError (e1 := e₁) rfl ?_ ?_ ?_)
  · obtain ⟨oe, vs, _, _, _, ho, _, hdt, _, h2, _⟩ := O₂.2.2.2
    exact ⟨oe, vs, ho, hdt, h2⟩
  · intro Q' q
    exact name_B F₂ X₂ (topRead_of T₂) (by k_is) (by boot_by_name) (by decide) q
  · intro h₃ e₂ tk₂ v₂ N₂
    show wpAny _ _ (leaving _ _) _ _ _
    refine leave_in (G := g') (news := news) b₂ N₂ F₂ ?_ ?_ ?_ rfl ?_
    · intro b o q nm
      obtain ⟨z1, z2⟩ := kb b o q
      refine ⟨O₂.1 b o (k₂ b o z1 fun hm => ?_), z2⟩
      rcases kts_mem hm with z | z
      · exact z2 z
      · exact nm z
    · intro b o q hnf
      exact u₂ b o (kb b o q).1 hnf
    · intro q hq
      obtain ⟨n1, n2, n3⟩ := N' q hq
      have nm : ∀ (nn : Str) (sc : Scope), q.1 ∉ (envOf nn sc L' 51 (Value.ref 50) :: envX cn cs L a ccd cl :: outer).filterMap (·.frame) := fun nn sc hm => by
        rcases kts_mem hm with z | z
        · exact n2 z
        · obtain ⟨o, ho, _⟩ := (B'.frames.mem z).2
          rw [n3] at ho; cases ho
      exact ⟨O₂.1 _ _ (k₂ _ _ n1 (nm _ _)), nm _ _, n3, fresh_of_stays B'.stays n3⟩
    · intro h₄ t₄ R U
      exact hE _ _ _ _ _ _ FG' R U
end
-- F3
section
local macro_rules | `(tactic| walk_at "nothing") => `(tactic| skip)
open PySem PySem.W PyProof.Rows
set_option maxRecDepth 100000
set_option maxHeartbeats 4000000
/-- a call of a def of the text that may catch exceptions: the frames below may have been looked at -/
noncomputable abbrev ConS (w : World) (f : Addr) (vs : List Value) (d u : Nat) (P : Value → Prop) : Prop :=
  ∀ (p : Program) (loose : List Str) (mean : ExcName → Option Value) (mg mb : Str → Option Value)
    (dp un : Nat) (gd : Option (List Code)) (cn : Str) (cs : Scope) (a : Addr) (ccd : Value) (outer : List Env) (A₀ : Around) (base h₀ g₀ : Heap) (L : Addr) (m : Str → Option Value) (news : List (Addr × Obj)) (s : Shared) (Q E : Value → Shared → Prop),
    Below A₀ base outer h₀ → Fr h₀ L s.heap m → (K w.params).In h₀ → News h₀ L s.heap news → Top p loose mean mg mb h₀ → (K w.params).In base → Top p loose mean mg mb base → KtsDicts (outer.filterMap (·.frame)) h₀ → KtsTurn (outer.filterMap (·.frame)) g₀ h₀ → cs.kind = .function →
    dp + d < recursionLimit → un + u < cLine →
    (∀ (v : Value) (h' g' : Heap) (tk' : Nat), P v → KtsTurn (outer.filterMap (·.frame)) g₀ g' → Fr g' L h' m → News g' L h' news → Below A₀ base outer g' → (K w.params).In g' → Top p loose mean mg mb g' → KtsDicts (outer.filterMap (·.frame)) g' → Q v { s with heap := h', toks := tk' }) →
      wpAny (model prog w) (ktrTop dp un gd cn cs L a ccd [] outer) (call (.ref f) vs) Q E s
local macro_rules | `(tactic| walk_at "call ref") => `(tactic| (k_here; (with_reducible show wpAny _ _ (call (Value.ref 51) [Value.str _ _]) _ _ _); k_dflt (refine' dec_bad ?hx ?hb _ ?k1 ?k2 ?k3 ?k4 ?k5 ?XB ?TB ?k6 ?k7 ?k8 ?_; (case hx => omega); (case hb => assumption); (case k1 => k_asm); (case k2 => k_asm); (case k3 => k_asm); (case k4 => k_asm); (case k5 => k_asm); (case XB => assumption); (case TB => assumption); (case k6 => first | rfl | assumption); (case k7 => k_room); (case k8 => k_units); k_whole); intro e' h' tk' g' t' vs' FG' R' U'))
theorem con_readBad (w : World) (x : Str) (hx : x.length ≤ 1000) (hb : ∃ c ∈ x.cps, 128 ≤ c) (t : Tok) : ConS w 213 [.str x t, .bool true] 6 60 (IsStr (Str.ofString "barred")) := by
  unfold ConS prog
  k_fill
  intro p loose mean mg mb dp un gd cn cs a ccd outer A₀ base h₀ g₀ L m news s Q E B F X N T XB TB D T0 hk hd hu hret
  refine wpAny_call ?_
  k_dflt (refine' code_defS ?k1 ?k2 ?k3 ?k4 ?k5 ?XB ?TB ?D ?T0 ?kA ?k6 ?k7 ?k8 ?k9 ?kB ?_ ?cK ?c2 ?c3 ?c4 ?c5; (case kA => exact rfl); (case k2 => k_asm); (case k1 => k_asm); (case XB => assumption); (case TB => assumption); (case D => assumption); (case T0 => assumption); (case k3 => k_asm); (case k4 => k_asm); (case k5 => k_asm); (case k6 => k_is); (case k7 => k_is); (case k8 => ktr_room); (case k9 => first | exact BindsTo.of_eq rfl | exact binds_K (by k_in) rfl (by k_is) rfl rfl rfl); (case kB => exact locs rfl); (case cK => assumption); (case c2 => exact rfl); (case c3 => exact rfl); (case c4 => exact rfl); (case c5 => decide); k_whole; intro g' L' h' FG' F' N' B' X' T' D'; (try dsimp only); (try k_lift B'); (try k_fold))
  k_steps
  all_goals (refine' hret _ _ _ _ ?e1 ?e2 ?e3 ?e4 ?e5 ?e6 ?e7 ?e8; (case e3 => k_asm); (case e2 => first | assumption | exact KtsTurn.refl); (case e4 => first | k_asm | (refine' cb_drop ?cbN ?cbS; (case cbN => assumption); (case cbS => kcj_all))); (case e5 => assumption); (case e6 => assumption); (case e7 => assumption); (case e8 => assumption); (case e1 => exact ⟨_, rfl⟩))
end
-- T6
section
open PySem PySem.W PyProof.Rows PySem.Builtin
set_option maxRecDepth 100000
set_option maxHeartbeats 1000000
/-- the pattern's own program -/
noncomputable def rxCode : Array Nat := #[14, 12, 4, 1, 1, 21, 22, 48, 57, 22, 65, 70, 0, 13, 9, 21, 22, 48, 57, 22, 65, 70, 0, 1]
noncomputable def notHex (c : Nat) : Bool := !((decide (48 ≤ c) && decide (c ≤ 57)) || (decide (65 ≤ c) && decide (c ≤ 70)))
theorem in_set5 (c : Nat) (s : Sre.Seen) : ∃ s', Sre.inSet rxCode c rxCode.size 5 true s = .ok (notHex c, s') := by
  have e1 : ∀ s, Sre.inSet rxCode c rxCode.size 5 true s = Sre.inSet rxCode c 23 6 false (s.add 21) := fun s => by kernel_rfl
  have e2 : ∀ s, Sre.inSet rxCode c 23 6 false s = if (decide (48 ≤ c) && decide (c ≤ 57)) = true then .ok (false, s.add 22) else Sre.inSet rxCode c 22 9 false (s.add 22) := fun s => by kernel_rfl
  have e3 : ∀ s, Sre.inSet rxCode c 22 9 false s = if (decide (65 ≤ c) && decide (c ≤ 70)) = true then .ok (false, s.add 22) else Sre.inSet rxCode c 21 12 false (s.add 22) := fun s => by kernel_rfl
  have e4 : ∀ s, Sre.inSet rxCode c 21 12 false s = .ok (true, s.add 0) := fun s => by kernel_rfl
  rw [e1, e2]
  unfold notHex
  by_cases q1 : (decide (48 ≤ c) && decide (c ≤ 57)) = true
  · rw [if_pos q1, q1]; exact ⟨_, rfl⟩
  · rw [if_neg q1, e3]
    by_cases q2 : (decide (65 ≤ c) && decide (c ≤ 70)) = true
    · rw [if_pos q2, q2, Bool.or_true]; exact ⟨_, rfl⟩
    · rw [if_neg q2, e4, Bool.eq_false_iff.mpr q1, Bool.eq_false_iff.mpr q2]; exact ⟨_, rfl⟩
theorem in_set15 (c : Nat) (s : Sre.Seen) : ∃ s', Sre.inSet rxCode c rxCode.size 15 true s = .ok (notHex c, s') := by
  have e1 : ∀ s, Sre.inSet rxCode c rxCode.size 15 true s = Sre.inSet rxCode c 23 16 false (s.add 21) := fun s => by kernel_rfl
  have e2 : ∀ s, Sre.inSet rxCode c 23 16 false s = if (decide (48 ≤ c) && decide (c ≤ 57)) = true then .ok (false, s.add 22) else Sre.inSet rxCode c 22 19 false (s.add 22) := fun s => by kernel_rfl
  have e3 : ∀ s, Sre.inSet rxCode c 22 19 false s = if (decide (65 ≤ c) && decide (c ≤ 70)) = true then .ok (false, s.add 22) else Sre.inSet rxCode c 21 22 false (s.add 22) := fun s => by kernel_rfl
  have e4 : ∀ s, Sre.inSet rxCode c 21 22 false s = .ok (true, s.add 0) := fun s => by kernel_rfl
  rw [e1, e2]
  unfold notHex
  by_cases q1 : (decide (48 ≤ c) && decide (c ≤ 57)) = true
  · rw [if_pos q1, q1]; exact ⟨_, rfl⟩
  · rw [if_neg q1, e3]
    by_cases q2 : (decide (65 ≤ c) && decide (c ≤ 70)) = true
    · rw [if_pos q2, q2, Bool.or_true]; exact ⟨_, rfl⟩
    · rw [if_neg q2, e4, Bool.eq_false_iff.mpr q1, Bool.eq_false_iff.mpr q2]; exact ⟨_, rfl⟩
end
-- T7
section
open PySem PySem.W PyProof.Rows PySem.Builtin
set_option maxRecDepth 100000
set_option maxHeartbeats 1000000
noncomputable def rxM (text : Array Nat) (lim : Nat) (seen : Sre.Seen) : Sre.M :=
  { code := rxCode, text, lim, start := 0, lastStart := lim, pc := 13, pos := 0, handed := 0, marks := #[], seen }
theorem search_eq (text : Array Nat) (lim : Nat) (h : 1 ≤ lim) : Sre.forSearch rxCode text 0 0 lim false = (rxM text lim (({} : Sre.Seen).add 14)).attemptFrom 0 true := by
  have e : Sre.forSearch rxCode text 0 0 lim false = if (decide (0 > lim) || decide (lim - 0 < 1)) = true then _ else (rxM text lim (({} : Sre.Seen).add 14)).attemptFrom 0 true := rfl
  rw [e, if_neg]
  simp only [Bool.or_eq_true, decide_eq_true_eq]; omega
theorem admitted_none (text : Array Nat) (lim : Nat) (sn : Sre.Seen) : ∀ (fuel s : Nat) (seen : Sre.Seen), (∀ i, s ≤ i → i < lim → notHex (text.getD i 0) = false) → ∃ seen', (rxM text lim sn).admitted fuel s seen = .ok (none, seen')
  | 0, s, seen, _ => ⟨_, rfl⟩
  | fuel + 1, s, seen, h => by
    rw [Sre.M.admitted]
    by_cases hs : s ≥ lim
    · rw [if_pos (show s ≥ (rxM text lim sn).lim from hs)]; exact ⟨_, rfl⟩
    · rw [if_neg (show ¬ s ≥ (rxM text lim sn).lim from hs)]
      obtain ⟨s', e⟩ := in_set5 (text.getD s 0) seen
      have e' : Sre.inSet (rxM text lim sn).code ((rxM text lim sn).text.getD s 0) (rxM text lim sn).code.size 5 true seen = .ok (notHex (text.getD s 0), s') := e
      rw [e', h s (Nat.le_refl _) (by omega)]
      exact admitted_none text lim sn fuel (s + 1) s' fun i a b => h i (by omega) b
theorem admitted_some (text : Array Nat) (lim : Nat) (sn : Sre.Seen) : ∀ (fuel s : Nat) (seen : Sre.Seen), lim < fuel + s → (∃ i, s ≤ i ∧ i < lim ∧ notHex (text.getD i 0) = true) →
    ∃ s' seen', s' < lim ∧ notHex (text.getD s' 0) = true ∧ (rxM text lim sn).admitted fuel s seen = .ok (some s', seen')
  | 0, s, seen, hf, ⟨i, a, b, c⟩ => by omega
  | fuel + 1, s, seen, hf, ⟨i, a, b, c⟩ => by
    rw [Sre.M.admitted]
    rw [if_neg (show ¬ s ≥ (rxM text lim sn).lim from by show ¬ s ≥ lim; omega)]
    obtain ⟨s', e⟩ := in_set5 (text.getD s 0) seen
    have e' : Sre.inSet (rxM text lim sn).code ((rxM text lim sn).text.getD s 0) (rxM text lim sn).code.size 5 true seen = .ok (notHex (text.getD s 0), s') := e
    rw [e']
    cases q : notHex (text.getD s 0) with
    | true => exact ⟨s, s', by omega, q, rfl⟩
    | false =>
      refine admitted_some text lim sn fuel (s + 1) s' (by omega) ⟨i, ?_, b, c⟩
      have : s ≠ i := fun z => by rw [z, c] at q; cases q
      omega
theorem rx_none (text : Array Nat) (lim : Nat) (h : ∀ i, i < lim → notHex (text.getD i 0) = false) : ((Sre.forSearch rxCode text 0 0 lim false).runFor 4).outcome = some .failed := by
  by_cases hl : 1 ≤ lim
  · rw [search_eq text lim hl]
    obtain ⟨s', e⟩ := admitted_none text lim (({} : Sre.Seen).add 14) (lim + 1 - 0) 0 (({} : Sre.Seen).add 14) fun i _ b => h i b
    have e2 : (rxM text lim (({} : Sre.Seen).add 14)).attemptFrom 0 true = ({ rxM text lim (({} : Sre.Seen).add 14) with seen := s' } : Sre.M).say false := by
      unfold Sre.M.attemptFrom
      rw [show (rxM text lim (({} : Sre.Seen).add 14)).hasFirstSet = true from rfl]
      simp only [Bool.not_true, Bool.false_eq_true, if_false]
      rw [show (rxM text lim (({} : Sre.Seen).add 14)).admitted ((rxM text lim (({} : Sre.Seen).add 14)).lim + 1 - 0) 0 (rxM text lim (({} : Sre.Seen).add 14)).seen = .ok (none, s') from e]
    rw [e2]; rfl
  · obtain rfl : lim = 0 := by omega
    rfl
theorem rx_some (text : Array Nat) (lim : Nat) (h : ∃ i, i < lim ∧ notHex (text.getD i 0) = true) : ((Sre.forSearch rxCode text 0 0 lim false).runFor 4).outcome = some .matched := by
  have hl : 1 ≤ lim := by obtain ⟨i, hi, _⟩ := h; omega
  rw [search_eq text lim hl]
  obtain ⟨p, s', hp, hx, e⟩ := admitted_some text lim (({} : Sre.Seen).add 14) (lim + 1 - 0) 0 (({} : Sre.Seen).add 14) (by omega) (let ⟨i, a, b⟩ := h; ⟨i, Nat.zero_le _, a, b⟩)
  have e2 : (rxM text lim (({} : Sre.Seen).add 14)).attemptFrom 0 true = ({ rxM text lim (({} : Sre.Seen).add 14) with mustAdvance := false, seen := s' } : Sre.M).attemptAt p true := by
    unfold Sre.M.attemptFrom
    rw [show (rxM text lim (({} : Sre.Seen).add 14)).hasFirstSet = true from rfl]
    simp only [Bool.not_true, Bool.false_eq_true, if_false]
    rw [show (rxM text lim (({} : Sre.Seen).add 14)).admitted ((rxM text lim (({} : Sre.Seen).add 14)).lim + 1 - 0) 0 (rxM text lim (({} : Sre.Seen).add 14)).seen = .ok (some p, s') from e]
  rw [e2]
  obtain ⟨s2, e3⟩ := in_set15 (text.getD p 0) (s'.add 13)
  have a1 : ({ rxM text lim (({} : Sre.Seen).add 14) with mustAdvance := false, seen := s' } : Sre.M).attemptAt p true =
      ({ rxM text lim s' with start := p, pos := p, handed := p, frames := [{ wait := .nextStart, pc := 13, pos := p, outermost := true }], weight := 1 } : Sre.M) := rfl
  rw [a1]
  have s1 : ({ rxM text lim s' with start := p, pos := p, handed := p, frames := [{ wait := .nextStart, pc := 13, pos := p, outermost := true }], weight := 1 } : Sre.M).step =
      ({ rxM text lim s2 with start := p, pos := p + 1, pc := 23, handed := p, frames := [{ wait := .nextStart, pc := 13, pos := p, outermost := true }], weight := 1 } : Sre.M) := by
    have acc : Sre.accepts rxCode 13 (text.getD p 0) (s'.add 13) = .ok (true, s2) := by rw [← hx]; exact e3
    have st : ({ rxM text lim s' with start := p, pos := p, handed := p, frames := [{ wait := .nextStart, pc := 13, pos := p, outermost := true }], weight := 1 } : Sre.M).step =
        (if p ≥ lim then ({ rxM text lim (s'.add 13) with start := p, pos := p, handed := p, frames := [{ wait := .nextStart, pc := 13, pos := p, outermost := true }], weight := 1 } : Sre.M).say false
         else match Sre.accepts rxCode 13 (text.getD p 0) (s'.add 13) with
          | .error why => ({ rxM text lim (s'.add 13) with start := p, pos := p, handed := p, frames := [{ wait := .nextStart, pc := 13, pos := p, outermost := true }], weight := 1 } : Sre.M).stick why
          | .ok (false, seen) => ({ rxM text lim seen with start := p, pos := p, handed := p, frames := [{ wait := .nextStart, pc := 13, pos := p, outermost := true }], weight := 1 } : Sre.M).say false
          | .ok (true, seen) => ({ rxM text lim seen with start := p, pos := p + 1, pc := 13 + Sre.itemWidth rxCode 13, handed := p, frames := [{ wait := .nextStart, pc := 13, pos := p, outermost := true }], weight := 1 } : Sre.M)) := rfl
    rw [st, if_neg (by omega), acc]
    rfl
  unfold Sre.M.runFor
  rw [s1]
  rfl
end
-- T8
section
open PySem PySem.W PyProof.Rows PySem.Builtin PySem.Builtin.Re
set_option maxRecDepth 100000
set_option maxHeartbeats 1000000
theorem textOf_bytes (b : Array UInt8) (t : Tok) : reTextOf (.bytes b t) = pure (b.map (·.toNat), 1) := by kernel_rfl
theorem noColl_bytes (b : Array UInt8) (t : Tok) : reNoCollectionInside (.bytes b t) 1 = pure () := by kernel_rfl
theorem named_one (v : Value) : reNamed "re.Pattern.search" "search" ["string", "pos", "endpos"] 1 [v] [] = pure [some v, none, none] := by kernel_rfl
section
variable {prog : Program} {w : World} {A : Around} {E : Value → Shared → Prop} {s : Shared}
theorem drive_once {m : Sre.M} {o : Sre.Outcome} (h : (m.runFor 4).outcome = some o) {Q : Sre.M → Shared → Prop} (hq : Q (m.runFor 4) s) : wpAny (model prog w) A (reDrive (2 ^ 64) m) Q E s := by
  show wpAny (model prog w) A (reDrive (18446744073709551615 + 1) m) Q E s
  rw [reDrive]
  rw [show reTurnSteps = 4 from rfl, if_pos (by rw [h]; rfl)]
  exact wpAny_pure hq
theorem rules_loop (p : Nat → Bool) (f : Nat → String) {Q : PUnit → Shared → Prop} (h : Q ⟨⟩ s) : ∀ l : List Nat, wpAny (model prog w) A (forIn l PUnit.unit fun i _ => (if p i = true then (rule (f i) >>= fun _ => pure (ForInStep.yield PUnit.unit)) else pure (ForInStep.yield PUnit.unit) : Sem (ForInStep PUnit))) Q E s
  | [] => by rw [List.forIn_nil]; exact wpAny_pure h
  | i :: r => by
    rw [List.forIn_cons]
    refine wpAny_bind ?_
    cases p i
    · simp only [Bool.false_eq_true, if_false]
      exact wpAny_pure (rules_loop p f h r)
    · simp only [if_true]
      exact wpAny_bind (wpAny_rule (wpAny_pure (rules_loop p f h r)))
theorem run_failed {m : Sre.M} (h : (m.runFor 4).outcome = some .failed) {Q : Option Sre.M → Shared → Prop} (hq : Q none s) : wpAny (model prog w) A (reRunToEnd m) Q E s := by
  unfold reRunToEnd
  refine wpAny_bind (drive_once h ?_)
  refine wpAny_bind (rules_loop (fun i => (m.runFor 4).seen.has i) (fun i => Sre.names.getD i "") ?_ _)
  rw [h]
  exact wpAny_pure hq
theorem run_matched {m : Sre.M} (h : (m.runFor 4).outcome = some .matched) {Q : Option Sre.M → Shared → Prop} (hq : Q (some (m.runFor 4)) s) : wpAny (model prog w) A (reRunToEnd m) Q E s := by
  unfold reRunToEnd
  refine wpAny_bind (drive_once h ?_)
  refine wpAny_bind (rules_loop (fun i => (m.runFor 4).seen.has i) (fun i => Sre.names.getD i "") ?_ _)
  rw [h]
  exact wpAny_pure hq
/-- the two objects of the pattern -/
noncomputable def O43 : Obj := { cls := Value.type "re.Pattern", data := Data.fields #[Value.bytes #[91, 94, 48, 45, 57, 65, 45, 70, 93] 292, Value.int 0 319, Value.int 0 0, Value.none, Value.none, Value.ref 42, Value.int 1 0] }
noncomputable def O42 : Obj := { cls := Value.type "tuple", data := Data.seq #[Value.int 14 0, Value.int 12 0, Value.int 4 0, Value.int 1 0, Value.int 1 0, Value.int 21 0, Value.int 22 0, Value.int 48 0, Value.int 57 0, Value.int 22 0, Value.int 65 0, Value.int 70 0, Value.int 0 0, Value.int 13 0, Value.int 9 0, Value.int 21 0, Value.int 22 0, Value.int 48 0, Value.int 57 0, Value.int 22 0, Value.int 65 0, Value.int 70 0, Value.int 0 0, Value.int 1 0] }
theorem target_hex {b : Array UInt8} {t : Tok} (h43 : s.heap.get? 43 = some O43) (h42 : s.heap.get? 42 = some O42) (hl : b.size < 2 ^ 62) {Q : ReTarget → Shared → Prop}
    (h : Q { pattern := .ref 43, string := .bytes b t, code := rxCode, text := b.map (·.toNat), kind := 1, groups := 0, pos := 0, lim := b.size } s) :
    wpAny (model prog w) A (reTarget "re.Pattern.search" "search" ⟨[.ref 43, .bytes b t], []⟩) Q E s := by
  unfold reTarget
  dsimp only
  refine wpAny_bind (wpAny_of_eq (named_one _) ?_)
  dsimp only
  refine wpAny_bind (wpAny_pure ?_)
  refine wpAny_bind (wpAny_pure ?_)
  refine wpAny_bind (wpAny_fieldsOf h43 rfl ?_)
  refine wpAny_bind (wpAny_of_eq (textOf_bytes b t) ?_)
  dsimp only
  rw [if_neg (by decide), if_neg (by decide)]
  refine wpAny_bind (wpAny_of_eq (noColl_bytes b t) ?_)
  have e1 : reRawItems ((#[Value.bytes #[91, 94, 48, 45, 57, 65, 45, 70, 93] 292, Value.int 0 319, Value.int 0 0, Value.none, Value.none, Value.ref 42, Value.int 1 0] : Array Value).getD 5 Value.none) = (do return ((← seqItems? (.ref 42)).getD #[]).map reRawOf) := rfl
  rw [e1]
  refine wpAny_bind (wpAny_bind ?_)
  show wpAny (model prog w) A (seqItems? (.ref 42)) _ E s
  unfold seqItems?
  refine wpAny_bind (wpAny_load h42 ?_)
  refine wpAny_pure (wpAny_pure (wpAny_pure ?_))
  have e2 : ({ pattern := .ref 43, string := .bytes b t, code := rxCode, text := b.map (·.toNat), kind := 1, groups := 0, pos := 0, lim := b.size } : ReTarget) =
    { pattern := .ref 43, string := .bytes b t, code := rxCode, text := b.map (·.toNat), kind := 1, groups := 0, pos := min (Int.toNat 0) (b.map (·.toNat)).size, lim := min ((2 : Int) ^ 63 - 1).toNat (b.map (·.toNat)).size } := by
    have e3 : b.size = min ((2 : Int) ^ 63 - 1).toNat (b.map (·.toNat)).size := by rw [Array.size_map]; omega
    rw [← e3]
    simp
  rw [e2] at h
  have e4 : Array.map (fun x : Int => x.toNat) (Array.map reRawOf ((some (#[Value.int 14 0, Value.int 12 0, Value.int 4 0, Value.int 1 0, Value.int 1 0, Value.int 21 0, Value.int 22 0, Value.int 48 0, Value.int 57 0, Value.int 22 0, Value.int 65 0, Value.int 70 0, Value.int 0 0, Value.int 13 0, Value.int 9 0, Value.int 21 0, Value.int 22 0, Value.int 48 0, Value.int 57 0, Value.int 22 0, Value.int 65 0, Value.int 70 0, Value.int 0 0, Value.int 1 0] : Array Value)).getD #[])) = rxCode := by kernel_rfl
  rw [e4]
  exact h
/-- search: no sign but the sixteen -/
theorem search_none {b : Array UInt8} {t : Tok} (h43 : s.heap.get? 43 = some O43) (h42 : s.heap.get? 42 = some O42) (hl : b.size < 2 ^ 62) (hb : ∀ i, i < b.size → notHex ((b.map (·.toNat)).getD i 0) = false) {Q : Fin → Shared → Prop}
    (h : Q (.done (.ret .none)) s) : wpAny (model prog w) A (Builtin.«re.Pattern.search» ⟨[.ref 43, .bytes b t], []⟩) Q E s := by
  unfold Builtin.«re.Pattern.search»
  refine wpAny_bind (target_hex h43 h42 hl ?_)
  unfold reAnswer
  refine wpAny_bind (run_failed (rx_none _ _ hb) ?_)
  exact wpAny_pure h
theorem search_some {b : Array UInt8} {t : Tok} (h43 : s.heap.get? 43 = some O43) (h42 : s.heap.get? 42 = some O42) (hl : b.size < 2 ^ 62) (hb : ∃ i, i < b.size ∧ notHex ((b.map (·.toNat)).getD i 0) = true) {Q : Fin → Shared → Prop}
    (h : ∀ h' e vs, s.heap.get? e = none → (∀ c o, s.heap.get? c = some o → h'.get? c = some o) → h'.get? e = some { cls := .type "re.Match", data := .fields vs } → Q (.done (.ret (.ref e))) { s with heap := h' }) :
    wpAny (model prog w) A (Builtin.«re.Pattern.search» ⟨[.ref 43, .bytes b t], []⟩) Q E s := by
  unfold Builtin.«re.Pattern.search»
  refine wpAny_bind (target_hex h43 h42 hl ?_)
  unfold reAnswer
  refine wpAny_bind (run_matched (rx_some _ _ hb) ?_)
  dsimp only
  refine wpAny_bind ?_
  generalize Sre.M.runFor 4 (Sre.forSearch rxCode (Array.map (fun x => x.toNat) b) 0 0 b.size false) = mm
  show wpAny (model prog w) A (newTuple [rawInt mm.start, rawInt mm.handed] >>= fun x => newFields "re.Match" [.bytes b t, .ref 43, rawInt (0 : Nat), rawInt b.size, rawInt mm.lastindex, x]) _ E s
  unfold newTuple
  refine wpAny_bind (wpAny_newObj_type ?_)
  unfold newFields
  refine wpAny_newObj_type ?_
  refine wpAny_pure (h _ _ _ ?_ ?_ (Heap.get?_push_size _ rfl))
  · exact Heap.get?_none_of_le (by simp)
  · intro c o q
    exact Heap.get?_push_of_some _ (Heap.get?_push_of_some _ q)
end
end
-- T9
section
open PySem PySem.W PyProof.Rows PySem.Builtin PySem.Builtin.Re
set_option maxRecDepth 100000
set_option maxHeartbeats 1000000
theorem slot_search : Slot "re.Pattern" "search" "re.Pattern.search" := .of (owner := "re.Pattern") (n := "search") (by rw [typeLookup_type, builtinLookup_eq_fast]; kernel_rfl) (by decide +kernel) (by decide +kernel) (by decide +kernel)
    (by first | exact .inl (by decide +kernel) | exact .inr (by decide +kernel)) (by rw [isSubtype_type]; kernel_rfl)
theorem entry_search : entryFor table "re.Pattern.search" = some Builtin.«re.Pattern.search» := entryFor_of_tree (by kernel_rfl)
theorem args_search (a b : Value) : argsOk "re.Pattern.search" ⟨[a, b], []⟩ := by unfold argsOk; kernel_rfl
theorem type_search : typeOf (.builtin "re.Pattern.search") = pure (.type "method_descriptor") := by kernel_rfl
theorem plain_pattern : PlainAttrs "re.Pattern" := ⟨⟨"object.__getattribute__", by rw [typeLookup_type, builtinLookup_eq_fast]; kernel_rfl, by decide +kernel⟩, by rw [typeLookup_type, builtinLookup_eq_fast]; kernel_rfl⟩
section
variable {prog : Program} {w : World} {A : Around} {E : Value → Shared → Prop} {s : Shared}
theorem method_search {pl : Sem Bool} {Q : Value × List Value → Shared → Prop} (h43 : s.heap.get? 43 = some O43) (h : Q (.builtin "re.Pattern.search", [.ref 43]) s) : wpAny (model prog w) A (getMethod (.ref 43) (Str.ofString "search") pl) Q E s :=
  getMethod_builtin ⟨_, h43, rfl⟩ plain_pattern slot_search type_search (fun b e => by injection e with e; subst e; exact ⟨_, h43, rfl⟩) h
theorem call_search_none {b : Array UInt8} {t : Tok} (h43 : s.heap.get? 43 = some O43) (h42 : s.heap.get? 42 = some O42) (hl : b.size < 2 ^ 62) (hb : ∀ i, i < b.size → notHex ((b.map (·.toNat)).getD i 0) = false) {Q : Value → Shared → Prop}
    (h : Q .none s) : wpAny (model prog w) A (call (.builtin "re.Pattern.search") [.ref 43, .bytes b t]) Q E s :=
  wpAny_call (codeAny_call_builtin slot_search.plain entry_search (slot_search.check _ _ _ _ _ _ _ _ ⟨_, h43, rfl⟩ (args_search _ _) (search_none h43 h42 hl hb h)))
theorem call_search_some {b : Array UInt8} {t : Tok} (h43 : s.heap.get? 43 = some O43) (h42 : s.heap.get? 42 = some O42) (hl : b.size < 2 ^ 62) (hb : ∃ i, i < b.size ∧ notHex ((b.map (·.toNat)).getD i 0) = true) {Q : Value → Shared → Prop}
    (h : ∀ h' e vs, s.heap.get? e = none → (∀ c o, s.heap.get? c = some o → h'.get? c = some o) → h'.get? e = some { cls := .type "re.Match", data := .fields vs } → Q (.ref e) { s with heap := h' }) :
    wpAny (model prog w) A (call (.builtin "re.Pattern.search") [.ref 43, .bytes b t]) Q E s :=
  wpAny_call (codeAny_call_builtin slot_search.plain entry_search (slot_search.check _ _ _ _ _ _ _ _ ⟨_, h43, rfl⟩ (args_search _ _) (search_some h43 h42 hl hb h)))
end
end
-- T10
section
open PySem PySem.W PyProof.Rows PySem.Builtin PySem.Builtin.Re
set_option maxRecDepth 100000
set_option maxHeartbeats 1000000
theorem slot_bupper : Slot "bytes" "upper" "bytes.upper" := .of (owner := "bytes") (n := "upper") (by rw [typeLookup_type, builtinLookup_eq_fast]; kernel_rfl) (by decide +kernel) (by decide +kernel) (by decide +kernel)
    (by first | exact .inl (by decide +kernel) | exact .inr (by decide +kernel)) (by rw [isSubtype_type]; kernel_rfl)
theorem entry_bupper : entryFor table "bytes.upper" = some Builtin.«bytes.upper» := entryFor_of_tree (by kernel_rfl)
theorem args_bupper (a : Value) : argsOk "bytes.upper" ⟨[a], []⟩ := by unfold argsOk; kernel_rfl
theorem type_bupper : typeOf (.builtin "bytes.upper") = pure (.type "method_descriptor") := by show builtinType _ = _; rw [builtinType_eq_fast]; kernel_rfl
theorem plain_bytes : PlainAttrs "bytes" := ⟨⟨"bytes.__getattribute__", by rw [typeLookup_type, builtinLookup_eq_fast]; kernel_rfl, by decide +kernel⟩, by rw [typeLookup_type, builtinLookup_eq_fast]; kernel_rfl⟩
noncomputable def upB (b : Array UInt8) : Array UInt8 := (b.toList.map Bytes.toUpper).toArray
theorem bupper_tree (b : Array UInt8) (t : Tok) : Builtin.«bytes.upper» ⟨[.bytes b t], []⟩ = (do ret (← mkBytes (upB b))) := by kernel_rfl
section
variable {prog : Program} {w : World} {A : Around} {E : Value → Shared → Prop} {s : Shared}
theorem bytes_type (b : Array UInt8) (t : Tok) : s.TypeIs (.bytes b t) "bytes" := rfl
theorem method_bupper {b : Array UInt8} {t : Tok} {pl : Sem Bool} {Q : Value × List Value → Shared → Prop} (h : Q (.builtin "bytes.upper", [.bytes b t]) s) : wpAny (model prog w) A (getMethod (.bytes b t) (Str.ofString "upper") pl) Q E s := by
  with_reducible exact getMethod_builtin (bytes_type _ _) plain_bytes slot_bupper type_bupper (fun b e => nomatch e) h
theorem call_bupper {b : Array UInt8} {t : Tok} (hl : b.size ≤ 1048576) {Q : Value → Shared → Prop} (h : ∀ t', Q (.bytes (upB b) t') { s with toks := s.toks + 1 }) :
    wpAny (model prog w) A (call (.builtin "bytes.upper") [.bytes b t]) Q E s :=
  wpAny_call (codeAny_call_builtin slot_bupper.plain entry_bupper (slot_bupper.check _ _ _ _ _ _ _ _ rfl (args_bupper _) (by
    rw [bupper_tree]
    unfold mkBytes
    rw [if_neg (by simp only [upB, List.size_toArray, List.length_map, Array.length_toList, sizeLine_eq]; omega)]
    exact wpAny_bind (wpAny_bind (wpAny_fresh (wpAny_pure (wpAny_pure (h _))))))))
end
end
-- T11
section
open PySem PySem.W PyProof.Rows PySem.Builtin PySem.Builtin.Re
set_option maxRecDepth 100000
set_option maxHeartbeats 1000000
theorem match_noBool : typeLookup (.type "re.Match") "__bool__" = pure none := by rw [typeLookup_type, builtinLookup_eq_fast]; kernel_rfl
theorem match_noLen : typeLookup (.type "re.Match") "__len__" = pure none := by rw [typeLookup_type, builtinLookup_eq_fast]; kernel_rfl
section
variable {prog : Program} {w : World} {A : Around} {E : Value → Shared → Prop} {s : Shared}
theorem truthy_match {e : Addr} {vs : Array Value} (he : s.heap.get? e = some { cls := .type "re.Match", data := .fields vs }) {Q : Bool → Shared → Prop} (h : Q true s) : wpAny (model prog w) A (truthy (.ref e)) Q E s := by
  unfold truthy
  dsimp only
  refine wpAny_bind (wpAny_callSpecial?_none ⟨_, he, rfl⟩ match_noBool ?_)
  dsimp only
  refine wpAny_bind (wpAny_specialOf ⟨_, he, rfl⟩ match_noLen ?_)
  exact wpAny_pure h
end
end
section
open PySem PySem.W PyProof.Rows
local macro_rules | `(tactic| walk_at "getMethod bytes") => `(tactic| (k_here; (with_reducible show wpAny _ _ (getMethod (Value.bytes _ _) (Str.ofString "upper") _) _ _ _); refine method_bupper ?_))
local macro_rules | `(tactic| walk_at "call builtin:bytes.upper") => `(tactic| (k_here; (try dsimp only); refine call_bupper (by rw [encA_size]; show Str.length _ ≤ _; omega) ?_; intro t'))
local macro_rules | `(tactic| walk_at "truthy ref") => `(tactic| (k_here; (refine truthy_match (by assumption) ?_)))
-- F4
section
open PySem PySem.W PyProof.Rows
set_option maxRecDepth 100000
set_option maxHeartbeats 4000000
theorem fr_grow {h₀ h h' : Heap} {L : Addr} {m : Str → Option Value} (F : Fr h₀ L h m) (k : ∀ b o, h.get? b = some o → h'.get? b = some o) : Fr h₀ L h' m :=
  ⟨let ⟨o, es, ep, ho, r⟩ := F.ns; ⟨o, es, ep, k _ _ ho, r⟩, fun b o q => k b o (F.keep b o q), F.above⟩
theorem news_grow {h₀ h h' : Heap} {L : Addr} {news : List (Addr × Obj)} (N : News h₀ L h news) (k : ∀ b o, h.get? b = some o → h'.get? b = some o) : News h₀ L h' news :=
  fun q hq => ⟨k _ _ (N q hq).1, (N q hq).2⟩
theorem k43 {w : World} {h : Heap} (X : (K w.params).In h) : h.get? 43 = some O43 := X 43 _ rfl
theorem k42 {w : World} {h : Heap} (X : (K w.params).In h) : h.get? 42 = some O42 := X 42 _ rfl
local macro_rules | `(tactic| walk_at "getMethod ref") => `(tactic| (k_here; (with_reducible show wpAny _ _ (getMethod (Value.ref 43) (Str.ofString "search") _) _ _ _); k_dflt (refine' method_search ?h43 ?_; (case h43 => exact Fr.keep (by k_asm) _ _ (k43 (by k_asm))); k_whole)))
local macro_rules | `(tactic| walk_at "call builtin:re.Pattern.search") => `(tactic| (k_here; (try dsimp only); (refine' call_search_some ?h43 ?h42 ?hl ?hb ?_; (case h43 => exact Fr.keep (by k_asm) _ _ (k43 (by k_asm))); (case h42 => exact Fr.keep (by k_asm) _ _ (k42 (by k_asm))); (case hl => assumption); (case hb => assumption)); intro h' e' vs' mN' mK' mE'; (have mF' := fr_grow (by k_asm) mK'); (have mN'' := news_grow (by k_asm) mK')))
theorem con_readOther (w : World) (x : Str) (hx : x.length ≤ 1000) (hb : ∀ c ∈ x.cps, c < 128) (hs : (upB (encA x)).size < 2 ^ 62) (hn : ∃ i, i < (upB (encA x)).size ∧ notHex (((upB (encA x)).map (·.toNat)).getD i 0) = true) (t : Tok) : ConS w 213 [.str x t, .bool true] 6 60 (IsStr (Str.ofString "refused")) := by
  unfold ConS prog
  k_fill
  intro p loose mean mg mb dp un gd cn cs a ccd outer A₀ base h₀ g₀ L m news s Q E B F X N T XB TB D T0 hk hd hu hret
  refine wpAny_call ?_
  k_dflt (refine' code_defS ?k1 ?k2 ?k3 ?k4 ?k5 ?XB ?TB ?D ?T0 ?kA ?k6 ?k7 ?k8 ?k9 ?kB ?_ ?cK ?c2 ?c3 ?c4 ?c5; (case kA => exact rfl); (case k2 => k_asm); (case k1 => k_asm); (case XB => assumption); (case TB => assumption); (case D => assumption); (case T0 => assumption); (case k3 => k_asm); (case k4 => k_asm); (case k5 => k_asm); (case k6 => k_is); (case k7 => k_is); (case k8 => ktr_room); (case k9 => first | exact BindsTo.of_eq rfl | exact binds_K (by k_in) rfl (by k_is) rfl rfl rfl); (case kB => exact locs rfl); (case cK => assumption); (case c2 => exact rfl); (case c3 => exact rfl); (case c4 => exact rfl); (case c5 => decide); k_whole; intro g' L' h' FG' F' N' B' X' T' D'; (try dsimp only); (try k_lift B'); (try k_fold))
  k_steps
  all_goals (refine' hret _ _ _ _ ?e1 ?e2 ?e3 ?e4 ?e5 ?e6 ?e7 ?e8; (case e3 => k_asm); (case e2 => first | assumption | exact KtsTurn.refl); (case e4 => first | k_asm | (refine' cb_drop ?cbN ?cbS; (case cbN => assumption); (case cbS => kcj_all))); (case e5 => assumption); (case e6 => assumption); (case e7 => assumption); (case e8 => assumption); (case e1 => exact ⟨_, rfl⟩))
end
section
open PySem PySem.W PyProof.Rows
local macro_rules | `(tactic| walk_at "getMethod ref") => `(tactic| (k_here; (with_reducible show wpAny _ _ (getMethod (Value.ref 43) (Str.ofString "search") _) _ _ _); k_dflt (refine' method_search ?h43 ?_; (case h43 => exact Fr.keep (by k_asm) _ _ (k43 (by k_asm))); k_whole)))
local macro_rules | `(tactic| walk_at "call builtin:re.Pattern.search") => `(tactic| (k_here; (try dsimp only); (refine' call_search_none ?h43 ?h42 ?hl ?hb ?_; (case h43 => exact Fr.keep (by k_asm) _ _ (k43 (by k_asm))); (case h42 => exact Fr.keep (by k_asm) _ _ (k42 (by k_asm))); (case hl => assumption); (case hb => assumption))))
-- G0
section
open PySem PySem.W PyProof.Rows
set_option maxRecDepth 100000
set_option maxHeartbeats 4000000
noncomputable def Stop (P : Prop) : Prop := P
theorem Stop.of {P : Prop} (h : Stop P) : P := h
section
variable {prog : Program} {w : World} {A : Around} {E : Value → Shared → Prop} {s : Shared} {env : Env} {h₀ : Heap} {L : Addr} {Q : Flow → Shared → Prop}
theorem with_passes {M : Model} {c : Sem Flow} (h1 : PassesOwn M A env E) (h2 : ∀ E', E' = E → PassesOwn M A env E' → wpAny M A c Q E' s) : wpAny M A c Q E s := h2 E rfl h1
theorem truthy_zero {k : Int} {t : Tok} {Q : Bool → Shared → Prop} (h : k = 0) (hq : Q false s) : wpAny (model prog w) A (truthy (.int k t)) Q E s := by
  subst h; exact truthy_int hq
theorem truthy_one {k : Int} {t : Tok} {Q : Bool → Shared → Prop} (h : k ≠ 0) (hq : Q true s) : wpAny (model prog w) A (truthy (.int k t)) Q E s := by
  refine truthy_int ?_; rw [bne_iff_ne.mpr h]; exact hq
/-- the state of a while that turns an int and fills a list of ints -/
structure IB where
  k : Int
  t : Tok
  out : List Int
  ys : List Value
  n : Nat
noncomputable abbrev ibLed (l : Addr) (news : List (Addr × Obj)) (c : IB) : List (Addr × Obj) := (l, W.listOf c.ys.toArray c.n) :: news
noncomputable abbrev ibPs (i : Str) (c : IB) : List (Str × Value) := [(i, .int c.k c.t)]
noncomputable abbrev ibFacts (c : IB) : Prop := IntsAre c.ys c.out
theorem while_ib {test : PySem.Expr} {body : List Stmt} {pos : Pos} {m₀ : Str → Option Value} {news : List (Addr × Obj)} {l : Addr} {n₀ : Nat} {t₀ : Tok} (i : Str) (stored : List Str) (P : Int → List Int → Prop) (μ : Int → Nat)
    (F : Fr h₀ L s.heap m₀) (N : News h₀ L s.heap ((l, W.listOf #[] n₀) :: news)) (hi : m₀ i = some (.int 0 t₀)) (hp : P 0 []) (hE : PassesOwn (model prog w) A env E)
    (turn : ∀ (k : Int) (t : Tok) (out : List Int) (ys : List Value) (n : Nat) (u : Str → Option Value) h tk, IntsAre ys out → P k out → Fr h₀ L h (fun z => if z = i then some (.int k t) else if stored.contains z then u z else m₀ z) → News h₀ L h ((l, W.listOf ys.toArray n) :: news) →
      wpAny (model prog w) A (isTrue test env (eval test env)) (fun b s₂ =>
        if b = true then wpAny (model prog w) A (execs body env) (KswPost h₀ L s (ibLed l news) (ibPs i) ibFacts stored m₀ (fun c => P c.k c.out) (fun c => μ c.k) Q ⟨k, t, out, ys, n⟩) E s₂ else Q .next s₂) E { s with heap := h, toks := tk }) :
    wpAny (model prog w) A (exec (.While test body [] pos) env) Q E s := by
  refine ksw_while (ibLed l news) (ibPs i) ibFacts stored (fun c => P c.k c.out) (fun c => μ c.k) ⟨0, t₀, [], [], n₀⟩ F N .nil ?_ hp ?_ hE
  · intro p hp
    rw [List.mem_singleton.mp hp]; exact hi
  · rintro ⟨k, t, out, ys, n⟩ u h tk hf hp' F' N'
    exact turn k t out ys n u h tk hf hp' F' N'
theorem ib_end {i : Str} {stored : List Str} {P : Int → List Int → Prop} {μ : Int → Nat} {m₀ m' : Str → Option Value} {news : List (Addr × Obj)} {l : Addr} {c : IB} {h' : Heap} {tk : Nat} {k' : Int} {t' : Tok} {out' : List Int} {ys' : List Value} {n' : Nat}
    (F : Fr h₀ L h' m') (N : News h₀ L h' ((l, W.listOf ys'.toArray n') :: news)) (hf : IntsAre ys' out') (hk : m' i = some (.int k' t')) (hr : ∀ z, z ≠ i → stored.contains z = false → m' z = m₀ z) (hp : P k' out') (hm : μ k' < μ c.k) :
    KswEnd h₀ L s (ibLed l news) (ibPs i) ibFacts stored m₀ (fun c => P c.k c.out) (fun c => μ c.k) c { s with heap := h', toks := tk } := by
  refine ksw_end ⟨k', t', out', ys', n'⟩ F N (fun p hp => hp) hf ?_ ?_ hp hm
  · intro p hp
    rw [List.mem_singleton.mp hp]; exact hk
  · intro z hz hs
    exact hr z (hz _ (List.mem_singleton.mpr rfl)) hs
end
end
-- F5
section
open PySem PySem.W PyProof.Rows
set_option maxRecDepth 100000
set_option maxHeartbeats 4000000
local macro_rules | `(tactic| walk_at "truthy int") => `(tactic| (k_here; refine truthy_one (by assumption) ?_))
theorem con_readOdd (w : World) (x : Str) (hx : x.length ≤ 1000) (hb : ∀ c ∈ x.cps, c < 128) (hs : (upB (encA x)).size < 2 ^ 62) (hs' : (upB (encA x)).size ≤ 1000) (hn : ∀ i, i < (upB (encA x)).size → notHex (((upB (encA x)).map (·.toNat)).getD i 0) = false) (ho : ((upB (encA x)).size : Int).fmod 2 ≠ 0) (t : Tok) : ConS w 213 [.str x t, .bool true] 6 60 (IsStr (Str.ofString "refused")) := by
  unfold ConS prog
  k_fill
  intro p loose mean mg mb dp un gd cn cs a ccd outer A₀ base h₀ g₀ L m news s Q E B F X N T XB TB D T0 hk hd hu hret
  refine wpAny_call ?_
  k_dflt (refine' code_defS ?k1 ?k2 ?k3 ?k4 ?k5 ?XB ?TB ?D ?T0 ?kA ?k6 ?k7 ?k8 ?k9 ?kB ?_ ?cK ?c2 ?c3 ?c4 ?c5; (case kA => exact rfl); (case k2 => k_asm); (case k1 => k_asm); (case XB => assumption); (case TB => assumption); (case D => assumption); (case T0 => assumption); (case k3 => k_asm); (case k4 => k_asm); (case k5 => k_asm); (case k6 => k_is); (case k7 => k_is); (case k8 => ktr_room); (case k9 => first | exact BindsTo.of_eq rfl | exact binds_K (by k_in) rfl (by k_is) rfl rfl rfl); (case kB => exact locs rfl); (case cK => assumption); (case c2 => exact rfl); (case c3 => exact rfl); (case c4 => exact rfl); (case c5 => decide); k_whole; intro g' L' h' FG' F' N' B' X' T' D'; (try dsimp only); (try k_lift B'); (try k_fold))
  k_steps
  all_goals (refine' hret _ _ _ _ ?e1 ?e2 ?e3 ?e4 ?e5 ?e6 ?e7 ?e8; (case e3 => k_asm); (case e2 => first | assumption | exact KtsTurn.refl); (case e4 => first | k_asm | (refine' cb_drop ?cbN ?cbS; (case cbN => assumption); (case cbS => kcj_all))); (case e5 => assumption); (case e6 => assumption); (case e7 => assumption); (case e8 => assumption); (case e1 => exact ⟨_, rfl⟩))
end
-- G1
section
open PySem PySem.W PyProof.Rows
set_option maxRecDepth 100000
set_option maxHeartbeats 4000000
/-- as ConP, and objects may have been changed that the call has made -/
noncomputable abbrev ConQ (w : World) (f : Addr) (vs : List Value) (d u : Nat) (P : Value → Prop) : Prop :=
  ∀ (p : Program) (loose : List Str) (mean : ExcName → Option Value) (mg mb : Str → Option Value)
    (dp un : Nat) (gd : Option (List Code)) (cn : Str) (cs : Scope) (a : Addr) (ccd : Value) (cl : List (Str × Addr)) (outer : List Env) (A₀ : Around) (base h₀ : Heap) (L : Addr) (m : Str → Option Value) (news : List (Addr × Obj)) (s : Shared) (Q E : Value → Shared → Prop),
    Below A₀ base outer h₀ → Fr h₀ L s.heap m → (K w.params).In h₀ → News h₀ L s.heap news → Top p loose mean mg mb h₀ → cs.kind = .function →
    dp + d < recursionLimit → un + u < cLine →
    (∀ (v : Value) (h' : Heap) (tk' : Nat), P v → Fr h₀ L h' m → News h₀ L h' news → Q v { s with heap := h', toks := tk' }) →
      wpAny (model prog w) (ktrTop dp un gd cn cs L a ccd cl outer) (call (.ref f) vs) Q E s
theorem ConQ.use {w : World} {f : Addr} {vs : List Value} {d u : Nat} {P : Value → Prop} {p : Program} {loose : List Str} {mean : ExcName → Option Value} {mg mb : Str → Option Value}
    {dp un : Nat} {gd : Option (List Code)} {cn : Str} {cs : Scope} {a : Addr} {ccd : Value} {cl : List (Str × Addr)} {outer : List Env} {A₀ : Around} {base h₀ : Heap} {L : Addr} {m : Str → Option Value} {news : List (Addr × Obj)} {s : Shared} {Q E : Value → Shared → Prop}
    (C : ConQ w f vs d u P) (B : Below A₀ base outer h₀) (F : Fr h₀ L s.heap m) (X : (K w.params).In h₀) (N : News h₀ L s.heap news) (T : Top p loose mean mg mb h₀) (hk : cs.kind = .function) (hd : dp + d < recursionLimit) (hu : un + u < cLine)
    (ret : ∀ (v : Value) (h' : Heap) (tk' : Nat), P v → Fr h₀ L h' m → News h₀ L h' news → Q v { s with heap := h', toks := tk' }) :
    wpAny (model prog w) (ktrTop dp un gd cn cs L a ccd cl outer) (call (.ref f) vs) Q E s := C p loose mean mg mb dp un gd cn cs a ccd cl outer A₀ base h₀ L m news s Q E B F X N T hk hd hu ret
theorem ConQ.useA {w : World} {f : Addr} {vs : List Value} {d u : Nat} {P : Value → Prop} {p : Program} {loose : List Str} {mean : ExcName → Option Value} {mg mb : Str → Option Value}
    {dp un : Nat} {gd : Option (List Code)} {cn : Str} {cs : Scope} {a : Addr} {ccd : Value} {cl : List (Str × Addr)} {outer : List Env} {A₀ : Around} {base h₀ : Heap} {L : Addr} {m : Str → Option Value} {news : List (Addr × Obj)} {s : Shared} {Q E : Value → Shared → Prop}
    (C : ConQ w f vs d u P) 
    (ret : ∀ (v : Value) (h' : Heap) (tk' : Nat), P v → Fr h₀ L h' m → News h₀ L h' news → Q v { s with heap := h', toks := tk' }) (B : Below A₀ base outer h₀ := by k_asm) (F : Fr h₀ L s.heap m := by k_asm) (X : (K w.params).In h₀ := by k_asm) (N : News h₀ L s.heap news := by k_asm) (T : Top p loose mean mg mb h₀ := by k_asm) (hk : cs.kind = .function := by first | rfl | assumption) (hd : dp + d < recursionLimit := by first | k_room | decide) (hu : un + u < cLine := by k_units) :
    wpAny (model prog w) (ktrTop dp un gd cn cs L a ccd cl outer) (call (.ref f) vs) Q E s := C p loose mean mg mb dp un gd cn cs a ccd cl outer A₀ base h₀ L m news s Q E B F X N T hk hd hu ret
theorem retQ {P : Value → Prop} {h₀ h' : Heap} {L : Addr} {m : Str → Option Value} {news : List (Addr × Obj)} {s : Shared} {Q : Value → Shared → Prop} {v : Value} {tk' : Nat}
    (hret : ∀ (v : Value) (h' : Heap) (tk' : Nat), P v → Fr h₀ L h' m → News h₀ L h' news → Q v { s with heap := h', toks := tk' }) (e : P v) (F : Fr h₀ L h' m) (N : News h₀ L h' news) : Q v { s with heap := h', toks := tk' } := hret v h' tk' e F N
noncomputable def hexVal (c : Int) : Int := if 48 ≤ c ∧ c ≤ 57 then c - 48 else if 65 ≤ c ∧ c ≤ 70 then c - 55 else if 97 ≤ c ∧ c ≤ 102 then c - 87 else 16
theorem isIntE {x y : Int} {t : Tok} (e : x = y) : IsInt y (.int x t) := by subst e; exact ⟨t, rfl⟩
theorem con_hexv (w : World) (c : Int) (t : Tok) : ConP w 94 [.int c t] 1 16 (IsInt (hexVal c)) := by
  unfold ConP prog
  k_fill
  intro p loose mean mg mb dp un gd cn cs a ccd cl outer A₀ base h₀ L m news s Q E B F X N T hk hd hu hret
  have cE₀ := InElt.start s.heap
  refine wpAny_call ?_
  k_dflt (refine' code_defG ?k1 ?k2 ?k3 ?k4 ?k5 ?kA ?kF ?kK ?k6 ?k7 ?k8 ?k9 ?kB ?_ ?c2 ?c3 ?c4 ?c5; (case kA => exact rfl); (case kF => exact rfl); (case kK => assumption); (case k1 => k_asm); (case k2 => k_asm); (case k3 => k_asm); (case k4 => k_asm); (case k5 => k_asm); (case k6 => k_is); (case k7 => k_is); (case k8 => ktr_room); (case k9 => first | exact BindsTo.of_eq rfl | exact binds_K (by k_in) rfl (by k_is) rfl rfl rfl); (case c5 => decide); (case kB => exact locs rfl); (case c2 => exact rfl); (case c3 => exact rfl); (case c4 => exact rfl); k_whole; intro g' L' h' FG' F' N' B' X' T' kG'; (try dsimp only); (try k_lift B'); (try k_fold))
  k_steps
  all_goals (refine' retP hret ?e1 ?e2 ?e3 ?e4; (case e2 => k_asm); (case e3 => first | k_asm | (refine' cb_drop ?cbN ?cbS; (case cbN => assumption); (case cbS => kcj_all))); (case e4 => assumption); (case e1 => refine isIntE ?_; unfold hexVal; (repeat' split) <;> omega))
end
-- G2
section
open PySem PySem.W PyProof.Rows
set_option maxRecDepth 100000
set_option maxHeartbeats 4000000
noncomputable def decI : List Int → List Int
  | a :: b :: r => (16 * hexVal a + hexVal b) :: decI r
  | _ => []
noncomputable def a2bMu (b : Array UInt8) (k : Int) : Nat := ((b.size : Int) - k).toNat
noncomputable def A2b (b : Array UInt8) (i : Int) (out : List Int) : Prop := 0 ≤ i ∧ i ≤ (b.size : Int) ∧ i % 2 = 0 ∧ out = decI ((KBw.bInts b).take i.toNat)
theorem A2b.start (b : Array UInt8) : A2b b 0 [] := ⟨by omega, by omega, by decide, by simp [decI]⟩
theorem decI_two : ∀ (l : List Int) (k : Nat), 2 * k + 1 < l.length → decI (l.take (2 * k + 2)) = decI (l.take (2 * k)) ++ [16 * hexVal (l.getD (2 * k) 0) + hexVal (l.getD (2 * k + 1) 0)]
  | [], k, h => by simp at h
  | [a], k, h => by simp at h
  | a :: b :: r, 0, h => by simp [decI]
  | a :: b :: r, k + 1, h => by
    have := decI_two r k (by simp at h; omega)
    have e1 : 2 * (k + 1) + 2 = 2 * k + 2 + 1 + 1 := by omega
    have e2 : 2 * (k + 1) = 2 * k + 1 + 1 := by omega
    rw [e1, e2, List.take_succ_cons, List.take_succ_cons, List.take_succ_cons, List.take_succ_cons, decI, decI, this]
    rw [List.getD_cons_succ, List.getD_cons_succ, List.cons_append, show 2 * k + 1 + 1 + 1 = 2 * k + 1 + 1 + 1 from rfl, List.getD_cons_succ, List.getD_cons_succ]
theorem A2b.step {b : Array UInt8} {i k : Int} {out : List Int} (h : A2b b i out) (hev : b.size % 2 = 0) (hi : i < b.size) (hk : k = i + 2) : A2b b k (out ++ [hexVal ((KBw.bInts b).getD i.toNat 0) * 2 ^ (4 : Int).toNat + hexVal ((KBw.bInts b).getD (i + 1).toNat 0)]) := by
  obtain ⟨h0, h1, h2, rfl⟩ := h
  subst hk
  have l := KBw.ints_length b
  have e : i.toNat = 2 * (i.toNat / 2) := by omega
  refine ⟨by omega, by omega, by omega, ?_⟩
  have q := decI_two (KBw.bInts b) (i.toNat / 2) (by omega)
  rw [← e] at q
  have e2 : (i + 2).toNat = i.toNat + 2 := by omega
  have e3 : (i + 1).toNat = i.toNat + 1 := by omega
  rw [e2, e3, q, Int.mul_comm]; rfl
theorem decI_range : ∀ (l : List Int), (∀ c ∈ l, hexVal c < 16) → ∀ n ∈ decI l, 0 ≤ n ∧ n < 256
  | [], _, n, h => by cases h
  | [a], _, n, h => by cases h
  | a :: b :: r, hx, n, h => by
    have p : ∀ c : Int, 0 ≤ hexVal c := fun c => by unfold hexVal; (repeat' split) <;> omega
    rcases List.mem_cons.mp h with e | h
    · subst e
      have := hx a (by simp); have := hx b (by simp); have := p a; have := p b; omega
    · exact decI_range r (fun c hc => hx c (by simp [hc])) n h
theorem decI_len : ∀ (l : List Int), (decI l).length ≤ l.length
  | [] => by simp [decI]
  | [a] => by simp [decI]
  | a :: b :: r => by have := decI_len r; simp [decI]; omega
theorem A2b.range {b : Array UInt8} {i : Int} {out : List Int} (h : A2b b i out) (hx : ∀ c ∈ KBw.bInts b, hexVal c < 16) : ∀ n ∈ out, 0 ≤ n ∧ n < 256 := by
  obtain ⟨_, _, _, rfl⟩ := h
  exact decI_range _ fun c hc => hx c (List.mem_of_mem_take hc)
theorem A2b.len {b : Array UInt8} {i : Int} {out : List Int} (h : A2b b i out) (hs : b.size ≤ 1000) : out.length ≤ sizeLine := by
  obtain ⟨_, _, _, rfl⟩ := h
  have := decI_len ((KBw.bInts b).take i.toNat)
  have l := KBw.ints_length b
  rw [List.length_take] at this
  rw [sizeLine_eq]; omega
theorem A2b.len2 {b : Array UInt8} {i : Int} {out : List Int} {n : Nat} (h : A2b b i out) (hs : b.size ≤ 1000) (e : n = out.length) : n ≤ 1000 := by
  obtain ⟨_, _, _, rfl⟩ := h
  have := decI_len ((KBw.bInts b).take i.toNat)
  have l := KBw.ints_length b
  rw [List.length_take] at this
  omega
theorem ge_false {prog : Program} {w : World} {A : Around} {E : Value → Shared → Prop} {s : Shared} {x y : Int} {t u : Tok} {Q : Value → Shared → Prop} (h : x < y) (hq : Q (.bool false) s) : wpAny (model prog w) A (compareOp .GtE (.int x t) (.int y u)) Q E s := by
  first
    | refine P.ge_int ?_
    | refine ge_int ?_
  rw [decide_eq_false (by omega)]; exact hq
theorem A2b.done {b : Array UInt8} {i : Int} {out : List Int} (h : A2b b i out) (hi : ¬ i < (b.size : Int)) : out = decI (KBw.bInts b) := by
  obtain ⟨_, h1, _, rfl⟩ := h
  rw [List.take_of_length_le (by rw [KBw.ints_length]; omega)]
theorem hexVal_at {b : Array UInt8} (hx : ∀ c ∈ KBw.bInts b, hexVal c < 16) {i : Int} (h0 : 0 ≤ i) (h1 : i < (b.size : Int)) : 0 ≤ hexVal ((KBw.bInts b).getD i.toNat 0) ∧ hexVal ((KBw.bInts b).getD i.toNat 0) < 16 := by
  have l := KBw.ints_length b
  have e : i.toNat < (KBw.bInts b).length := by omega
  refine ⟨by unfold hexVal; (repeat' split) <;> omega, hx _ ?_⟩
  rw [List.getD_eq_getElem?_getD, List.getElem?_eq_getElem e]
  exact List.getElem_mem e
theorem IntsAre.snoc_of {ys : List Value} {out : List Int} (h : IntsAre ys out) (n : Int) (t : Tok) : IntsAre (ys ++ [.int n t]) (out ++ [n]) := by
  induction h with
  | nil => exact .cons _ _ .nil
  | cons _ _ _ ih => exact .cons _ _ ih
local macro_rules | `(tactic| walk_at "call ref") => `(tactic| (k_here; (with_reducible show wpAny _ _ (call (Value.ref 94) [Value.int _ _]) _ _ _); k_dflt (refine' ConP.useA (con_hexv _ _ _) ?_; k_whole); intro v' h' tk' hv' F' N' E'; obtain ⟨t', hv'⟩ := hv'; subst hv'))
local macro_rules | `(tactic| walk_at "compareOp GtE int int") => `(tactic| (k_here; refine ge_false (hexVal_at (by assumption) (by omega) (by omega)).2 ?_))
local macro_rules | `(tactic| walk_at "truthy int") => `(tactic| (k_here; refine truthy_zero (by assumption) ?_))
local macro_rules | `(tactic| walk_at "exec While Compare") => `(tactic| (k_here; refine Stop.of ?_))
local macro_rules | `(tactic| walk_at "subscriptTail") => `(tactic| (k_here; (with_reducible show wpAny _ _ (subscriptTail _ _ (Value.bytes _ _) (Value.int _ _)) _ _ _); (refine KBw.item_K rfl (by rw [KBw.ints_length]; omega) (by omega) (by rw [KBw.ints_length]; omega) ?_); intro _ _ _ _))
local macro_rules | `(tactic| walk_at "call type:bytes") => `(tactic| (k_here; (with_reducible show wpAny _ _ (call (Value.type "bytes") [Value.ref _]) _ _ _); k_dflt (refine' bytes_K ?F ?N ?l ?i ?r ?z ?h ?_; (case F => k_asm); (case N => k_asm); (case l => is_list); (case i => assumption); (case r => exact A2b.range (by assumption) (by assumption)); (case z => rw [sizeLine_eq]; omega); (case h => with_unfolding_all rfl); k_whole); intro h' t' k' F' N' hB'))
theorem con_a2b (w : World) (b : Array UInt8) (hs : b.size ≤ 1000) (hev : b.size % 2 = 0) (hx : ∀ c ∈ KBw.bInts b, hexVal c < 16) (t : Tok) : ConQ w 101 [.bytes b t] 3 40 (IsBytes (byteArr (decI (KBw.bInts b)))) := by
  unfold ConQ prog
  k_fill
  intro p loose mean mg mb dp un gd cn cs a ccd cl outer A₀ base h₀ L m news s Q E B F X N T hk hd hu hret
  have cE₀ := InElt.start s.heap
  have hev2 : (b.size : Int).fmod 2 = 0 := by rw [Int.fmod_eq_emod_of_nonneg _ (by decide)]; omega
  refine wpAny_call ?_
  k_dflt (refine' code_defG ?k1 ?k2 ?k3 ?k4 ?k5 ?kA ?kF ?kK ?k6 ?k7 ?k8 ?k9 ?kB ?_ ?c2 ?c3 ?c4 ?c5; (case kA => exact rfl); (case kF => exact rfl); (case kK => assumption); (case k1 => k_asm); (case k2 => k_asm); (case k3 => k_asm); (case k4 => k_asm); (case k5 => k_asm); (case k6 => k_is); (case k7 => k_is); (case k8 => ktr_room); (case k9 => first | exact BindsTo.of_eq rfl | exact binds_K (by k_in) rfl (by k_is) rfl rfl rfl); (case c5 => decide); (case kB => exact locs rfl); (case c2 => exact rfl); (case c3 => exact rfl); (case c4 => exact rfl); k_whole; intro g' L' h' FG' F' N' B' X' T' kG'; (try dsimp only); (try k_lift B'); (try k_fold))
  k_steps
  unfold Stop
  rename Fr _ _ _ _ => lF'
  rename News _ _ _ _ => lN'
  with_unfolding_all refine' while_ib (Str.ofString "i") [Str.ofString "top", Str.ofString "bot"] (A2b b) (a2bMu b) lF' lN' ?hi (A2b.start b) ?hE ?_
  case hi => rfl
  case hE => with_unfolding_all passes_own
  clear lF' lN'
  intro k t out ys n u h tk hI hP kF kN
  have hq := And.intro hP.1 (And.intro hP.2.1 hP.2.2.1)
  have hA : k < b.size → _ := fun hk => hexVal_at hx hq.1 hk
  have hB : k < b.size → _ := fun hk => hexVal_at hx (i := k + 1) (by omega) (by omega)
  have hlen := IntsAre.length hI
  have hlb : ys.length ≤ 1000 := A2b.len2 hP hs hlen
  (try k_fold)
  k_steps
  · rename News _ _ _ _ => nE'
    (try simp only [List.push_toArray] at nE')
    refine' ib_end ?f1 nE' ?f3 ?f4 ?f5 ?f6 ?f7
    case f1 => assumption
    case f3 => exact IntsAre.snoc_of (by assumption) _ _
    case f4 => rfl
    case f5 => exact (fun z h1 h2 => by simp only [List.contains_cons, List.contains_nil, Bool.or_false, Bool.or_eq_false_iff, beq_eq_false_iff_ne, ne_eq] at h2; simp [h1, h2.1, h2.2])
    case f6 => exact (A2b.step (by assumption) (by assumption) (by assumption) (by omega))
    case f7 => (unfold a2bMu; dsimp only; omega)
  · refine' retQ hret ?e1 ?e2 ?e3; (case e2 => k_asm); (case e3 => first | k_asm | (refine' cb_drop ?cbN ?cbS; (case cbN => assumption); (case cbS => kcj_all))); (case e1 => (rename A2b _ _ _ => hAA); rw [A2b.done hAA (by assumption)]; exact ⟨_, rfl⟩)
end
-- G3
section
open PySem PySem.W PyProof.Rows
set_option maxRecDepth 100000
set_option maxHeartbeats 4000000
local macro_rules | `(tactic| walk_at "call ref") => `(tactic| (k_here; (with_reducible show wpAny _ _ (call (Value.ref 101) [Value.bytes _ _]) _ _ _); k_dflt (refine' ConQ.useA (con_a2b _ _ (by assumption) (by assumption) (by assumption) _) ?_; k_whole); intro v' h' tk' hv' F' N'; obtain ⟨t', hv'⟩ := hv'; subst hv'))
/-- figures alone, great letters, even in number -/
structure HexB (b : Array UInt8) : Prop where
  size : b.size ≤ 1000
  lid : b.size < 2 ^ 62
  even : b.size % 2 = 0
  none : ∀ i, i < b.size → notHex ((b.map (·.toNat)).getD i 0) = false
  val : ∀ c ∈ KBw.bInts b, hexVal c < 16
theorem con_decT (w : World) (x : Str) (hx : x.length ≤ 1000) (hb : ∀ c ∈ x.cps, c < 128) (hB : HexB (upB (encA x))) (t : Tok) : ConQ w 116 [.str x t, .bool true] 4 50 (IsBytes (byteArr (decI (KBw.bInts (upB (encA x)))))) := by
  obtain ⟨hs, hl, he, hn, hv⟩ := hB
  unfold ConQ prog
  k_fill
  intro p loose mean mg mb dp un gd cn cs a ccd cl outer A₀ base h₀ L m news s Q E B F X N T hk hd hu hret
  have cE₀ := InElt.start s.heap
  refine wpAny_call ?_
  k_dflt (refine' code_defG ?k1 ?k2 ?k3 ?k4 ?k5 ?kA ?kF ?kK ?k6 ?k7 ?k8 ?k9 ?kB ?_ ?c2 ?c3 ?c4 ?c5; (case kA => exact rfl); (case kF => exact rfl); (case kK => assumption); (case k1 => k_asm); (case k2 => k_asm); (case k3 => k_asm); (case k4 => k_asm); (case k5 => k_asm); (case k6 => k_is); (case k7 => k_is); (case k8 => ktr_room); (case k9 => first | exact BindsTo.of_eq rfl | exact binds_K (by k_in) rfl (by k_is) rfl rfl rfl); (case c5 => decide); (case kB => exact locs rfl); (case c2 => exact rfl); (case c3 => exact rfl); (case c4 => exact rfl); k_whole; intro g' L' h' FG' F' N' B' X' T' kG'; (try dsimp only); (try k_lift B'); (try k_fold))
  k_steps
  all_goals (refine' retQ hret ?e1 ?e2 ?e3; (case e2 => k_asm); (case e3 => first | k_asm | (refine' cb_drop ?cbN ?cbS; (case cbN => assumption); (case cbS => kcj_all))); (case e1 => exact ⟨_, rfl⟩))
theorem con_decF (w : World) (x : Str) (hx : x.length ≤ 1000) (hb : ∀ c ∈ x.cps, c < 128) (hB : HexB (encA x)) (t : Tok) : ConQ w 116 [.str x t] 4 50 (IsBytes (byteArr (decI (KBw.bInts (encA x))))) := by
  obtain ⟨hs, hl, he, hn, hv⟩ := hB
  unfold ConQ prog
  k_fill
  intro p loose mean mg mb dp un gd cn cs a ccd cl outer A₀ base h₀ L m news s Q E B F X N T hk hd hu hret
  have cE₀ := InElt.start s.heap
  refine wpAny_call ?_
  k_dflt (refine' code_defG ?k1 ?k2 ?k3 ?k4 ?k5 ?kA ?kF ?kK ?k6 ?k7 ?k8 ?k9 ?kB ?_ ?c2 ?c3 ?c4 ?c5; (case kA => exact rfl); (case kF => exact rfl); (case kK => assumption); (case k1 => k_asm); (case k2 => k_asm); (case k3 => k_asm); (case k4 => k_asm); (case k5 => k_asm); (case k6 => k_is); (case k7 => k_is); (case k8 => ktr_room); (case k9 => first | exact BindsTo.of_eq rfl | exact binds_K (by k_in) rfl (by k_is) rfl rfl rfl); (case c5 => decide); (case kB => exact locs rfl); (case c2 => exact rfl); (case c3 => exact rfl); (case c4 => exact rfl); k_whole; intro g' L' h' FG' F' N' B' X' T' kG'; (try dsimp only); (try k_lift B'); (try k_fold))
  k_steps
  all_goals (refine' retQ hret ?e1 ?e2 ?e3; (case e2 => k_asm); (case e3 => first | k_asm | (refine' cb_drop ?cbN ?cbS; (case cbN => assumption); (case cbS => kcj_all))); (case e1 => exact ⟨_, rfl⟩))
end
-- G4
section
open PySem PySem.W PyProof.Rows
set_option maxRecDepth 100000
set_option maxHeartbeats 4000000
local macro_rules | `(tactic| walk_at "call ref") => `(tactic| (k_here; (with_reducible show wpAny _ _ (call (Value.ref 116) [Value.str _ _, Value.bool true]) _ _ _); k_dflt (refine' ConQ.useA (con_decT _ _ (by assumption) (by assumption) (by assumption) _) ?_; k_whole); intro v' h' tk' hv' F' N'; obtain ⟨t', hv'⟩ := hv'; subst hv'))
local macro_rules | `(tactic| walk_at "call ref") => `(tactic| (k_here; (with_reducible show wpAny _ _ (call (Value.ref 116) [Value.str _ _]) _ _ _); k_dflt (refine' ConQ.useA (con_decF _ _ (by assumption) (by assumption) (by assumption) _) ?_; k_whole); intro v' h' tk' hv' F' N'; obtain ⟨t', hv'⟩ := hv'; subst hv'))
theorem con_readT (w : World) (x : Str) (hx : x.length ≤ 1000) (hb : ∀ c ∈ x.cps, c < 128) (hB : HexB (upB (encA x))) (t : Tok) : ConS w 213 [.str x t, .bool true] 6 60 (IsBytes (byteArr (decI (KBw.bInts (upB (encA x)))))) := by
  unfold ConS prog
  k_fill
  intro p loose mean mg mb dp un gd cn cs a ccd outer A₀ base h₀ g₀ L m news s Q E B F X N T XB TB D T0 hk hd hu hret
  refine wpAny_call ?_
  k_dflt (refine' code_defS ?k1 ?k2 ?k3 ?k4 ?k5 ?XB ?TB ?D ?T0 ?kA ?k6 ?k7 ?k8 ?k9 ?kB ?_ ?cK ?c2 ?c3 ?c4 ?c5; (case kA => exact rfl); (case k2 => k_asm); (case k1 => k_asm); (case XB => assumption); (case TB => assumption); (case D => assumption); (case T0 => assumption); (case k3 => k_asm); (case k4 => k_asm); (case k5 => k_asm); (case k6 => k_is); (case k7 => k_is); (case k8 => ktr_room); (case k9 => first | exact BindsTo.of_eq rfl | exact binds_K (by k_in) rfl (by k_is) rfl rfl rfl); (case kB => exact locs rfl); (case cK => assumption); (case c2 => exact rfl); (case c3 => exact rfl); (case c4 => exact rfl); (case c5 => decide); k_whole; intro g' L' h' FG' F' N' B' X' T' D'; (try dsimp only); (try k_lift B'); (try k_fold))
  k_steps
  all_goals (refine' hret _ _ _ _ ?e1 ?e2 ?e3 ?e4 ?e5 ?e6 ?e7 ?e8; (case e3 => k_asm); (case e2 => first | assumption | exact KtsTurn.refl); (case e4 => first | k_asm | (refine' cb_drop ?cbN ?cbS; (case cbN => assumption); (case cbS => kcj_all))); (case e5 => assumption); (case e6 => assumption); (case e7 => assumption); (case e8 => assumption); (case e1 => exact ⟨_, rfl⟩))
theorem con_readF (w : World) (x : Str) (hx : x.length ≤ 1000) (hb : ∀ c ∈ x.cps, c < 128) (hB : HexB (encA x)) (t : Tok) : ConS w 213 [.str x t, .bool false] 6 60 (IsBytes (byteArr (decI (KBw.bInts (encA x))))) := by
  unfold ConS prog
  k_fill
  intro p loose mean mg mb dp un gd cn cs a ccd outer A₀ base h₀ g₀ L m news s Q E B F X N T XB TB D T0 hk hd hu hret
  refine wpAny_call ?_
  k_dflt (refine' code_defS ?k1 ?k2 ?k3 ?k4 ?k5 ?XB ?TB ?D ?T0 ?kA ?k6 ?k7 ?k8 ?k9 ?kB ?_ ?cK ?c2 ?c3 ?c4 ?c5; (case kA => exact rfl); (case k2 => k_asm); (case k1 => k_asm); (case XB => assumption); (case TB => assumption); (case D => assumption); (case T0 => assumption); (case k3 => k_asm); (case k4 => k_asm); (case k5 => k_asm); (case k6 => k_is); (case k7 => k_is); (case k8 => ktr_room); (case k9 => first | exact BindsTo.of_eq rfl | exact binds_K (by k_in) rfl (by k_is) rfl rfl rfl); (case kB => exact locs rfl); (case cK => assumption); (case c2 => exact rfl); (case c3 => exact rfl); (case c4 => exact rfl); (case c5 => decide); k_whole; intro g' L' h' FG' F' N' B' X' T' D'; (try dsimp only); (try k_lift B'); (try k_fold))
  k_steps
  all_goals (refine' hret _ _ _ _ ?e1 ?e2 ?e3 ?e4 ?e5 ?e6 ?e7 ?e8; (case e3 => k_asm); (case e2 => first | assumption | exact KtsTurn.refl); (case e4 => first | k_asm | (refine' cb_drop ?cbN ?cbS; (case cbN => assumption); (case cbS => kcj_all))); (case e5 => assumption); (case e6 => assumption); (case e7 => assumption); (case e8 => assumption); (case e1 => exact ⟨_, rfl⟩))
end
-- G5
section
open PySem PySem.W PyProof.Rows
set_option maxRecDepth 100000
set_option maxHeartbeats 4000000
section
local macro_rules | `(tactic| walk_at "call ref") => `(tactic| (k_here; (with_reducible show wpAny _ _ (call (Value.ref 51) [Value.str _ _]) _ _ _); k_dflt (refine' dec_bad ?hx ?hb _ ?k1 ?k2 ?k3 ?k4 ?k5 ?XB ?TB ?k6 ?k7 ?k8 ?_; (case hx => omega); (case hb => assumption); (case k1 => k_asm); (case k2 => k_asm); (case k3 => k_asm); (case k4 => k_asm); (case k5 => k_asm); (case XB => assumption); (case TB => assumption); (case k6 => first | rfl | assumption); (case k7 => k_room); (case k8 => k_units); k_whole); intro e' h' tk' g' t' vs' FG' R' U'))
theorem con_readBadF (w : World) (x : Str) (hx : x.length ≤ 1000) (hb : ∃ c ∈ x.cps, 128 ≤ c) (t : Tok) : ConS w 213 [.str x t, .bool false] 6 60 (IsStr (Str.ofString "barred")) := by
  unfold ConS prog
  k_fill
  intro p loose mean mg mb dp un gd cn cs a ccd outer A₀ base h₀ g₀ L m news s Q E B F X N T XB TB D T0 hk hd hu hret
  refine wpAny_call ?_
  k_dflt (refine' code_defS ?k1 ?k2 ?k3 ?k4 ?k5 ?XB ?TB ?D ?T0 ?kA ?k6 ?k7 ?k8 ?k9 ?kB ?_ ?cK ?c2 ?c3 ?c4 ?c5; (case kA => exact rfl); (case k2 => k_asm); (case k1 => k_asm); (case XB => assumption); (case TB => assumption); (case D => assumption); (case T0 => assumption); (case k3 => k_asm); (case k4 => k_asm); (case k5 => k_asm); (case k6 => k_is); (case k7 => k_is); (case k8 => ktr_room); (case k9 => first | exact BindsTo.of_eq rfl | exact binds_K (by k_in) rfl (by k_is) rfl rfl rfl); (case kB => exact locs rfl); (case cK => assumption); (case c2 => exact rfl); (case c3 => exact rfl); (case c4 => exact rfl); (case c5 => decide); k_whole; intro g' L' h' FG' F' N' B' X' T' D'; (try dsimp only); (try k_lift B'); (try k_fold))
  k_steps
  all_goals (refine' hret _ _ _ _ ?e1 ?e2 ?e3 ?e4 ?e5 ?e6 ?e7 ?e8; (case e3 => k_asm); (case e2 => first | assumption | exact KtsTurn.refl); (case e4 => first | k_asm | (refine' cb_drop ?cbN ?cbS; (case cbN => assumption); (case cbS => kcj_all))); (case e5 => assumption); (case e6 => assumption); (case e7 => assumption); (case e8 => assumption); (case e1 => exact ⟨_, rfl⟩))
end
section
local macro_rules | `(tactic| walk_at "nothing") => `(tactic| skip)
local macro_rules | `(tactic| walk_at "call builtin:re.Pattern.search") => `(tactic| (k_here; (try dsimp only); (refine' call_search_some ?h43 ?h42 ?hl ?hb ?_; (case h43 => exact Fr.keep (by k_asm) _ _ (k43 (by k_asm))); (case h42 => exact Fr.keep (by k_asm) _ _ (k42 (by k_asm))); (case hl => assumption); (case hb => assumption)); intro h' e' vs' mN' mK' mE'; (have mF' := fr_grow (by k_asm) mK'); (have mN'' := news_grow (by k_asm) mK')))
theorem con_readOtherF (w : World) (x : Str) (hx : x.length ≤ 1000) (hb : ∀ c ∈ x.cps, c < 128) (hs : (encA x).size < 2 ^ 62) (hn : ∃ i, i < (encA x).size ∧ notHex (((encA x).map (·.toNat)).getD i 0) = true) (t : Tok) : ConS w 213 [.str x t, .bool false] 6 60 (IsStr (Str.ofString "refused")) := by
  unfold ConS prog
  k_fill
  intro p loose mean mg mb dp un gd cn cs a ccd outer A₀ base h₀ g₀ L m news s Q E B F X N T XB TB D T0 hk hd hu hret
  refine wpAny_call ?_
  k_dflt (refine' code_defS ?k1 ?k2 ?k3 ?k4 ?k5 ?XB ?TB ?D ?T0 ?kA ?k6 ?k7 ?k8 ?k9 ?kB ?_ ?cK ?c2 ?c3 ?c4 ?c5; (case kA => exact rfl); (case k2 => k_asm); (case k1 => k_asm); (case XB => assumption); (case TB => assumption); (case D => assumption); (case T0 => assumption); (case k3 => k_asm); (case k4 => k_asm); (case k5 => k_asm); (case k6 => k_is); (case k7 => k_is); (case k8 => ktr_room); (case k9 => first | exact BindsTo.of_eq rfl | exact binds_K (by k_in) rfl (by k_is) rfl rfl rfl); (case kB => exact locs rfl); (case cK => assumption); (case c2 => exact rfl); (case c3 => exact rfl); (case c4 => exact rfl); (case c5 => decide); k_whole; intro g' L' h' FG' F' N' B' X' T' D'; (try dsimp only); (try k_lift B'); (try k_fold))
  k_steps
  all_goals (refine' hret _ _ _ _ ?e1 ?e2 ?e3 ?e4 ?e5 ?e6 ?e7 ?e8; (case e3 => k_asm); (case e2 => first | assumption | exact KtsTurn.refl); (case e4 => first | k_asm | (refine' cb_drop ?cbN ?cbS; (case cbN => assumption); (case cbS => kcj_all))); (case e5 => assumption); (case e6 => assumption); (case e7 => assumption); (case e8 => assumption); (case e1 => exact ⟨_, rfl⟩))
end
section
local macro_rules | `(tactic| walk_at "nothing") => `(tactic| skip)
local macro_rules | `(tactic| walk_at "nothing") => `(tactic| skip)
local macro_rules | `(tactic| walk_at "truthy int") => `(tactic| (k_here; refine truthy_one (by assumption) ?_))
theorem con_readOddF (w : World) (x : Str) (hx : x.length ≤ 1000) (hb : ∀ c ∈ x.cps, c < 128) (hs : (encA x).size < 2 ^ 62) (hs' : (encA x).size ≤ 1000) (hn : ∀ i, i < (encA x).size → notHex (((encA x).map (·.toNat)).getD i 0) = false) (ho : ((encA x).size : Int).fmod 2 ≠ 0) (t : Tok) : ConS w 213 [.str x t, .bool false] 6 60 (IsStr (Str.ofString "refused")) := by
  unfold ConS prog
  k_fill
  intro p loose mean mg mb dp un gd cn cs a ccd outer A₀ base h₀ g₀ L m news s Q E B F X N T XB TB D T0 hk hd hu hret
  refine wpAny_call ?_
  k_dflt (refine' code_defS ?k1 ?k2 ?k3 ?k4 ?k5 ?XB ?TB ?D ?T0 ?kA ?k6 ?k7 ?k8 ?k9 ?kB ?_ ?cK ?c2 ?c3 ?c4 ?c5; (case kA => exact rfl); (case k2 => k_asm); (case k1 => k_asm); (case XB => assumption); (case TB => assumption); (case D => assumption); (case T0 => assumption); (case k3 => k_asm); (case k4 => k_asm); (case k5 => k_asm); (case k6 => k_is); (case k7 => k_is); (case k8 => ktr_room); (case k9 => first | exact BindsTo.of_eq rfl | exact binds_K (by k_in) rfl (by k_is) rfl rfl rfl); (case kB => exact locs rfl); (case cK => assumption); (case c2 => exact rfl); (case c3 => exact rfl); (case c4 => exact rfl); (case c5 => decide); k_whole; intro g' L' h' FG' F' N' B' X' T' D'; (try dsimp only); (try k_lift B'); (try k_fold))
  k_steps
  all_goals (refine' hret _ _ _ _ ?e1 ?e2 ?e3 ?e4 ?e5 ?e6 ?e7 ?e8; (case e3 => k_asm); (case e2 => first | assumption | exact KtsTurn.refl); (case e4 => first | k_asm | (refine' cb_drop ?cbN ?cbS; (case cbN => assumption); (case cbS => kcj_all))); (case e5 => assumption); (case e6 => assumption); (case e7 => assumption); (case e8 => assumption); (case e1 => exact ⟨_, rfl⟩))
end
end
end
-- L4
section
open PySem PySem.W PyProof.Rows
set_option maxRecDepth 100000
noncomputable def TextPack (P : Prop) : Prop := P
section
variable {prog : Program} {w : World} {A : Around} {E : Value → Shared → Prop} {s : Shared} {h₀ : Heap} {L : Addr} {m : Str → Option Value} {env : Env}
/-- a comprehension over the signs of a text; its test and its element may call defs of the text -/
theorem comp_text {elt iter : PySem.Expr} {x : Str} {px : Pos} {ifs : List PySem.Expr} {scope : Scope} {cl : List (Str × Addr)} {pos : Pos} {Q : Value → Shared → Prop} (pz : Str → Bool) (d : Str → PyData) (_F : Fr h₀ L s.heap m)
    (hh : A.handled = none) (hclos : closureFor scope env = pure cl) (hcell : ∀ y ∈ scope.names, y.2 ≠ .cell) (hkind : scope.kind = .function)
    (hnames : ∀ y ∈ scope.names, y.2 = .local → scope.names.lookup y.1 = some .local) (hx : scope.names.lookup x = some .local)
    (h : wpAny (model prog w) A (eval iter env) (fun xv s₁ => ∃ news : List (Addr × Obj), ∃ y t, xv = .str y t ∧ y.length ≤ sizeLine ∧ Fr h₀ L s₁.heap m ∧ News h₀ L s₁.heap news ∧
      (∀ C c u s₂ m₂ E', s₁.heap.objs.size ≤ C → c ∈ y.cps.toList → s₂.heap.Ns (compEnvC scope cl C env).locals m₂ → m₂ x = some (.str ⟨#[c]⟩ u) → (∀ b o, s₁.heap.get? b = some o → s₂.heap.get? b = some o) →
        wpAny (model prog w) A (forIn ifs true fun c r => if r = true then do let ok ← isTrue c (compEnvC scope cl C env) (eval c (compEnvC scope cl C env)); pure (ForInStep.yield ok) else pure (ForInStep.yield r))
          (fun ok s₃ => ok = pz ⟨#[c]⟩ ∧ Keeps s₂ s₃) E' s₂) ∧
      (∀ C c u s₂ m₂ E', s₁.heap.objs.size ≤ C → c ∈ y.cps.toList → pz ⟨#[c]⟩ = true → s₂.heap.Ns (compEnvC scope cl C env).locals m₂ → m₂ x = some (.str ⟨#[c]⟩ u) → (∀ b o, s₁.heap.get? b = some o → s₂.heap.get? b = some o) →
        wpAny (model prog w) A (eval elt (compEnvC scope cl C env)) (fun r s₃ => Carried r (d ⟨#[c]⟩) ∧ Keeps s₂ s₃) E' s₂) ∧
      (∀ D (ys : List Value) h' tk, Fr h₀ L h' m → News h₀ L h' news → (∀ b o, s₁.heap.get? b = some o → h'.get? b = some o) → h₀.get? D = none → h'.IsList D ys.toArray → NewPlain h' news D ys.toArray → CarriedAll ys (((signs y).filter pz).map d) → Q (.ref D) { s₁ with heap := h', toks := tk })) E s)
    (hs : ∀ x, foldedSetIterable iter env x = pure x) :
    wpAny (model prog w) A (eval (.ListComp elt [⟨.Name x px, iter, ifs, 0⟩] scope pos) env) Q E s := by
  refine wpAny_ListComp_free (ItemKind.str.lift pz) (fun v r => ∃ a, ItemKind.str.is a v ∧ Carried r (d a)) hclos hcell hkind hnames hx (wpAny_mono h (fun xv s₁ h₁ => ?_) fun _ _ e => e) hs
  obtain ⟨news, y, t, rfl, hsz, F, N, htests, helt, hQ⟩ := h₁
  refine wpAny_pyIter_str fun o St W hst => ?_
  have up : ∀ (h' : Heap), (∀ b o', b ∉ [s₁.heap.objs.size] → (s₁.heap.push o).get? b = some o' → h'.get? b = some o') → ∀ b o', s₁.heap.get? b = some o' → h'.get? b = some o' :=
    fun h' hk b o' e => hk b o' (old_not_new e) (Heap.get?_push_of_some _ e)
  have low : ∀ {C : Addr}, (s₁.heap.push o).objs.size ≤ C → s₁.heap.objs.size ≤ C := fun hC => Nat.le_of_succ_le (by rw [Heap.size_push] at hC; exact hC)
  refine ⟨s₁.heap.objs.size, [s₁.heap.objs.size], [s₁.heap.objs.size], y.cps.size, SignAt y, St, rfl, W A hh, hsz, hst, ?_, ⟨?_, ?_⟩, ?_⟩
  · intro b hb
    show b < (s₁.heap.push o).objs.size
    rw [Heap.size_push, List.mem_singleton.mp hb]
    exact Nat.lt_succ_self _
  · intro C i v s₃ m₃ E' hC hP hn hm hk _
    obtain ⟨c, u, hc, rfl⟩ := hP
    have ha : ItemKind.str.is ⟨#[c]⟩ (.str ⟨#[c]⟩ u) := ⟨u, rfl⟩
    rw [ItemKind.lift_is ha]
    exact htests C c u s₃ m₃ E' (low hC) (Array.mem_toList_iff.mpr (Array.mem_of_getElem? hc)) hn hm (up _ hk)
  · intro C i v s₃ m₃ E' hC hP hp hn hm hk _
    obtain ⟨c, u, hc, rfl⟩ := hP
    have ha : ItemKind.str.is ⟨#[c]⟩ (.str ⟨#[c]⟩ u) := ⟨u, rfl⟩
    rw [ItemKind.lift_is ha] at hp
    exact wpAny_mono (helt C c u s₃ m₃ E' (low hC) (Array.mem_toList_iff.mpr (Array.mem_of_getElem? hc)) hp hn hm (up _ hk)) (fun r s₄ h₄ => ⟨⟨_, ha, h₄.1⟩, h₄.2⟩) fun _ _ e => e
  · intro D h' tk ys vs hnew hlD hplD hlen hP hF hk
    refine hQ D ys.toList h' tk (F.keeps (up h' hk)) (N.grown (up h' hk)) (up h' hk) ?_ (by rw [Array.toArray_toList]; exact hlD) ⟨by rw [Array.toArray_toList]; exact hplD, fun p hp e => by rw [← e, Heap.get?_push_of_some _ (N p hp).1] at hnew; cases hnew⟩ ((areOf_signs hlen hP).paired pz d _ hF)
    cases e : h₀.get? D with
    | none => rfl
    | some o' => rw [Heap.get?_push_of_some _ (F.keep _ _ e)] at hnew; cases hnew
theorem textPack {M : Model} {t : Sem Value} {Q : Value → Shared → Prop} (h : wpAny M A t (fun a s' => TextPack (Q a s')) E s) : wpAny M A t Q E s := h
theorem TextPack.intro {P : Prop} (h : P) : TextPack P := h
end
theorem join_comp {prog : Program} {w : World} {A : Around} {E : Value → Shared → Prop} {s : Shared} {x : Str} {t : Tok} {Q : Value → Shared → Prop} {D : Addr} {ys : List Value} {l : List Str} {g : Str → Str}
    (hl : s.heap.IsList D ys.toArray) (hc : CarriedAll ys (l.map fun k => PyData.str (g k))) (hB : ∀ k, (g k).length ≤ 4) (hn : l.length ≤ 1048576) (hs : x.length ≤ 12)
    (h : ∀ t' k, Q (.str (Txt.join x (l.map g)) t') { s with toks := k }) : wpAny (model prog w) A (call (.builtin "str.join") [.str x t, .ref D]) Q E s :=
  join_madeW 4 hl (by rw [List.map_map]; exact hc) (fun a _ => hB a) hn (by omega) h
theorem carried_str (x : Str) (t : Tok) : Carried (.str x t) (.str x) := .str x t
theorem keeps_elt {s : Shared} {h' : Heap} {tk : Nat} (e : InElt s.heap h') : Keeps s { s with heap := h', toks := tk } := ⟨h', tk, rfl, e⟩
theorem signs_filter_len (y : Str) (p : Str → Bool) (h : y.length ≤ 1048576) : ((signs y).filter p).length ≤ 1048576 := by
  have := List.length_filter_le p (signs y)
  rw [signs_length] at this
  exact Nat.le_trans this h
end
-- U1
section
open PySem PySem.W PyProof.Rows
set_option maxRecDepth 100000
section
variable {prog : Program} {w : World} {A : Around} {E : Value → Shared → Prop} {s : Shared} {h₀ : Heap} {L : Addr} {m : Str → Option Value} {env : Env}
theorem frComp {h₁ h₂ : Heap} {C : Addr} {m₂ : Str → Option Value} {scope : Scope} {cl : List (Str × Addr)} (hn : h₂.Ns (compEnvC scope cl C env).locals m₂) (hk : ∀ b o, h₁.get? b = some o → h₂.get? b = some o) (hC : h₁.objs.size ≤ C) : Fr h₁ C h₂ m₂ := ⟨hn, hk, hC⟩
/-- what a value yields, one after the other, when it is gone through -/
noncomputable def Src {α : Type} (prog : Program) (w : World) (A : Around) (K : ItemKind α) (as : List α) (xv : Value) (s₁ : Shared) : Prop :=
  ∀ (Q : Value → Shared → Prop) (E : Value → Shared → Prop),
    (∀ I fp P St o, Walks prog w A I fp [s₁.heap.objs.size] as.length P St → St 0 (s₁.heap.push o) → (∀ b ∈ fp, b < (s₁.heap.push o).objs.size) → (∀ i v, P i v → ∃ a, as[i]? = some a ∧ K.is a v) → Q (.ref I) { s₁ with heap := s₁.heap.push o }) →
      wpAny (model prog w) A (pyIter xv) Q E s₁
theorem src_text {y : Str} {t : Tok} (hh : A.handled = none) : Src prog w A .str (signs y) (.str y t) s := by
  intro Q E h
  refine wpAny_pyIter_str fun o St W hst => ?_
  have e : y.cps.size = (signs y).length := (signs_length y).symm
  have W' := W A hh
  rw [e] at W'
  refine h _ _ _ _ o W' hst ?_ ?_
  · intro b hb
    rw [Heap.size_push, List.mem_singleton.mp hb]; exact Nat.lt_succ_self _
  · rintro i v ⟨c, u, hc, rfl⟩
    refine ⟨⟨#[c]⟩, ?_, ⟨u, rfl⟩⟩
    simp [signs, hc]
theorem src_list {α : Type} {K : ItemKind α} {l : Addr} {vs : List Value} {as : List α} (hh : A.handled = none) (hl : s.heap.IsList l vs.toArray) (hi : AreOf K vs as) : Src prog w A K as (.ref l) s := by
  intro Q E h
  obtain ⟨ol, hol, _⟩ := id hl
  have hlt : l < s.heap.objs.size := Heap.lt_size hol
  refine wpAny_pyIter_list hl ?_
  have W := Walks.list (prog := prog) (w := w) hh s.heap.objs.size l (Nat.ne_of_lt hlt) vs.toArray
  have e : vs.toArray.size = as.length := by rw [List.size_toArray, hi.length]
  rw [e] at W
  refine h _ _ _ _ _ W ⟨⟨_, Heap.get?_push_size _ rfl, rfl, rfl⟩, hl.at fun o e => Heap.get?_push_of_some _ e⟩ ?_ ?_
  · intro b hb
    rw [Heap.size_push]
    rcases List.mem_cons.mp hb with rfl | hb
    · exact Nat.lt_succ_self _
    · rw [List.mem_singleton.mp hb]; exact Nat.lt_succ_of_lt hlt
  · intro i v hv
    have hv' : vs[i]? = some v := by simpa using hv
    have key : ∀ {vs : List Value} {as : List α}, AreOf K vs as → ∀ (i : Nat) (v : Value), vs[i]? = some v → ∃ a, as[i]? = some a ∧ K.is a v := by
      intro vs as hr
      induction hr with
      | nil => intro i v e; cases e
      | cons h1 _ ih =>
        intro i v e
        cases i with
        | zero => cases e; exact ⟨_, rfl, h1⟩
        | succ i => exact ih i v e
    exact key hi i v hv'
theorem src_range {r : Addr} {a b c : Int} {t u v : Tok} {n : Nat} (hh : A.handled = none) (hr : IsRange s.heap r a b c t u v) (hs : Builtin.Range.small a b c = true) (hn : Builtin.Range.rangeSize a b c = (n : Int)) :
    Src prog w A .int (rangeInts a c n) (.ref r) s := by
  intro Q E h
  refine wpAny_pyIter_range hr hs ?_
  have W := (Walks.range (prog := prog) (w := w) hh s.heap.objs.size a c n).bound
  have e : n = (rangeInts a c n).length := (rangeInts_length a c n).symm
  rw [hn]
  refine h _ _ _ _ _ (e ▸ W) ?_ ?_ ?_
  · have q := Heap.get?_push_size s.heap (o := { cls := .type "range_iterator", data := .fields #[rawInt a, rawInt n, rawInt c] }) rfl
    simpa [rangeInts_length] using q
  · intro b hb
    rw [Heap.size_push, List.mem_singleton.mp hb]; exact Nat.lt_succ_self _
  · rintro i v ⟨hi, t, rfl⟩
    exact ⟨a + (i : Int) * c, rangeInts_get (by rw [rangeInts_length] at hi; exact hi), ⟨t, rfl⟩⟩
/-- what a comprehension makes, on the ledger -/
theorem comp_kind {α : Type} {K : ItemKind α} {elt iter : PySem.Expr} {x : Str} {px : Pos} {ifs : List PySem.Expr} {scope : Scope} {cl : List (Str × Addr)} {pos : Pos} {Q : Value → Shared → Prop} (pz : α → Bool) (d : α → PyData) (_F : Fr h₀ L s.heap m)
    (hclos : closureFor scope env = pure cl) (hcell : ∀ y ∈ scope.names, y.2 ≠ .cell) (hkind : scope.kind = .function)
    (hnames : ∀ y ∈ scope.names, y.2 = .local → scope.names.lookup y.1 = some .local) (hx : scope.names.lookup x = some .local)
    (h : wpAny (model prog w) A (eval iter env) (fun xv s₁ => ∃ news : List (Addr × Obj), ∃ as : List α, Src prog w A K as xv s₁ ∧ as.length ≤ sizeLine ∧ Fr h₀ L s₁.heap m ∧ News h₀ L s₁.heap news ∧
      (∀ C a v s₂ m₂ E', s₁.heap.objs.size ≤ C → a ∈ as → K.is a v → s₂.heap.Ns (compEnvC scope cl C env).locals m₂ → m₂ x = some v → (∀ b o, s₁.heap.get? b = some o → s₂.heap.get? b = some o) →
        wpAny (model prog w) A (forIn ifs true fun c r => if r = true then do let ok ← isTrue c (compEnvC scope cl C env) (eval c (compEnvC scope cl C env)); pure (ForInStep.yield ok) else pure (ForInStep.yield r))
          (fun ok s₃ => ok = pz a ∧ Keeps s₂ s₃) E' s₂) ∧
      (∀ C a v s₂ m₂ E', s₁.heap.objs.size ≤ C → a ∈ as → pz a = true → K.is a v → s₂.heap.Ns (compEnvC scope cl C env).locals m₂ → m₂ x = some v → (∀ b o, s₁.heap.get? b = some o → s₂.heap.get? b = some o) →
        wpAny (model prog w) A (eval elt (compEnvC scope cl C env)) (fun r s₃ => Carried r (d a) ∧ Keeps s₂ s₃) E' s₂) ∧
      (∀ D (ys : List Value) n h' tk, Fr h₀ L h' m → News h₀ L h' ((D, W.listOf ys.toArray n) :: news) → (∀ b o, s₁.heap.get? b = some o → h'.get? b = some o) → (∀ p ∈ news, p.1 ≠ D) → CarriedAll ys ((as.filter pz).map d) → Q (.ref D) { s₁ with heap := h', toks := tk })) E s)
    (hs : ∀ x, foldedSetIterable iter env x = pure x) :
    wpAny (model prog w) A (eval (.ListComp elt [⟨.Name x px, iter, ifs, 0⟩] scope pos) env) Q E s := by
  refine wpAny_ListComp_free (K.lift pz) (fun v r => ∃ a, K.is a v ∧ Carried r (d a)) hclos hcell hkind hnames hx (wpAny_mono h (fun xv s₁ h₁ => ?_) fun _ _ e => e) hs
  obtain ⟨news, as, S, hsz, F, N, htests, helt, hQ⟩ := h₁
  refine S _ _ fun I fp P St o W hst hfp hP => ?_
  have up : ∀ (h' : Heap), (∀ b o', b ∉ [s₁.heap.objs.size] → (s₁.heap.push o).get? b = some o' → h'.get? b = some o') → ∀ b o', s₁.heap.get? b = some o' → h'.get? b = some o' :=
    fun h' hk b o' e => hk b o' (old_not_new e) (Heap.get?_push_of_some _ e)
  have low : ∀ {C : Addr}, (s₁.heap.push o).objs.size ≤ C → s₁.heap.objs.size ≤ C := fun hC => Nat.le_of_succ_le (by rw [Heap.size_push] at hC; exact hC)
  refine ⟨I, fp, [s₁.heap.objs.size], as.length, P, St, rfl, W, hsz, hst, hfp, ⟨?_, ?_⟩, ?_⟩
  · intro C i v s₃ m₃ E' hC hPv hn hm hk _
    obtain ⟨a, ha, hv⟩ := hP i v hPv
    rw [ItemKind.lift_is hv]
    exact htests C a v s₃ m₃ E' (low hC) (List.mem_of_getElem? ha) hv hn hm (up _ hk)
  · intro C i v s₃ m₃ E' hC hPv hp hn hm hk _
    obtain ⟨a, ha, hv⟩ := hP i v hPv
    rw [ItemKind.lift_is hv] at hp
    exact wpAny_mono (helt C a v s₃ m₃ E' (low hC) (List.mem_of_getElem? ha) hp hv hn hm (up _ hk)) (fun r s₄ h₄ => ⟨⟨a, hv, h₄.1⟩, h₄.2⟩) fun _ _ e => e
  · intro D h' tk ys vs hnew hlD hplD hlen hPs hF hk
    have hD : h₀.get? D = none := by
      cases e : h₀.get? D with
      | none => rfl
      | some o' => rw [Heap.get?_push_of_some _ (F.keep _ _ e)] at hnew; cases hnew
    have P' : NewPlain h' news D ys := ⟨hplD, fun p hp e => by rw [← e, Heap.get?_push_of_some _ (N p hp).1] at hnew; cases hnew⟩
    obtain ⟨n, N', _⟩ := gn_enter P' (F.keeps (up h' hk)) (N.grown (up h' hk)) hD
    refine hQ D ys.toList n h' tk (F.keeps (up h' hk)) (by rw [Array.toArray_toList]; exact N') (up h' hk) P'.2 ?_
    have hA : AreOf K vs as := by
      have key : ∀ {vs : List Value} {as : List α}, vs.length = as.length → (∀ (j : Nat) (v : Value), vs[j]? = some v → ∃ a, as[j]? = some a ∧ K.is a v) → AreOf K vs as := by
        intro vs
        induction vs with
        | nil => intro as e _; cases as with
          | nil => exact .nil
          | cons _ _ => cases e
        | cons v r ih =>
          intro as e hp
          cases as with
          | nil => cases e
          | cons a as =>
            obtain ⟨a', e1, e2⟩ := hp 0 v rfl
            cases e1
            exact .cons e2 (ih (by simpa using e) fun j v hj => hp (j + 1) v hj)
      exact key hlen fun j v hj => hP j v (hPs j v hj)
    exact hA.paired pz d _ hF
theorem comp_kindA {α : Type} {K : ItemKind α} {elt iter : PySem.Expr} {x : Str} {px : Pos} {ifs : List PySem.Expr} {scope : Scope} {cl : List (Str × Addr)} {pos : Pos} {Q : Value → Shared → Prop} (pz : α → Bool) (d : α → PyData)
    (h : wpAny (model prog w) A (eval iter env) (fun xv s₁ => ∃ news : List (Addr × Obj), ∃ as : List α, Src prog w A K as xv s₁ ∧ as.length ≤ sizeLine ∧ Fr h₀ L s₁.heap m ∧ News h₀ L s₁.heap news ∧
      (∀ C a v s₂ m₂ E', s₁.heap.objs.size ≤ C → a ∈ as → K.is a v → s₂.heap.Ns (compEnvC scope cl C env).locals m₂ → m₂ x = some v → (∀ b o, s₁.heap.get? b = some o → s₂.heap.get? b = some o) →
        wpAny (model prog w) A (forIn ifs true fun c r => if r = true then do let ok ← isTrue c (compEnvC scope cl C env) (eval c (compEnvC scope cl C env)); pure (ForInStep.yield ok) else pure (ForInStep.yield r))
          (fun ok s₃ => ok = pz a ∧ Keeps s₂ s₃) E' s₂) ∧
      (∀ C a v s₂ m₂ E', s₁.heap.objs.size ≤ C → a ∈ as → pz a = true → K.is a v → s₂.heap.Ns (compEnvC scope cl C env).locals m₂ → m₂ x = some v → (∀ b o, s₁.heap.get? b = some o → s₂.heap.get? b = some o) →
        wpAny (model prog w) A (eval elt (compEnvC scope cl C env)) (fun r s₃ => Carried r (d a) ∧ Keeps s₂ s₃) E' s₂) ∧
      (∀ D (ys : List Value) n h' tk, Fr h₀ L h' m → News h₀ L h' ((D, W.listOf ys.toArray n) :: news) → (∀ b o, s₁.heap.get? b = some o → h'.get? b = some o) → (∀ p ∈ news, p.1 ≠ D) → CarriedAll ys ((as.filter pz).map d) → Q (.ref D) { s₁ with heap := h', toks := tk })) E s)
    (F : Fr h₀ L s.heap m := by k_asm) (hclos : closureFor scope env = pure cl := by with_unfolding_all rfl) (hcell : ∀ y ∈ scope.names, y.2 ≠ .cell := by decide) (hkind : scope.kind = .function := by with_unfolding_all rfl)
    (hnames : ∀ y ∈ scope.names, y.2 = .local → scope.names.lookup y.1 = some .local := by decide) (hx : scope.names.lookup x = some .local := by with_unfolding_all rfl)
    (hs : ∀ x, foldedSetIterable iter env x = pure x := by intro _; with_unfolding_all rfl) :
    wpAny (model prog w) A (eval (.ListComp elt [⟨.Name x px, iter, ifs, 0⟩] scope pos) env) Q E s := comp_kind pz d F hclos hcell hkind hnames hx h hs
theorem assign_comp {α : Type} {K : ItemKind α} {name : Str} {fscope : Scope} {fa : Addr} {cd : Value} {elt iter : PySem.Expr} {x y : Str} {px py : Pos} {ifs : List PySem.Expr} {scope : Scope} {cl : List (Str × Addr)} {pos spos : Pos} {Q : Flow → Shared → Prop} (pz : α → Bool) (d : α → PyData) (_F : Fr h₀ L s.heap m)
    (hsw : swapsWith (.ListComp elt [⟨.Name x px, iter, ifs, 0⟩] scope pos) (some (.Name y py)) spos.line (envOf name fscope L fa cd) = pure true)
    (hclos : closureFor scope (envOf name fscope L fa cd) = pure cl) (hcell : ∀ y ∈ scope.names, y.2 ≠ .cell) (hkind : scope.kind = .function)
    (hnames : ∀ y ∈ scope.names, y.2 = .local → scope.names.lookup y.1 = some .local) (hx : scope.names.lookup x = some .local)
    (hy : (envOf name fscope L fa cd).kindOf y = some .local) (hp : ((envOf name fscope L fa cd).scope.kind == .class || ((envOf name fscope L fa cd).scope.kind == .module && (envOf name fscope L fa cd).locals != (envOf name fscope L fa cd).globals)) = false)
    (h : wpAny (model prog w) A (eval iter (envOf name fscope L fa cd)) (fun xv s₁ => ∃ news : List (Addr × Obj), ∃ as : List α, Src prog w A K as xv s₁ ∧ as.length ≤ sizeLine ∧ Fr h₀ L s₁.heap m ∧ News h₀ L s₁.heap news ∧
      (∀ C a v s₂ m₂ E', s₁.heap.objs.size ≤ C → a ∈ as → K.is a v → s₂.heap.Ns (compEnvC scope cl C (envOf name fscope L fa cd)).locals m₂ → m₂ x = some v → (∀ b o, s₁.heap.get? b = some o → s₂.heap.get? b = some o) →
        wpAny (model prog w) A (forIn ifs true fun c r => if r = true then do let ok ← isTrue c (compEnvC scope cl C (envOf name fscope L fa cd)) (eval c (compEnvC scope cl C (envOf name fscope L fa cd))); pure (ForInStep.yield ok) else pure (ForInStep.yield r))
          (fun ok s₃ => ok = pz a ∧ Keeps s₂ s₃) E' s₂) ∧
      (∀ C a v s₂ m₂ E', s₁.heap.objs.size ≤ C → a ∈ as → pz a = true → K.is a v → s₂.heap.Ns (compEnvC scope cl C (envOf name fscope L fa cd)).locals m₂ → m₂ x = some v → (∀ b o, s₁.heap.get? b = some o → s₂.heap.get? b = some o) →
        wpAny (model prog w) A (eval elt (compEnvC scope cl C (envOf name fscope L fa cd))) (fun r s₃ => Carried r (d a) ∧ Keeps s₂ s₃) E' s₂) ∧
      (∀ D (ys : List Value) n h' tk, Fr h₀ L h' (fun z => if z = y then some (.ref D) else m z) → News h₀ L h' ((D, W.listOf ys.toArray n) :: news) → CarriedAll ys ((as.filter pz).map d) → Q .next { s₁ with heap := h', toks := tk })) E s)
    (hs : ∀ x, foldedSetIterable iter (envOf name fscope L fa cd) x = pure x) :
    wpAny (model prog w) A (exec (.Assign [.Name y py] (.ListComp elt [⟨.Name x px, iter, ifs, 0⟩] scope pos) spos) (envOf name fscope L fa cd)) Q E s := by
  refine wpAny_Assign_ListComp_free (K.lift pz) (fun v r => ∃ a, K.is a v ∧ Carried r (d a)) hsw hclos hcell hkind hnames hx hy hp (wpAny_mono h (fun xv s₁ h₁ => ?_) fun _ _ e => e) hs
  obtain ⟨news, as, S, hsz, F, N, htests, helt, hQ⟩ := h₁
  refine S _ _ fun I fp P St o W hst hfp hP => ?_
  have up : ∀ (h' : Heap), (∀ b o', b ∉ [s₁.heap.objs.size] → (s₁.heap.push o).get? b = some o' → h'.get? b = some o') → ∀ b o', s₁.heap.get? b = some o' → h'.get? b = some o' :=
    fun h' hk b o' e => hk b o' (old_not_new e) (Heap.get?_push_of_some _ e)
  have low : ∀ {C : Addr}, (s₁.heap.push o).objs.size ≤ C → s₁.heap.objs.size ≤ C := fun hC => Nat.le_of_succ_le (by rw [Heap.size_push] at hC; exact hC)
  refine ⟨I, fp, [s₁.heap.objs.size], as.length, P, St, m, rfl, W, hsz, hst, hfp, ?_, (F.push o).ns, ⟨?_, ?_⟩, ?_⟩
  · intro hm
    exact absurd F.ns.lt ((List.mem_singleton.mp hm) ▸ Nat.lt_irrefl _)
  · intro C i v s₃ m₃ E' hC hPv hn hm hk _
    obtain ⟨a, ha, hv⟩ := hP i v hPv
    rw [ItemKind.lift_is hv]
    exact htests C a v s₃ m₃ E' (low hC) (List.mem_of_getElem? ha) hv hn hm (up _ hk)
  · intro C i v s₃ m₃ E' hC hPv hp hn hm hk _
    obtain ⟨a, ha, hv⟩ := hP i v hPv
    rw [ItemKind.lift_is hv] at hp
    exact wpAny_mono (helt C a v s₃ m₃ E' (low hC) (List.mem_of_getElem? ha) hp hv hn hm (up _ hk)) (fun r s₄ h₄ => ⟨⟨a, hv, h₄.1⟩, h₄.2⟩) fun _ _ e => e
  · intro D h' tk ys vs hnew hlD hplD hlen hPs hF hn' hk
    have hD : h₀.get? D = none := by
      cases e : h₀.get? D with
      | none => rfl
      | some o' => rw [Heap.get?_push_of_some _ (F.keep _ _ e)] at hnew; cases hnew
    have up2 : ∀ b o', b ≠ L → s₁.heap.get? b = some o' → h'.get? b = some o' := fun b o' hb e => hk b o' hb (old_not_new e) (Heap.get?_push_of_some _ e)
    have F' : Fr h₀ L h' (fun z => if z = y then some (.ref D) else m z) := ⟨hn', fun b o e => up2 b o (Nat.ne_of_lt (Nat.lt_of_lt_of_le (Heap.lt_size e) F.above)) (F.keep b o e), F.above⟩
    have N1 : News h₀ L h' news := fun p hp => ⟨up2 _ _ (N p hp).2.1 (N p hp).1, (N p hp).2⟩
    have P' : NewPlain h' news D ys := ⟨hplD, fun p hp e => by rw [← e, Heap.get?_push_of_some _ (N p hp).1] at hnew; cases hnew⟩
    obtain ⟨n, N', _⟩ := gn_enter P' F' N1 hD
    refine hQ D ys.toList n h' tk F' (by rw [Array.toArray_toList]; exact N') ?_
    have hA : AreOf K vs as := by
      have key : ∀ {vs : List Value} {as : List α}, vs.length = as.length → (∀ (j : Nat) (v : Value), vs[j]? = some v → ∃ a, as[j]? = some a ∧ K.is a v) → AreOf K vs as := by
        intro vs
        induction vs with
        | nil => intro as e _; cases as with
          | nil => exact .nil
          | cons _ _ => cases e
        | cons v r ih =>
          intro as e hp
          cases as with
          | nil => cases e
          | cons a as =>
            obtain ⟨a', e1, e2⟩ := hp 0 v rfl
            cases e1
            exact .cons e2 (ih (by simpa using e) fun j v hj => hp (j + 1) v hj)
      exact key hlen fun j v hj => hP j v (hPs j v hj)
    exact hA.paired pz d _ hF
/-- the greatest sign of a text -/
theorem max_text {x : Str} {t : Tok} {Q : Value → Shared → Prop} (hh : A.handled = none) (hne : 0 < x.cps.size)
    (h : ∀ c t' h' tk, c ∈ x.cps → (∀ d ∈ x.cps, d ≤ c) → (∀ b o, s.heap.get? b = some o → h'.get? b = some o) → Q (.str ⟨#[c]⟩ t') { s with heap := h', toks := tk }) :
    wpAny (model prog w) A (call (.builtin "max") [.str x t]) Q E s := by
  refine call_max_walk (wpAny_pyIter_str fun o St W hst => ?_)
  have W' := W A.in1 hh
  have num : ∀ i v, SignAt x i v → ∃ u, v = .str ⟨#[(x.cps[i]?).getD 0]⟩ u := by
    rintro i v ⟨c, u, hc, rfl⟩; exact ⟨u, by rw [hc]; rfl⟩
  refine ⟨_, _, _, _, _, _, fun i j => decide (((x.cps[i]?).getD 0 : Int) > ((x.cps[j]?).getD 0 : Int)), rfl, W', hst, ?_, hne, ?_, ?_⟩
  · intro b hb
    show b < (s.heap.push o).objs.size
    rw [Heap.size_push, List.mem_singleton.mp hb]; exact Nat.lt_succ_self _
  · intro i j vi vj s' Q' E' hi hj hq
    obtain ⟨u, rfl⟩ := num i vi hi
    obtain ⟨u', rfl⟩ := num j vj hj
    show wpAny (model prog w) A.in1 (compareOp .Gt (.str ⟨#[(x.cps[i]?).getD 0]⟩ u) (.str ⟨#[(x.cps[j]?).getD 0]⟩ u')) Q' E' s'
    refine P.gt_str ?_
    have e : (decide (([(x.cps[j]?).getD 0] : List Nat) < [(x.cps[i]?).getD 0])) = decide (((x.cps[i]?).getD 0 : Int) > ((x.cps[j]?).getD 0 : Int)) := by
      rw [decide_eq_decide, List.cons_lt_cons_iff]
      constructor
      · rintro (h | ⟨_, h⟩)
        · exact Int.ofNat_lt.mpr h
        · exact absurd h (List.not_lt_nil _)
      · intro h; exact .inl (Int.ofNat_lt.mp h)
    show Q' (.bool (decide (([(x.cps[j]?).getD 0] : List Nat) < [(x.cps[i]?).getD 0]))) s'
    rw [e]; exact hq
  · intro v h' tk hv hk
    obtain ⟨c, u, hc, rfl⟩ := hv
    refine h c u h' tk (Array.mem_of_getElem? hc) ?_ fun b o' e => hk b o' (fun hm => ?_) (Heap.get?_push_of_some _ e)
    · intro d hd
      obtain ⟨j, hj⟩ := Array.getElem?_of_mem hd
      have hjl : j < x.cps.size := (Array.getElem?_eq_some_iff.mp hj).1
      have := (argBest_gt (fun i => ((x.cps[i]?).getD 0 : Int)) (x.cps.size - 1)).2 j (by omega)
      rw [hj, hc] at this
      exact Int.ofNat_le.mp this
    · exact absurd (List.mem_singleton.mp hm ▸ Heap.lt_size e) (Nat.lt_irrefl _)
theorem none_in {D : Addr} {ys : List Value} {ds : List PyData} {Q : Value → Shared → Prop} (hl : s.heap.IsList D ys.toArray) (hc : CarriedAll ys ds) (hd : PyData.canLayAll0 ds = true) (hu : A.units + 1 < cLine)
    (h : Q (.bool (ds.any fun y => PyData.eqv y .none)) s) : wpAny (model prog w) A (compareOp .In .none (.ref D)) Q E s :=
  SeqAt.in_list_reads (reads_newData hl hc) .none hd rfl (by simpa [PyData.depth] using hu) h
theorem none_notin {D : Addr} {ys : List Value} {ds : List PyData} {Q : Value → Shared → Prop} (hl : s.heap.IsList D ys.toArray) (hc : CarriedAll ys ds) (hd : PyData.canLayAll0 ds = true) (hu : A.units + 1 < cLine)
    (h : Q (.bool (!ds.any fun y => PyData.eqv y .none)) s) : wpAny (model prog w) A (compareOp .NotIn .none (.ref D)) Q E s :=
  SeqAt.notIn_list_reads (reads_newData hl hc) .none hd rfl (by simpa [PyData.depth] using hu) h
theorem list_ne {D D' : Addr} {ys : List Value} {ds : List PyData} {Q : Value → Shared → Prop} (hl : s.heap.IsList D ys.toArray) (hc : CarriedAll ys ds) (hl' : s.heap.IsList D' #[]) (hd : PyData.canLayAll0 ds = true) (hu : A.units + 2 < cLine)
    (h : Q (.bool (!ds.isEmpty)) s) : wpAny (model prog w) A (compareOp .NotEq (.ref D) (.ref D')) Q E s := by
  refine SeqAt.compareNe_reads (reads_newData hl hc) (reads_newData (ys := []) hl' .nil) (by simpa [PyData.canLay0] using hd) (by simp [PyData.canLay0, PyData.canLayAll0]) ?_ ?_
  · have : min (PyData.list ds).depth (PyData.list []).depth ≤ 1 := Nat.le_trans (Nat.min_le_right _ _) (by simp [PyData.depth, PyData.depthAll])
    omega
  · cases ds with
    | nil => simpa [PyData.eqv, PyData.eqvAll] using h
    | cons x r => simpa [PyData.eqv, PyData.eqvAll] using h
end
end
-- P1
section
open PySem PySem.W PyProof.Rows
set_option maxRecDepth 100000
/-- texts set end to end -/
noncomputable def cat (qs : List Str) : Str := ⟨(qs.flatMap fun q => q.cps.toList).toArray⟩
theorem join_cat (qs : List Str) : Txt.join (Str.ofString "") qs = cat qs := by
  show PySem.Builtin.Str.glued (Str.ofString "") qs = _
  rw [StrLaws.glued_eq_join]
  have e : Str.ofString "" = ⟨#[]⟩ := by decide
  rw [e]
  induction qs with
  | nil => rfl
  | cons q r ih =>
    rw [join_nil_cons, ih]
    show Str.mk (q.cps ++ _) = Str.mk _
    congr 1
    simp [cat]
theorem cat_list (qs : List Str) : (cat qs).cps.toList = qs.flatMap fun q => q.cps.toList := by simp [cat]
theorem cat_len {qs : List Str} {k : Nat} (h : ∀ q ∈ qs, q.length ≤ k) : (cat qs).length ≤ k * qs.length := by
  have e : (cat qs).length = (qs.flatMap fun q => q.cps.toList).length := by rw [← cat_list, Array.length_toList]; rfl
  rw [e]
  clear e
  induction qs with
  | nil => simp
  | cons q r ih =>
    have h1 := h q (.head _)
    have h2 := ih fun x hx => h x (.tail _ hx)
    rw [List.flatMap_cons, List.length_append, List.length_cons, Array.length_toList, Nat.mul_add]
    have : q.cps.size ≤ k := h1
    omega
end
-- U2
section
open PySem PySem.W PyProof.Rows
set_option maxRecDepth 100000
/-- as ConQ, of things that the call finds on the ledger -/
noncomputable abbrev ConR (w : World) (f : Addr) (vs : List Value) (d u : Nat) (P : Value → Prop) (R : List (Addr × Obj) → Prop) : Prop :=
  ∀ (p : Program) (loose : List Str) (mean : ExcName → Option Value) (mg mb : Str → Option Value)
    (dp un : Nat) (gd : Option (List Code)) (cn : Str) (cs : Scope) (a : Addr) (ccd : Value) (cl : List (Str × Addr)) (outer : List Env) (A₀ : Around) (base h₀ : Heap) (L : Addr) (m : Str → Option Value) (news : List (Addr × Obj)) (s : Shared) (Q E : Value → Shared → Prop),
    Below A₀ base outer h₀ → Fr h₀ L s.heap m → (K w.params).In h₀ → News h₀ L s.heap news → R news → Top p loose mean mg mb h₀ → cs.kind = .function →
    dp + d < recursionLimit → un + u < cLine →
    (∀ (v : Value) (h' : Heap) (tk' : Nat), P v → Fr h₀ L h' m → News h₀ L h' news → Q v { s with heap := h', toks := tk' }) →
      wpAny (model prog w) (ktrTop dp un gd cn cs L a ccd cl outer) (call (.ref f) vs) Q E s
theorem ConR.use {w : World} {f : Addr} {vs : List Value} {d u : Nat} {P : Value → Prop} {R : List (Addr × Obj) → Prop} {p : Program} {loose : List Str} {mean : ExcName → Option Value} {mg mb : Str → Option Value}
    {dp un : Nat} {gd : Option (List Code)} {cn : Str} {cs : Scope} {a : Addr} {ccd : Value} {cl : List (Str × Addr)} {outer : List Env} {A₀ : Around} {base h₀ : Heap} {L : Addr} {m : Str → Option Value} {news : List (Addr × Obj)} {s : Shared} {Q E : Value → Shared → Prop}
    (C : ConR w f vs d u P R) (B : Below A₀ base outer h₀) (F : Fr h₀ L s.heap m) (X : (K w.params).In h₀) (N : News h₀ L s.heap news) (hR : R news) (T : Top p loose mean mg mb h₀) (hk : cs.kind = .function) (hd : dp + d < recursionLimit) (hu : un + u < cLine)
    (ret : ∀ (v : Value) (h' : Heap) (tk' : Nat), P v → Fr h₀ L h' m → News h₀ L h' news → Q v { s with heap := h', toks := tk' }) :
    wpAny (model prog w) (ktrTop dp un gd cn cs L a ccd cl outer) (call (.ref f) vs) Q E s := C p loose mean mg mb dp un gd cn cs a ccd cl outer A₀ base h₀ L m news s Q E B F X N hR T hk hd hu ret
theorem ConR.useA {w : World} {f : Addr} {vs : List Value} {d u : Nat} {P : Value → Prop} {R : List (Addr × Obj) → Prop} {p : Program} {loose : List Str} {mean : ExcName → Option Value} {mg mb : Str → Option Value}
    {dp un : Nat} {gd : Option (List Code)} {cn : Str} {cs : Scope} {a : Addr} {ccd : Value} {cl : List (Str × Addr)} {outer : List Env} {A₀ : Around} {base h₀ : Heap} {L : Addr} {m : Str → Option Value} {news : List (Addr × Obj)} {s : Shared} {Q E : Value → Shared → Prop}
    (C : ConR w f vs d u P R) (hR : R news) 
    (ret : ∀ (v : Value) (h' : Heap) (tk' : Nat), P v → Fr h₀ L h' m → News h₀ L h' news → Q v { s with heap := h', toks := tk' }) (B : Below A₀ base outer h₀ := by k_asm) (F : Fr h₀ L s.heap m := by k_asm) (X : (K w.params).In h₀ := by k_asm) (N : News h₀ L s.heap news := by k_asm) (T : Top p loose mean mg mb h₀ := by k_asm) (hk : cs.kind = .function := by first | rfl | assumption) (hd : dp + d < recursionLimit := by first | k_room | decide) (hu : un + u < cLine := by k_units) :
    wpAny (model prog w) (ktrTop dp un gd cn cs L a ccd cl outer) (call (.ref f) vs) Q E s := C p loose mean mg mb dp un gd cn cs a ccd cl outer A₀ base h₀ L m news s Q E B F X N hR T hk hd hu ret
theorem retR {P : Value → Prop} {h₀ h' : Heap} {L : Addr} {m : Str → Option Value} {news : List (Addr × Obj)} {s : Shared} {Q : Value → Shared → Prop} {v : Value} {tk' : Nat}
    (hret : ∀ (v : Value) (h' : Heap) (tk' : Nat), P v → Fr h₀ L h' m → News h₀ L h' news → Q v { s with heap := h', toks := tk' }) (e : P v) (F : Fr h₀ L h' m) (N : News h₀ L h' news) : Q v { s with heap := h', toks := tk' } := hret v h' tk' e F N
/-- the list stands on the ledger -/
noncomputable def OnLed (D : Addr) (ys : List Value) (n : Nat) (news : List (Addr × Obj)) : Prop := (D, W.listOf ys.toArray n) ∈ news
theorem OnLed.isList {D : Addr} {ys : List Value} {n : Nat} {news : List (Addr × Obj)} (h : OnLed D ys n news) {h₀ hp : Heap} {L : Addr} (N : News h₀ L hp news) : hp.IsList D ys.toArray := ⟨_, (N _ h).1, rfl, _, rfl⟩
theorem OnLed.cons {D : Addr} {ys : List Value} {n : Nat} {news : List (Addr × Obj)} (h : OnLed D ys n news) (p : Addr × Obj) : OnLed D ys n (p :: news) := .tail _ h
section
variable {prog : Program} {w : World} {A : Around} {E : Value → Shared → Prop} {s : Shared}
theorem ne_empty {x : Str} {t u : Tok} {Q : Value → Shared → Prop} (h : Q (.bool (decide (0 < x.cps.size))) s) : wpAny (model prog w) A (compareOp .NotEq (.str x t) (.str (Str.ofString "") u)) Q E s := by
  refine ne_str ?_
  have e : (x != Str.ofString "") = decide (0 < x.cps.size) := by
    cases q : decide (0 < x.cps.size) with
    | true =>
      rw [bne_iff_ne]; rintro rfl
      revert q; decide
    | false =>
      have : x = Str.ofString "" := by
        have z : x.cps.size = 0 := by have := of_decide_eq_false q; omega
        cases x with
        | mk a => show Str.mk a = Str.mk _; congr; exact Array.eq_empty_of_size_eq_zero z
      rw [this]; decide
  rw [e]; exact h
theorem ne_empty_t {x : Str} {t u : Tok} {Q : Value → Shared → Prop} (hx : 0 < x.cps.size) (h : Q (.bool true) s) : wpAny (model prog w) A (compareOp .NotEq (.str x t) (.str (Str.ofString "") u)) Q E s := by
  refine ne_empty ?_; rw [decide_eq_true hx]; exact h
theorem bad_size {x : Str} (h : ∃ d ∈ x.cps, 128 ≤ d) : 0 < x.cps.size := by
  obtain ⟨d, hd, _⟩ := h; exact Array.size_pos_of_mem hd
theorem max_ge {x : Str} {c : Nat} (h : ∃ d ∈ x.cps, 128 ≤ d) (hm : ∀ d ∈ x.cps, d ≤ c) : 128 ≤ c := by obtain ⟨d, hd, h1⟩ := h; have := hm d hd; omega
theorem max_lt {x : Str} {c : Nat} (h : ∀ d ∈ x.cps, d < 128) (hc : c ∈ x.cps) : c < 128 := h c hc
/-- the data of a figure list: a text, or nothing -/
noncomputable def pd : Option Str → PyData
  | none => .none
  | some x => .str x
theorem pd_lay {ps : List (Option Str)} (h : ∀ x, some x ∈ ps → ∀ c ∈ x.cps, c < 0x110000) : PyData.canLayAll0 (ps.map pd) = true := by
  induction ps with
  | nil => simp [PyData.canLayAll0]
  | cons p r ih =>
    have q := ih fun x hx => h x (.tail _ hx)
    cases p with
    | none => simpa [PyData.canLayAll0, pd, PyData.canLay0] using q
    | some x =>
      have : PyData.strOk x = true := by
        unfold PyData.strOk
        rw [Array.all_eq_true_iff_forall_mem]
        intro c hc
        exact decide_eq_true (h x (.head _) c hc)
      simp [PyData.canLayAll0, pd, PyData.canLay0, this, q]
theorem pd_any {ps : List (Option Str)} : ((ps.map pd).any fun y => PyData.eqv y .none) = decide (none ∈ ps) := by
  induction ps with
  | nil => simp
  | cons p r ih =>
    rw [List.map_cons, List.any_cons, ih]
    cases p with
    | none => simp [pd, PyData.eqv]
    | some x => simp [pd, PyData.eqv]
theorem none_in_t {D : Addr} {ys : List Value} {n : Nat} {news : List (Addr × Obj)} {ps : List (Option Str)} {h₀ : Heap} {L : Addr} {Q : Value → Shared → Prop} (N : News h₀ L s.heap news) (hD : OnLed D ys n news) (hc : CarriedAll ys (ps.map pd)) (hd : PyData.canLayAll0 (ps.map pd) = true) (hn : none ∈ ps) (hu : A.units + 1 < cLine)
    (h : Q (.bool true) s) : wpAny (model prog w) A (compareOp .In .none (.ref D)) Q E s :=
  none_in (hD.isList N) hc hd hu (by rw [pd_any, decide_eq_true hn]; exact h)
theorem none_in_f {D : Addr} {ys : List Value} {n : Nat} {news : List (Addr × Obj)} {ps : List (Option Str)} {h₀ : Heap} {L : Addr} {Q : Value → Shared → Prop} (N : News h₀ L s.heap news) (hD : OnLed D ys n news) (hc : CarriedAll ys (ps.map pd)) (hd : PyData.canLayAll0 (ps.map pd) = true) (hn : none ∉ ps) (hu : A.units + 1 < cLine)
    (h : Q (.bool false) s) : wpAny (model prog w) A (compareOp .In .none (.ref D)) Q E s :=
  none_in (hD.isList N) hc hd hu (by rw [pd_any, decide_eq_false hn]; exact h)
theorem join_texts {D : Addr} {ys : List Value} {n : Nat} {news : List (Addr × Obj)} {qs : List Str} {h₀ : Heap} {L : Addr} {Q : Value → Shared → Prop} {t : Tok} (N : News h₀ L s.heap news) (hD : OnLed D ys n news) (hc : CarriedAll ys (qs.map PyData.str)) (hB : ∀ k ∈ qs, k.length ≤ 4) (hn : qs.length ≤ 1048576)
    (h : ∀ t' k, Q (.str (cat qs) t') { s with toks := k }) : wpAny (model prog w) A (call (.builtin "str.join") [.str (Str.ofString "") t, .ref D]) Q E s := by
  refine join_madeW (l := qs) (g := fun k => k) 4 (hD.isList N) ?_ hB hn (show 4 + Str.length (Str.ofString "") ≤ 16 by decide) ?_
  · rw [List.map_id']; exact hc
  · intro t' k; rw [List.map_id', join_cat]; exact h t' k
end
end
section
open PySem PySem.W PyProof.Rows
local macro_rules | `(tactic| walk_at "compareOp NotEq str str") => `(tactic| (k_here; first | refine ne_empty_t (by assumption) ?_ | refine ne_empty ?_))
local macro_rules | `(tactic| walk_at "call builtin:max") => `(tactic| (k_here; (try dsimp only); refine max_text (by with_unfolding_all rfl) (by assumption) ?_; intro c' t' h' tk' mxC mxM mxK; (have mxF := fr_grow (by k_asm) mxK); (have mxN := news_grow (by k_asm) mxK); (first | (have mxB := max_ge (by assumption) mxM) | (have mxB := max_lt (by assumption) mxC))))
-- U3
section
open PySem PySem.W PyProof.Rows
set_option maxRecDepth 100000
set_option maxHeartbeats 4000000
local macro_rules | `(tactic| walk_at "compareOp In none ref") => `(tactic| (k_here; first | refine none_in_t (by k_asm) (by first | assumption | exact OnLed.cons (by assumption) _ | exact OnLed.cons (OnLed.cons (by assumption) _) _ | exact OnLed.cons (OnLed.cons (OnLed.cons (by assumption) _) _) _) (by assumption) (by assumption) (by assumption) (by k_units) ?_ | refine none_in_f (by k_asm) (by first | assumption | exact OnLed.cons (by assumption) _ | exact OnLed.cons (OnLed.cons (by assumption) _) _ | exact OnLed.cons (OnLed.cons (OnLed.cons (by assumption) _) _) _) (by assumption) (by assumption) (by assumption) (by k_units) ?_))
local macro_rules | `(tactic| walk_at "call builtin:str.join") => `(tactic| (k_here; (try dsimp only); refine join_texts (by k_asm) (by first | assumption | exact OnLed.cons (by assumption) _ | exact OnLed.cons (OnLed.cons (by assumption) _) _ | exact OnLed.cons (OnLed.cons (OnLed.cons (by assumption) _) _) _) (by assumption) (by assumption) (by omega) ?_; intro _ _))
theorem con_dueBad (w : World) (x : Str) (hx : x.length ≤ 100) (folds : Bool) (D : Addr) (ys : List Value) (n : Nat) (ps : List (Option Str)) (hc : CarriedAll ys (ps.map pd)) (hl : PyData.canLayAll0 (ps.map pd) = true) (hb : ∃ c ∈ x.cps, 128 ≤ c) (t : Tok) : ConR w 218 [.str x t, .ref D, .bool folds] 2 40 (IsStr (Str.ofString "barred")) (OnLed D ys n) := by
  have hne := bad_size hb
  unfold ConR prog
  k_fill
  intro p loose mean mg mb dp un gd cn cs a ccd cl outer A₀ base h₀ L m news s Q E B F X N hR T hk hd hu hret
  have cE₀ := InElt.start s.heap
  refine wpAny_call ?_
  k_dflt (refine' code_defC ?k1 ?k2 ?k3 ?k4 ?k5 ?kA ?kF ?kK ?k6 ?k7 ?k8 ?k9 ?kB ?kD ?_ ?c2 ?c3 ?c4; (case kA => exact rfl); (case kF => exact rfl); (case kK => assumption); (case k1 => k_asm); (case k2 => k_asm); (case k3 => k_asm); (case k4 => k_asm); (case k5 => k_asm); (case k6 => k_is); (case k7 => k_is); (case k8 => ktr_room); (case k9 => first | exact BindsTo.of_eq rfl | exact binds_K (by k_in) rfl (by k_is) rfl rfl rfl); (case kB => exact rfl); (case kD => decide +kernel); (case c2 => exact rfl); (case c3 => exact rfl); (case c4 => exact rfl); k_whole; intro g' L' h' tk' cells' FG' F' N' Y' B' X' T' l1; (try k_lt l1); k_cells Y'; (try simp only [List.cons_append, List.nil_append] at N'); (try dsimp only); (try k_lift B'); (try k_fold))
  k_steps
  all_goals (refine' retR hret ?e1 ?e2 ?e3; (case e2 => k_asm); (case e3 => first | k_asm | (refine' cb_drop ?cbN ?cbS; (case cbN => assumption); (case cbS => kcj_all))); (case e1 => exact ⟨_, rfl⟩))
theorem con_dueNone (w : World) (x : Str) (hx : x.length ≤ 100) (folds : Bool) (D : Addr) (ys : List Value) (n : Nat) (ps : List (Option Str)) (hc : CarriedAll ys (ps.map pd)) (hl : PyData.canLayAll0 (ps.map pd) = true) (hb : ∀ c ∈ x.cps, c < 128) (hn : none ∈ ps) (t : Tok) : ConR w 218 [.str x t, .ref D, .bool folds] 2 40 (IsStr (Str.ofString "refused")) (OnLed D ys n) := by
  unfold ConR prog
  k_fill
  intro p loose mean mg mb dp un gd cn cs a ccd cl outer A₀ base h₀ L m news s Q E B F X N hR T hk hd hu hret
  have cE₀ := InElt.start s.heap
  refine wpAny_call ?_
  k_dflt (refine' code_defC ?k1 ?k2 ?k3 ?k4 ?k5 ?kA ?kF ?kK ?k6 ?k7 ?k8 ?k9 ?kB ?kD ?_ ?c2 ?c3 ?c4; (case kA => exact rfl); (case kF => exact rfl); (case kK => assumption); (case k1 => k_asm); (case k2 => k_asm); (case k3 => k_asm); (case k4 => k_asm); (case k5 => k_asm); (case k6 => k_is); (case k7 => k_is); (case k8 => ktr_room); (case k9 => first | exact BindsTo.of_eq rfl | exact binds_K (by k_in) rfl (by k_is) rfl rfl rfl); (case kB => exact rfl); (case kD => decide +kernel); (case c2 => exact rfl); (case c3 => exact rfl); (case c4 => exact rfl); k_whole; intro g' L' h' tk' cells' FG' F' N' Y' B' X' T' l1; (try k_lt l1); k_cells Y'; (try simp only [List.cons_append, List.nil_append] at N'); (try dsimp only); (try k_lift B'); (try k_fold))
  k_steps
  all_goals (refine' retR hret ?e1 ?e2 ?e3; (case e2 => k_asm); (case e3 => first | k_asm | (refine' cb_drop ?cbN ?cbS; (case cbN => assumption); (case cbS => kcj_all))); (case e1 => exact ⟨_, rfl⟩))
theorem fmod_two (n : Nat) : ((n : Int)).fmod 2 = ((n % 2 : Nat) : Int) := by rw [Int.fmod_eq_emod_of_nonneg _ (by decide)]; omega
theorem eq_true_of {prog : Program} {w : World} {A : Around} {E : Value → Shared → Prop} {s : Shared} {x y : Int} {t u : Tok} {Q : Value → Shared → Prop} (h : x = y) (hq : Q (.bool true) s) : wpAny (model prog w) A (compareOp .Eq (.int x t) (.int y u)) Q E s := by
  refine eq_int ?_; rw [beq_iff_eq.mpr h]; exact hq
theorem eq_false_of {prog : Program} {w : World} {A : Around} {E : Value → Shared → Prop} {s : Shared} {x y : Int} {t u : Tok} {Q : Value → Shared → Prop} (h : x ≠ y) (hq : Q (.bool false) s) : wpAny (model prog w) A (compareOp .Eq (.int x t) (.int y u)) Q E s := by
  refine eq_int ?_; rw [beq_eq_false_iff_ne.mpr h]; exact hq
local macro_rules | `(tactic| walk_at "compareOp Eq int int") => `(tactic| (k_here; first | refine eq_true_of (by omega) ?_ | refine eq_false_of (by omega) ?_))
end
-- U5
section
open PySem PySem.W PyProof.Rows
set_option maxRecDepth 100000
theorem src_len (y : Str) (h : y.length ≤ 100000) : (signs y).length ≤ sizeLine := by rw [signs_length, sizeLine_eq]; show y.length ≤ _; omega
section
variable {prog : Program} {w : World} {A : Around} {E : Value → Shared → Prop} {s : Shared} {h₀ : Heap} {L : Addr} {news : List (Addr × Obj)} {Q : Value → Shared → Prop}
theorem list_ne_t {D D' : Addr} {ys : List Value} {n n' : Nat} {ds : List Str} (N : News h₀ L s.heap news) (hm : (D, W.listOf ys.toArray n) ∈ news) (hc : CarriedAll ys (ds.map PyData.str)) (hm' : (D', W.listOf #[] n') ∈ news) (hd : PyData.canLayAll0 (ds.map PyData.str) = true) (hne : ds ≠ []) (hu : A.units + 2 < cLine)
    (h : Q (.bool true) s) : wpAny (model prog w) A (compareOp .NotEq (.ref D) (.ref D')) Q E s := by
  refine list_ne ⟨_, (N _ hm).1, rfl, _, rfl⟩ hc ⟨_, (N _ hm').1, rfl, _, rfl⟩ hd hu ?_
  cases ds with
  | nil => exact absurd rfl hne
  | cons _ _ => exact h
theorem list_ne_f {D D' : Addr} {ys : List Value} {n n' : Nat} {ds : List Str} (N : News h₀ L s.heap news) (hm : (D, W.listOf ys.toArray n) ∈ news) (hc : CarriedAll ys (ds.map PyData.str)) (hm' : (D', W.listOf #[] n') ∈ news) (hd : PyData.canLayAll0 (ds.map PyData.str) = true) (hne : ds = []) (hu : A.units + 2 < cLine)
    (h : Q (.bool false) s) : wpAny (model prog w) A (compareOp .NotEq (.ref D) (.ref D')) Q E s := by
  refine list_ne ⟨_, (N _ hm).1, rfl, _, rfl⟩ hc ⟨_, (N _ hm').1, rfl, _, rfl⟩ hd hu ?_
  subst hne; exact h
/-- a comprehension's list of ints: its item at a place -/
noncomputable def vals {α : Type} (as : List α) (f : α → Int) : List Int := (as.filter fun _ => true).map f
theorem vals_ints {α : Type} {ys : List Value} {as : List α} {f : α → Int} (h : CarriedAll ys ((as.filter fun _ => true).map fun k => PyData.int (f k))) : IntsAre ys (vals as f) := by
  exact CarriedAll.intsOf h
theorem item_vals {α : Type} {D : Addr} {ys : List Value} {n : Nat} {as : List α} {f : α → Int} {k : Int} {u : Tok} {value slice : PySem.Expr} (N : News h₀ L s.heap news) (hm : (D, W.listOf ys.toArray n) ∈ news) (hc : CarriedAll ys ((as.filter fun _ => true).map fun k => PyData.int (f k)))
    (hv : ∀ i, 0 ≤ (vals as f).getD i 0 ∧ (vals as f).getD i 0 < 16) (h0 : 0 ≤ k) (h1 : k < ((vals as f).length : Int)) (hb : (vals as f).length ≤ 1000000) (h : ∀ t, 0 ≤ (vals as f).getD k.toNat 0 → (vals as f).getD k.toNat 0 < 16 → Q (.int ((vals as f).getD k.toNat 0) t) s)
    (hs : subscripted slice false (.ref D) (.int k u) = operate [.ref D, .int k u] (getItem (.ref D) (.int k u)) := by with_unfolding_all rfl) :
    wpAny (model prog w) A (subscriptTail value slice (.ref D) (.int k u)) Q E s := by
  have hl : s.heap.IsList D ys.toArray := ⟨_, (N _ hm).1, rfl, _, rfl⟩
  have hi := vals_ints hc
  have hk : k.toNat < (vals as f).length := by omega
  obtain ⟨t, ht⟩ := hi.get k.toNat ((vals as f).getD k.toNat 0) (by simp [hk])
  exact tail_any hl.typeIs slot_list_getitem.lookup (wpAny_getItem_list hl h0 (by omega) (by simpa using ht) (h t (hv _).1 (hv _).2)) hs
theorem len_vals {α : Type} {D : Addr} {ys : List Value} {n : Nat} {as : List α} {f : α → Int} (N : News h₀ L s.heap news) (hm : (D, W.listOf ys.toArray n) ∈ news) (hc : CarriedAll ys ((as.filter fun _ => true).map fun k => PyData.int (f k))) (hb : (vals as f).length ≤ 1000000)
    (h : ∀ t k, Q (.int ((vals as f).length : Int) t) { s with toks := k }) : wpAny (model prog w) A (call (.builtin "len") [.ref D]) Q E s := by
  have hl : s.heap.IsList D ys.toArray := ⟨_, (N _ hm).1, rfl, _, rfl⟩
  have e : ys.toArray.size = (vals as f).length := by rw [List.size_toArray, (vals_ints hc).length]
  refine len_list hl (by rw [e]; omega) ?_
  rw [e]; exact h _ _
noncomputable abbrev figv (k : Str) : Int := Txt.find (Str.ofString "0123456789abcdef") k
theorem vals_len (x : Str) (f : Str → Int) : (vals (signs x) f).length = x.length := by
  unfold vals
  rw [List.length_map, List.filter_eq_self.mpr (fun _ _ => rfl), signs_length]
noncomputable def pairAt (V : List Int) (k : Int) : Int := 16 * V.getD k.toNat 0 + V.getD (k + 1).toNat 0
theorem small_two {b : Int} (h0 : 0 ≤ b) (h1 : b ≤ 1000000) : Builtin.Range.small 0 b 2 = true := by
  unfold Builtin.Range.small Builtin.Range.rangeSize Builtin.Range.rangeFitsLong
  split <;> split <;> simp <;> omega
theorem size_two {b : Int} (h0 : 0 ≤ b) (he : b % 2 = 0) : Builtin.Range.rangeSize 0 b 2 = ((b.toNat / 2 : Nat) : Int) := by
  unfold Builtin.Range.rangeSize
  rw [if_pos (by decide)]
  split <;> omega
theorem mem_two {n : Nat} {x : Int} (h : x ∈ rangeInts 0 2 n) : 0 ≤ x ∧ x + 1 < 2 * n ∧ x % 2 = 0 := by
  obtain ⟨i, hi, rfl⟩ := List.mem_map.mp h
  have := List.mem_range.mp hi
  omega
theorem ne_head {D : Addr} {q : Addr × Obj} {r : List (Addr × Obj)} (h : ∀ p ∈ q :: r, p.1 ≠ D) : q.1 ≠ D := h q (.head _)
theorem storeX_2 {M : Model} {a : Addr} {m : Str → Option Value} {cn : Str} {cs : Scope} {ccd : Value} {cl : List (Str × Addr)} {x : Str} {v : Value} {c K : Addr} {o : Obj} {q : Addr × Obj} {v₀ : Option Value} {Q : Unit → Shared → Prop}
    (F : Fr h₀ L s.heap m) (N : News h₀ L s.heap (q :: (c, o) :: news)) (hc : cl.lookup x = some c) (hd : o.data = .cell v₀) (hq : ∀ p ∈ (c, o) :: news, p.1 ≠ q.1) (hn : ∀ p ∈ news, p.1 < K) (hK : K ≤ c)
    (h : ∀ h' o', Fr h₀ L h' m → News h₀ L h' (q :: (c, o') :: news) → o'.data = .cell (some v) → Q () { s with heap := h' })
    (hk : cs.kind = .function := by rfl) (hx : (envX cn cs L a ccd cl).kindOf x = some .cell := by rfl) : wpAny M A (storeName (envX cn cs L a ccd cl) x v) Q E s :=
  storeX_C F N hc (UpdF.tail (fun e => hq (c, o) (.head _) e.symm) (UpdF.head fun p hp e => by
    have z := hn p hp
    rw [e] at z
    exact absurd (Nat.lt_of_lt_of_le z hK) (Nat.lt_irrefl _))) hd h hk hx
/-- a test that comes out false, whatever its way -/
noncomputable def IfFalse (h₀ : Heap) (L : Addr) (m : Str → Option Value) (news : List (Addr × Obj)) (s : Shared) (b : Bool) (s₂ : Shared) : Prop := b = false ∧ ∃ h' tk, s₂ = { s with heap := h', toks := tk } ∧ Fr h₀ L h' m ∧ News h₀ L h' news
theorem IfFalse.intro {L : Addr} {m : Str → Option Value} {h' : Heap} {tk : Nat} (F : Fr h₀ L h' m) (N : News h₀ L h' news) : IfFalse h₀ L m news s false { s with heap := h', toks := tk } := ⟨rfl, _, _, rfl, F, N⟩
theorem if_join {M : Model} {m : Str → Option Value} {test : PySem.Expr} {body : List Stmt} {pos : Pos} {env : Env} {Q : Flow → Shared → Prop} (_F : Fr h₀ L s.heap m) (_N : News h₀ L s.heap news)
    (hT : wpAny M A (isTrue test env (eval test env)) (IfFalse h₀ L m news s) E s) (h : ∀ h' tk, Fr h₀ L h' m → News h₀ L h' news → Q .next { s with heap := h', toks := tk }) : wpAny M A (exec (.If test body [] pos) env) Q E s := by
  refine wpAny_If (wpAny_mono hT (fun b s₂ hb => ?_) fun _ _ e => e)
  obtain ⟨rfl, h', tk, rfl, F', N'⟩ := hb
  exact wpAny_execs_nil (h h' tk F' N')
theorem name_comp {M : Model} {C : Addr} {m : Str → Option Value} {scope : Scope} {cl : List (Str × Addr)} {env : Env} {x : Str} {pos : Pos} {v : Value} (F : Fr h₀ C s.heap m) (hv : m x = some v) (h : Q v s)
    (hk : (compEnvC scope cl C env).scope.kind = .function) (hx : (compEnvC scope cl C env).kindOf x = some .local) (hb : (x == ("__debug__" : Str)) = false := by decide) :
    wpAny M A (eval (.Name x pos) (compEnvC scope cl C env)) Q E s := wpAny_Name (wpAny_loadName_local hk hx F.ns hv h) hb
theorem name_cell {M : Model} {C c : Addr} {o : Obj} {scope : Scope} {cl : List (Str × Addr)} {env : Env} {x : Str} {pos : Pos} {v : Value} (N : News h₀ L s.heap news) (hc : cl.lookup x = some c) (hm : (c, o) ∈ news) (hd : o.data = .cell (some v)) (h : Q v s)
    (hk : (compEnvC scope cl C env).scope.kind = .function) (hx : (compEnvC scope cl C env).kindOf x = some .free) (hb : (x == ("__debug__" : Str)) = false := by decide) (hn : (x == ("__classdict__" : Str)) = false := by decide) :
    wpAny M A (eval (.Name x pos) (compEnvC scope cl C env)) Q E s := wpAny_Name (wpAny_loadName_free hk hx hc ⟨o, N.get hm, hd⟩ h hn) hb
theorem ite_nt {a b : Prop} (h : b) : if (!true) = true then a else b := h
theorem ite_nf {a b : Prop} (h : a) : if (!false) = true then a else b := h
theorem str_lay {ds : List Str} (h : ∀ x ∈ ds, ∀ c ∈ x.cps, c < 0x110000) : PyData.canLayAll0 (ds.map PyData.str) = true := by
  have := pd_lay (ps := ds.map some) fun x hx => h x (by simpa using hx)
  rwa [List.map_map] at this
theorem signs_lay {x : Str} (p : Str → Bool) (h : ∀ c ∈ x.cps, c < 128) : PyData.canLayAll0 (((signs x).filter p).map PyData.str) = true := by
  refine str_lay fun y hy c hc => ?_
  have hy' := (List.mem_filter.mp hy).1
  simp only [signs, List.mem_map] at hy'
  obtain ⟨d, hd, rfl⟩ := hy'
  have e : c = d := by simpa using hc
  have := h d (by simpa using hd)
  omega
theorem storeX_3 {M : Model} {a : Addr} {m : Str → Option Value} {cn : Str} {cs : Scope} {ccd : Value} {cl : List (Str × Addr)} {x : Str} {v : Value} {c K : Addr} {o : Obj} {q : Addr × Obj} {l : List (Addr × Obj)} {v₀ : Option Value} {Q : Unit → Shared → Prop}
    (F : Fr h₀ L s.heap m) (N : News h₀ L s.heap (q :: l)) (hc : cl.lookup x = some c) (hd : o.data = .cell v₀) (hq : ∀ p ∈ l, p.1 ≠ q.1) (hm : (c, o) ∈ l) (hs : ∀ p ∈ news, p ∈ l) (hn : ∀ p ∈ news, p.1 < K) (hK : K ≤ c)
    (h : ∀ h' o', Fr h₀ L h' m → News h₀ L h' (q :: (c, o') :: news) → o'.data = .cell (some v) → Q () { s with heap := h' })
    (hk : cs.kind = .function := by rfl) (hx : (envX cn cs L a ccd cl).kindOf x = some .cell := by rfl) : wpAny M A (storeName (envX cn cs L a ccd cl) x v) Q E s := by
  refine storeX_2 (q := q) (o := o) F (fun p hp => ?_) hc hd (fun p hp => ?_) hn hK h hk hx
  · rcases List.mem_cons.mp hp with rfl | hp
    · exact N _ (.head _)
    · rcases List.mem_cons.mp hp with rfl | hp
      · exact N _ (.tail _ hm)
      · exact N _ (.tail _ (hs p hp))
  · rcases List.mem_cons.mp hp with rfl | hp
    · exact hq _ hm
    · exact hq _ (hs p hp)
/-- a figure of base 16, small -/
noncomputable def fig (c : Nat) : Bool := (decide (48 ≤ c) && decide (c ≤ 57)) || (decide (97 ≤ c) && decide (c ≤ 102))
noncomputable def figVal (c : Nat) : Int := if c ≤ 57 then (c : Int) - 48 else (c : Int) - 87
theorem figv_fig (c : Nat) (h : fig c = true) : figv ⟨#[c]⟩ = figVal c := by
  have key : ∀ n : Fin 128, fig n.val = true → figv ⟨#[n.val]⟩ = figVal n.val := by decide +kernel
  have hc : c < 128 := by unfold fig at h; simp at h; omega
  exact key ⟨c, hc⟩ h
theorem figVal_in (c : Nat) (h : fig c = true) : 0 ≤ figVal c ∧ figVal c < 16 := by
  unfold fig at h; unfold figVal; simp at h; split <;> omega
theorem vals_fig {x : Str} (h : ∀ c ∈ x.cps, fig c = true) : vals (signs x) figv = x.cps.toList.map figVal := by
  unfold vals
  rw [List.filter_eq_self.mpr (fun _ _ => rfl), signs, List.map_map]
  refine List.map_congr_left fun c hc => ?_
  exact figv_fig c (h c (by simpa using hc))
theorem vals_in {x : Str} (h : ∀ c ∈ x.cps, fig c = true) (i : Nat) : 0 ≤ (vals (signs x) figv).getD i 0 ∧ (vals (signs x) figv).getD i 0 < 16 := by
  rw [vals_fig h, List.getD_eq_getElem?_getD, List.getElem?_map]
  cases e : x.cps.toList[i]? with
  | none => simp
  | some c =>
    have := figVal_in c (h c (by simpa using List.mem_of_getElem? e))
    simpa using this
theorem pairs_in {V : List Int} (h : ∀ i, 0 ≤ V.getD i 0 ∧ V.getD i 0 < 16) (as : List Int) : ∀ n ∈ vals as (pairAt V), 0 ≤ n ∧ n < 256 := by
  intro n hn
  unfold vals at hn
  obtain ⟨k, _, rfl⟩ := List.mem_map.mp hn
  have h1 := h k.toNat
  have h2 := h (k + 1).toNat
  unfold pairAt; omega
theorem pairs_len {V : List Int} (n : Nat) : (vals (rangeInts 0 2 n) (pairAt V)).length = n := by
  unfold vals
  rw [List.length_map, List.filter_eq_self.mpr (fun _ _ => rfl), rangeInts_length]
noncomputable abbrev pairOf {V : List Int} (_ : ∀ i : Nat, 0 ≤ V.getD i 0 ∧ V.getD i 0 < 16) (k : Int) : Int := pairAt V k
theorem carried_pair (V : List Int) (k : Int) (t : Tok) : Carried (.int (16 * V.getD k.toNat 0 + V.getD (k + 1).toNat 0) t) (.int (pairAt V k)) := .int _ _
/-- the octets of figures, two by two -/
noncomputable def dueOct (x : Str) : Array UInt8 := byteArr (vals (rangeInts 0 2 (x.length / 2)) (pairAt (vals (signs x) figv)))
theorem due_is (x : Str) (t : Tok) : (.bytes (byteArr (vals (rangeInts 0 2 (((vals (signs x) figv).length : Int).toNat / 2)) (pairAt (vals (signs x) figv)))) t : Value) = .bytes (dueOct x) t := by
  unfold dueOct; rw [vals_len]; rfl
theorem bytes_due {h₀' : Heap} {L' D : Addr} {m : Str → Option Value} {ys : List Value} {n k : Nat} {V : List Int} {news : List (Addr × Obj)} {Q : Value → Shared → Prop} (F : Fr h₀' L' s.heap m) (N : News h₀' L' s.heap news) (hm : (D, W.listOf ys.toArray n) ∈ news)
    (hc : CarriedAll ys (((rangeInts 0 2 k).filter fun _ => true).map fun k => PyData.int (pairAt V k))) (hv : ∀ i, 0 ≤ V.getD i 0 ∧ V.getD i 0 < 16) (hk : k ≤ 1000000) (hh : A.handled = none)
    (h : ∀ h' t tk, Fr h₀' L' h' m → News h₀' L' h' news → Q (.bytes (byteArr (vals (rangeInts 0 2 k) (pairAt V))) t) { s with heap := h', toks := tk }) : wpAny (model prog w) A (call (.type "bytes") [.ref D]) Q E s := by
  have hi : IntsAre ys (vals (rangeInts 0 2 k) (pairAt V)) := vals_ints hc
  refine bytes_K F N ⟨_, (N _ hm).1, rfl, _, rfl⟩ hi (pairs_in hv _) ?_ hh fun h' t tk F' N' _ => h h' t tk F' N'
  rw [hi.length, pairs_len, sizeLine_eq]; omega
end
end
-- N1
section
open PySem PySem.W PyProof.Rows
set_option maxRecDepth 100000
/-- a display of whole numbers, as it is written -/
noncomputable def intOf : PySem.Expr → Option Int
  | .Constant (.int n) _ _ => some n
  | _ => none
noncomputable def allInts : List PySem.Expr → Bool
  | [] => true
  | e :: r => (intOf e).isSome && allInts r
noncomputable def constVs (f : Nat → Tok) : Nat → List PySem.Expr → List Value
  | _, [] => []
  | i, e :: r => ((intOf e).map fun n => Value.int n (f i)).toList ++ constVs f (i + 1) r
theorem constVs_nil (f : Nat → Tok) (i : Nat) : constVs f i [] = [] := rfl
theorem constVs_cons (f : Nat → Tok) (i : Nat) (n : Int) (k : Nat) (p : Pos) (r : List PySem.Expr) : constVs f i (.Constant (.int n) k p :: r) = .int n (f i) :: constVs f (i + 1) r := rfl
theorem intOf_some {e : PySem.Expr} {n : Int} (h : intOf e = some n) : ∃ k p, e = .Constant (.int n) k p := by
  cases e with
  | Constant c k p =>
    cases c with
    | int m => cases h; exact ⟨k, p, rfl⟩
    | _ => cases h
  | _ => cases h
theorem allInts_cons {e : PySem.Expr} {r : List PySem.Expr} (h : allInts (e :: r) = true) : ∃ n k p, e = .Constant (.int n) k p ∧ allInts r = true := by
  have h : ((intOf e).isSome && allInts r) = true := h
  rw [Bool.and_eq_true] at h
  obtain ⟨n, hn⟩ := Option.isSome_iff_exists.mp h.1
  obtain ⟨k, p, e⟩ := intOf_some hn
  exact ⟨n, k, p, e, h.2⟩
section
variable {M : Model} {prog : Program} {w : World} {A : Around} {E : Value → Shared → Prop} {env : Env} {pos : Pos}
theorem constVs_add (t : Nat) (es : List PySem.Expr) : ∀ (i : Nat), allInts es = true → constVs (fun j => t + 1 + j) i es = constVs (fun j => t + j) (i + 1) es := by
  induction es with
  | nil => intros; rfl
  | cons e r ih =>
    intro i h
    obtain ⟨n, k, p, rfl, hr⟩ := allInts_cons h
    rw [constVs_cons, constVs_cons, ih _ hr, show t + 1 + i = t + (i + 1) by omega]
theorem int_then {n : Int} {k : Nat} {p : Pos} {r : List PySem.Expr} {s : Shared} {Q : List Value → Shared → Prop} (h : wpAny M A (spliced (backTo pos (starEach r env))) (fun vs s₂ => Q (.int n s.toks :: vs) s₂) E { s with toks := s.toks + 1 }) : wpAny M A (spliced (backTo pos (starEach (.Constant (.int n) k p :: r) env))) Q E s :=
  args_cons (wpAny_Constant_int h)
theorem ints_at (es : List PySem.Expr) : ∀ (s : Shared) (Q : List Value → Shared → Prop), allInts es = true → Q (constVs (fun j => s.toks + j) 0 es) { s with toks := s.toks + es.length } → wpAny M A (spliced (backTo pos (starEach es env))) Q E s := by
  induction es with
  | nil => exact fun s Q _ h => args_nil h
  | cons e r ih =>
    intro s Q ha h
    obtain ⟨n, k, p, rfl, hr⟩ := allInts_cons ha
    refine int_then (ih _ _ hr ?_)
    dsimp only
    rw [constVs_add _ _ _ hr]
    have e : s.toks + 1 + r.length = s.toks + (r.length + 1) := by omega
    rw [e]
    exact h
theorem ints_args {a b : PySem.Expr} {es : List PySem.Expr} {s : Shared} {Q : List Value → Shared → Prop} (ha : allInts (a :: b :: es) = true) (h : ∀ (f : Nat → Tok) (k : Nat), Q (constVs f 0 (a :: b :: es)) { s with toks := k }) : wpAny M A (spliced (backTo pos (starEach (a :: b :: es) env))) Q E s :=
  ints_at _ s Q ha (h _ _)
end
theorem wp_execs_two {M : Model} {Γ : Ctx} {env : Env} {R : List Stmt} {Q : Flow → Pos → Shared → Prop} {E : Value → Pos → Shared → Prop} : ∀ (A : List Stmt) (p : Pos) (s : Shared),
    PySem.Sem.wp M Γ (execs A env) (fun f p' s' => (f = .next → PySem.Sem.wp M Γ (execs R env) Q E p' s') ∧ (f ≠ .next → Q f p' s')) E p s → PySem.Sem.wp M Γ (execs (A ++ R) env) Q E p s
  | [], p, s, h => h.1 rfl
  | a :: A, p, s, h => by
    have h' : PySem.Sem.wp M Γ (exec a env >>= fun f => match f with | .next => execs A env | f => pure f) (fun f p' s' => (f = .next → PySem.Sem.wp M Γ (execs R env) Q E p' s') ∧ (f ≠ .next → Q f p' s')) E p s := h
    rw [Sem.wp_bind'] at h'
    show PySem.Sem.wp M Γ (exec a env >>= fun f => match f with | .next => execs (A ++ R) env | f => pure f) Q E p s
    rw [Sem.wp_bind']
    refine Sem.wp_mono _ _ _ (fun f p' s' z => ?_) (fun _ _ _ z => z) p s h'
    cases f with
    | next => exact wp_execs_two A p' s' z
    | _ => exact z.2 (by intro q; cases q)
/-- a block in two: what holds between -/
theorem execs_cut {M : Model} {A : Around} {E : Value → Shared → Prop} {s : Shared} {env : Env} {Q : Flow → Shared → Prop} {body rest : List Stmt} (front : List Stmt) (he : body = front ++ rest) (P : Shared → Prop)
    (h1 : wpAny M A (execs front env) (fun f s' => match f with | .next => P s' | f => Q f s') E s) (h2 : ∀ s', P s' → wpAny M A (execs rest env) Q E s') : wpAny M A (execs body env) Q E s := by
  subst he
  intro Γ p hΓ
  refine wp_execs_two _ _ _ (Sem.wp_mono _ _ _ (fun f p' s' z => ⟨fun e => ?_, fun e => ?_⟩) (fun _ _ _ z => z) p s (h1 Γ p hΓ))
  · subst e; exact h2 s' z Γ p' hΓ
  · cases f with
    | next => exact absurd rfl e
    | _ => exact z
/-- what holds between two lines of a block -/
noncomputable def Midway (C : Prop) (g : Heap) (L : Addr) (m : Str → Option Value) (news : List (Addr × Obj)) (s s' : Shared) : Prop := ∃ (h1 : Heap) (tk : Nat), s' = { s with heap := h1, toks := tk } ∧ Fr g L h1 m ∧ News g L h1 news ∧ C
noncomputable abbrev frOf {h₀ h : Heap} {L : Addr} {m : Str → Option Value} (_ : Fr h₀ L h m) : Str → Option Value := m
noncomputable abbrev newsOf {h₀ h : Heap} {L : Addr} {news : List (Addr × Obj)} (_ : News h₀ L h news) : List (Addr × Obj) := news
end
-- U4
section
open PySem PySem.W PyProof.Rows
set_option maxRecDepth 100000
set_option maxHeartbeats 4000000
theorem list_ne_any {prog : Program} {w : World} {A : Around} {E : Value → Shared → Prop} {s : Shared} {h₀ : Heap} {L : Addr} {news : List (Addr × Obj)} {Q : Value → Shared → Prop} {D D' : Addr} {ys : List Value} {n n' : Nat} {ds : List Str} (N : News h₀ L s.heap news) (hm : (D, W.listOf ys.toArray n) ∈ news) (hc : CarriedAll ys (ds.map PyData.str)) (hm' : (D', W.listOf #[] n') ∈ news) (hd : PyData.canLayAll0 (ds.map PyData.str) = true) (hu : A.units + 2 < cLine)
    (h1 : ds ≠ [] → Q (.bool true) s) (h2 : ds = [] → Q (.bool false) s) : wpAny (model prog w) A (compareOp .NotEq (.ref D) (.ref D')) Q E s := by
  by_cases h : ds = []
  · exact list_ne_f N hm hc hm' hd h hu (h2 h)
  · exact list_ne_t N hm hc hm' hd h hu (h1 h)
noncomputable def smallS (x : Str) : List Str := (signs x).filter fun k => Txt.contains (Str.ofString "abcdef") k
/-- what the figures are due to, none missing -/
noncomputable def DueP (x : Str) (qs : List Str) (folds : Bool) (v : Value) : Prop :=
  if (cat qs).length % 2 = 1 then IsStr (Str.ofString "refused") v else if folds = false ∧ smallS x ≠ [] then IsStr (Str.ofString "refused") v else IsBytes (dueOct (cat qs)) v
theorem DueP.odd {x : Str} {qs : List Str} {folds : Bool} {t : Tok} (h : (cat qs).length % 2 = 1) : DueP x qs folds (.str (Str.ofString "refused") t) := by
  unfold DueP; rw [if_pos h]; exact ⟨t, rfl⟩
theorem DueP.small {x : Str} {qs : List Str} {t : Tok} (h : (cat qs).length % 2 = 0) (hm : smallS x ≠ []) : DueP x qs false (.str (Str.ofString "refused") t) := by
  unfold DueP; rw [if_neg (by omega), if_pos ⟨rfl, hm⟩]; exact ⟨t, rfl⟩
theorem DueP.ok {x : Str} {qs : List Str} {folds : Bool} {v : Value} (h : (cat qs).length % 2 = 0) (hm : ¬ (folds = false ∧ smallS x ≠ [])) (hv : IsBytes (dueOct (cat qs)) v) : DueP x qs folds v := by
  unfold DueP; rw [if_neg (by omega), if_neg hm]; exact hv
local macro_rules | `(tactic| walk_at "compareOp In none ref") => `(tactic| (k_here; first | refine none_in_t (by k_asm) (by (unfold OnLed; walk_at "led")) (by assumption) (by assumption) (by assumption) (by k_units) ?_ | refine none_in_f (by k_asm) (by (unfold OnLed; walk_at "led")) (by assumption) (by assumption) (by assumption) (by k_units) ?_))
local macro_rules | `(tactic| walk_at "call builtin:str.join") => `(tactic| (k_here; (try dsimp only); refine join_texts (by k_asm) (by (unfold OnLed; walk_at "led")) (by assumption) (by assumption) (by omega) ?_; intro _ _))
local macro_rules | `(tactic| walk_at "compareOp Eq int int") => `(tactic| (k_here; first | refine eq_true_of (by omega) ?_ | refine eq_false_of (by omega) ?_))
local macro_rules | `(tactic| walk_at "eval ListComp") => `(tactic| (k_here; (with_reducible show wpAny _ _ (eval (Expr.ListComp (Expr.Name _ _) _ _ _) _) _ _ _); (refine' comp_kindA (K := .str) (fun k => Txt.contains (Str.ofString "abcdef") k) (fun k => .str k) (textPack ?_))))
local macro_rules | `(tactic| walk_at "eval ListComp") => `(tactic| (k_here; (with_reducible show wpAny _ _ (eval (Expr.ListComp (Expr.Call _ _ _ _) _ _ _) _) _ _ _); (refine' comp_kindA (K := .str) (fun _ => true) (fun k => .int (figv k)) (textPack ?_))))
local macro_rules | `(tactic| walk_at "tp u") => `(tactic| ((rename News _ _ _ _ => N'); (first | (intro C' a' v' s' m' E' hC' ha'; intros; (first | (obtain ⟨u', hv''⟩ := ItemKind.str_is (by assumption); subst hv'') | (obtain ⟨u', hv''⟩ := ItemKind.int_is (by assumption); subst hv'')); have Fc' := frComp (by assumption) (by assumption) hC'; (try (have Nc' := news_grow N' (by assumption))); (try (have hr' := mem_two ha')); refine wpAny_leafK ?_) | skip)))
local macro_rules | `(tactic| walk_at "TextPack") => `(tactic| (refine TextPack.intro ?_; (rename Fr _ _ _ _ => F'); (rename News _ _ _ _ => N'); (refine' ⟨_, _, src_text ?sh, src_len _ ?sl, F', N', ?_, ?_, ?_⟩); (case sh => with_unfolding_all rfl); (case sl => omega); (walk_at "tp u"); (rotate_left); (walk_at "tp u"); (rotate_left); (intro D' ys' n' h' tk' F' N' kk' nn' Y'; (try (have nn1' := ne_head nn'; dsimp only at nn1'))); (rotate_left)))
local macro_rules | `(tactic| walk_at "eval ListComp") => `(tactic| (k_here; (with_reducible show wpAny _ _ (eval (Expr.ListComp (Expr.BinOp _ _ _ _) _ _ _) _) _ _ _); (rename (∀ i : Nat, 0 ≤ List.getD _ i 0 ∧ List.getD _ i 0 < 16) => hvV'); (refine' comp_kindA (K := .int) (fun _ => true) (fun k => .int (pairOf hvV' k)) (textPack ?_))))
local macro_rules | `(tactic| walk_at "call builtin:len") => `(tactic| (k_here; (with_reducible show wpAny _ _ (call (Value.builtin "len") [Value.ref _]) _ _ _); refine len_vals (by k_asm) (by k_mem) (by assumption) (by omega) ?_; intro _ _))
local macro_rules | `(tactic| walk_at "TextPack") => `(tactic| (refine TextPack.intro ?_; (rename IsRange _ _ _ _ _ _ _ _ => R'); (rename Fr _ _ _ _ => F'); (rename News _ _ _ _ => N'); (refine' ⟨_, _, src_range ?sh R' (small_two ?s1 ?s2) (size_two ?s3 ?s4), ?sl, F', N', ?_, ?_, ?_⟩); (case sh => with_unfolding_all rfl); (case s1 => omega); (case s2 => omega); (case s3 => omega); (case s4 => omega); (case sl => rw [rangeInts_length, sizeLine_eq]; omega); (walk_at "tp u"); (rotate_left); (walk_at "tp u"); (rotate_left); (intro D' ys' n' h' tk' F' N' kk' nn' Y'); (rotate_left)))
local macro_rules | `(tactic| walk_at "subscriptTail Name Name ref int") => `(tactic| (k_here; (with_reducible show wpAny _ _ (subscriptTail _ _ (Value.ref _) (Value.int _ _)) _ _ _); refine item_vals (by k_asm) (by k_mem) (by assumption) (by assumption) (by omega) (by omega) (by omega) ?_; intro _ _ _))
local macro_rules | `(tactic| walk_at "subscriptTail Name BinOp ref int") => `(tactic| (k_here; (with_reducible show wpAny _ _ (subscriptTail _ _ (Value.ref _) (Value.int _ _)) _ _ _); refine item_vals (by k_asm) (by k_mem) (by assumption) (by assumption) (by omega) (by omega) (by omega) ?_; intro _ _ _))
local macro_rules | `(tactic| walk_at "call type:bytes") => `(tactic| (k_here; refine bytes_due (by k_asm) (by k_asm) (by k_mem) (by assumption) (by assumption) (by omega) (by with_unfolding_all rfl) ?_; intro h' t' tk' F' N'))
local macro_rules | `(tactic| walk_at "storeName") => `(tactic| (k_here; (k_dflt (refine' storeX_3 (by k_asm) (by k_asm) rfl (by assumption) (by assumption) (by k_mem) ?s (by assumption) (Nat.le_succ _) ?_ rfl rfl; (case s => (intro p9 h9; (repeat (first | exact h9 | refine List.Mem.tail _ ?_)))); k_whole)); intro h' o' F' N' d'))
local macro_rules | `(tactic| walk_at "exec If") => `(tactic| (k_here; (with_reducible show wpAny _ _ (exec (Stmt.If (Expr.BoolOp BoolOp.And [Expr.Compare (Expr.Name _ _) _ _ _, _] _) _ _ _) _) _ _ _); refine' if_join ?F ?N ?_ ?_; (case F => k_asm); (case N => k_asm); (rotate_left); (intro h' tk' F' N'); (rotate_left)))
local macro_rules | `(tactic| walk_at "IfFalse") => `(tactic| exact IfFalse.intro (by k_asm) (by k_asm))
local macro_rules | `(tactic| walk_at "exec Assign cons ListComp") => `(tactic| (k_here; k_dflt (refine wpAny_Assign_Name ?_)))
local macro_rules | `(tactic| walk_at "ite") => `(tactic| (with_reducible first | refine ite_tt ?_ | refine ite_ff ?_ | refine ite_nt ?_ | refine ite_nf ?_))
local macro_rules | `(tactic| walk_at "compareOp NotEq ref ref") => `(tactic| (k_here; refine list_ne_any (by k_asm) (by k_mem) (by assumption) (by k_mem) (by assumption) (by k_units) ?_ ?_ <;> intro _))
local macro_rules | `(tactic| walk_at "eval Name") => `(tactic| (k_here; (with_reducible show wpAny _ _ (eval (Expr.Name _ _) (compEnvC _ _ _ _)) _ _ _); k_dflt (first
  | (refine' name_comp ?F ?v ?_ ?a ?b; (case a => rfl); (case b => rfl); (case F => assumption); (case v => assumption); k_whole)
  | (refine' name_cell ?N ?c ?m ?d ?_ ?a ?b; (case a => rfl); (case b => rfl); (case N => k_asm); (case c => rfl); (case m => k_mem); (case d => k_asm); k_whole))))
theorem con_dueSome (w : World) (x : Str) (hx : x.length ≤ 100) (folds : Bool) (D : Addr) (ys : List Value) (n : Nat) (qs : List Str) (hq : CarriedAll ys (qs.map PyData.str)) (hl : PyData.canLayAll0 (qs.map PyData.str) = true) (h4 : ∀ k ∈ qs, k.length ≤ 4) (hn : qs.length ≤ 1000) (hb : ∀ c ∈ x.cps, c < 128) (hfg : ∀ c ∈ (cat qs).cps, fig c = true) (t : Tok) : ConR w 218 [.str x t, .ref D, .bool folds] 2 40 (DueP x qs folds) (OnLed D ys n) := by
  have hsl := signs_lay (fun k => Txt.contains (Str.ofString "abcdef") k) hb
  have hps : none ∉ qs.map some := by simp
  have hpd : (qs.map some).map pd = qs.map PyData.str := by rw [List.map_map]; rfl
  have hc : CarriedAll ys ((qs.map some).map pd) := by rw [hpd]; exact hq
  have hl' : PyData.canLayAll0 ((qs.map some).map pd) = true := by rw [hpd]; exact hl
  have hJ : (cat qs).length ≤ 4000 := by have := cat_len h4; omega
  have hfm := fmod_two (cat qs).length
  have hvl := vals_len (cat qs) figv
  have hvb := vals_in hfg
  unfold ConR prog
  k_fill
  intro p loose mean mg mb dp un gd cn cs a ccd cl outer A₀ base h₀ L m news s Q E B F X N hR T hk hd hu hret
  have cE₀ := InElt.start s.heap
  refine wpAny_call ?_
  k_dflt (refine' code_defC ?k1 ?k2 ?k3 ?k4 ?k5 ?kA ?kF ?kK ?k6 ?k7 ?k8 ?k9 ?kB ?kD ?_ ?c2 ?c3 ?c4; (case kA => exact rfl); (case kF => exact rfl); (case kK => assumption); (case k1 => k_asm); (case k2 => k_asm); (case k3 => k_asm); (case k4 => k_asm); (case k5 => k_asm); (case k6 => k_is); (case k7 => k_is); (case k8 => ktr_room); (case k9 => first | exact BindsTo.of_eq rfl | exact binds_K (by k_in) rfl (by k_is) rfl rfl rfl); (case kB => exact rfl); (case kD => decide +kernel); (case c2 => exact rfl); (case c3 => exact rfl); (case c4 => exact rfl); k_whole; intro g' L' h' tk' cells' FG' F' N' Y' B' X' T' l1; (try k_lt l1); k_cells Y'; (try simp only [List.cons_append, List.nil_append] at N'); (try dsimp only); (try k_lift B'); (try k_fold))
  refine execs_cut [_, _] rfl (Midway ((cat qs).length % 2 = 0) g' L' (frOf F') (newsOf N') s) ?_ ?_
  · k_steps
    all_goals first
      | (refine' retR hret ?e1 ?e2 ?e3; (case e2 => k_asm); (case e3 => first | k_asm | (refine' cb_drop ?cbN ?cbS; (case cbN => assumption); (case cbS => kcj_all))); (case e1 => exact DueP.odd (by omega)))
      | exact ⟨_, _, rfl, by (first | k_asm | assumption), by (first | k_asm | (refine' cb_drop ?cbN ?cbS; (case cbN => assumption); (case cbS => kcj_all))), by omega⟩
  rintro _ ⟨h1, tk, rfl, kF, kN, c1⟩
  dsimp only [frOf, newsOf] at kF kN
  refine execs_cut [_] rfl (Midway (¬ (folds = false ∧ smallS x ≠ [])) g' L' (frOf kF) (newsOf kN) s) ?_ ?_
  · clear F' N'
    cases folds <;> k_steps
    all_goals first
      | (refine' retR hret ?e1 ?e2 ?e3; (case e2 => k_asm); (case e3 => first | k_asm | (refine' cb_drop ?cbN ?cbS; (case cbN => assumption); (case cbS => kcj_all))); (case e1 => exact DueP.small c1 (by assumption)))
      | exact ⟨_, _, rfl, by (first | k_asm | assumption), by (first | k_asm | (refine' cb_drop ?cbN ?cbS; (case cbN => assumption); (case cbS => kcj_all))), by first | exact (fun z => z.2 (by assumption)) | exact (fun z => absurd z.1 (by simp))⟩
  rintro _ ⟨h2, tk2, rfl, kF2, kN2, c2⟩
  dsimp only [frOf, newsOf] at kF2 kN2
  clear kF kN F' N'
  k_steps
  all_goals (refine' retR hret ?e1 ?e2 ?e3; (case e2 => k_asm); (case e3 => first | k_asm | (refine' cb_drop ?cbN ?cbS; (case cbN => assumption); (case cbS => kcj_all))); (case e1 => exact DueP.ok c1 c2 ⟨_, due_is _ _⟩))
end
end
-- V1
section
open PySem PySem.W PyProof.Rows
set_option maxRecDepth 100000
/-- what reading a text comes to -/
inductive Out where
  | barred
  | refused
  | oct (b : Array UInt8)
noncomputable def OutIs : Out → Value → Prop
  | .barred => IsStr (Str.ofString "barred")
  | .refused => IsStr (Str.ofString "refused")
  | .oct b => IsBytes b
noncomputable def ascii (x : Str) : Bool := x.cps.all fun c => decide (c < 128)
noncomputable def encOf (x : Str) (folds : Bool) : Array UInt8 := if folds then upB (encA x) else encA x
noncomputable def readOf (x : Str) (folds : Bool) : Out :=
  if ascii x = true then
    if (encOf x folds).any (fun c => notHex c.toNat) = true then .refused
    else if (encOf x folds).size % 2 = 1 then .refused
    else .oct (byteArr (decI (KBw.bInts (encOf x folds))))
  else .barred
theorem ascii_all {x : Str} (h : ascii x = true) : ∀ c ∈ x.cps, c < 128 := by
  unfold ascii at h
  rw [Array.all_eq_true_iff_forall_mem] at h
  exact fun c hc => of_decide_eq_true (h c hc)
theorem ascii_bad {x : Str} (h : ascii x = false) : ∃ c ∈ x.cps, 128 ≤ c := by
  unfold ascii at h
  rw [Array.all_eq_false] at h
  obtain ⟨i, hi, h⟩ := h
  exact ⟨x.cps[i], Array.getElem_mem hi, by simpa using h⟩
theorem encOf_size (x : Str) (folds : Bool) : (encOf x folds).size = x.length := by
  unfold encOf
  cases folds with
  | false => exact encA_size x
  | true => simp [upB, encA_size]; rfl
theorem any_some {b : Array UInt8} (h : (b.any fun c => notHex c.toNat) = true) : ∃ i, i < b.size ∧ notHex ((b.map (·.toNat)).getD i 0) = true := by
  rw [Array.any_eq_true] at h
  obtain ⟨i, hi, h⟩ := h
  exact ⟨i, hi, by simpa [hi] using h⟩
theorem any_none {b : Array UInt8} (h : (b.any fun c => notHex c.toNat) = false) : ∀ i, i < b.size → notHex ((b.map (·.toNat)).getD i 0) = false := by
  intro i hi
  rw [Array.any_eq_false] at h
  have := h i hi
  simpa [hi] using this
theorem hexVal_of {c : Nat} (h : notHex c = false) : hexVal (c : Int) < 16 := by
  unfold notHex at h
  unfold hexVal
  simp at h
  (repeat' split) <;> omega
theorem any_val {b : Array UInt8} (h : (b.any fun c => notHex c.toNat) = false) : ∀ c ∈ KBw.bInts b, hexVal c < 16 := by
  intro c hc
  unfold KBw.bInts at hc
  obtain ⟨d, hd, rfl⟩ := List.mem_map.mp hc
  rw [Array.any_eq_false] at h
  obtain ⟨i, hi, e⟩ := List.getElem_of_mem hd
  have := h i (by simpa using hi)
  refine hexVal_of ?_
  rw [← e]
  simpa using this
theorem con_read (w : World) (x : Str) (hx : x.length ≤ 1000) (folds : Bool) (t : Tok) : ConS w 213 [.str x t, .bool folds] 6 60 (OutIs (readOf x folds)) := by
  have hz := encOf_size x folds
  unfold readOf
  cases ha : ascii x with
  | false =>
    simp only [Bool.false_eq_true, if_false]
    cases folds with
    | false => exact con_readBadF w x hx (ascii_bad ha) t
    | true => exact con_readBad w x hx (ascii_bad ha) t
  | true =>
    simp only [if_true]
    have hb := ascii_all ha
    cases hn : (encOf x folds).any fun c => notHex c.toNat with
    | true =>
      simp only [if_true]
      cases folds with
      | false => exact con_readOtherF w x hx hb (by have : (encA x).size = x.length := hz; omega) (any_some hn) t
      | true => exact con_readOther w x hx hb (by have : (upB (encA x)).size = x.length := hz; omega) (any_some hn) t
    | false =>
      simp only [Bool.false_eq_true, if_false]
      by_cases ho : (encOf x folds).size % 2 = 1
      · rw [if_pos ho]
        have hf : (((encOf x folds).size : Int)).fmod 2 ≠ 0 := by rw [fmod_two]; omega
        cases folds with
        | false => exact con_readOddF w x hx hb (by have : (encA x).size = x.length := hz; omega) (by have : (encA x).size = x.length := hz; omega) (any_none hn) hf t
        | true => exact con_readOdd w x hx hb (by have : (upB (encA x)).size = x.length := hz; omega) (by have : (upB (encA x)).size = x.length := hz; omega) (any_none hn) hf t
      · rw [if_neg ho]
        have hB : HexB (encOf x folds) := ⟨by omega, by omega, by omega, any_none hn, any_val hn⟩
        cases folds with
        | false => exact con_readF w x hx hb hB t
        | true => exact con_readT w x hx hb hB t
/-- the figure texts, if none is missing -/
noncomputable def allSome : List (Option Str) → Option (List Str)
  | [] => some []
  | none :: _ => none
  | some q :: r => (allSome r).map (q :: ·)
theorem allSome_none : ∀ {ps : List (Option Str)}, allSome ps = none → none ∈ ps
  | [], h => by cases h
  | none :: _, _ => .head _
  | some q :: r, h => by
    refine .tail _ (allSome_none (ps := r) ?_)
    cases e : allSome r with
    | none => rfl
    | some l => rw [allSome, e] at h; cases h
theorem allSome_some : ∀ {ps : List (Option Str)} {qs : List Str}, allSome ps = some qs → ps = qs.map some
  | [], qs, h => by cases h; rfl
  | none :: _, qs, h => by cases h
  | some q :: r, qs, h => by
    cases e : allSome r with
    | none => rw [allSome, e] at h; cases h
    | some l =>
      rw [allSome, e] at h; cases h
      rw [List.map_cons, allSome_some e]
/-- figure texts: small figures, two at most -/
structure GoodP (ps : List (Option Str)) : Prop where
  len : ps.length ≤ 1000
  four : ∀ q, some q ∈ ps → q.length ≤ 4
  fig : ∀ q, some q ∈ ps → ∀ c ∈ q.cps, fig c = true
noncomputable def small (x : Str) : List Str := (signs x).filter fun k => Txt.contains (Str.ofString "abcdef") k
noncomputable def dueOf (x : Str) (ps : List (Option Str)) (folds : Bool) : Out :=
  if ascii x = true then
    match allSome ps with
    | none => .refused
    | some qs => if (cat qs).length % 2 = 1 then .refused else if (folds = false ∧ small x ≠ []) then .refused else .oct (dueOct (cat qs))
  else .barred
theorem fig_lt {c : Nat} (h : fig c = true) : c < 0x110000 := by unfold fig at h; simp at h; omega
theorem con_due (w : World) (x : Str) (hx : x.length ≤ 100) (folds : Bool) (D : Addr) (ys : List Value) (n : Nat) (ps : List (Option Str)) (hc : CarriedAll ys (ps.map pd)) (hp : GoodP ps) (t : Tok) :
    ConR w 218 [.str x t, .ref D, .bool folds] 2 40 (OutIs (dueOf x ps folds)) (OnLed D ys n) := by
  have hl : PyData.canLayAll0 (ps.map pd) = true := pd_lay fun q hq c hc => fig_lt (hp.fig q hq c hc)
  unfold dueOf
  cases ha : ascii x with
  | false =>
    simp only [Bool.false_eq_true, if_false]
    exact con_dueBad w x hx folds D ys n ps hc hl (ascii_bad ha) t
  | true =>
    simp only [if_true]
    have hb := ascii_all ha
    cases hs : allSome ps with
    | none => exact con_dueNone w x hx folds D ys n ps hc hl hb (allSome_none hs) t
    | some qs =>
      have e := allSome_some hs
      subst e
      have hpd : (qs.map some).map pd = qs.map PyData.str := by rw [List.map_map]; rfl
      rw [hpd] at hc hl
      have h4 : ∀ k ∈ qs, k.length ≤ 4 := fun k hk => hp.four k (List.mem_map.mpr ⟨k, hk, rfl⟩)
      have hn : qs.length ≤ 1000 := by have := hp.len; simpa using this
      have hf : ∀ c ∈ (cat qs).cps, fig c = true := by
        intro c hc'
        have : c ∈ (cat qs).cps.toList := by simpa using hc'
        rw [cat_list, List.mem_flatMap] at this
        obtain ⟨q, hq, hcq⟩ := this
        exact hp.fig q (List.mem_map.mpr ⟨q, hq, rfl⟩) c (by simpa using hcq)
      dsimp only
      have key := con_dueSome w x hx folds D ys n qs hc hl h4 hn hb hf t
      have e : DueP x qs folds = OutIs (if (cat qs).length % 2 = 1 then .refused else if (folds = false ∧ small x ≠ []) then .refused else .oct (dueOct (cat qs))) := by
        funext v
        unfold DueP
        by_cases ho : (cat qs).length % 2 = 1
        · rw [if_pos ho, if_pos ho]; rfl
        · rw [if_neg ho, if_neg ho]
          by_cases hm : folds = false ∧ small x ≠ []
          · rw [if_pos hm, if_pos (show folds = false ∧ smallS x ≠ [] from hm)]; rfl
          · rw [if_neg hm, if_neg (show ¬ (folds = false ∧ smallS x ≠ []) from hm)]; rfl
      rw [← e]
      exact key
end
-- W1
section
open PySem PySem.W PyProof.Rows
set_option maxRecDepth 100000
section
variable {prog : Program} {w : World} {A : Around} {E : Value → Shared → Prop} {s : Shared} {env : Env} {L : Addr} {Q : Flow → Shared → Prop}
/-- the end of a turn: the ground may have moved -/
noncomputable def MoveEnd (Mv : Heap → Prop) (L : Addr) (news : List (Addr × Obj)) (stored : List Str) (m₀ : Str → Option Value) (q : Addr × Obj) (s : Shared) (s₂ : Shared) : Prop :=
  ∃ g' m' h' tk', s₂ = { s with heap := h', toks := tk' } ∧ Mv g' ∧ Fr g' L h' m' ∧ News g' L h' (q :: news) ∧ ∀ z, stored.contains z = false → m' z = m₀ z
noncomputable def MovePost (Mv : Heap → Prop) (L : Addr) (news : List (Addr × Obj)) (stored : List Str) (m₀ : Str → Option Value) (q : Addr × Obj) (s : Shared) (Q : Flow → Shared → Prop) (f : Flow) (s₂ : Shared) : Prop :=
  match f with
  | .ret v => Q (.ret v) s₂
  | .brk => Q .next s₂
  | _ => MoveEnd Mv L news stored m₀ q s s₂
theorem MoveEnd.intro {Mv : Heap → Prop} {news : List (Addr × Obj)} {stored : List Str} {m₀ m' : Str → Option Value} {q : Addr × Obj} {g' h' : Heap} {tk' : Nat} (F : Fr g' L h' m') (N : News g' L h' (q :: news)) (M : Mv g') (e : ∀ z, stored.contains z = false → m' z = m₀ z) :
    MoveEnd Mv L news stored m₀ q s { s with heap := h', toks := tk' } := ⟨g', m', h', tk', rfl, M, F, N, e⟩
theorem MoveEnd.sub {Mv : Heap → Prop} {news l : List (Addr × Obj)} {stored : List Str} {m₀ m' : Str → Option Value} {q : Addr × Obj} {g' h' : Heap} {tk' : Nat} (F : Fr g' L h' m') (N : News g' L h' l) (hs : ∀ p ∈ q :: news, p ∈ l) (M : Mv g') (e : ∀ z, stored.contains z = false → m' z = m₀ z) :
    MoveEnd Mv L news stored m₀ q s { s with heap := h', toks := tk' } := MoveEnd.intro F (fun p hp => N p (hs p hp)) M e
noncomputable def MoveSrc (prog : Program) (w : World) (A : Around) (E : Value → Shared → Prop) (env : Env) (Mv : Heap → Prop) (stored : List Str) (m₀ : Str → Option Value) (x : Str) (body : List Stmt) (Q : Flow → Shared → Prop) (xv : Value) (s₁ : Shared) : Prop :=
  ∃ (ax : Addr) (oax : Obj) (items : Array Value) (g : Heap) (news : List (Addr × Obj)), xv = .ref ax ∧ (∃ n, oax.data = .seq items n) ∧ (oax.cls = .type "list" ∨ oax.cls = .type "tuple") ∧ (ax, oax) ∈ news ∧
      Mv g ∧ Fr g env.locals s₁.heap m₀ ∧ News g env.locals s₁.heap news ∧
      (∀ (v : Value) (g : Heap) (u : Str → Option Value) (I : Addr) (oI : Obj) (h : Heap) (tk : Nat), v ∈ items → Mv g → Fr g env.locals h (fun z => if z = x then some v else if stored.contains z then u z else m₀ z) → News g env.locals h ((I, oI) :: news) → (∀ p ∈ news, p.1 ≠ I) →
        wpAny (model prog w) A (execs body env) (MovePost Mv env.locals news stored m₀ (I, oI) s₁ Q) E { s₁ with heap := h, toks := tk }) ∧
      (∀ (g : Heap) (u : Str → Option Value) (h : Heap) (tk : Nat), Mv g → Fr g env.locals h (fun z => if stored.contains z then u z else m₀ z) → News g env.locals h news → Q .next { s₁ with heap := h, toks := tk })
/-- a loop over a list or a tuple that stands on the ledger -/
theorem for_move {x : Str} {px pos : Pos} {iter : PySem.Expr} {body : List Stmt} (Mv : Heap → Prop) (stored : List Str) (m₀ : Str → Option Value) {g₀ : Heap}
    (_F : Fr g₀ env.locals s.heap m₀) (hxs : stored.contains x = true) (hh : A.handled = none) (hx : env.kindOf x = some .local) (hp : (env.scope.kind == .class || (env.scope.kind == .module && env.locals != env.globals)) = false) (hE : PassesOwn (model prog w) A env E)
    (h : wpAny (model prog w) A (eval iter env) (MoveSrc prog w A E env Mv stored m₀ x body Q) E s)
    (hs : ∀ x, foldedSetIterable iter env x = pure x := by intro _; rfl) :
    wpAny (model prog w) A (exec (.For (.Name x px) iter body [] pos) env) Q E s := by
  refine wpAny_For (wpAny_mono h (fun xv s₁ h₁ => ?_) fun _ _ e => e) hs
  obtain ⟨ax, oax, items, g, news, rfl, hd, hcls, hax, M, F, N, turn, done⟩ := h₁
  -- the iterator
  have key : ∀ (I : Addr) (oI : Obj) (P : Nat → Value → Prop) (St : Nat → Heap → Prop), I = s₁.heap.objs.size → oI.isFreed = false → Walks prog w A I [I, ax] [I] items.size P St → (∀ i v, P i v → v ∈ items) → St 0 (s₁.heap.push oI) →
      (∀ i h, St i h → ∃ o, h.get? I = some o) →
      codeAny (model prog w) A (.forLoop (.Name x px) (.ref I) body [] env) (fun r s' => match r with | .ok f => Q f s' | .error e => cameBackBy (model prog w) A env E e s') { s₁ with heap := s₁.heap.push oI } := by
    intro I oI P St hI hfr W hP hst hlive
    have hLI : env.locals ≠ I := fun e => absurd F.ns.lt (by rw [e, hI]; exact Nat.lt_irrefl _)
    have hLax : env.locals ≠ ax := (N _ hax).2.1.symm
    have hLf : env.locals ∉ [I, ax] := fun hm => by
      rcases List.mem_cons.mp hm with e | hm
      · exact hLI e
      · exact hLax (List.mem_singleton.mp hm)
    have hnI : ∀ p ∈ news, p.1 ≠ I := fun p hp e => absurd (Heap.lt_size (N p hp).1) (by rw [e, hI]; exact Nat.lt_irrefl _)
    have push : ∀ b o, s₁.heap.get? b = some o → (s₁.heap.push oI).get? b = some o := fun b o e => Heap.get?_push_of_some _ e
    refine codeAny_forLoop
      (fun k s' => ∃ g h' tk m' i oI', s' = { s₁ with heap := h', toks := tk } ∧ St i h' ∧ Mv g ∧ Fr g env.locals h' m' ∧ News g env.locals h' ((I, oI') :: news) ∧ (∀ z, stored.contains z = false → m' z = m₀ z) ∧ i ≤ items.size ∧ k = items.size + 1 - i) ?_ (items.size + 1)
      ⟨g, s₁.heap.push oI, s₁.toks, m₀, 0, oI, rfl, hst, M, F.push _, ?_, fun _ _ => rfl, Nat.zero_le _, rfl⟩
    rotate_left
    · intro p hp
      rcases List.mem_cons.mp hp with rfl | hp
      · refine ⟨?_, hLI.symm, ?_⟩
        · rw [hI]; exact Heap.get?_push_size _ hfr
        · cases e : g.get? I with
          | none => rfl
          | some o => exact absurd (Heap.lt_size (F.keep _ _ e)) (by rw [hI]; exact Nat.lt_irrefl _)
      · exact ⟨push _ _ (N p hp).1, (N p hp).2⟩
    rintro k s' ⟨g, h', tk, m', i, oI', rfl, hst', M', F', N', hm', hi, rfl⟩
    have gI : g.get? I = none := (N' _ (.head _)).2.2
    have next : ∀ h₁ : Heap, (∀ b o, b ∉ [I] → h'.get? b = some o → h₁.get? b = some o) → Fr g env.locals h₁ m' ∧ News g env.locals h₁ news := fun h₁ hk₁ =>
      ⟨⟨F'.ns.at' fun o e => hk₁ _ o (by simpa using hLI) e, fun b o e => hk₁ b o (fun hm => by rw [List.mem_singleton.mp hm, gI] at e; cases e) (F'.keep b o e), F'.above⟩,
        fun p hp => ⟨hk₁ _ _ (fun hm => hnI p hp (List.mem_singleton.mp hm)) (N' p (.tail _ hp)).1, (N' p (.tail _ hp)).2⟩⟩
    by_cases hlt : i < items.size
    · refine W.item i _ _ _ hlt hst' fun v h₁ tk₁ hPv hst₁ hk₁ => ?_
      obtain ⟨F₁, N₁⟩ := next h₁ hk₁
      refine wpAny_assign_Name (wpAny_storeName_local hx F₁.ns (fun h₂ hn₂ hs₂ => ?_) hp)
      have F₂ := F₁.set hn₂ hs₂
      have N₂ := N₁.set hs₂
      have hst₂ : St (i + 1) h₂ := W.frame _ _ _ hst₁ fun b hb o e => (hs₂.2 b fun q => hLf (q ▸ hb)).trans e
      obtain ⟨oI2, hoI2⟩ := hlive _ _ hst₂
      have N₃ : News g env.locals h₂ ((I, oI2) :: news) := fun p hp => by
        rcases List.mem_cons.mp hp with rfl | hp
        · exact ⟨hoI2, hLI.symm, gI⟩
        · exact N₂ p hp
      have eF : (fun y => if y = x then some v else m' y) = fun z => if z = x then some v else if stored.contains z then m' z else m₀ z := by
        funext z
        by_cases hz : z = x
        · simp [hz]
        · simp only [if_neg hz]
          cases hc : stored.contains z with
          | true => simp
          | false => simp [hm' z hc]
      rw [eF] at F₂
      refine wpAny_passesOwn hE (wpAny_mono (turn v g m' I oI2 h₂ _ (hP i v hPv) M' F₂ N₃ hnI) (fun f s₃ h₃ => ?_) fun _ _ e => e)
      have go : MoveEnd Mv env.locals news stored m₀ (I, oI2) s₁ s₃ → ∃ m, m < items.size + 1 - i ∧ ∃ g h' tk m' i oI', s₃ = { s₁ with heap := h', toks := tk } ∧ St i h' ∧ Mv g ∧ Fr g env.locals h' m' ∧ News g env.locals h' ((I, oI') :: news) ∧ (∀ z, stored.contains z = false → m' z = m₀ z) ∧ i ≤ items.size ∧ m = items.size + 1 - i := by
        rintro ⟨g', m2, h3, tk3, rfl, M3, F3, N3, e3⟩
        refine ⟨items.size + 1 - (i + 1), by omega, g', h3, tk3, m2, i + 1, oI2, rfl, ?_, M3, F3, N3, e3, hlt, rfl⟩
        refine W.frame _ { s₁ with heap := h₂ }.heap _ hst₂ fun b hb o e => ?_
        rcases List.mem_cons.mp hb with rfl | hb
        · have : oI2 = o := by have := hoI2; rw [e] at this; exact (Option.some.inj this).symm
          exact this ▸ (N3 _ (.head _)).1
        · have hb' := List.mem_singleton.mp hb
          subst hb'
          have q := (N₃ _ (.tail _ hax)).1
          have : oax = o := by rw [e] at q; exact (Option.some.inj q).symm
          exact this ▸ (N3 _ (.tail _ hax)).1
      cases f with
      | ret v => exact h₃
      | brk => exact h₃
      | cont => exact go h₃
      | next => exact go h₃
    · have hin : i = items.size := by omega
      subst hin
      refine W.done _ _ _ hst' fun h₁ tk₁ hk₁ => wpAny_execs_nil ?_
      obtain ⟨F₁, N₁⟩ := next h₁ hk₁
      have eF : m' = fun z => if stored.contains z then m' z else m₀ z := by
        funext z
        cases hc : stored.contains z with
        | true => simp
        | false => simp [hm' z hc]
      rw [eF] at F₁
      exact done g m' h₁ tk₁ M' F₁ N₁
  have hne : ax ≠ s₁.heap.objs.size := Nat.ne_of_lt (Heap.lt_size (N _ hax).1)
  rcases hcls with hc | hc
  · have hl : s₁.heap.IsList ax items := ⟨oax, (N _ hax).1, hc, hd⟩
    refine wpAny_pyIter_list hl ?_
    exact key _ _ _ _ rfl rfl (Walks.list hh s₁.heap.objs.size ax hne items) (fun i v hv => Array.mem_of_getElem? hv) ⟨⟨_, Heap.get?_push_size _ rfl, rfl, rfl⟩, hl.at fun o e => Heap.get?_push_of_some _ e⟩ fun i h st => let ⟨o, ho, _⟩ := st.1; ⟨o, ho⟩
  · have hl : s₁.heap.IsTuple ax items := ⟨oax, (N _ hax).1, hc, hd⟩
    refine wpAny_pyIter_tuple hl ?_
    exact key _ _ _ _ rfl rfl (Walks.tuple hh s₁.heap.objs.size ax hne items) (fun i v hv => Array.mem_of_getElem? hv) ⟨⟨_, Heap.get?_push_size _ rfl, rfl, rfl⟩, hl.at fun o e => Heap.get?_push_of_some _ e⟩ fun i h st => let ⟨o, ho, _⟩ := st.1; ⟨o, ho⟩
end
end
-- L1
section
open PySem PySem.W PyProof.Rows
set_option maxRecDepth 100000
set_option maxHeartbeats 4000000
noncomputable def b1List : List Int := [173, 847, 6150, 6155, 6156, 6157, 8203, 8204, 8205, 8288, 65279, 65024, 65025, 65026, 65027, 65028, 65029, 65030, 65031, 65032, 65033, 65034, 65035, 65036, 65037, 65038, 65039]
noncomputable def inB1 (c : Int) : Bool := b1List.contains c

theorem intHash (w : World) (k : Int) : (intKind prog w).hash k = hashInt k := by unfold intKind; rfl
noncomputable def keyOf : Value → Int
  | .int k _ => k
  | _ => -1
noncomputable def elOk (e : Int × Value) : Bool := match e.2 with
  | .int k _ => decide (e.1 = hashInt k)
  | _ => false
theorem els_of {w : World} {es : List (Int × Value)} (h : es.all elOk = true) : ElemsOf (intKind prog w) es := by
  intro e he
  obtain ⟨a, v⟩ := e
  have := List.all_eq_true.mp h _ he
  unfold elOk at this
  dsimp only at this
  split at this
  · rename_i k t
    exact ⟨⟨k, beq_self_eq_true _, (of_decide_eq_true this).trans (intHash w k).symm⟩, rfl⟩
  · cases this
theorem is_of {w : World} {es : List (Int × Value)} (h : es.all elOk = true) (h1 : b1List.all (fun k => (es.map fun e => keyOf e.2).contains k) = true) (h2 : (es.map fun e => keyOf e.2).all b1List.contains = true) (k : Int) : inB1 k = true ↔ ∃ e ∈ es, (intKind prog w).is k e.2 = true := by
  constructor
  · intro hk
    have hk : k ∈ b1List := List.contains_iff_mem.mp hk
    have := List.contains_iff_mem.mp (List.all_eq_true.mp h1 k hk)
    obtain ⟨e, he, e2⟩ := List.mem_map.mp this
    refine ⟨e, he, ?_⟩
    have ok := List.all_eq_true.mp h _ he
    unfold elOk at ok
    split at ok
    · rename_i k' t hv
      rw [hv] at e2 ⊢
      exact beq_iff_eq.mpr e2
    · cases ok
  · rintro ⟨e, he, hk⟩
    have ok := List.all_eq_true.mp h _ he
    unfold elOk at ok
    split at ok
    · rename_i k' t hv
      rw [hv] at hk
      have hk : k' = k := beq_iff_eq.mp hk
      have := List.all_eq_true.mp h2 k (List.mem_map.mpr ⟨e, he, by rw [hv]; exact hk⟩)
      exact this
    · cases ok
theorem b1_set_of {w : World} {h : Heap} (X : (K w.params).In h) : h.SetOf (intKind prog w) 124 inB1 27 :=
  ⟨_, _, _, _, X 124 _ rfl, ⟨rfl, rfl, rfl⟩, rfl, els_of (by decide +kernel), is_of (by decide +kernel) (by decide +kernel) (by decide +kernel), by decide, rfl, rfl⟩
theorem b1_in {w : World} {A : Around} {E : Value → Shared → Prop} {s : Shared} {h₀ : Heap} {L : Addr} {m : Str → Option Value} {c : Int} {t : Tok} {Q : Value → Shared → Prop} (F : Fr h₀ L s.heap m) (X : (K w.params).In h₀)
    (h : Q (.bool (inB1 c)) { s with toks := s.toks + 1 }) : wpAny (model prog w) A (compareOp .In (.int c t) (.ref 124)) Q E s :=
  wpAny_inSet_of (knd := intKind prog w) (k := c) (beq_self_eq_true _) rfl (b1_set_of (X.keeps F.keep)) h
end
-- D1
section
open PySem PySem.W PyProof.Rows
set_option maxRecDepth 100000
set_option maxHeartbeats 4000000
local macro_rules | `(tactic| walk_at "compareOp In int ref") => `(tactic| (k_here; (with_reducible show wpAny _ _ (compareOp CmpOp.In (Value.int _ _) (Value.ref 124)) _ _ _); k_dflt (refine' b1_in ?k1 ?k2 ?_; (case k1 => k_asm); (case k2 => k_asm); k_whole)))
theorem con_inb1 (w : World) (c : Nat) (t : Tok) : ConP w 134 [.str ⟨#[c]⟩ t] 1 16 (fun v => v = .bool (inB1 c)) := by
  unfold ConP prog
  k_fill
  intro p loose mean mg mb dp un gd cn cs a ccd cl outer A₀ base h₀ L m news s Q E B F X N T hk hd hu hret
  have cE₀ := InElt.start s.heap
  refine wpAny_call ?_
  k_dflt (refine' code_defG ?k1 ?k2 ?k3 ?k4 ?k5 ?kA ?kF ?kK ?k6 ?k7 ?k8 ?k9 ?kB ?_ ?c2 ?c3 ?c4 ?c5; (case kA => exact rfl); (case kF => exact rfl); (case kK => assumption); (case k1 => k_asm); (case k2 => k_asm); (case k3 => k_asm); (case k4 => k_asm); (case k5 => k_asm); (case k6 => k_is); (case k7 => k_is); (case k8 => ktr_room); (case k9 => first | exact BindsTo.of_eq rfl | exact binds_K (by k_in) rfl (by k_is) rfl rfl rfl); (case c5 => decide); (case kB => exact locs rfl); (case c2 => exact rfl); (case c3 => exact rfl); (case c4 => exact rfl); k_whole; intro g' L' h' FG' F' N' B' X' T' kG'; (try dsimp only); (try k_lift B'); (try k_fold))
  k_steps
  all_goals (refine' retP hret ?e1 ?e2 ?e3 ?e4; (case e2 => k_asm); (case e3 => first | k_asm | (refine' cb_drop ?cbN ?cbS; (case cbN => assumption); (case cbS => kcj_all))); (case e4 => assumption); (case e1 => exact rfl))
end
-- L2
section
open PySem PySem.W PyProof.Rows
set_option maxRecDepth 100000
set_option maxHeartbeats 4000000
noncomputable def b3Find (c : Int) : List (Int × Str) → Option Str
  | [] => none
  | (k, x) :: r => if k = c then some x else b3Find c r
noncomputable def b3At (c : Int) : Option Str := b3Find c b3Pairs

noncomputable def b3Data : List (PyData × PyData) := b3Pairs.map fun p => (PyData.int p.1, PyData.str p.2)
theorem lookup_b3 (c : Int) : ∀ l : List (Int × Str), Spec.lookup (.int c) (l.map fun p => (PyData.int p.1, PyData.str p.2)) = (b3Find c l).map PyData.str
  | [] => rfl
  | (k, x) :: r => by
    rw [List.map_cons, Spec.lookup, lookup_b3 c r, b3Find]
    by_cases h : k = c
    · subst h; simp [Spec.same]
    · have : ¬ c = k := fun e => h e.symm
      simp [h, Spec.same]
noncomputable def rising : Int → List Int → Bool
  | _, [] => true
  | a, b :: r => decide (a < b) && rising b r
theorem rising_nodup : ∀ (l : List Int) (a : Int), rising a l = true → (∀ x ∈ l, a < x) ∧ l.Nodup
  | [], _, _ => ⟨by simp, List.nodup_nil⟩
  | b :: r, a, h => by
    simp only [rising, Bool.and_eq_true, decide_eq_true_eq] at h
    obtain ⟨i, n⟩ := rising_nodup r b h.2
    refine ⟨?_, List.nodup_cons.mpr ⟨fun m => by have := i b m; omega, n⟩⟩
    intro x m
    rcases List.mem_cons.mp m with e | m
    · subst e; exact h.1
    · have := i x m; omega
theorem b3_rising : rising 0 (b3Pairs.map fun p => p.1) = true := by kernel_rfl
theorem b3_tab {w : World} {h : Heap} (X : (K w.params).In h) : IntTab prog w h 135 b3Data := by
  have n : ((b3Pairs.map fun p => (p.1, PyData.str p.2)).map (·.1)).Nodup := by
    rw [List.map_map]; exact (rising_nodup _ _ b3_rising).2
  have l : KTD.keyedLook (fun b => (K w.params).lookup b) 135 (b3Pairs.map fun p => (p.1, PyData.str p.2)) = true := by
    unfold KTD.keyedLook
    rw [decide_eq_true n]
    kernel_rfl
  have e := PySem.W.kt_keyed_in (K := K w.params) (a := 135) X l
  have q := e prog w
  rw [List.map_map] at q
  exact q
theorem b3_method {w : World} {A : Around} {E : Value → Shared → Prop} {s : Shared} {h₀ : Heap} {L : Addr} {m : Str → Option Value} {pl : Sem Bool} {Q : Value × List Value → Shared → Prop} (F : Fr h₀ L s.heap m) (X : (K w.params).In h₀)
    (h : Q (.builtin "dict.get", [.ref 135]) s) : wpAny (model prog w) A (getMethod (.ref 135) (Str.ofString "get") pl) Q E s :=
  getMethod_intTab_get (b3_tab (X.keeps F.keep)) h
theorem b3_get {w : World} {A : Around} {E : Value → Shared → Prop} {s : Shared} {h₀ : Heap} {L : Addr} {m : Str → Option Value} {c : Int} {t : Tok} {Q : Value → Shared → Prop} (F : Fr h₀ L s.heap m) (X : (K w.params).In h₀)
    (hn : b3At c = none → Q .none { s with toks := s.toks + 1 }) (hs : ∀ x u, b3At c = some x → Q (.str x u) { s with toks := s.toks + 1 }) :
    wpAny (model prog w) A (call (.builtin "dict.get") [.ref 135, .int c t]) Q E s :=
  call_get1_intTab (b3_tab (X.keeps F.keep)) fun v hv => by
    have q : Spec.lookup (.int c) b3Data = (b3At c).map PyData.str := lookup_b3 c b3Pairs
    rw [q] at hv
    cases e : b3At c with
    | none => rw [e] at hv; have hv' : PyProof.V.Flat v .none := hv; rw [hv'.none_inv]; exact hn e
    | some x => rw [e] at hv; obtain ⟨u, rfl⟩ := PyProof.V.Flat.str_inv hv; exact hs x u e
end
-- D2
section
open PySem PySem.W PyProof.Rows
set_option maxRecDepth 100000
set_option maxHeartbeats 4000000
local macro_rules | `(tactic| walk_at "getMethod ref") => `(tactic| (k_here; (with_reducible show wpAny _ _ (getMethod (Value.ref 135) (Str.ofString "get") _) _ _ _); k_dflt (refine' b3_method ?k1 ?k2 ?_; (case k1 => k_asm); (case k2 => k_asm); k_whole)))
local macro_rules | `(tactic| walk_at "call builtin:dict.get") => `(tactic| (k_here; k_dflt (refine' b3_get ?k1 ?k2 ?_ ?_; (case k1 => k_asm); (case k2 => k_asm); k_whole); (case' _ => intro hb3); ( try intro u hb3)))
local macro_rules | `(tactic| walk_at "call builtin:str.lower") => `(tactic| (k_here; (dsimp only); refine SCL.lower (by show (1 : Nat) ≤ _; decide) ?_; intro _))
noncomputable def map3 (c : Nat) : Str := match b3At c with
  | some x => x
  | none => Txt.lower ⟨#[c]⟩
theorem map3_some {c : Nat} {x : Str} (h : b3At c = some x) (t : Tok) : IsStr (map3 c) (.str x t) := by unfold map3; rw [h]; exact ⟨t, rfl⟩
theorem map3_none {c : Nat} (h : b3At c = none) (t : Tok) : IsStr (map3 c) (.str (Txt.lower ⟨#[c]⟩) t) := by unfold map3; rw [h]; exact ⟨t, rfl⟩
theorem con_map3 (w : World) (c : Nat) (t : Tok) : ConP w 180 [.str ⟨#[c]⟩ t] 1 16 (IsStr (map3 c)) := by
  unfold ConP prog
  k_fill
  intro p loose mean mg mb dp un gd cn cs a ccd cl outer A₀ base h₀ L m news s Q E B F X N T hk hd hu hret
  have cE₀ := InElt.start s.heap
  refine wpAny_call ?_
  k_dflt (refine' code_defG ?k1 ?k2 ?k3 ?k4 ?k5 ?kA ?kF ?kK ?k6 ?k7 ?k8 ?k9 ?kB ?_ ?c2 ?c3 ?c4 ?c5; (case kA => exact rfl); (case kF => exact rfl); (case kK => assumption); (case k1 => k_asm); (case k2 => k_asm); (case k3 => k_asm); (case k4 => k_asm); (case k5 => k_asm); (case k6 => k_is); (case k7 => k_is); (case k8 => ktr_room); (case k9 => first | exact BindsTo.of_eq rfl | exact binds_K (by k_in) rfl (by k_is) rfl rfl rfl); (case c5 => decide); (case kB => exact locs rfl); (case c2 => exact rfl); (case c3 => exact rfl); (case c4 => exact rfl); k_whole; intro g' L' h' FG' F' N' B' X' T' kG'; (try dsimp only); (try k_lift B'); (try k_fold))
  k_steps
  all_goals (refine' retP hret ?e1 ?e2 ?e3 ?e4; (case e2 => k_asm); (case e3 => first | k_asm | (refine' cb_drop ?cbN ?cbS; (case cbN => assumption); (case cbS => kcj_all))); (case e4 => assumption); (case e1 => first | exact map3_none (by assumption) _ | exact map3_some (by assumption) _))
theorem b3_lens : ∀ p ∈ b3Pairs, p.2.length ≤ 4 := by decide +kernel
theorem b3Find_mem {c : Int} {x : Str} : ∀ {l : List (Int × Str)}, b3Find c l = some x → (c, x) ∈ l
  | [], h => by cases h
  | (k, y) :: r, h => by
    unfold b3Find at h
    split at h
    · rename_i e; cases h; subst e; exact .head _
    · exact .tail _ (b3Find_mem h)
theorem lower_one (c : Nat) : (Txt.lower ⟨#[c]⟩).cps = (Unicode.lowerAt #[c] 0).toArray := by
  show placed ⟨#[c]⟩ _ = _
  simp [placed]
theorem map3_len (c : Nat) : (map3 c).length ≤ 4 := by
  unfold map3
  split
  · rename_i x e; exact b3_lens _ (b3Find_mem e)
  · show (Txt.lower ⟨#[c]⟩).cps.size ≤ 4
    rw [lower_one, List.size_toArray]
    exact Nat.le_trans (PySem.StrLaws.lowerAt_le3 _ _) (by decide)
end
-- E1
section
open PySem PySem.W PyProof.Rows
set_option maxRecDepth 100000
set_option maxHeartbeats 4000000
local macro_rules | `(tactic| walk_at "call ref") => `(tactic| (k_here; (with_reducible show wpAny _ _ (call (Value.ref 134) [Value.str _ _]) _ _ _); k_dflt (refine' ConP.useA (con_inb1 _ _ _) ?_; k_whole); intro v' h' tk' hv' F' N' E'; subst hv'))
local macro_rules | `(tactic| walk_at "call ref") => `(tactic| (k_here; (with_reducible show wpAny _ _ (call (Value.ref 180) [Value.str _ _]) _ _ _); k_dflt (refine' ConP.useA (con_map3 _ _ _) ?_; k_whole); intro v' h' tk' hv' F' N' E'; obtain ⟨t', hv'⟩ := hv'; subst hv'))
noncomputable def sig (k : Str) : Nat := k.cps.getD 0 0
local macro_rules | `(tactic| walk_at "eval ListComp") => `(tactic| (k_here; (refine' comp_text (fun k => !inB1 (sig k)) (fun k => .str (map3 (sig k))) ?hF ?hh ?hclos ?hcell ?hkind ?hnames ?hx (textPack ?_) ?hs); (case hF => k_asm); (case hh => with_unfolding_all rfl); (case hclos => with_unfolding_all rfl); (case hcell => decide); (case hkind => with_unfolding_all rfl); (case hnames => decide); (case hx => with_unfolding_all rfl); (case hs => intro _; with_unfolding_all rfl)))
local macro_rules | `(tactic| walk_at "TextPack") => `(tactic| (refine TextPack.intro ?_; (rename Fr _ _ _ _ => F'); (rename News _ _ _ _ => N'); (with_unfolding_all refine ⟨_, _, _, rfl, by (rw [sizeLine_eq]; omega), F', N', ?_, ?_, ?_⟩); (first | (intro C' c' u' s' m' E' hC' hc' hn' hm' hk'; have Fc' := frInComp hn' hk' hC'; refine wpAny_leafK ?_) | skip); (rotate_left); (first | (intro C' c' u' s' m' E' hC' hc' hp' hn' hm' hk'; have Fc' := frInComp hn' hk' hC'; refine wpAny_leafK ?_) | skip); (rotate_left); (intro D' ys' h' tk' F' N' kk' hD' hl' hpl' Y'); (rotate_left)))
local macro_rules | `(tactic| walk_at "Keeps") => `(tactic| exact keeps_elt (by assumption))
local macro_rules | `(tactic| walk_at "Carried") => `(tactic| exact carried_str _ _)
local macro_rules | `(tactic| walk_at "call builtin:str.join") => `(tactic| (k_here; (with_reducible rename CarriedAll _ _ => hc'); refine join_comp (g := fun k => map3 (sig k)) (by assumption) hc' (fun _ => map3_len _) (signs_filter_len _ _ (by omega)) (by decide) ?_; intro _ _))
/-- what _law_prepared makes of a text -/
noncomputable def prep (x : Str) : Str := Txt.join (Str.ofString "") (((signs x).filter fun k => !inB1 (sig k)).map fun k => map3 (sig k))
theorem con_prepared (w : World) (x : Str) (hx : x.length ≤ 100) (t : Tok) : ConP w 206 [.str x t] 2 40 (IsStr (prep x)) := by
  unfold ConP prog
  k_fill
  intro p loose mean mg mb dp un gd cn cs a ccd cl outer A₀ base h₀ L m news s Q E B F X N T hk hd hu hret
  have cE₀ := InElt.start s.heap
  refine wpAny_call ?_
  k_dflt (refine' code_defG ?k1 ?k2 ?k3 ?k4 ?k5 ?kA ?kF ?kK ?k6 ?k7 ?k8 ?k9 ?kB ?_ ?c2 ?c3 ?c4 ?c5; (case kA => exact rfl); (case kF => exact rfl); (case kK => assumption); (case k1 => k_asm); (case k2 => k_asm); (case k3 => k_asm); (case k4 => k_asm); (case k5 => k_asm); (case k6 => k_is); (case k7 => k_is); (case k8 => ktr_room); (case k9 => first | exact BindsTo.of_eq rfl | exact binds_K (by k_in) rfl (by k_is) rfl rfl rfl); (case c5 => decide); (case kB => exact locs rfl); (case c2 => exact rfl); (case c3 => exact rfl); (case c4 => exact rfl); k_whole; intro g' L' h' FG' F' N' B' X' T' kG'; (try dsimp only); (try k_lift B'); (try k_fold))
  k_steps
  all_goals (refine' retP hret ?e1 ?e2 ?e3 ?e4; (case e2 => k_asm); (case e3 => first | k_asm | (refine' cb_drop ?cbN ?cbS; (case cbN => assumption); (case cbS => kcj_all))); (case e4 => assumption); (case e1 => exact ⟨_, rfl⟩))
end
-- L3
section
open PySem PySem.W PyProof.Rows
set_option maxRecDepth 100000
@[irreducible] def memI (c : Int) (ns : List Int) : Bool := ns.any (· == c)
theorem memI_iff {c : Int} {ns : List Int} : memI c ns = true ↔ c ∈ ns := by
  unfold memI
  rw [List.any_eq_true]
  constructor
  · rintro ⟨x, hx, e⟩; rw [← eq_of_beq e]; exact hx
  · intro h; exact ⟨c, h, beq_self_eq_true c⟩
theorem in_tuple_mem {prog : Program} {w : World} {A : Around} {E : Value → Shared → Prop} {s : Shared} {t : Addr} {items : Array Value} {ns : List Int} {x : Int} {u : Tok} {Q : Value → Shared → Prop} (ht : IsTup s.heap t items) (hi : IntsAre items.toList ns)
    (h : Q (.bool (memI x ns)) s) : wpAny (model prog w) A (compareOp .In (.int x u) (.ref t)) Q E s :=
  in_tuple_ints ht hi (by unfold memI at h; exact h)
end
-- D3
section
open PySem PySem.W PyProof.Rows
set_option maxRecDepth 100000
set_option maxHeartbeats 4000000
local macro_rules | `(tactic| walk_at "spliced") => `(tactic| (k_here; refine ints_args rfl ?_; intro f' k'; dsimp only [constVs_cons, constVs_nil]))
local macro_rules | `(tactic| walk_at "compareOp In int ref") => `(tactic| refine in_tuple_mem (by exact News.isTup (by assumption) (by first | exact .head _ | exact .tail _ (.head _))) (by (repeat constructor)) ?_)
noncomputable def aloneAt (c : Int) : Option Str :=
  if c = 8450 then some (Str.ofString "c") else if c = 8492 then some (Str.ofString "b") else if c = 8493 then some (Str.ofString "c") else if c = 8496 then some (Str.ofString "e")
  else if c = 8497 then some (Str.ofString "f") else if c = 8517 then some (Str.ofString "d") else if c = 13256 then some (Str.ofString "db") else if c = 64256 then some (Str.ofString "ff") else none
noncomputable def lawPiece (c : Int) : Option Str :=
  if c < 128 then
    if Txt.find (Str.ofString "0123456789abcdefABCDEF") ⟨#[c.toNat]⟩ < 0 then none
    else some (Txt.item (Str.ofString "0123456789abcdefabcdef") (Txt.find (Str.ofString "0123456789abcdefABCDEF") ⟨#[c.toNat]⟩))
  else if 119808 ≤ c ∧ c < 120484 then
    if 5 < (c - 119808).fmod 52 then none
    else if memI c [119965, 119968, 119969, 120070, 120122] = true then none
    else some (Txt.item (Str.ofString "abcdef") ((c - 119808).fmod 52))
  else if 65024 ≤ c ∧ c < 65040 then some (Str.ofString "")
  else if memI c [173, 847, 6150, 6155, 6156, 6157, 8203, 8204, 8205, 8288, 65279] = true then some (Str.ofString "")
  else aloneAt c
theorem find_lt (c : Int) (h0 : 0 ≤ c) (h : c < 128) : Txt.find (Str.ofString "0123456789abcdefABCDEF") ⟨#[c.toNat]⟩ < 22 := by
  have key : ∀ n : Fin 128, Txt.find (Str.ofString "0123456789abcdefABCDEF") ⟨#[n.val]⟩ < 22 := by decide +kernel
  exact key ⟨c.toNat, by omega⟩
section
variable {c : Int}
theorem pA1 (h0 : c < 128) (h : Txt.find (Str.ofString "0123456789abcdefABCDEF") ⟨#[c.toNat]⟩ < 0) : Told .none (lawPiece c) := by
  unfold lawPiece; rw [if_pos h0, if_pos h]; exact rfl
theorem pA2 (h0 : c < 128) (h : ¬ Txt.find (Str.ofString "0123456789abcdefABCDEF") ⟨#[c.toNat]⟩ < 0) (t : Tok) :
    Told (.str (Txt.item (Str.ofString "0123456789abcdefabcdef") (Txt.find (Str.ofString "0123456789abcdefABCDEF") ⟨#[c.toNat]⟩)) t) (lawPiece c) := by
  unfold lawPiece; rw [if_pos h0, if_neg h]; exact ⟨t, rfl⟩
theorem pB1 (h0 : 128 ≤ c) (h1 : 119808 ≤ c) (h2 : c < 120484) (h3 : 5 < (c - 119808).fmod 52) : Told .none (lawPiece c) := by
  unfold lawPiece; rw [if_neg (by omega), if_pos ⟨h1, h2⟩, if_pos h3]; exact rfl
theorem pB2 (h0 : 128 ≤ c) (h1 : 119808 ≤ c) (h2 : c < 120484) (h3 : ¬ 5 < (c - 119808).fmod 52) (h4 : memI c [119965, 119968, 119969, 120070, 120122] = true) : Told .none (lawPiece c) := by
  unfold lawPiece; rw [if_neg (by omega), if_pos ⟨h1, h2⟩, if_neg h3, if_pos h4]; exact rfl
theorem pB3 (h0 : 128 ≤ c) (h1 : 119808 ≤ c) (h2 : c < 120484) (h3 : ¬ 5 < (c - 119808).fmod 52) (h4 : memI c [119965, 119968, 119969, 120070, 120122] = false) (t : Tok) : Told (.str (Txt.item (Str.ofString "abcdef") ((c - 119808).fmod 52)) t) (lawPiece c) := by
  unfold lawPiece; rw [if_neg (by omega), if_pos ⟨h1, h2⟩, if_neg h3, if_neg (by rw [h4]; exact Bool.false_ne_true)]; exact ⟨t, rfl⟩
theorem pC1 (h0 : 128 ≤ c) (h1 : 65024 ≤ c) (h2 : c < 65040) (t : Tok) : Told (.str (Str.ofString "") t) (lawPiece c) := by
  unfold lawPiece; rw [if_neg (by omega), if_neg (by omega), if_pos ⟨h1, h2⟩]; exact ⟨t, rfl⟩
theorem pC2 (h0 : 128 ≤ c) (hB : ¬ (119808 ≤ c ∧ c < 120484)) (h3 : memI c [173, 847, 6150, 6155, 6156, 6157, 8203, 8204, 8205, 8288, 65279] = true) (t : Tok) : Told (.str (Str.ofString "") t) (lawPiece c) := by
  unfold lawPiece; rw [if_neg (by omega), if_neg hB]
  by_cases h : 65024 ≤ c ∧ c < 65040
  · rw [if_pos h]; exact ⟨t, rfl⟩
  · rw [if_neg h, if_pos h3]; exact ⟨t, rfl⟩
theorem pD (h0 : 128 ≤ c) (hB : ¬ (119808 ≤ c ∧ c < 120484)) (hC : ¬ (65024 ≤ c ∧ c < 65040)) (h3 : memI c [173, 847, 6150, 6155, 6156, 6157, 8203, 8204, 8205, 8288, 65279] = false) {v : Value} (h : Told v (aloneAt c)) : Told v (lawPiece c) := by
  unfold lawPiece; rw [if_neg (by omega), if_neg hB, if_neg hC, if_neg (by rw [h3]; exact Bool.false_ne_true)]; exact h
theorem aN (n1 : ¬ c = 8450) (n2 : ¬ c = 8492) (n3 : ¬ c = 8493) (n4 : ¬ c = 8496) (n5 : ¬ c = 8497) (n6 : ¬ c = 8517) (n7 : ¬ c = 13256) (n8 : ¬ c = 64256) : Told .none (aloneAt c) := by
  unfold aloneAt; rw [if_neg n1, if_neg n2, if_neg n3, if_neg n4, if_neg n5, if_neg n6, if_neg n7, if_neg n8]; exact rfl
theorem aN' (h : 64257 ≤ c) : Told .none (aloneAt c) := aN (by omega) (by omega) (by omega) (by omega) (by omega) (by omega) (by omega) (by omega)
theorem aS {d : Int} {x : Str} (e : c = d) (h : aloneAt d = some x) (t : Tok) : Told (.str x t) (aloneAt c) := by
  subst e; rw [h]; exact ⟨t, rfl⟩
end
theorem con_pieceA (w : World) (c : Int) (h0 : 0 ≤ c) (hc : c < 128) (t : Tok) : ConP w 201 [.int c t] 1 16 (fun v => Told v (lawPiece c)) := by
  unfold ConP prog
  k_fill
  intro p loose mean mg mb dp un gd cn cs a ccd cl outer A₀ base h₀ L m news s Q E B F X N T hk hd hu hret
  have cE₀ := InElt.start s.heap
  have hfl := find_lt c h0 hc
  refine wpAny_call ?_
  k_dflt (refine' code_defG ?k1 ?k2 ?k3 ?k4 ?k5 ?kA ?kF ?kK ?k6 ?k7 ?k8 ?k9 ?kB ?_ ?c2 ?c3 ?c4 ?c5; (case kA => exact rfl); (case kF => exact rfl); (case kK => assumption); (case k1 => k_asm); (case k2 => k_asm); (case k3 => k_asm); (case k4 => k_asm); (case k5 => k_asm); (case k6 => k_is); (case k7 => k_is); (case k8 => ktr_room); (case k9 => first | exact BindsTo.of_eq rfl | exact binds_K (by k_in) rfl (by k_is) rfl rfl rfl); (case c5 => decide); (case kB => exact locs rfl); (case c2 => exact rfl); (case c3 => exact rfl); (case c4 => exact rfl); k_whole; intro g' L' h' FG' F' N' B' X' T' kG'; (try dsimp only); (try k_lift B'); (try k_fold))
  k_steps
  all_goals (refine' retP hret ?e1 ?e2 ?e3 ?e4; (case e2 => k_asm); (case e3 => first | k_asm | (refine' cb_drop ?cbN ?cbS; (case cbN => assumption); (case cbS => kcj_all))); (case e4 => assumption); (case e1 => first | exact pA1 (by assumption) (by assumption) | exact pA2 (by assumption) (by assumption) _))
theorem con_pieceB (w : World) (c : Int) (h0 : 128 ≤ c) (hc : c < 1114112) (t : Tok) : ConP w 201 [.int c t] 1 16 (fun v => Told v (lawPiece c)) := by
  unfold ConP prog
  k_fill
  intro p loose mean mg mb dp un gd cn cs a ccd cl outer A₀ base h₀ L m news s Q E B F X N T hk hd hu hret
  have cE₀ := InElt.start s.heap
  refine wpAny_call ?_
  k_dflt (refine' code_defG ?k1 ?k2 ?k3 ?k4 ?k5 ?kA ?kF ?kK ?k6 ?k7 ?k8 ?k9 ?kB ?_ ?c2 ?c3 ?c4 ?c5; (case kA => exact rfl); (case kF => exact rfl); (case kK => assumption); (case k1 => k_asm); (case k2 => k_asm); (case k3 => k_asm); (case k4 => k_asm); (case k5 => k_asm); (case k6 => k_is); (case k7 => k_is); (case k8 => ktr_room); (case k9 => first | exact BindsTo.of_eq rfl | exact binds_K (by k_in) rfl (by k_is) rfl rfl rfl); (case c5 => decide); (case kB => exact locs rfl); (case c2 => exact rfl); (case c3 => exact rfl); (case c4 => exact rfl); k_whole; intro g' L' h' FG' F' N' B' X' T' kG'; (try dsimp only); (try k_lift B'); (try k_fold))
  refine execs_cut [_, _] rfl (Midway (¬ (119808 ≤ c ∧ c < 120484)) g' L' (frOf F') news s) ?_ ?_
  · k_steps
    all_goals (first | (refine' retP hret ?e1 ?e2 ?e3 ?e4; (case e2 => k_asm); (case e3 => first | k_asm | (refine' cb_drop ?cbN ?cbS; (case cbN => assumption); (case cbS => kcj_all))); (case e4 => assumption); (case e1 => first | exact pB1 (by assumption) (by assumption) (by assumption) (by assumption) | exact pB2 (by assumption) (by assumption) (by assumption) (by assumption) (by assumption) | exact pB3 (by assumption) (by assumption) (by assumption) (by assumption) (by assumption) _)) | exact ⟨_, _, rfl, by (first | k_asm | assumption), by (first | k_asm | (refine' cb_drop ?cbN ?cbS; (case cbN => assumption); (case cbS => kcj_all))), by first | omega | exact ⟨by omega, by assumption⟩⟩)
  rintro _ ⟨h1, tk, rfl, kF, kN, c1⟩
  dsimp only [frOf] at kF
  refine execs_cut [_] rfl (Midway (¬ (65024 ≤ c ∧ c < 65040) ∧ memI c [173, 847, 6150, 6155, 6156, 6157, 8203, 8204, 8205, 8288, 65279] = false) g' L' (frOf kF) news s) ?_ ?_
  · k_steps
    all_goals (first | (refine' retP hret ?e1 ?e2 ?e3 ?e4; (case e2 => k_asm); (case e3 => first | k_asm | (refine' cb_drop ?cbN ?cbS; (case cbN => assumption); (case cbS => kcj_all))); (case e4 => assumption); (case e1 => first | exact pC1 (by assumption) (by assumption) (by assumption) _ | exact pC2 (by assumption) c1 (by assumption) _)) | exact ⟨_, _, rfl, by (first | k_asm | assumption), by (first | k_asm | (refine' cb_drop ?cbN ?cbS; (case cbN => assumption); (case cbS => kcj_all))), by first | omega | exact ⟨by omega, by assumption⟩⟩)
  rintro _ ⟨h2, tk2, rfl, kF2, kN2, c2, c3⟩
  dsimp only [frOf] at kF2
  clear kF kN
  k_steps
  all_goals (refine' retP hret ?e1 ?e2 ?e3 ?e4; (case e2 => k_asm); (case e3 => first | k_asm | (refine' cb_drop ?cbN ?cbS; (case cbN => assumption); (case cbS => kcj_all))); (case e4 => assumption); (case e1 => exact pD (by assumption) c1 c2 c3 (by first | exact aN (by assumption) (by assumption) (by assumption) (by assumption) (by assumption) (by assumption) (by assumption) (by assumption) | exact aS (by assumption) rfl _)))
theorem con_piece (w : World) (c : Int) (h0 : 0 ≤ c) (hc : c < 1114112) (t : Tok) : ConP w 201 [.int c t] 1 16 (fun v => Told v (lawPiece c)) := by
  rcases Int.lt_or_le c 128 with h | h
  · exact con_pieceA w c h0 h t
  · exact con_pieceB w c h hc t
end
-- W2
section
open PySem PySem.W PyProof.Rows
set_option maxRecDepth 100000
/-- what the caller knows of the ground when it has moved -/
structure Land (w : World) (fs : List Addr) (A₀ : Around) (base : Heap) (outer : List Env) (p : Program) (loose : List Str) (mean : ExcName → Option Value) (mg mb : Str → Option Value) (g₀ g : Heap) : Prop where
  turn : KtsTurn fs g₀ g
  below : Below A₀ base outer g
  kin : (K w.params).In g
  top : Top p loose mean mg mb g
  dicts : KtsDicts fs g
theorem for_moveL {prog : Program} {w : World} {A : Around} {E : Value → Shared → Prop} {s : Shared} {env : Env} {Q : Flow → Shared → Prop} {fs : List Addr} {A₀ : Around} {base : Heap} {outer : List Env} {p : Program} {loose : List Str} {mean : ExcName → Option Value} {mg mb : Str → Option Value} {gg g1 : Heap} (_G : Land w fs A₀ base outer p loose mean mg mb gg g1)
    {x : Str} {px pos : Pos} {iter : PySem.Expr} {body : List Stmt} (stored : List Str) (m₀ : Str → Option Value) {g₀ : Heap}
    (F : Fr g₀ env.locals s.heap m₀) (hxs : stored.contains x = true) (hh : A.handled = none) (hx : env.kindOf x = some .local) (hp : (env.scope.kind == .class || (env.scope.kind == .module && env.locals != env.globals)) = false) (hE : PassesOwn (model prog w) A env E)
    (h : wpAny (model prog w) A (eval iter env) (MoveSrc prog w A E env (Land w fs A₀ base outer p loose mean mg mb gg) stored m₀ x body Q) E s)
    (hs : ∀ x, foldedSetIterable iter env x = pure x) :
    wpAny (model prog w) A (exec (.For (.Name x px) iter body [] pos) env) Q E s := for_move _ stored m₀ F hxs hh hx hp hE h hs
/-- as ConS, of things that the call finds on the ledger -/
noncomputable abbrev ConT (w : World) (f : Addr) (vs : List Value) (d u : Nat) (P : Value → Prop) (R : List (Addr × Obj) → Prop) : Prop :=
  ∀ (p : Program) (loose : List Str) (mean : ExcName → Option Value) (mg mb : Str → Option Value)
    (dp un : Nat) (gd : Option (List Code)) (cn : Str) (cs : Scope) (a : Addr) (ccd : Value) (outer : List Env) (A₀ : Around) (base h₀ g₀ : Heap) (L : Addr) (m : Str → Option Value) (news : List (Addr × Obj)) (s : Shared) (Q E : Value → Shared → Prop),
    Below A₀ base outer h₀ → Fr h₀ L s.heap m → (K w.params).In h₀ → News h₀ L s.heap news → R news → Top p loose mean mg mb h₀ → (K w.params).In base → Top p loose mean mg mb base → KtsDicts (outer.filterMap (·.frame)) h₀ → KtsTurn (outer.filterMap (·.frame)) g₀ h₀ → cs.kind = .function →
    dp + d < recursionLimit → un + u < cLine →
    (∀ (v : Value) (h' g' : Heap) (tk' : Nat), P v → KtsTurn (outer.filterMap (·.frame)) g₀ g' → Fr g' L h' m → News g' L h' news → Below A₀ base outer g' → (K w.params).In g' → Top p loose mean mg mb g' → KtsDicts (outer.filterMap (·.frame)) g' → Q v { s with heap := h', toks := tk' }) →
      wpAny (model prog w) (ktrTop dp un gd cn cs L a ccd [] outer) (call (.ref f) vs) Q E s
theorem ConS.toT {w : World} {f : Addr} {vs : List Value} {d u : Nat} {P : Value → Prop} (C : ConS w f vs d u P) : ConT w f vs d u P fun _ => True :=
  fun p loose mean mg mb dp un gd cn cs a ccd outer A₀ base h₀ g₀ L m news s Q E B F X N _ T XB TB D T0 hk hd hu ret => C p loose mean mg mb dp un gd cn cs a ccd outer A₀ base h₀ g₀ L m news s Q E B F X N T XB TB D T0 hk hd hu ret
theorem ConT.use {w : World} {f : Addr} {vs : List Value} {d u : Nat} {P : Value → Prop} {R : List (Addr × Obj) → Prop} (C : ConT w f vs d u P R)
    {p : Program} {loose : List Str} {mean : ExcName → Option Value} {mg mb : Str → Option Value}
    {dp un : Nat} {gd : Option (List Code)} {cn : Str} {cs : Scope} {a : Addr} {ccd : Value} {outer : List Env} {A₀ : Around} {base h₀ g₀ : Heap} {L : Addr} {m : Str → Option Value} {news : List (Addr × Obj)} {s : Shared} {Q E : Value → Shared → Prop}
    (F : Fr h₀ L s.heap m) (N : News h₀ L s.heap news) (hR : R news) (G : Land w (outer.filterMap (·.frame)) A₀ base outer p loose mean mg mb g₀ h₀) (XB : (K w.params).In base) (TB : Top p loose mean mg mb base) (hk : cs.kind = .function)
    (hd : dp + d < recursionLimit) (hu : un + u < cLine)
    (ret : ∀ (v : Value) (h' g' : Heap) (tk' : Nat), P v → Land w (outer.filterMap (·.frame)) A₀ base outer p loose mean mg mb g₀ g' → Fr g' L h' m → News g' L h' news → Q v { s with heap := h', toks := tk' }) :
      wpAny (model prog w) (ktrTop dp un gd cn cs L a ccd [] outer) (call (.ref f) vs) Q E s :=
  C p loose mean mg mb dp un gd cn cs a ccd outer A₀ base h₀ g₀ L m news s Q E G.below F G.kin N hR G.top XB TB G.dicts G.turn hk hd hu fun v h' g' tk' hv T F' N' B' X' P' D' => ret v h' g' tk' hv ⟨T, B', X', P', D'⟩ F' N'
theorem ConT.useA {w : World} {f : Addr} {vs : List Value} {d u : Nat} {P : Value → Prop} {R : List (Addr × Obj) → Prop} (C : ConT w f vs d u P R)
    {p : Program} {loose : List Str} {mean : ExcName → Option Value} {mg mb : Str → Option Value}
    {dp un : Nat} {gd : Option (List Code)} {cn : Str} {cs : Scope} {a : Addr} {ccd : Value} {outer : List Env} {A₀ : Around} {base h₀ g₀ : Heap} {L : Addr} {m : Str → Option Value} {news : List (Addr × Obj)} {s : Shared} {Q E : Value → Shared → Prop}
    (hR : R news)
    (ret : ∀ (v : Value) (h' g' : Heap) (tk' : Nat), P v → Land w (outer.filterMap (·.frame)) A₀ base outer p loose mean mg mb g₀ g' → Below A₀ base outer g' → (K w.params).In g' → Top p loose mean mg mb g' → Fr g' L h' m → News g' L h' news → Q v { s with heap := h', toks := tk' })
    (F : Fr h₀ L s.heap m := by k_asm) (N : News h₀ L s.heap news := by k_asm) (G : Land w (outer.filterMap (·.frame)) A₀ base outer p loose mean mg mb g₀ h₀ := by assumption) (XB : (K w.params).In base := by assumption) (TB : Top p loose mean mg mb base := by assumption) (hk : cs.kind = .function := by first | rfl | assumption)
    (hd : dp + d < recursionLimit := by first | k_room | decide) (hu : un + u < cLine := by k_units) :
      wpAny (model prog w) (ktrTop dp un gd cn cs L a ccd [] outer) (call (.ref f) vs) Q E s :=
  C p loose mean mg mb dp un gd cn cs a ccd outer A₀ base h₀ g₀ L m news s Q E G.below F G.kin N hR G.top XB TB G.dicts G.turn hk hd hu fun v h' g' tk' hv T F' N' B' X' P' D' => ret v h' g' tk' hv ⟨T, B', X', P', D'⟩ B' X' P' F' N'
section
variable {prog : Program} {w : World} {A : Around} {E : Value → Shared → Prop} {s : Shared} {h₀ : Heap} {L : Addr} {news : List (Addr × Obj)} {Q : Value → Shared → Prop}
theorem name_comp2 {M : Model} {C : Addr} {m : Str → Option Value} {scope : Scope} {cl : List (Str × Addr)} {env : Env} {x : Str} {pos : Pos} {v : Value} (hn : s.heap.Ns (compEnvC scope cl C env).locals m) (hv : m x = some v) (h : Q v s)
    (hk : (compEnvC scope cl C env).scope.kind = .function) (hx : (compEnvC scope cl C env).kindOf x = some .local) (hb : (x == ("__debug__" : Str)) = false := by decide) :
    wpAny M A (eval (.Name x pos) (compEnvC scope cl C env)) Q E s := wpAny_Name (wpAny_loadName_local hk hx hn hv h) hb
theorem carried_told {v : Value} {o : Option Str} (h : Told v o) : Carried v (pd o) := by
  cases o with
  | none => rw [show v = .none from h]; exact .none
  | some x => obtain ⟨t, rfl⟩ := h; exact .str x t
/-- the sign of a code -/
noncomputable def sgn (c : Int) : Str := ⟨#[c.toNat]⟩
noncomputable def txt (ns : List Int) : Str := cat (ns.map sgn)
noncomputable def pcs (ns : List Int) : List (Option Str) := ns.map lawPiece
theorem filter_true {α β : Type} (as : List α) (d : α → β) : (as.filter fun _ => true).map d = as.map d := by rw [List.filter_eq_self.mpr fun _ _ => rfl]
theorem join_sgn {D : Addr} {ys : List Value} {n : Nat} {ns : List Int} {t : Tok} (N : News h₀ L s.heap news) (hm : (D, W.listOf ys.toArray n) ∈ news) (hc : CarriedAll ys ((ns.filter fun _ => true).map fun c => PyData.str (sgn c))) (hn : ns.length ≤ 100)
    (h : ∀ t' k, Q (.str (txt ns) t') { s with toks := k }) : wpAny (model prog w) A (call (.builtin "str.join") [.str (Str.ofString "") t, .ref D]) Q E s := by
  refine join_texts (qs := ns.map sgn) N hm (by rw [filter_true] at hc; rw [List.map_map]; exact hc) ?_ (by simp; omega) h
  intro k hk
  obtain ⟨c, _, rfl⟩ := List.mem_map.mp hk
  show 1 ≤ 4; decide
theorem notin_pcs {D : Addr} {ys : List Value} {n : Nat} {ps : List (Option Str)} (N : News h₀ L s.heap news) (hm : (D, W.listOf ys.toArray n) ∈ news) (hc : CarriedAll ys (ps.map pd)) (hd : PyData.canLayAll0 (ps.map pd) = true) (hu : A.units + 1 < cLine)
    (h : Q (.bool (decide (none ∉ ps))) s) : wpAny (model prog w) A (compareOp .NotIn .none (.ref D)) Q E s :=
  none_notin (OnLed.isList hm N) hc hd hu (by rw [pd_any]; simpa using h)
noncomputable def somes (ps : List (Option Str)) : List Str := ps.filterMap id
theorem somes_map {ps : List (Option Str)} (h : none ∉ ps) : ps = (somes ps).map some := by
  induction ps with
  | nil => rfl
  | cons p r ih =>
    cases p with
    | none => exact absurd (.head _) h
    | some q =>
      have := ih fun z => h (.tail _ z)
      show some q :: r = some q :: (somes r).map some
      rw [← this]
theorem join_pcs {D : Addr} {ys : List Value} {n : Nat} {ps : List (Option Str)} {t : Tok} (N : News h₀ L s.heap news) (hm : (D, W.listOf ys.toArray n) ∈ news) (hc : CarriedAll ys (ps.map pd)) (hp : GoodP ps) (hn : none ∉ ps)
    (h : ∀ t' k, Q (.str (cat (somes ps)) t') { s with toks := k }) : wpAny (model prog w) A (call (.builtin "str.join") [.str (Str.ofString "") t, .ref D]) Q E s := by
  have e := somes_map hn
  refine join_texts N hm (by rw [e, List.map_map] at hc; exact hc) ?_ ?_ h
  · intro k hk
    exact hp.four k (by rw [e]; exact List.mem_map.mpr ⟨k, hk, rfl⟩)
  · have := hp.len; rw [e] at this; simp at this; omega
theorem ne_same {x y : Str} {t u : Tok} (h : x = y) (hq : Q (.bool false) s) : wpAny (model prog w) A (compareOp .NotEq (.str x t) (.str y u)) Q E s := by
  subst h; refine ne_str ?_; rw [bne_self_eq_false]; exact hq
theorem ne_out {o o' : Out} {v v' : Value} (h : OutIs o v) (h' : OutIs o' v') (e : o = o') (hq : Q (.bool false) s) : wpAny (model prog w) A (compareOp .NotEq v v') Q E s := by
  subst e
  cases o with
  | barred => obtain ⟨t, rfl⟩ := h; obtain ⟨t', rfl⟩ := h'; exact ne_same rfl hq
  | refused => obtain ⟨t, rfl⟩ := h; obtain ⟨t', rfl⟩ := h'; exact ne_same rfl hq
  | oct b =>
    obtain ⟨t, rfl⟩ := h; obtain ⟨t', rfl⟩ := h'
    first | refine ne_bytes ?_ | refine PySem.W.ne_bytes ?_ | refine PySem.FB.ne_bytes ?_
    rw [bne_self_eq_false]; exact hq
end
end
section
open PySem PySem.W PyProof.Rows
local macro_rules | `(tactic| walk_at "ite") => `(tactic| (with_reducible first | refine ite_tt ?_ | refine ite_ff ?_ | refine ite_nt ?_ | refine ite_nf ?_))
local macro_rules | `(tactic| walk_at "eval ListComp") => `(tactic| (k_here; (with_reducible show wpAny _ _ (eval (Expr.ListComp (Expr.Call (Expr.Name (Str.ofString "chr") _) _ _ _) _ _ _) _) _ _ _); (refine' comp_kindA (K := .int) (fun _ => true) (fun k => .str (sgn k)) (textPack ?_))))
local macro_rules | `(tactic| walk_at "eval ListComp") => `(tactic| (k_here; (with_reducible show wpAny _ _ (eval (Expr.ListComp (Expr.Call (Expr.Name (Str.ofString "_law_piece") _) _ _ _) _ _ _) _) _ _ _); (refine' comp_kindA (K := .int) (fun _ => true) (fun k => pd (lawPiece k)) (textPack ?_))))
local macro_rules | `(tactic| walk_at "eval Name") => `(tactic| (k_here; (with_reducible show wpAny _ _ (eval (Expr.Name _ _) (compEnvC _ _ _ _)) _ _ _); k_dflt (refine' name_comp2 ?F ?v ?_ ?a ?b; (case a => rfl); (case b => rfl); (case F => assumption); (case v => assumption); k_whole)))
local macro_rules | `(tactic| walk_at "MovePost") => `(tactic| (dsimp only [MovePost]))
local macro_rules | `(tactic| walk_at "MoveEnd") => `(tactic| exact MoveEnd.sub (by k_asm) (by k_asm) (by (intro p9 h9; (repeat (first | exact h9 | refine List.Mem.tail _ ?_)))) (by assumption) (by (intro z9 h9; (simp only [List.contains_cons, List.contains_nil, Bool.or_false, Bool.or_eq_false_iff, beq_eq_false_iff_ne, ne_eq] at h9); simp [h9])))
local macro_rules | `(tactic| walk_at "MoveSrc") => `(tactic| (refine Stop.of ?_))
local macro_rules | `(tactic| walk_at "call ref") => `(tactic| (k_here; (with_reducible show wpAny _ _ (call (Value.ref 201) [Value.int _ _]) _ _ _); k_dflt (refine' ConP.useA (con_piece _ _ (by omega) (by omega) _) ?_; k_whole); intro v' h' tk' hv' F' N' E'))
local macro_rules | `(tactic| walk_at "exec For Name Name cons nil") => `(tactic| (k_here; refine Stop.of ?_))
local macro_rules | `(tactic| walk_at "exec For Name Tuple cons nil") => `(tactic| (k_here; refine Stop.of ?_))
-- W3
section
open PySem PySem.W PyProof.Rows
set_option maxRecDepth 100000
set_option maxHeartbeats 4000000
theorem rng_at {ns : List Int} {a : Int} (h : ∀ c ∈ ns, 0 ≤ c ∧ c < 1114112) (ha : a ∈ ns) : 0 ≤ a ∧ a < 1114112 := h a ha
theorem carried_sgn (c : Int) (t : Tok) : Carried (.str ⟨#[c.toNat]⟩ t) (.str (sgn c)) := .str _ _
theorem pcs_of {ys : List Value} {ns : List Int} (h : CarriedAll ys ((ns.filter fun _ => true).map fun c => pd (lawPiece c))) : CarriedAll ys ((pcs ns).map pd) := by
  rw [filter_true] at h; unfold pcs; rw [List.map_map]; exact h
/-- a text without strange signs, prepared, is its figures -/
noncomputable def PrepOk (ns : List Int) : Prop := none ∉ pcs ns → prep (txt ns) = cat (somes (pcs ns))
theorem PrepOk.eq {ns : List Int} (h : PrepOk ns) (hn : none ∉ pcs ns) : prep (txt ns) = cat (somes (pcs ns)) := h hn
local macro_rules | `(tactic| walk_at "tp int") => `(tactic| ((rename Fr _ _ _ _ => F'); (rename News _ _ _ _ => N'); (first | (intro C' a' v' s' m' E' hC' ha'; intros; obtain ⟨u', hv''⟩ := ItemKind.int_is (by assumption); subst hv''; (have cF' := Fr.keeps F' (by assumption)); (have cN' := News.grown N' (by assumption)); (have cE' := InElt.start s'.heap); (try (have hr' := rng_at (by assumption) ha')); (try (have hr' := KBw.ints_in ha')); refine wpAny_leafK ?_) | skip)))
local macro_rules | `(tactic| walk_at "TextPack") => `(tactic| (refine TextPack.intro ?_; (rename Fr _ _ _ _ => F'); (rename News _ _ _ _ => N'); (refine' ⟨_, _, src_list ?sh (OnLed.isList ?om N') (IntsAre.areOf ?hi), ?sl, F', N', ?_, ?_, ?_⟩); (case sh => with_unfolding_all rfl); (case om => (unfold OnLed; walk_at "led")); (case hi => assumption); (case sl => rw [sizeLine_eq]; omega); (walk_at "tp int"); (rotate_left); (walk_at "tp int"); (rotate_left); (intro D' ys' n' h' tk' F' N' kk' nn' Y'; (try (have Y2' := vals_ints Y')); (try (have Y3' := pcs_of Y'))); (rotate_left)))
local macro_rules | `(tactic| walk_at "SeqLeaf") => `(tactic| exact SeqLeaf.intro ⟨carried_told (by assumption), keeps_elt (by assumption)⟩)
local macro_rules | `(tactic| walk_at "compareOp NotEq") => `(tactic| (k_here; refine ne_out (by assumption) (by assumption) (by assumption) ?_))
local macro_rules | `(tactic| walk_at "call builtin:str.join") => `(tactic| (k_here; (try dsimp only); first | (refine join_sgn (by k_asm) (by k_mem) (by assumption) (by omega) ?_; intro _ _) | (refine join_pcs (by k_asm) (by k_mem) (by assumption) (by assumption) (by assumption) ?_; intro _ _)))
local macro_rules | `(tactic| walk_at "call ref") => `(tactic| (k_here; (with_reducible show wpAny _ _ (call (Value.ref 206) [Value.str _ _]) _ _ _); k_dflt (refine' ConP.useA (con_prepared _ _ (by assumption) _) ?_; k_whole); intro v' h' tk' hv' F' N' E'; obtain ⟨t', hv'⟩ := hv'; subst hv'))
local macro_rules | `(tactic| walk_at "call ref") => `(tactic| (k_here; (with_reducible show wpAny _ _ (call (Value.ref 213) [Value.str _ _, Value.bool _]) _ _ _); k_dflt (refine' ConT.useA (ConS.toT (con_read _ _ (by omega) _ _)) True.intro ?_; k_whole); intro v' h' g' tk' hv' G' B' X' T' F' N'))
local macro_rules | `(tactic| walk_at "call ref") => `(tactic| (k_here; (with_reducible show wpAny _ _ (call (Value.ref 218) [Value.str _ _, Value.ref _, Value.bool _]) _ _ _); k_dflt (refine' ConR.useA (con_due _ _ (by omega) _ _ _ _ (pcs _) (by assumption) (by assumption) _) ?kR ?_; (case kR => (unfold OnLed; walk_at "led")); k_whole); intro v' h' tk' hv' F' N'))
local macro_rules | `(tactic| walk_at "exec If") => `(tactic| (k_here; (with_reducible show wpAny _ _ (exec (Stmt.If (Expr.BoolOp BoolOp.And [Expr.Compare (Expr.Constant _ _ _) _ _ _, _] _) _ _ _) _) _ _ _); refine' if_join ?F ?N ?_ ?_; (case F => k_asm); (case N => k_asm); (rotate_left); (intro h' tk' F' N'); (rotate_left)))
local macro_rules | `(tactic| walk_at "IfFalse") => `(tactic| exact IfFalse.intro (by k_asm) (by k_asm))
local macro_rules | `(tactic| walk_at "compareOp NotIn none ref") => `(tactic| (k_here; refine notin_pcs (by k_asm) (by k_mem) (by assumption) (by assumption) (by k_units) ?_))
local macro_rules | `(tactic| walk_at "compareOp NotEq str str") => `(tactic| (k_here; refine ne_same (PrepOk.eq (by assumption) (by assumption)) ?_))
theorem con_holds (w : World) (C : Addr) (cs : List Value) (nc : Nat) (ns : List Int) (hi : IntsAre cs ns) (hcd : ∀ c ∈ ns, 0 ≤ c ∧ c < 1114112) (hlen : ns.length ≤ 20) (Wa : Addr) (wo : Obj) (items : Array Value) (hwd : ∃ k, wo.data = .seq items k) (hwc : wo.cls = .type "list" ∨ wo.cls = .type "tuple") (hw : ∀ v ∈ items, ∃ b, v = .bool b)
    (hp : GoodP (pcs ns)) (hJ : PrepOk ns) (hx : (txt ns).length ≤ 100) (hy : (prep (txt ns)).length ≤ 100) (hall : ∀ b, readOf (txt ns) b = dueOf (txt ns) (pcs ns) b ∧ readOf (prep (txt ns)) b = dueOf (prep (txt ns)) (pcs ns) b) :
    ConT w 223 [.ref C, .ref Wa] 10 120 (fun v => v = .bool true) (fun news => OnLed C cs nc news ∧ (Wa, wo) ∈ news) := by
  have hl : PyData.canLayAll0 ((pcs ns).map pd) = true := pd_lay fun q hq c hc => fig_lt (hp.fig q hq c hc)
  unfold ConT prog
  k_fill
  intro p loose mean mg mb dp un gd cn cs' a ccd outer A₀ base h₀ g₀ L m news s Q E B F X N hR T XB TB D T0 hk hd hu hret
  obtain ⟨hR1, hR2⟩ := hR
  unfold OnLed at hR1
  refine wpAny_call ?_
  k_dflt (refine' code_defS ?k1 ?k2 ?k3 ?k4 ?k5 ?XB ?TB ?D ?T0 ?kA ?k6 ?k7 ?k8 ?k9 ?kB ?_ ?cK ?c2 ?c3 ?c4 ?c5; (case kA => exact rfl); (case k2 => k_asm); (case k1 => k_asm); (case XB => assumption); (case TB => assumption); (case D => assumption); (case T0 => assumption); (case k3 => k_asm); (case k4 => k_asm); (case k5 => k_asm); (case k6 => k_is); (case k7 => k_is); (case k8 => ktr_room); (case k9 => first | exact BindsTo.of_eq rfl | exact binds_K (by k_in) rfl (by k_is) rfl rfl rfl); (case kB => exact locs rfl); (case cK => assumption); (case c2 => exact rfl); (case c3 => exact rfl); (case c4 => exact rfl); (case c5 => decide); k_whole; intro g' L' h' FG' F' N' B' X' T' D'; (try dsimp only); (try k_lift B'); (try k_fold))
  have G' : Land w _ _ _ _ _ _ _ _ _ g' g' := ⟨KtsTurn.refl, B', X', T', D'⟩
  k_steps
  unfold Stop
  rename Fr _ _ _ _ => lF'
  rename News _ _ _ _ => lN'
  with_unfolding_all refine' for_moveL G' [Str.ofString "folds", Str.ofString "told"] _ lF' rfl ?hh rfl rfl ?hE ?_ ?hs
  case hh => rfl
  case hE => with_unfolding_all passes_own
  case hs => intro _; with_unfolding_all rfl
  k_steps
  unfold Stop MoveSrc
  rename Fr _ _ _ _ => lF'
  rename News _ _ _ _ => lN'
  refine ⟨_, wo, items, g', _, rfl, hwd, hwc, ?hm, G', lF', lN', ?_, ?_⟩
  case hm => first | exact hR2 | exact .tail _ hR2 | exact .tail _ (.tail _ hR2) | exact .tail _ (.tail _ (.tail _ hR2))
  · intro v g u I oI h tk hv M kF kN hnI
    obtain ⟨b, rfl⟩ := hw v hv
    have B2 := M.below
    have X2 := M.kin
    have T2 := M.top
    clear lF' lN'
    (try k_fold)
    k_steps
    unfold Stop
    rename Fr _ _ _ _ => lF'
    rename News _ _ _ _ => lN'
    with_unfolding_all refine' for_moveL M [Str.ofString "told"] _ lF' rfl ?hh rfl rfl ?hE ?_ ?hs
    case hh => rfl
    case hE => with_unfolding_all passes_own
    case hs => intro _; with_unfolding_all rfl
    k_steps
    unfold Stop MoveSrc
    rename Fr _ _ _ _ => lF'
    rename News _ _ _ _ => lN'
    refine ⟨_, _, _, g, _, rfl, ⟨_, rfl⟩, Or.inr rfl, .head _, M, lF', lN', ?_, ?_⟩
    · intro v g2 u2 I2 oI2 h2 tk2 hv2 M2 kF2 kN2 hnI2
      obtain ⟨z, tz, rfl, hz1, hz2⟩ : ∃ z tz, v = .str z tz ∧ z.length ≤ 100 ∧ readOf z b = dueOf z (pcs ns) b := by
        simp only [List.mem_toArray, List.mem_cons, List.not_mem_nil, or_false] at hv2
        rcases hv2 with rfl | rfl
        · exact ⟨_, _, rfl, hx, (hall b).1⟩
        · exact ⟨_, _, rfl, hy, (hall b).2⟩
      have B3 := M2.below
      have X3 := M2.kin
      have T3 := M2.top
      clear lF' lN'
      (try k_fold)
      k_steps
    · intro g2 u2 h2 tk2 M2 kF2 kN2
      have B3 := M2.below
      have X3 := M2.kin
      have T3 := M2.top
      clear lF' lN'
      (try k_fold)
      k_steps
  · intro g u h tk M kF kN
    have B2 := M.below
    have X2 := M.kin
    have T2 := M.top
    clear lF' lN'
    (try k_fold)
    have Tt := M.turn
    k_steps
    all_goals (refine' hret _ _ _ _ ?e1 ?e2 ?e3 ?e4 ?e5 ?e6 ?e7 ?e8; (case e3 => k_asm); (case e2 => first | assumption | exact KtsTurn.refl); (case e4 => first | k_asm | (refine' cb_drop ?cbN ?cbS; (case cbN => assumption); (case cbS => kcj_all))); (case e5 => assumption); (case e6 => assumption); (case e7 => assumption); (case e8 => assumption); (case e1 => exact rfl))
end
-- H1
section
open PySem PySem.W PyProof.Rows PySem.Builtin
set_option maxRecDepth 100000
set_option maxHeartbeats 1000000
noncomputable def hexA (b : Array UInt8) : Array Nat := b.toList.zipIdx.foldl (fun (out : Array Nat) (c, _) => (out.push (Bytes.hexDigit (c.toNat / 16))).push (Bytes.hexDigit (c.toNat % 16))) #[]
theorem hexL (l : List (UInt8 × Nat)) : ∀ acc : Array Nat, (l.foldl (fun (out : Array Nat) (c, _) => (out.push (Bytes.hexDigit (c.toNat / 16))).push (Bytes.hexDigit (c.toNat % 16))) acc).toList = acc.toList ++ l.flatMap fun c => [Bytes.hexDigit (c.1.toNat / 16), Bytes.hexDigit (c.1.toNat % 16)] := by
  induction l with
  | nil => intro acc; simp
  | cons c r ih => intro acc; rw [List.foldl_cons, ih]; simp
theorem zip_flat {β : Type} (f : UInt8 → List β) : ∀ (l : List UInt8) (n : Nat), (l.zipIdx n).flatMap (fun c => f c.1) = l.flatMap f
  | [], _ => rfl
  | c :: r, n => by rw [List.zipIdx_cons, List.flatMap_cons, List.flatMap_cons, zip_flat f r]
theorem hexA_list (b : Array UInt8) : (hexA b).toList = b.toList.flatMap fun c => [Bytes.hexDigit (c.toNat / 16), Bytes.hexDigit (c.toNat % 16)] := by
  unfold hexA
  rw [hexL, zip_flat (fun c => [Bytes.hexDigit (c.toNat / 16), Bytes.hexDigit (c.toNat % 16)])]; rfl
noncomputable def hexT (b : Array UInt8) : Str := ⟨hexA b⟩
theorem hexT_len (b : Array UInt8) : (hexT b).length = 2 * b.size := by
  show (hexA b).size = _
  rw [← Array.length_toList, hexA_list, ← Array.length_toList]
  induction b.toList with
  | nil => rfl
  | cons c r ih => rw [List.flatMap_cons, List.length_append, ih]; simp; omega
theorem hex_tree (b : Array UInt8) (t : Tok) : Builtin.«bytes.hex» ⟨[.bytes b t], []⟩ = retStr (hexT b) := by kernel_rfl
section
variable {prog : Program} {w : World} {A : Around} {E : Value → Shared → Prop} {s : Shared}
theorem method_hex {b : Array UInt8} {t : Tok} {pl : Sem Bool} {Q : Value × List Value → Shared → Prop} (h : Q (.builtin "bytes.hex", [.bytes b t]) s) : wpAny (model prog w) A (getMethod (.bytes b t) (Str.ofString "hex") pl) Q E s := by
  with_reducible exact getMethod_builtin (bytes_type _ _) plain_bytes FB.slot_bytes_hex FB.type_bytes_hex (fun b e => nomatch e) h
theorem call_hex {b : Array UInt8} {t : Tok} (hl : b.size ≤ 1000) {Q : Value → Shared → Prop} (h : ∀ t' k, Q (.str (hexT b) t') { s with toks := k }) :
    wpAny (model prog w) A (call (.builtin "bytes.hex") [.bytes b t]) Q E s :=
  wpAny_call (codeAny_call_builtin FB.slot_bytes_hex.plain FB.entry_bytes_hex (FB.slot_bytes_hex.check _ _ _ _ _ _ _ _ rfl (FB.args_bytes_hex_1 _) (by
    rw [hex_tree]
    unfold retStr
    refine wpAny_bind (wpAny_mkStr ?_ (by rw [hexT_len, sizeLine_eq]; omega))
    exact wpAny_pure (h _ _))))
end
end
-- H2
section
open PySem PySem.W PyProof.Rows
set_option maxRecDepth 100000
set_option maxHeartbeats 4000000
theorem hexT_ascii (b : Array UInt8) : ∀ c ∈ (hexT b).cps, c < 128 := by
  intro c hc
  have h : c ∈ (hexA b).toList := by simpa [hexT] using hc
  rw [hexA_list, List.mem_flatMap] at h
  obtain ⟨d, _, h⟩ := h
  have hd := d.toNat_lt
  have key : ∀ n, n < 16 → Builtin.Bytes.hexDigit n < 128 := by intro n hn; unfold Builtin.Bytes.hexDigit; split <;> omega
  simp only [List.mem_cons, List.not_mem_nil, or_false] at h
  rcases h with rfl | rfl <;> exact key _ (by omega)
theorem size_hexT {b : Array UInt8} (h : b.size ≤ 1000) : (encA (hexT b)).size ≤ 1048576 := by rw [encA_size]; have := hexT_len b; show Str.length _ ≤ _; omega
local macro_rules | `(tactic| walk_at "call builtin:str.encode") => `(tactic| (k_here; (try dsimp only); refine encode_ok (hexT_ascii _) (by rw [hexT_len]; omega) ?_; intro t'))
local macro_rules | `(tactic| walk_at "getMethod bytes") => `(tactic| (k_here; (with_reducible show wpAny _ _ (getMethod (Value.bytes _ _) (Str.ofString "hex") _) _ _ _); refine method_hex ?_))
local macro_rules | `(tactic| walk_at "call builtin:bytes.hex") => `(tactic| (k_here; (try dsimp only); refine call_hex (by assumption) ?_; intro t' k'))
local macro_rules | `(tactic| walk_at "call builtin:bytes.upper") => `(tactic| (k_here; (try dsimp only); refine call_bupper (size_hexT (by assumption)) ?_; intro t'))
theorem con_enc (w : World) (b : Array UInt8) (hs : b.size ≤ 1000) (t : Tok) : ConQ w 108 [.bytes b t] 4 50 (IsBytes (upB (encA (hexT b)))) := by
  unfold ConQ prog
  k_fill
  intro p loose mean mg mb dp un gd cn cs a ccd cl outer A₀ base h₀ L m news s Q E B F X N T hk hd hu hret
  have cE₀ := InElt.start s.heap
  refine wpAny_call ?_
  k_dflt (refine' code_defG ?k1 ?k2 ?k3 ?k4 ?k5 ?kA ?kF ?kK ?k6 ?k7 ?k8 ?k9 ?kB ?_ ?c2 ?c3 ?c4 ?c5; (case kA => exact rfl); (case kF => exact rfl); (case kK => assumption); (case k1 => k_asm); (case k2 => k_asm); (case k3 => k_asm); (case k4 => k_asm); (case k5 => k_asm); (case k6 => k_is); (case k7 => k_is); (case k8 => ktr_room); (case k9 => first | exact BindsTo.of_eq rfl | exact binds_K (by k_in) rfl (by k_is) rfl rfl rfl); (case c5 => decide); (case kB => exact locs rfl); (case c2 => exact rfl); (case c3 => exact rfl); (case c4 => exact rfl); k_whole; intro g' L' h' FG' F' N' B' X' T' kG'; (try dsimp only); (try k_lift B'); (try k_fold))
  k_steps
  all_goals (refine' retQ hret ?e1 ?e2 ?e3; (case e2 => k_asm); (case e3 => first | k_asm | (refine' cb_drop ?cbN ?cbS; (case cbN => assumption); (case cbS => kcj_all))); (case e1 => exact ⟨_, rfl⟩))
end
-- C1
section
open PySem PySem.W PyProof.Rows
set_option maxRecDepth 100000
set_option maxHeartbeats 4000000
local macro_rules | `(tactic| walk_at "spliced") => `(tactic| (k_here; refine ints_args rfl ?_; intro f' k'; dsimp only [constVs_cons, constVs_nil]))
noncomputable def lawNothing (place : Int) : Int := if place < 16 then 65024 + place else [173, 847, 6150, 6155, 6156, 6157, 8203, 8204, 8205, 8288, 65279].getD (place - 16).toNat 0
noncomputable def lawCode (n : Int) : Int :=
  let kind := n.fmod 6
  let rest := n.fdiv 6
  if kind = 0 then [48, 49, 50, 51, 52, 53, 54, 55, 56, 57, 65, 66, 67, 68, 69, 70, 97, 98, 99, 100, 101, 102].getD (rest.fmod 22).toNat 0
  else if kind = 1 then [8450, 8492, 8493, 8496, 8497, 8517, 13256, 64256].getD (rest.fmod 8).toNat 0
  else if kind = 2 then 119808 + 52 * rest.fmod 13 + (if (rest.fdiv 13).fmod 16 < 8 then (rest.fdiv 13).fmod 16 else (rest.fdiv 13).fmod 16 + 18)
  else if kind = 3 then lawNothing (rest.fmod 27)
  else if kind = 4 then (if rest.fmod 1112064 < 55296 then rest.fmod 1112064 else rest.fmod 1112064 + 2048)
  else rest.fmod 128
theorem isInt_of {x y : Int} {t : Tok} (e : x = y) : IsInt y (.int x t) := by subst e; exact ⟨t, rfl⟩
theorem lc0 {n : Int} (h : n.fmod 6 = 0) : [48, 49, 50, 51, 52, 53, 54, 55, 56, 57, 65, 66, 67, 68, 69, 70, 97, 98, 99, 100, 101, 102].getD ((n.fdiv 6).fmod 22).toNat 0 = lawCode n := by
  unfold lawCode; dsimp only; rw [if_pos h]
theorem lc1 {n : Int} (h : n.fmod 6 = 1) : [8450, 8492, 8493, 8496, 8497, 8517, 13256, 64256].getD ((n.fdiv 6).fmod 8).toNat 0 = lawCode n := by
  unfold lawCode; dsimp only; rw [h]; rfl
theorem lc2a {n : Int} (h : n.fmod 6 = 2) (h2 : ((n.fdiv 6).fdiv 13).fmod 16 < 8) : 119808 + 52 * (n.fdiv 6).fmod 13 + ((n.fdiv 6).fdiv 13).fmod 16 = lawCode n := by
  unfold lawCode; dsimp only; rw [h, if_neg (by decide), if_neg (by decide), if_pos rfl, if_pos h2]
theorem lc2b {n : Int} (h : n.fmod 6 = 2) (h2 : ¬ ((n.fdiv 6).fdiv 13).fmod 16 < 8) : 119808 + 52 * (n.fdiv 6).fmod 13 + (((n.fdiv 6).fdiv 13).fmod 16 + 18) = lawCode n := by
  unfold lawCode; dsimp only; rw [h, if_neg (by decide), if_neg (by decide), if_pos rfl, if_neg h2]
theorem lc3a {n : Int} (h : n.fmod 6 = 3) (h2 : (n.fdiv 6).fmod 27 < 16) : 65024 + (n.fdiv 6).fmod 27 = lawCode n := by
  unfold lawCode; dsimp only; rw [h, if_neg (by decide), if_neg (by decide), if_neg (by decide), if_pos rfl]; unfold lawNothing; rw [if_pos h2]
theorem lc3b {n : Int} (h : n.fmod 6 = 3) (h2 : ¬ (n.fdiv 6).fmod 27 < 16) : [173, 847, 6150, 6155, 6156, 6157, 8203, 8204, 8205, 8288, 65279].getD ((n.fdiv 6).fmod 27 - 16).toNat 0 = lawCode n := by
  unfold lawCode; dsimp only; rw [h, if_neg (by decide), if_neg (by decide), if_neg (by decide), if_pos rfl]; unfold lawNothing; rw [if_neg h2]
theorem lc4a {n : Int} (h : n.fmod 6 = 4) (h2 : (n.fdiv 6).fmod 1112064 < 55296) : (n.fdiv 6).fmod 1112064 = lawCode n := by
  unfold lawCode; dsimp only; rw [h, if_neg (by decide), if_neg (by decide), if_neg (by decide), if_neg (by decide), if_pos rfl, if_pos h2]
theorem lc4b {n : Int} (h : n.fmod 6 = 4) (h2 : ¬ (n.fdiv 6).fmod 1112064 < 55296) : (n.fdiv 6).fmod 1112064 + 2048 = lawCode n := by
  unfold lawCode; dsimp only; rw [h, if_neg (by decide), if_neg (by decide), if_neg (by decide), if_neg (by decide), if_pos rfl, if_neg h2]
theorem lc5 {n : Int} (h0 : ¬ n.fmod 6 = 0) (h1 : ¬ n.fmod 6 = 1) (h2 : ¬ n.fmod 6 = 2) (h3 : ¬ n.fmod 6 = 3) (h4 : ¬ n.fmod 6 = 4) : (n.fdiv 6).fmod 128 = lawCode n := by
  unfold lawCode; dsimp only; rw [if_neg h0, if_neg h1, if_neg h2, if_neg h3, if_neg h4]
theorem con_code (w : World) (number : Int) (t : Tok) : ConP w 194 [.int number t] 2 16 (IsInt (lawCode number)) := by
  unfold ConP prog
  k_fill
  intro p loose mean mg mb dp un gd cn cs a ccd cl outer A₀ base h₀ L m news s Q E B F X N T hk hd hu hret
  have cE₀ := InElt.start s.heap
  refine wpAny_call ?_
  k_dflt (refine' code_defG ?k1 ?k2 ?k3 ?k4 ?k5 ?kA ?kF ?kK ?k6 ?k7 ?k8 ?k9 ?kB ?_ ?c2 ?c3 ?c4 ?c5; (case kA => exact rfl); (case kF => exact rfl); (case kK => assumption); (case k1 => k_asm); (case k2 => k_asm); (case k3 => k_asm); (case k4 => k_asm); (case k5 => k_asm); (case k6 => k_is); (case k7 => k_is); (case k8 => ktr_room); (case k9 => first | exact BindsTo.of_eq rfl | exact binds_K (by k_in) rfl (by k_is) rfl rfl rfl); (case c5 => decide); (case kB => exact locs rfl); (case c2 => exact rfl); (case c3 => exact rfl); (case c4 => exact rfl); k_whole; intro g' L' h' FG' F' N' B' X' T' kG'; (try dsimp only); (try k_lift B'); (try k_fold))
  k_steps
  all_goals (refine' retP hret ?e1 ?e2 ?e3 ?e4; (case e2 => k_asm); (case e3 => first | k_asm | (refine' cb_drop ?cbN ?cbS; (case cbN => assumption); (case cbS => kcj_all))); (case e4 => assumption); (case e1 => refine isInt_of ?_; first | exact lc0 (by assumption) | exact lc1 (by assumption) | exact lc2a (by assumption) (by assumption) | exact lc2b (by assumption) (by assumption) | exact lc3a (by assumption) (by assumption) | exact lc3b (by assumption) (by assumption) | exact lc4a (by assumption) (by assumption) | exact lc4b (by assumption) (by assumption) | exact lc5 (by assumption) (by assumption) (by assumption) (by assumption) (by assumption)))
end
-- X0
section
open PySem PySem.W PyProof.Rows
set_option maxRecDepth 100000
noncomputable def TextPackA (P : Prop) : Prop := P
theorem textPackA {M : Model} {A : Around} {E : Value → Shared → Prop} {s : Shared} {t : Sem Value} {Q : Value → Shared → Prop} (h : wpAny M A t (fun a s' => TextPackA (Q a s')) E s) : wpAny M A t Q E s := h
theorem TextPackA.intro {P : Prop} (h : P) : TextPackA P := h
noncomputable def figP (c : Int) : Bool := (lawPiece c).isSome
theorem figs_ints {ys : List Value} {as : List Int} {p : Int → Bool} (h : CarriedAll ys ((as.filter p).map fun k => PyData.int k)) : IntsAre ys (as.filter p) := by
  have := CarriedAll.intsOf (f := fun k : Int => k) h
  rwa [List.map_id'] at this
theorem figs_in {as : List Int} (h : ∀ c ∈ as, 0 ≤ c ∧ c < 1114112) : ∀ c ∈ as.filter figP, (0 ≤ c ∧ c < 1114112) ∧ (lawPiece c).isSome = true := by
  intro c hc
  obtain ⟨h1, h2⟩ := List.mem_filter.mp hc
  exact ⟨h c h1, h2⟩
/-- the figures, and a 0 behind them where they are odd in number -/
noncomputable def evened (fs : List Int) : List Int := if (cat (somes (pcs fs))).length % 2 = 0 then fs else fs ++ [48]
theorem evened_t {fs : List Int} (h : (cat (somes (pcs fs))).length % 2 = 0) : evened fs = fs := if_pos h
theorem evened_f {fs : List Int} (h : ¬ (cat (somes (pcs fs))).length % 2 = 0) : evened fs = fs ++ [48] := if_neg h
theorem evened_in {fs : List Int} (h : ∀ c ∈ fs, 0 ≤ c ∧ c < 1114112) : ∀ c ∈ evened fs, 0 ≤ c ∧ c < 1114112 := by
  unfold evened
  split
  · exact h
  · intro c hc
    rcases List.mem_append.mp hc with q | q
    · exact h c q
    · rw [List.mem_singleton.mp q]; decide
theorem evened_len (fs : List Int) : (evened fs).length ≤ fs.length + 1 := by
  unfold evened
  split
  · omega
  · simp
section
variable {prog : Program} {w : World} {A : Around} {E : Value → Shared → Prop} {s : Shared} {h₀ : Heap} {L : Addr} {news : List (Addr × Obj)} {Q : Value → Shared → Prop}
/-- the first call of all: no frame stands below -/
theorem code_top {KF : Frag} {p : Program} {loose : List Str} {mean : ExcName → Option Value} {mg mb : Str → Option Value} {R : Result → Shared → Prop} {name qual : Str} {params : Arguments} {body : List Stmt} {scope : Scope} {dV kV doc pm cdv ct oc : Value} {an od : Option Addr} {osl : Array (Option Value)} {f : Addr} {args : Args} {binds : List (Str × Value)}
    (X₀ : KF.In s.heap) (T : Top p loose mean mg mb s.heap)
    (ho : KF.lookup f = some ⟨oc, od, .func (fnOf name qual params body scope dV kV doc pm an cdv ct), osl⟩) (hcd : codeIn KF cdv qual = true) (hroom : callerA.depth < recursionLimit)
    (hbind : BindsTo s (fnOf name qual params body scope dV kV doc pm an cdv ct) args binds) (hloc : ∀ y ∈ binds, scope.names.lookup y.1 = some .local)
    (h : ∀ L' h₁, Fr s.heap L' h₁ (fun y => binds.reverse.lookup y) → News s.heap L' h₁ [] → Below callerA s.heap [] s.heap →
      wpAny (model prog w) (callerA.deeper (envOf qual scope L' f cdv)) (execs body (envOf qual scope L' f cdv))
        (fun fl s' => R (.ok (.ret (match fl with | .ret v => v | _ => .none))) s')
        (fun e s' => wpAny (model prog w) (callerA.deeper (envOf qual scope L' f cdv)) (leaving (envOf qual scope L' f cdv) e) (fun _ s'' => R (.error e) s'') (fun e' s'' => R (.error e') s'') s')
        { s with heap := h₁, toks := s.toks + binds.length })
    (hco : scope.isCoroutine = false) (hgen : scope.isGenerator = false) (hk : scope.kind = .function)
    (hcell : ∀ x ∈ scope.names, x.2 ≠ .cell) : codeAny (model prog w) callerA (.call (.ref f) args) R s := by
  refine codeAny_call_def (fd := fnOf name qual params body scope dV kV doc pm an cdv ct) (body := body) (binds := binds) hroom (X₀ _ _ ho) rfl T.nolimit (codeRec_of X₀ hcd) rfl hbind hcell hloc (fun h₁ hns hk₁ => ?_) hco hgen hk
  exact h s.heap.objs.size h₁ ⟨hns, hk₁, Nat.le_refl _⟩ (fun p hp => nomatch hp) (below_caller _)
theorem lawCode_in (n : Int) : 0 ≤ lawCode n ∧ lawCode n < 1114112 := by
  have e6 := Int.emod_nonneg n (by decide : (6 : Int) ≠ 0)
  unfold lawCode
  simp only [Int.fmod_eq_emod_of_nonneg _ (by decide : (0 : Int) ≤ 6), Int.fmod_eq_emod_of_nonneg _ (by decide : (0 : Int) ≤ 22), Int.fmod_eq_emod_of_nonneg _ (by decide : (0 : Int) ≤ 8), Int.fmod_eq_emod_of_nonneg _ (by decide : (0 : Int) ≤ 13), Int.fmod_eq_emod_of_nonneg _ (by decide : (0 : Int) ≤ 16), Int.fmod_eq_emod_of_nonneg _ (by decide : (0 : Int) ≤ 27), Int.fmod_eq_emod_of_nonneg _ (by decide : (0 : Int) ≤ 1112064), Int.fmod_eq_emod_of_nonneg _ (by decide : (0 : Int) ≤ 128)]
  generalize n.fdiv 6 = r
  have key : ∀ (l : List Int) (k : Nat), (∀ x ∈ l, 0 ≤ x ∧ x < 1114112) → 0 ≤ l.getD k 0 ∧ l.getD k 0 < 1114112 := by
    intro l k h
    rw [List.getD_eq_getElem?_getD]
    cases e : l[k]? with
    | none => simp
    | some x => exact h x (List.mem_of_getElem? e)
  split
  · exact key _ _ (by decide)
  · split
    · exact key _ _ (by decide)
    · split
      · split <;> omega
      · split
        · unfold lawNothing
          split
          · omega
          · exact key _ _ (by decide)
        · split
          · split <;> omega
          · omega
theorem isnot_told {v : Value} {o : Option Str} (h : Told v o) (hq : Q (.bool o.isSome) s) : wpAny (model prog w) A (compareOp .IsNot v .none) Q E s := by
  show wpAny (model prog w) A (do return .bool (!(← isSame v .none))) Q E s
  cases o with
  | none =>
    rw [show v = .none from h]
    exact wpAny_bind (wpAny_pure (wpAny_pure hq))
  | some x =>
    obtain ⟨t, rfl⟩ := h
    exact wpAny_bind (wpAny_pure (wpAny_pure hq))
theorem src_bytes {b : Array UInt8} {t : Tok} (hh : A.handled = none) : Src prog w A .int (KBw.bInts b) (.bytes b t) s := by
  intro Q E h
  refine KBw.pyIter_bytes ?_
  have W := KBw.walks (prog := prog) (w := w) hh s.heap.objs.size b t
  have e : b.size = (KBw.bInts b).length := (KBw.ints_length b).symm
  rw [e] at W
  refine h _ _ _ _ _ W ⟨_, Heap.get?_push_size _ rfl, rfl, rfl⟩ ?_ ?_
  · intro b hb
    rw [Heap.size_push, List.mem_singleton.mp hb]; exact Nat.lt_succ_self _
  · rintro i v ⟨c, u, hc, rfl⟩
    exact ⟨_, KBw.ints_get hc, ⟨u, rfl⟩⟩
theorem add_led {m : Str → Option Value} {l b : Addr} {vs ws : List Value} {n n2 : Nat} {xs ys : List Int} (F : Fr h₀ L s.heap m) (N : News h₀ L s.heap news) (hm : (l, W.listOf vs.toArray n) ∈ news) (hm2 : (b, W.listOf ws.toArray n2) ∈ news) (hi : IntsAre vs xs) (hj : IntsAre ws ys) (hsz : xs.length + ys.length ≤ 1000)
    (h : ∀ D h' zs n3, Fr h₀ L h' m → News h₀ L h' ((D, W.listOf zs.toArray n3) :: news) → IntsAre zs (xs ++ ys) → (∀ p ∈ news, p.1 ≠ D) → Q (.ref D) { s with heap := h' }) :
    wpAny (model prog w) A (binaryOp .Add (.ref l) (.ref b)) Q E s := by
  refine add_lists_ints (hsz := by rw [sizeLine_eq]; omega) F N ⟨_, (N _ hm).1, rfl, _, rfl⟩ ⟨_, (N _ hm2).1, rfl, _, rfl⟩ hi hj fun h' F' N' hz => ?_
  exact h _ h' _ _ F' N' hz fun p hp e => absurd (Heap.lt_size (N p hp).1) (by rw [e]; exact Nat.lt_irrefl _)
/-- a list of ints at a place on the ledger -/
noncomputable def ListPost (h₀ : Heap) (L : Addr) (m : Str → Option Value) (news : List (Addr × Obj)) (s : Shared) (fs : List Int) (xv : Value) (s₂ : Shared) : Prop :=
  ∃ D cs n l h' tk, xv = .ref D ∧ s₂ = { s with heap := h', toks := tk } ∧ Fr h₀ L h' m ∧ News h₀ L h' l ∧ (D, W.listOf cs.toArray n) ∈ l ∧ IntsAre cs fs ∧ ∀ p ∈ news, p ∈ l
theorem ListPost.intro {m : Str → Option Value} {fs : List Int} {D : Addr} {cs : List Value} {n : Nat} {l : List (Addr × Obj)} {h' : Heap} {tk : Nat} (F : Fr h₀ L h' m) (N : News h₀ L h' l) (hm : (D, W.listOf cs.toArray n) ∈ l) (hi : IntsAre cs fs) (hs : ∀ p ∈ news, p ∈ l) :
    ListPost h₀ L m news s fs (.ref D) { s with heap := h', toks := tk } := ⟨D, cs, n, l, h', tk, rfl, rfl, F, N, hm, hi, hs⟩
theorem ifexp_list {M : Model} {m : Str → Option Value} {env : Env} {e : PySem.Expr} {fs : List Int} (_F : Fr h₀ L s.heap m) (_N : News h₀ L s.heap news)
    (hT : wpAny M A (eval e env) (ListPost h₀ L m news s fs) E s)
    (h : ∀ D cs n h' tk, Fr h₀ L h' m → News h₀ L h' ((D, W.listOf cs.toArray n) :: news) → IntsAre cs fs → Q (.ref D) { s with heap := h', toks := tk }) : wpAny M A (eval e env) Q E s := by
  refine wpAny_mono hT (fun v s₂ hb => ?_) fun _ _ e => e
  obtain ⟨D, cs, n, l, h', tk, rfl, rfl, F', N', hm, hi, hs⟩ := hb
  refine h D cs n h' tk F' (fun p hp => ?_) hi
  rcases List.mem_cons.mp hp with rfl | hp
  · exact N' _ hm
  · exact N' _ (hs p hp)
theorem eq_same {x y : Str} {t u : Tok} (h : x = y) (hq : Q (.bool true) s) : wpAny (model prog w) A (compareOp .Eq (.str x t) (.str y u)) Q E s := by
  subst h; refine eq_str ?_; rw [beq_self_eq_true]; exact hq
end
/-- what _law_holds needs of the codes -/
structure Fine (ns : List Int) : Prop where
  pcs : GoodP (pcs ns)
  prep : PrepOk ns
  xl : (txt ns).length ≤ 100
  yl : (Mine.prep (txt ns)).length ≤ 100
  all : ∀ b, readOf (txt ns) b = dueOf (txt ns) (Mine.pcs ns) b ∧ readOf (Mine.prep (txt ns)) b = dueOf (Mine.prep (txt ns)) (Mine.pcs ns) b
theorem con_holdsF (w : World) {C : Addr} {cs : List Value} {nc : Nat} {ns : List Int} {Wa : Addr} {wo : Obj} {items : Array Value} (hi : IntsAre cs ns) (hcd : ∀ c ∈ ns, 0 ≤ c ∧ c < 1114112) (hlen : ns.length ≤ 20) (hwd : ∃ k, wo.data = .seq items k) (hwc : wo.cls = .type "list" ∨ wo.cls = .type "tuple") (hw : ∀ v ∈ items, ∃ b, v = .bool b) (hF : Fine ns) :
    ConT w 223 [.ref C, .ref Wa] 10 120 (fun v => v = .bool true) (fun news => OnLed C cs nc news ∧ (Wa, wo) ∈ news) :=
  con_holds w C cs nc ns hi hcd hlen Wa wo items hwd hwc hw hF.pcs hF.prep hF.xl hF.yl hF.all
theorem ints_mem {vs : List Value} {ns : List Int} (h : IntsAre vs ns) {v : Value} (hv : v ∈ vs) : ∃ c t, v = .int c t ∧ c ∈ ns := by
  induction h with
  | nil => cases hv
  | cons n t _ ih =>
    rcases List.mem_cons.mp hv with rfl | hv
    · exact ⟨n, t, rfl, .head _⟩
    · obtain ⟨c, t', e, hc⟩ := ih hv
      exact ⟨c, t', e, .tail _ hc⟩
noncomputable def greatS (k : Str) : Str := if sig k < 97 then k else ⟨#[sig k - 32]⟩
noncomputable abbrev octOf (y : Str) : Array UInt8 := byteArr (decI (KBw.bInts (upB (encA y))))
noncomputable abbrev wrOf (y : Str) : Str := txt (KBw.bInts (upB (encA (hexT (octOf y)))))
noncomputable abbrev codes0 (ns : List Int) : List Int := [57, 66, 102, 64256, 13256, 8450, 119808, 173, 223] ++ vals (List.take 10 ns) lawCode
theorem codes0_in (ns : List Int) : ∀ c ∈ codes0 ns, 0 ≤ c ∧ c < 1114112 := by
  intro c hc
  rcases List.mem_append.mp hc with h | h
  · clear hc; revert c; decide
  · unfold vals at h
    obtain ⟨k, _, rfl⟩ := List.mem_map.mp h
    exact lawCode_in k
theorem codes0_len (ns : List Int) : (codes0 ns).length ≤ 19 := by
  unfold codes0 vals
  rw [List.filter_eq_self.mpr fun _ _ => rfl]
  simp; omega
theorem vals0_len (ns : List Int) : (vals (List.take 10 ns) lawCode).length ≤ 10 := by
  unfold vals
  rw [List.filter_eq_self.mpr fun _ _ => rfl]
  simp; omega
theorem great_four (y : Str) : ∀ k ∈ (signs y).map greatS, k.length ≤ 4 := by
  intro k hk
  obtain ⟨q, hq, rfl⟩ := List.mem_map.mp hk
  simp only [signs, List.mem_map] at hq
  obtain ⟨c, _, rfl⟩ := hq
  unfold greatS
  split <;> (show 1 ≤ 4; decide)
theorem with_led {h₀ h : Heap} {L : Addr} {l : List (Addr × Obj)} (N : News h₀ L h l) : ∃ l', l' = l ∧ News h₀ L h l' := ⟨l, rfl, N⟩
theorem row_cases {l : List (Addr × Obj)} {D1 D2 D3 : Addr} {c1 c2 c3 : List Value} {n1 n2 n3 : Nat} {r1 r2 r3 : List Int} {v : Value} (hv : v ∈ #[Value.ref D1, Value.ref D2, Value.ref D3])
    (h1 : (D1, W.listOf c1.toArray n1) ∈ l) (i1 : IntsAre c1 r1) (h2 : (D2, W.listOf c2.toArray n2) ∈ l) (i2 : IntsAre c2 r2) (h3 : (D3, W.listOf c3.toArray n3) ∈ l) (i3 : IntsAre c3 r3)
    (R : List Int → Prop) (p1 : R r1) (p2 : R r2) (p3 : R r3) : ∃ D cs n rs, v = .ref D ∧ (D, W.listOf cs.toArray n) ∈ l ∧ IntsAre cs rs ∧ R rs := by
  simp only [List.mem_toArray, List.mem_cons, List.not_mem_nil, or_false] at hv
  rcases hv with rfl | rfl | rfl
  · exact ⟨_, _, _, _, rfl, h1, i1, p1⟩
  · exact ⟨_, _, _, _, rfl, h2, i2, p2⟩
  · exact ⟨_, _, _, _, rfl, h3, i3, p3⟩
theorem sign_at {y a : Str} (h : a ∈ signs y) (hy : ∀ c ∈ y.cps, c < 128) : ∃ c, a = ⟨#[c]⟩ ∧ c < 128 := by
  simp only [signs, List.mem_map] at h
  obtain ⟨c, hc, rfl⟩ := h
  exact ⟨c, rfl, hy c (by simpa using hc)⟩
theorem lt_sign {prog : Program} {w : World} {A : Around} {E : Value → Shared → Prop} {s : Shared} {c : Nat} {t u : Tok} {Q : Value → Shared → Prop} (h : Q (.bool (decide (c < 97))) s) : wpAny (model prog w) A (compareOp .Lt (.str ⟨#[c]⟩ t) (.str (Str.ofString "a") u)) Q E s := by
  refine P.lt_str ?_
  have e : (decide (([c] : List Nat) < [97])) = decide (c < 97) := by
    rw [decide_eq_decide, List.cons_lt_cons_iff]
    constructor
    · rintro (h | ⟨_, h⟩)
      · exact h
      · exact absurd h (List.not_lt_nil _)
    · intro h; exact .inl h
  show Q (.bool (decide (([c] : List Nat) < [97]))) s
  rw [e]; exact h
theorem carried_lo {c : Nat} (t : Tok) (h : c < 97) : Carried (.str ⟨#[c]⟩ t) (.str (greatS ⟨#[c]⟩)) := by
  have e : greatS ⟨#[c]⟩ = ⟨#[c]⟩ := if_pos h
  rw [e]; exact .str _ _
theorem carried_hi {c : Nat} (t : Tok) (h : ¬ c < 97) : Carried (.str ⟨#[((c : Int) - 32).toNat]⟩ t) (.str (greatS ⟨#[c]⟩)) := by
  have e : greatS ⟨#[c]⟩ = ⟨#[c - 32]⟩ := if_neg h
  have e2 : ((c : Int) - 32).toNat = c - 32 := by omega
  rw [e, e2]; exact .str _ _
theorem land_keep {w : World} {A₀ : Around} {base : Heap} {outer : List Env} {p : Program} {loose : List Str} {mean : ExcName → Option Value} {mg mb : Str → Option Value} {g₀ g h : Heap} {L : Addr} {m : Str → Option Value} (G : Land w ([].filterMap fun e : Env => e.frame) A₀ base outer p loose mean mg mb g₀ g) (F : Fr g L h m) : ∀ b o, g₀.get? b = some o → h.get? b = some o :=
  fun b o e => F.keep b o (G.turn.other b o e (by simp))
/-- what the end of law needs of the figures -/
structure EndOk (fs : List Int) : Prop where
  xl : (txt fs).length ≤ 100
  yl : (Mine.prep (txt fs)).length ≤ 100
  asc : ∀ c ∈ (Mine.prep (txt fs)).cps, c < 128
  hex : HexB (upB (encA (Mine.prep (txt fs))))
  osz : (octOf (Mine.prep (txt fs))).size ≤ 50
  el : (KBw.bInts (upB (encA (hexT (octOf (Mine.prep (txt fs))))))).length ≤ 100
  wl : (wrOf (Mine.prep (txt fs))).length ≤ 100
  great : wrOf (Mine.prep (txt fs)) = cat ((signs (Mine.prep (txt fs))).map greatS)
  read : readOf (wrOf (Mine.prep (txt fs))) false = .oct (octOf (Mine.prep (txt fs)))
  again : Mine.prep (wrOf (Mine.prep (txt fs))) = Mine.prep (txt fs)
end
-- XX
section
open PySem PySem.W PyProof.Rows
set_option maxRecDepth 100000
set_option maxHeartbeats 4000000
noncomputable def PrepAt (w : World) (x y : Str) : Prop := ∀ t, ConP w 206 [.str x t] 2 40 (IsStr y)
noncomputable def ReadAt (w : World) (x : Str) (o : Array UInt8) : Prop := ∀ t, ConS w 213 [.str x t, .bool false] 6 60 (OutIs (.oct o))
noncomputable def DecAt (w : World) (x : Str) (o : Array UInt8) : Prop := ∀ t, ConQ w 116 [.str x t, .bool true] 4 50 (IsBytes o)
noncomputable def EncAt (w : World) (o e : Array UInt8) : Prop := ∀ t, ConQ w 108 [.bytes o t] 4 50 (IsBytes e)
section
variable {prog : Program} {w : World} {A : Around} {E : Value → Shared → Prop} {s : Shared} {h₀ : Heap} {L : Addr} {news : List (Addr × Obj)} {Q : Value → Shared → Prop}
theorem join_sgnV {D : Addr} {ys : List Value} {n : Nat} {ns : List Int} {t : Tok} {x : Str} (N : News h₀ L s.heap news) (hm : (D, W.listOf ys.toArray n) ∈ news) (hc : CarriedAll ys ((ns.filter fun _ => true).map fun c => PyData.str (sgn c))) (hn : ns.length ≤ 100) (e : txt ns = x)
    (h : ∀ t' k, Q (.str x t') { s with toks := k }) : wpAny (model prog w) A (call (.builtin "str.join") [.str (Str.ofString "") t, .ref D]) Q E s := by
  subst e; exact join_sgn N hm hc hn h
theorem join_textsV {D : Addr} {ys : List Value} {n : Nat} {qs : List Str} {t : Tok} {x : Str} (N : News h₀ L s.heap news) (hD : OnLed D ys n news) (hc : CarriedAll ys (qs.map PyData.str)) (hB : ∀ k ∈ qs, k.length ≤ 4) (hn : qs.length ≤ 1048576) (e : cat qs = x)
    (h : ∀ t' k, Q (.str x t') { s with toks := k }) : wpAny (model prog w) A (call (.builtin "str.join") [.str (Str.ofString "") t, .ref D]) Q E s := by
  subst e; exact join_texts N hD hc hB hn h
theorem chr_up {c : Nat} {t : Tok} (h : ¬ c < 97) (h2 : c < 128) (hq : Q (.str ⟨#[((c : Int) - 32).toNat]⟩ s.toks) { s with toks := s.toks + 1 }) :
    wpAny (model prog w) A (call (.builtin "chr") [.int (((#[c].getD 0 0 : Nat) : Int) - 32) t]) Q E s := by
  show wpAny (model prog w) A (call (.builtin "chr") [.int ((c : Int) - 32) t]) Q E s
  exact chr_of_range (by omega) (by omega) hq
end
theorem eq_same_at {x y : Str} (h : x = y) : x = y := h
theorem bools1 (a : Bool) : ∀ v ∈ #[Value.bool a], ∃ b, v = .bool b := by simp
theorem bools2 (a b : Bool) : ∀ v ∈ #[Value.bool a, Value.bool b], ∃ b, v = .bool b := by simp
theorem great_of {ys : List Value} {y : Str} (h : CarriedAll ys (((signs y).filter fun _ => true).map fun k => PyData.str (greatS k))) : CarriedAll ys (((signs y).map greatS).map PyData.str) := by
  rw [filter_true] at h; rw [List.map_map]; exact h
theorem carried_sgn2 (c : Int) (t : Tok) : Carried (.str ⟨#[c.toNat]⟩ t) (.str (sgn c)) := .str _ _

/-- what the end of law asks of the prepared text -/
noncomputable def EndV (w : World) (Y : Str) : Prop := ∃ (WR : Str) (O EB : Array UInt8), DecAt w Y O ∧ EncAt w O EB ∧ ReadAt w WR O ∧ PrepAt w WR Y ∧ txt (KBw.bInts EB) = WR ∧ cat ((signs Y).map greatS) = WR ∧ (∀ c ∈ Y.cps, c < 128) ∧ Y.length ≤ 100 ∧ (KBw.bInts EB).length ≤ 100 ∧ (∀ k ∈ (signs Y).map greatS, k.length ≤ 4) ∧ ((signs Y).map greatS).length ≤ 1048576
theorem EndV.of {w : World} {fs : List Int} (h : EndOk fs) : EndV w (prep (txt fs)) := by
  have hyl := h.yl
  have hwl := h.wl
  have hosz := h.osz
  refine ⟨wrOf (prep (txt fs)), octOf (prep (txt fs)), upB (encA (hexT (octOf (prep (txt fs))))), ?_, ?_, ?_, ?_, rfl, h.great.symm, h.asc, hyl, h.el, great_four _, ?_⟩
  · exact con_decT w _ (Nat.le_trans hyl (by decide)) h.asc h.hex
  · exact con_enc w _ (Nat.le_trans hosz (by decide))
  · intro t
    have := con_read w (wrOf (prep (txt fs))) (Nat.le_trans hwl (by decide)) false t
    rw [h.read] at this
    exact this
  · intro t
    have := con_prepared w (wrOf (prep (txt fs))) hwl t
    rw [h.again] at this
    exact this
  · rw [List.length_map, signs_length]; exact Nat.le_trans hyl (by decide)

theorem fr_same {h₀ h : Heap} {L : Addr} {m : Str → Option Value} {x : Str} {v : Value} (F : Fr h₀ L h m) (e : m x = some v) : Fr h₀ L h (fun z => if z = x then some v else m z) := by
  have : (fun z => if z = x then some v else m z) = m := by
    funext z
    by_cases hz : z = x
    · subst hz; rw [if_pos rfl, e]
    · rw [if_neg hz]
  rw [this]; exact F

section
local macro_rules | `(tactic| walk_at "eval ListComp") => `(tactic| (k_here; (with_reducible show wpAny _ _ (eval (Expr.ListComp (Expr.Call (Expr.Name (Str.ofString "_law_code") _) _ _ _) _ _ _) _) _ _ _); (refine' comp_kindA (K := .int) (fun _ => true) (fun k => .int (lawCode k)) (textPack ?_))))
local macro_rules | `(tactic| walk_at "tp int") => `(tactic| ((rename Fr _ _ _ _ => F'); (rename News _ _ _ _ => N'); (first | (intro C' a' v' s' m' E' hC' ha'; intros; obtain ⟨u', hv''⟩ := ItemKind.int_is (by assumption); subst hv''; (have cF' := Fr.keeps F' (by assumption)); (have cN' := News.grown N' (by assumption)); (have cE' := InElt.start s'.heap); (try (have hr' := rng_at (by assumption) ha')); (try (have hr' := KBw.ints_in ha')); refine wpAny_leafK ?_) | skip)))
local macro_rules | `(tactic| walk_at "tp str") => `(tactic| ((rename Fr _ _ _ _ => F'); (rename News _ _ _ _ => N'); (first | (intro C' a' v' s' m' E' hC' ha'; intros; obtain ⟨u', hv''⟩ := ItemKind.str_is (by assumption); subst hv''; (have cF' := Fr.keeps F' (by assumption)); (have cN' := News.grown N' (by assumption)); (have cE' := InElt.start s'.heap); (obtain ⟨c9, e9, h9⟩ := sign_at ha' (by assumption)); subst e9; refine wpAny_leafK ?_) | skip)))
local macro_rules | `(tactic| walk_at "TextPack") => `(tactic| (refine TextPack.intro ?_; (rename Fr _ _ _ _ => F'); (rename News _ _ _ _ => N'); (refine' ⟨_, _, src_bytes ?sh, ?sl, F', N', ?_, ?_, ?_⟩); (case sh => with_unfolding_all rfl); (case sl => rw [sizeLine_eq]; omega); (walk_at "tp int"); (rotate_left); (walk_at "tp int"); (rotate_left); (intro D' ys' n' h' tk' F' N' kk' nn' Y'; (try (have Y2' := vals_ints Y')); (try (have Y3' := pcs_of Y'))); (rotate_left)))
local macro_rules | `(tactic| walk_at "TextPack") => `(tactic| (refine TextPack.intro ?_; (rename Fr _ _ _ _ => F'); (rename News _ _ _ _ => N'); (refine' ⟨_, _, src_text ?sh, ?sl, F', N', ?_, ?_, ?_⟩); (case sh => with_unfolding_all rfl); (case sl => refine src_len _ ?_; omega); (walk_at "tp str"); (rotate_left); (walk_at "tp str"); (rotate_left); (intro D' ys' n' h' tk' F' N' kk' nn' Y'; (have Y3' := great_of Y')); (rotate_left)))
local macro_rules | `(tactic| walk_at "TextPack") => `(tactic| (refine TextPack.intro ?_; (rename Fr _ _ _ _ => F'); (rename News _ _ _ _ => N'); (refine' ⟨_, _, src_list ?sh (OnLed.isList ?om N') (IntsAre.areOf ?hi), ?sl, F', N', ?_, ?_, ?_⟩); (case sh => with_unfolding_all rfl); (case om => (unfold OnLed; walk_at "led")); (case hi => assumption); (case sl => rw [sizeLine_eq]; omega); (walk_at "tp int"); (rotate_left); (walk_at "tp int"); (rotate_left); (intro D' ys' n' h' tk' F' N' kk' nn' Y'; (try (have Y2' := vals_ints Y')); (try (have Y3' := pcs_of Y'))); (rotate_left)))
local macro_rules | `(tactic| walk_at "binaryOp Add ref ref") => `(tactic| (k_here; (k_dflt (refine' add_led (by k_asm) (by k_asm) (by k_mem) (by k_mem) (by first | assumption | (repeat constructor)) (by first | assumption | (repeat constructor)) (by (simp only [List.length_cons, List.length_nil]; omega)) ?_)); intro D' h' zs' n' F' N' Z' nn'))
local macro_rules | `(tactic| walk_at "call ref") => `(tactic| (k_here; (with_reducible show wpAny _ _ (call (Value.ref 223) [Value.ref _, Value.ref _]) _ _ _); k_dflt (refine' ConT.useA (con_holdsF _ ?hi ?hcd ?hlen ?hwd ?hwc ?hw ?hF) ?kR ?_; (case kR => exact ⟨by (unfold OnLed; walk_at "led"), by k_mem⟩); (case hi => first | assumption | (repeat constructor)); (case hF => assumption); (case hcd => assumption); (case hlen => first | assumption | omega | simp); (case hwd => exact ⟨_, rfl⟩); (case hwc => exact Or.inr rfl); (case hw => first | exact bools1 _ | exact bools2 _ _); k_whole); intro v' h' g' tk' hv' G' B' X' T' F' N'; subst hv'))
local macro_rules | `(tactic| walk_at "exec Assign cons ListComp") => `(tactic| (k_here; refine Stop.of ?_))
local macro_rules | `(tactic| walk_at "TextPackA") => `(tactic| (refine TextPackA.intro ?_; (rename Fr _ _ _ _ => F'); (rename News _ _ _ _ => N'); (refine' ⟨_, _, src_list ?sh (OnLed.isList ?om N') (IntsAre.areOf ?hi), ?sl, F', N', ?_, ?_, ?_⟩); (case sh => with_unfolding_all rfl); (case om => (unfold OnLed; walk_at "led")); (case hi => assumption); (case sl => rw [sizeLine_eq]; omega); (walk_at "tp int"); (rotate_left); (walk_at "tp int"); (rotate_left); (intro D' ys' n' h' tk' F' N' Y'; (have Y2' := figs_ints Y')); (rotate_left)))
local macro_rules | `(tactic| walk_at "compareOp IsNot") => `(tactic| (k_here; refine isnot_told (by assumption) ?_))
local macro_rules | `(tactic| walk_at "Keeps") => `(tactic| exact keeps_elt (by assumption))
local macro_rules | `(tactic| walk_at "SeqLeaf") => `(tactic| (refine SeqLeaf.intro ⟨?_, keeps_elt (by first | assumption | exact InElt.start _)⟩; first | exact carried_told (by assumption) | exact .str _ _ | exact carried_lo _ (by assumption) | exact carried_hi _ (by assumption) | exact .int _ _ | exact rfl))
local macro_rules | `(tactic| walk_at "call ref") => `(tactic| (k_here; (with_reducible show wpAny _ _ (call (Value.ref 194) [Value.int _ _]) _ _ _); k_dflt (refine' ConP.useA (con_code _ _ _) ?_; k_whole); intro v' h' tk' hv' F' N' E'; obtain ⟨t', hv'⟩ := hv'; subst hv'))
local macro_rules | `(tactic| walk_at "eval ListComp") => `(tactic| (k_here; (with_reducible show wpAny _ _ (eval (Expr.ListComp (Expr.IfExp _ _ _ _) _ _ _) _) _ _ _); (refine' comp_kindA (K := .str) (fun _ => true) (fun k => .str (greatS k)) (textPack ?_))))
local macro_rules | `(tactic| walk_at "eval ListComp") => `(tactic| (k_here; (with_reducible show wpAny _ _ (eval (Expr.ListComp (Expr.Call (Expr.Name (Str.ofString "chr") _) _ _ _) [⟨_, Expr.IfExp _ _ _ _, _, _⟩] _ _) _) _ _ _); refine Stop.of ?_))
local macro_rules | `(tactic| walk_at "newList") => `(tactic| (k_here; k_dflt (refine' newList_K ?k1 ?k2 ?_ ?z; (case k1 => k_asm); (case k2 => k_asm); (case z => (rw [sizeLine_eq]; simp only [List.length_cons, List.length_nil]; decide)); k_whole); intro l' h' F' N' l1; (try k_lt l1); (try k_sweep)))
local macro_rules | `(tactic| walk_at "compareOp Lt str str") => `(tactic| (k_here; refine lt_sign ?_))
local macro_rules | `(tactic| walk_at "ListPost") => `(tactic| refine Stop.of ?_)
section
local macro_rules | `(tactic| walk_at "call builtin:str.join") => `(tactic| (k_here; (try dsimp only); first | (refine join_sgnV (by k_asm) (by k_mem) (by assumption) (by omega) (by with_reducible assumption) ?_; intro _ _) | (refine join_pcs (by k_asm) (by k_mem) (by assumption) (by assumption) (by assumption) ?_; intro _ _) | (refine join_textsV (by k_asm) (by (unfold OnLed; k_mem)) (by assumption) (by assumption) (by assumption) (by with_reducible assumption) ?_; intro _ _)))
local macro_rules | `(tactic| walk_at "compareOp NotEq str str") => `(tactic| (k_here; refine ne_same rfl ?_))
local macro_rules | `(tactic| walk_at "compareOp Eq str str") => `(tactic| (k_here; refine eq_same rfl ?_))
local macro_rules | `(tactic| walk_at "compareOp NotEq") => `(tactic| (k_here; (with_reducible show wpAny _ _ (compareOp CmpOp.NotEq _ (Value.bytes _ _)) _ _ _); refine ne_out (o := .oct _) (o' := .oct _) (by assumption) ⟨_, rfl⟩ rfl ?_))
local macro_rules | `(tactic| walk_at "call ref") => `(tactic| (k_here; (with_reducible show wpAny _ _ (call (Value.ref 206) [Value.str _ _]) _ _ _); k_dflt (refine' ConP.useA ((by with_reducible assumption : PrepAt _ _ _) _) ?_; k_whole); intro v' h' tk' hv' F' N' E'; obtain ⟨t', hv'⟩ := hv'; subst hv'))
local macro_rules | `(tactic| walk_at "call ref") => `(tactic| (k_here; (with_reducible show wpAny _ _ (call (Value.ref 213) [Value.str _ _, Value.bool _]) _ _ _); k_dflt (refine' ConT.useA (ConS.toT ((by with_reducible assumption : ReadAt _ _ _) _)) True.intro ?_; k_whole); intro v' h' g' tk' hv' G' B' X' T' F' N'))
local macro_rules | `(tactic| walk_at "call ref") => `(tactic| (k_here; (with_reducible show wpAny _ _ (call (Value.ref _) _) _ _ _); k_dflt (first | (refine' ConQ.useA ((by with_reducible assumption : DecAt _ _ _) _) ?_) | (refine' ConQ.useA ((by with_reducible assumption : EncAt _ _ _) _) ?_); k_whole); intro v' h' tk' hv' F' N'; obtain ⟨t', hv'⟩ := hv'; subst hv'))
section
local macro_rules | `(tactic| walk_at "call builtin:chr") => `(tactic| (k_here; refine chr_up (by with_reducible assumption) (by with_reducible assumption) ?_))
theorem law_endB (w : World) (p : Program) (loose : List Str) (mean : ExcName → Option Value) (mg mb : Str → Option Value) {b0 g : Heap} {L' : Addr} {m : Str → Option Value} {l0 : List (Addr × Obj)} {s : Shared} {Y WR : Str} {tY : Tok} {O EB : Array UInt8} (TB : Top p loose mean mg mb b0) (XB : (K w.params).In b0)
    (M2 : Land w ([].filterMap fun e : Env => e.frame) callerA b0 [] p loose mean mg mb b0 g) (F : Fr g L' s.heap (fun z => if z = Str.ofString "prepared" then some (.str Y tY) else m z)) (N : News g L' s.heap l0)
    (CD : DecAt w Y O) (CE : EncAt w O EB) (CR : ReadAt w WR O) (CP : PrepAt w WR Y) (hW : txt (KBw.bInts EB) = WR) (hG : cat ((signs Y).map greatS) = WR)
    (hasc : ∀ c ∈ Y.cps, c < 128) (hyl : Y.length ≤ 100) (hel : (KBw.bInts EB).length ≤ 100) (hg4 : ∀ k ∈ (signs Y).map greatS, k.length ≤ 4) (hgn : ((signs Y).map greatS).length ≤ 1048576) {Q E : Value → Shared → Prop}
    (hret : ∀ (h' : Heap) (tk' : Nat), (∀ b o, b0.get? b = some o → h'.get? b = some o) → Q (.bool true) { s with heap := h', toks := tk' }) :
    wpAny (model PySem.Challenge.rw_pa0016_01.prog w) (callerA.deeper (envOf (Str.ofString "law") F228.1.2.2 L' 228 (.ref 227))) (execs (F228.1.2.1.drop 6) (envOf (Str.ofString "law") F228.1.2.2 L' 228 (.ref 227)))
      (fun fl s' => Q (match fl with | .ret v => v | _ => .none) s') E s := by
  have X5 := M2.kin
  revert X5
  k_fill
  intro X5
  have B5 := M2.below
  have T5 := M2.top
  have N1 : News g L' s.heap [] := fun p hp => nomatch hp
  clear N
  dsimp only [F228, List.drop]
  (try k_fold)
  k_steps
  all_goals exact hret _ _ (land_keep (by assumption) (by first | assumption | k_asm))
end
section
local macro_rules | `(tactic| walk_at "nothing") => `(tactic| skip)
local macro_rules | `(tactic| walk_at "execs cons Assign cons") => `(tactic| (k_here; (with_reducible show wpAny _ _ (execs (Stmt.Assign [Expr.Name (Str.ofString "octets") _] _ _ :: _) _) _ _ _); refine Stop.of ?_))
theorem law_endA (w : World) (p : Program) (loose : List Str) (mean : ExcName → Option Value) (mg mb : Str → Option Value) {b0 g : Heap} {L' D2 : Addr} {cs2 : List Value} {n2 : Nat} {fs : List Int} {m : Str → Option Value} {l0 : List (Addr × Obj)} {s : Shared} (TB : Top p loose mean mg mb b0) (XB : (K w.params).In b0)
    (M2 : Land w ([].filterMap fun e : Env => e.frame) callerA b0 [] p loose mean mg mb b0 g) (F : Fr g L' s.heap (fun z => if z = Str.ofString "figures" then some (.ref D2) else m z)) (N : News g L' s.heap l0) (hm : (D2, W.listOf cs2.toArray n2) ∈ l0) (hi : IntsAre cs2 fs)
    (FN : Fine fs) (hrg : ∀ c ∈ fs, 0 ≤ c ∧ c < 1114112) (hfl : fs.length ≤ 19) (hfr : ∀ c ∈ fs, (0 ≤ c ∧ c < 1114112) ∧ (lawPiece c).isSome = true) (hEO : EndOk (evened fs)) {Q E : Value → Shared → Prop}
    (hret : ∀ (h' : Heap) (tk' : Nat), (∀ b o, b0.get? b = some o → h'.get? b = some o) → Q (.bool true) { s with heap := h', toks := tk' }) :
    wpAny (model PySem.Challenge.rw_pa0016_01.prog w) (callerA.deeper (envOf (Str.ofString "law") F228.1.2.2 L' 228 (.ref 227))) (execs (F228.1.2.1.drop 4) (envOf (Str.ofString "law") F228.1.2.2 L' 228 (.ref 227)))
      (fun fl s' => Q (match fl with | .ret v => v | _ => .none) s') E s := by
  have X5 := M2.kin
  revert X5
  k_fill
  intro X5
  have B5 := M2.below
  have T5 := M2.top
  obtain ⟨q0, hq0⟩ : ∃ q : Addr × Obj, q = (D2, W.listOf cs2.toArray n2) := ⟨_, rfl⟩
  have N1 : News g L' s.heap [(D2, W.listOf cs2.toArray n2)] := fun p hp => N p (by rw [List.mem_singleton.mp hp]; exact hm)
  clear N hm hq0 q0
  dsimp only [F228, List.drop]
  have hps := FN.pcs
  have hno : none ∉ pcs (fs) := by
    intro hn
    obtain ⟨c, hc, e⟩ := List.mem_map.mp hn
    have := (hfr c hc).2
    rw [e] at this; cases this
  have hJ : (cat (somes (pcs (fs)))).length ≤ 4000 := by
    have e := somes_map hno
    have h4 : ∀ k ∈ somes (pcs (fs)), k.length ≤ 4 := fun k hk => hps.four k (by rw [e]; exact List.mem_map.mpr ⟨k, hk, rfl⟩)
    have h5 : (somes (pcs (fs))).length ≤ 1000 := by have := hps.len; rw [e] at this; simp at this; omega
    have := cat_len h4
    omega
  have hfm := fmod_two (cat (somes (pcs (fs)))).length
  (try k_fold)
  k_steps
  unfold Stop
  have her := evened_in hrg
  have hevl : (evened (fs)).length ≤ 20 := Nat.le_trans (evened_len _) (by omega)
  rename Fr _ _ _ _ => lF'
  rename News _ _ _ _ => lN'
  refine' comp_kind (K := .int) (fun _ => true) (fun k => .str (sgn k)) ?hF ?hclos ?hcell ?hkind ?hnames ?hx (textPack ?_) ?hs
  (case hF => exact lF')
  (case hclos => with_unfolding_all rfl)
  (case hcell => decide)
  (case hkind => with_unfolding_all rfl)
  (case hnames => decide)
  (case hx => with_unfolding_all rfl)
  (case hs => intro _; with_unfolding_all rfl)
  refine' ifexp_list (fs := evened (fs)) lF' lN' ?_ ?_
  · k_steps
    · unfold Stop
      refine ListPost.intro (by k_asm) (by k_asm) (by k_mem) ?_ ?_
      · rw [evened_t (by omega)]; assumption
      · intro p hp; first | exact hp | exact .tail _ hp | exact .tail _ (.tail _ hp)
    · unfold Stop
      refine ListPost.intro (by k_asm) (by k_asm) (by k_mem) ?_ ?_
      · rw [evened_f (by omega)]; assumption
      · intro p hp; first | exact hp | exact .tail _ hp | exact .tail _ (.tail _ hp)
  intro D9 cs9 n9 h9 tk9 F9 N9 I9
  clear lF' lN'
  have hevl2 : (evened fs).length ≤ 100 := by omega
  have CPT : PrepAt w (txt (evened fs)) (prep (txt (evened fs))) := con_prepared w _ hEO.xl
  obtain ⟨X, hX⟩ : ∃ X, txt (evened fs) = X := ⟨_, rfl⟩
  rw [hX] at CPT
  obtain ⟨Y, hY⟩ : ∃ Y, prep X = Y := ⟨_, rfl⟩
  rw [hY] at CPT
  have hEO2 : EndV w Y := by subst hY; subst hX; exact EndV.of hEO
  clear hEO
  k_steps
  unfold Stop
  obtain ⟨WR, O, EB, CD, CE, CR, CP, hW, hG, hasc, hyl, hel, hg4, hgn⟩ := hEO2
  rename Fr _ _ _ _ => lF'
  rename News _ _ _ _ => lN'
  exact law_endB w p loose mean mg mb TB XB M2 lF' lN' CD CE CR CP hW hG hasc hyl hel hg4 hgn hret
end
end
section
local macro_rules | `(tactic| walk_at "execs cons Assign cons") => `(tactic| (k_here; (with_reducible show wpAny _ _ (execs (Stmt.Assign [Expr.Name (Str.ofString "count") _] _ _ :: _) _) _ _ _); refine Stop.of ?_))
theorem con_law (w : World) (p : Program) (loose : List Str) (mean : ExcName → Option Value) (mg mb : Str → Option Value) {s : Shared} {L : Addr} {vs : List Value} {ns : List Int} (hL : s.heap.IsList L vs.toArray) (hi : IntsAre vs ns) (hlen : ns.length ≤ 63)
    (FN : ∀ ns : List Int, (∀ c ∈ ns, 0 ≤ c ∧ c < 1114112) → ns.length ≤ 20 → Fine ns)
    (EO : ∀ cs : List Int, (∀ c ∈ cs, 0 ≤ c ∧ c < 1114112) → cs.length ≤ 19 → EndOk (evened (cs.filter figP)))
    (X : (K w.params).In s.heap) (T : Top p loose mean mg mb s.heap) {Q E : Value → Shared → Prop}
    (hret : ∀ (h' : Heap) (tk' : Nat), (∀ b o, s.heap.get? b = some o → h'.get? b = some o) → Q (.bool true) { s with heap := h', toks := tk' }) :
    wpAny (model PySem.Challenge.rw_pa0016_01.prog w) callerA (call (.ref 228) [.ref L]) Q E s := by
  have hv0 := vals0_len ns
  revert X T
  k_fill
  intro X T
  refine wpAny_call ?_
  k_dflt (refine' code_top ?k3 ?k5 ?k6 ?k7 ?k8 ?k9 ?kB ?_ ?c2 ?c3 ?c4 ?c5; (case k3 => k_asm); (case k5 => k_asm); (case k6 => k_is); (case k7 => k_is); (case k8 => decide); (case k9 => first | exact BindsTo.of_eq rfl | exact binds_K (by k_in) rfl (by k_is) rfl rfl rfl); (case kB => exact locs rfl); (case c2 => exact rfl); (case c3 => exact rfl); (case c4 => exact rfl); (case c5 => decide); k_whole; intro L' h' F' N' B'; (try dsimp only); (try k_lift B'); (try k_fold))
  k_steps
  unfold Stop
  have hcr := codes0_in ns
  have hcl := codes0_len ns
  dsimp only [codes0] at hcr hcl
  generalize hcs : ([57, 66, 102, 64256, 13256, 8450, 119808, 173, 223] : List Int) ++ vals (List.take 10 ns) lawCode = codes at *
  have G' : Land w ([].filterMap fun e : Env => e.frame) callerA s.heap [] p loose mean mg mb s.heap s.heap := ⟨KtsTurn.refl, B', X, T, ktsDicts_nil⟩
  rename Fr _ _ _ _ => lF'
  rename News _ _ _ _ => lN'
  with_unfolding_all refine' for_moveL G' [Str.ofString "code"] _ lF' rfl ?hh rfl rfl ?hE ?_ ?hs
  case hh => rfl
  case hE => with_unfolding_all passes_own
  case hs => intro _; with_unfolding_all rfl
  k_steps
  unfold Stop MoveSrc
  rename Fr _ _ _ _ => lF'
  rename News _ _ _ _ => lN'
  rename IntsAre _ codes => lZ
  refine ⟨_, _, _, s.heap, _, rfl, ⟨_, rfl⟩, Or.inl rfl, .head _, G', lF', lN', ?_, ?_⟩
  · intro v g u I oI h tk hv M kF kN hnI
    obtain ⟨c, tc, rfl, hc⟩ := ints_mem lZ (by simpa using hv)
    have h2 : ∀ x ∈ [c, c], 0 ≤ x ∧ x < 1114112 := by
      intro x hx
      have : x = c := by simpa using hx
      subst this; exact hcr x hc
    have hF2 : Fine [c, c] := FN _ h2 (by simp)
    have B2 := M.below
    have X2 := M.kin
    have T2 := M.top
    clear lF' lN'
    (try k_fold)
    k_steps
  intro g1 u1 h1 tk1 M1 kF1 kN1
  have B3 := M1.below
  have X3 := M1.kin
  have T3 := M1.top
  clear lF' lN'
  (try k_fold)
  k_steps
  unfold Stop
  refine' assign_comp (K := .int) figP (fun k => .int k) ?hF ?hsw ?hclos ?hcell ?hkind ?hnames ?hx ?hy ?hp (textPackA ?_) ?hs
  (case hF => k_asm)
  (case hsw => with_unfolding_all rfl)
  (case hclos => with_unfolding_all rfl)
  (case hcell => decide)
  (case hkind => with_unfolding_all rfl)
  (case hnames => decide)
  (case hx => with_unfolding_all rfl)
  (case hy => with_unfolding_all rfl)
  (case hp => with_unfolding_all rfl)
  (case hs => intro _; with_unfolding_all rfl)
  k_steps
  unfold Stop
  have hEO := EO codes hcr hcl
  have hfr := figs_in hcr
  have hfl : (codes.filter figP).length ≤ 19 := Nat.le_trans (List.length_filter_le _ _) hcl
  have hfr1 : ∀ c ∈ codes.filter figP, 0 ≤ c ∧ c < 1114112 := fun c hc => (hfr c hc).1
  have hf3r : ∀ c ∈ codes.filter figP ++ [48], 0 ≤ c ∧ c < 1114112 := by
    intro c hc
    rcases List.mem_append.mp hc with h | h
    · exact hfr1 c h
    · rw [List.mem_singleton.mp h]; decide
  have hf3l : (codes.filter figP ++ [48]).length ≤ 20 := by rw [List.length_append]; simp only [List.length_cons, List.length_nil]; omega
  have P1 : Fine codes ∧ (∀ c ∈ codes, 0 ≤ c ∧ c < 1114112) ∧ codes.length ≤ 20 := ⟨FN _ hcr (by omega), hcr, by omega⟩
  have P2 : Fine (codes.filter figP) ∧ (∀ c ∈ codes.filter figP, 0 ≤ c ∧ c < 1114112) ∧ (codes.filter figP).length ≤ 20 := ⟨FN _ hfr1 (by omega), hfr1, by omega⟩
  have P3 : Fine (codes.filter figP ++ [48]) ∧ (∀ c ∈ codes.filter figP ++ [48], 0 ≤ c ∧ c < 1114112) ∧ (codes.filter figP ++ [48]).length ≤ 20 := ⟨FN _ hf3r hf3l, hf3r, hf3l⟩
  rename Fr _ _ _ _ => lF'
  rename News _ _ _ _ => lN'
  with_unfolding_all refine' for_moveL M1 [Str.ofString "row"] _ lF' rfl ?hh rfl rfl ?hE ?_ ?hs
  case hh => rfl
  case hE => with_unfolding_all passes_own
  case hs => intro _; with_unfolding_all rfl
  k_steps
  unfold Stop MoveSrc
  rename Fr _ _ _ _ => lF'
  rename News _ _ _ _ => lN'
  obtain ⟨l0, hl0, N0⟩ := with_led lN'
  refine ⟨_, _, _, g1, l0, rfl, ⟨_, rfl⟩, Or.inr rfl, by rw [hl0]; exact .head _, M1, lF', N0, ?_, ?_⟩
  · intro v g u I oI h tk hv M kF kN hnI
    obtain ⟨D, cs, n, rs, rfl, hm, hi9, hF9, hr9, hl9⟩ := row_cases (l := l0) hv (by rw [hl0]; k_mem) lZ (by rw [hl0]; k_mem) (by assumption) (by rw [hl0]; k_mem) (by assumption) (fun rs => Fine rs ∧ (∀ c ∈ rs, 0 ≤ c ∧ c < 1114112) ∧ rs.length ≤ 20) P1 P2 P3
    have B4 := M.below
    have X4 := M.kin
    have T4 := M.top
    clear lF' lN' N0
    (try k_fold)
    k_steps
  intro g2 u2 h2 tk2 M2 kF2 kN2
  have B5 := M2.below
  have X5 := M2.kin
  have T5 := M2.top
  clear lF' lN' N0
  subst hl0
  (try k_fold)
  k_steps
  unfold Stop
  rename Fr _ _ _ _ => lF'
  rename News _ _ _ _ => lN'
  rename (IntsAre _ (codes.filter figP)) => lI
  exact law_endA w p loose mean mg mb T X M2 (fr_same lF' (by with_unfolding_all rfl)) lN' (by k_mem) lI P2.1 P2.2.1 hfl hfr hEO hret
end
end
end
end
end
end
-- Y1
section
open PySem PySem.W PyProof.Rows
set_option maxRecDepth 100000
set_option maxHeartbeats 4000000
/-- a figure of base 16, great or small -/
noncomputable def hexd (d : Nat) : Bool := (decide (48 ≤ d) && decide (d ≤ 57)) || (decide (65 ≤ d) && decide (d ≤ 70)) || (decide (97 ≤ d) && decide (d ≤ 102))
theorem shifted_mem : ∀ (l : List (Nat × Nat × Nat)) (c r : Nat), Unicode.shifted l c = some r → ∃ q ∈ l, q.1 ≤ c ∧ c ≤ q.2.1 ∧ r = q.2.2 + (c - q.1)
  | [], c, r, h => by cases h
  | (a, b, t) :: l, c, r, h => by
    rw [Unicode.shifted] at h
    split at h
    · cases h
    · split at h
      · cases h; exact ⟨(a, b, t), .head _, by simp; omega, by simpa using ‹c ≤ b›, rfl⟩
      · obtain ⟨q, hq, h'⟩ := shifted_mem l c r h
        exact ⟨q, .tail _ hq, h'⟩
theorem lower_tab : UnicodeData.oneLower.all (fun q => decide (q.2.1 < 128) || decide (103 ≤ q.2.2)) = true := by decide +kernel
theorem hexd_high {d : Nat} (h : 103 ≤ d) : hexd d = false := by
  unfold hexd
  simp
  omega
theorem lowerOf_high {c : Nat} (h : 128 ≤ c) : ∃ d ∈ Unicode.lowerOf c, hexd d = false := by
  unfold Unicode.lowerOf Unicode.image
  by_cases e : c = 0x130
  · subst e; exact ⟨0x307, by decide, by decide⟩
  · have q : UnicodeData.severalLower.lookup c = none := by
      show List.lookup c [(0x130, [0x69, 0x307])] = none
      have : (c == 0x130) = false := beq_eq_false_iff_ne.mpr e
      simp [List.lookup, this]
    rw [q]
    refine ⟨_, .head _, ?_⟩
    cases s : Unicode.shifted UnicodeData.oneLower c with
    | none => exact hexd_high (by simp; omega)
    | some r =>
      obtain ⟨q, hq, h1, h2, rfl⟩ := shifted_mem _ _ _ s
      have := List.all_eq_true.mp lower_tab q hq
      simp at this
      exact hexd_high (by simp; omega)
theorem lowerAt_high {c : Nat} (h : 128 ≤ c) : ∃ d ∈ Unicode.lowerAt #[c] 0, hexd d = false := by
  unfold Unicode.lowerAt
  rw [show (#[c] : Array Nat)[0]? = some c from rfl]
  dsimp only
  split
  · exact ⟨0x3C2, .head _, by decide⟩
  · exact lowerOf_high h
theorem lower_high {c : Nat} (h : 128 ≤ c) : ∃ d ∈ (Txt.lower ⟨#[c]⟩).cps, hexd d = false := by
  rw [lower_one]
  obtain ⟨d, hd, e⟩ := lowerAt_high h
  exact ⟨d, by simpa using hd, e⟩
/-- the table: what is a figure there, and what is not -/
theorem b3_piece : b3Pairs.all (fun p => decide (128 ≤ p.1) && (match lawPiece p.1 with | none => p.2.cps.any fun d => !hexd d | some q => q == p.2)) = true := by decide +kernel
theorem b1_high : b1List.all (fun c => decide (128 ≤ c)) = true := by decide +kernel
theorem low_piece : (List.range 128).all (fun c => lawPiece (c : Int) == (if hexd c then some ⟨#[lo1 c]⟩ else none)) = true := by decide +kernel
theorem alpha_tab : (List.range 676).all (fun i => match lawPiece (119808 + (i : Int)) with | none => true | some q => b3At (119808 + (i : Int)) == some q) = true := by decide +kernel
theorem alone_tab : [8450, 8492, 8493, 8496, 8497, 8517, 13256, 64256].all (fun c => b3At c == aloneAt c) = true := by decide +kernel
theorem nothing_tab : ([173, 847, 6150, 6155, 6156, 6157, 8203, 8204, 8205, 8288, 65279].all fun c => inB1 c) = true ∧ ((List.range 16).all fun i => inB1 (65024 + (i : Int))) = true := by decide +kernel
theorem b1_piece : b1List.all (fun c => lawPiece c == some (Str.ofString "")) = true := by decide +kernel
end
-- Y2
section
open PySem PySem.W PyProof.Rows
set_option maxRecDepth 100000
set_option maxHeartbeats 4000000
/-- what one sign comes to, prepared -/
noncomputable def Mp (c : Nat) : Str := if inB1 (c : Int) = true then Str.ofString "" else map3 c
theorem inB1_mem {c : Int} (h : inB1 c = true) : c ∈ b1List := by
  unfold inB1 at h
  exact List.contains_iff_mem.mp h
theorem b1_some {c : Int} (h : inB1 c = true) : lawPiece c = some (Str.ofString "") := by
  have := List.all_eq_true.mp b1_piece c (inB1_mem h)
  simpa using this
theorem low_one {c : Nat} (h : c < 128) : b3At (c : Int) = none ∧ inB1 (c : Int) = false := by
  constructor
  · cases e : b3At (c : Int) with
    | none => rfl
    | some x =>
      have q := List.all_eq_true.mp b3_piece _ (b3Find_mem e)
      rw [Bool.and_eq_true] at q
      have := of_decide_eq_true q.1
      dsimp only at this
      omega
  · cases e : inB1 (c : Int) with
    | false => rfl
    | true =>
      have := of_decide_eq_true (List.all_eq_true.mp b1_high _ (inB1_mem e))
      omega
theorem low_law {c : Nat} (h : c < 128) : lawPiece (c : Int) = if hexd c then some ⟨#[lo1 c]⟩ else none := by
  have := List.all_eq_true.mp low_piece c (List.mem_range.mpr h)
  exact eq_of_beq this
theorem low_map {c : Nat} (h : c < 128) : map3 c = ⟨#[lo1 c]⟩ := by
  unfold map3
  rw [(low_one h).1]
  dsimp only
  rw [lower_ascii (x := ⟨#[c]⟩) (by intro d hd; simp at hd; subst hd; exact h)]
  simp
theorem low_Mp {c : Nat} (h : c < 128) : Mp c = ⟨#[lo1 c]⟩ := by
  unfold Mp
  rw [(low_one h).2, low_map h]; rfl
theorem alone_mem {c : Int} {q : Str} (h : aloneAt c = some q) : b3At c = some q := by
  have key : ∀ x ∈ [8450, 8492, 8493, 8496, 8497, 8517, 13256, 64256], b3At x = aloneAt x := fun x hx => eq_of_beq (List.all_eq_true.mp alone_tab x hx)
  have hm : c ∈ [8450, 8492, 8493, 8496, 8497, 8517, 13256, 64256] := by
    unfold aloneAt at h
    simp only [List.mem_cons, List.not_mem_nil, or_false]
    (repeat' split at h) <;> first | omega | cases h
  rw [key c hm, h]
theorem high_some {c : Nat} {q : Str} (hc : 128 ≤ c) (hb : inB1 (c : Int) = false) (h : lawPiece (c : Int) = some q) : b3At (c : Int) = some q := by
  have h0 := h
  unfold lawPiece at h
  rw [if_neg (by omega)] at h
  by_cases h1 : 119808 ≤ (c : Int) ∧ (c : Int) < 120484
  · have := List.all_eq_true.mp alpha_tab (c - 119808) (List.mem_range.mpr (by omega))
    have e : (119808 + ((c - 119808 : Nat) : Int)) = (c : Int) := by omega
    rw [e, h0] at this
    exact eq_of_beq this
  · rw [if_neg h1] at h
    by_cases h2 : 65024 ≤ (c : Int) ∧ (c : Int) < 65040
    · have := List.all_eq_true.mp nothing_tab.2 (c - 65024) (List.mem_range.mpr (by omega))
      have e : (65024 + ((c - 65024 : Nat) : Int)) = (c : Int) := by omega
      rw [e, hb] at this; cases this
    · rw [if_neg h2] at h
      by_cases h3 : memI (c : Int) [173, 847, 6150, 6155, 6156, 6157, 8203, 8204, 8205, 8288, 65279] = true
      · unfold memI at h3
        obtain ⟨x, hx, e⟩ := List.any_eq_true.mp h3
        have e := eq_of_beq e
        subst e
        have := List.all_eq_true.mp nothing_tab.1 _ hx
        rw [hb] at this; cases this
      · rw [if_neg h3] at h
        exact alone_mem h
theorem sign_some {c : Nat} {q : Str} (h : lawPiece (c : Int) = some q) : Mp c = q := by
  by_cases hc : c < 128
  · rw [low_Mp hc]
    rw [low_law hc] at h
    split at h
    · exact Option.some.inj h
    · cases h
  · unfold Mp
    cases hb : inB1 (c : Int) with
    | true =>
      rw [b1_some hb] at h
      exact Option.some.inj h
    | false =>
      have := high_some (by omega) hb h
      unfold map3
      rw [this]; rfl
theorem b3_some {c : Int} {x : Str} (h : b3At c = some x) (hn : lawPiece c = none) : ∃ d ∈ x.cps, hexd d = false := by
  have := List.all_eq_true.mp b3_piece _ (b3Find_mem h)
  simp only [hn, Bool.and_eq_true] at this
  obtain ⟨i, hi, e⟩ := Array.any_eq_true.mp this.2
  exact ⟨x.cps[i], Array.getElem_mem hi, by simpa using e⟩
theorem sign_none {c : Nat} (h : lawPiece (c : Int) = none) : ∃ d ∈ (Mp c).cps, hexd d = false := by
  by_cases hc : c < 128
  · rw [low_Mp hc]
    rw [low_law hc] at h
    refine ⟨lo1 c, by simp, ?_⟩
    cases hx : hexd c with
    | true => rw [hx] at h; cases h
    | false =>
      unfold hexd at hx; unfold lo1
      split
      · unfold hexd; simp at hx ⊢; omega
      · exact hx
  · have hb : inB1 (c : Int) = false := by
      cases hb : inB1 (c : Int) with
      | false => rfl
      | true => rw [b1_some hb] at h; cases h
    unfold Mp
    rw [hb]
    show ∃ d ∈ (map3 c).cps, _
    unfold map3
    split
    · rename_i x e; exact b3_some e h
    · exact lower_high (by omega)
/-- the sign itself is strange, too -/
theorem self_none {c : Nat} (h : lawPiece (c : Int) = none) : hexd c = false := by
  by_cases hc : c < 128
  · rw [low_law hc] at h
    cases hx : hexd c with
    | false => rfl
    | true => rw [hx] at h; cases h
  · exact hexd_high (by omega)
theorem alpha_figs : (List.range 676).all (fun i => match lawPiece (119808 + (i : Int)) with | none => true | some q => decide (q.length ≤ 2) && q.cps.all fig) = true := by decide +kernel
theorem alone_figs : [8450, 8492, 8493, 8496, 8497, 8517, 13256, 64256].all (fun c => match aloneAt c with | none => true | some q => decide (q.length ≤ 2) && q.cps.all fig) = true := by decide +kernel
theorem piece_figs {c : Int} {q : Str} (h0 : 0 ≤ c) (h : lawPiece c = some q) : q.length ≤ 2 ∧ ∀ d ∈ q.cps, fig d = true := by
  have get : ∀ {q : Str}, (decide (q.length ≤ 2) && q.cps.all fig) = true → q.length ≤ 2 ∧ ∀ d ∈ q.cps, fig d = true := by
    intro q hq
    simp only [Bool.and_eq_true, decide_eq_true_eq] at hq
    refine ⟨hq.1, fun d hd => ?_⟩
    obtain ⟨i, hi, rfl⟩ := Array.getElem_of_mem hd
    exact (Array.all_eq_true.mp hq.2) i hi
  by_cases hc : c < 128
  · obtain ⟨n, rfl⟩ : ∃ n : Nat, c = n := ⟨c.toNat, by omega⟩
    rw [low_law (by omega)] at h
    split at h
    · rename_i hx
      cases h
      refine ⟨by show 1 ≤ 2; decide, fun d hd => ?_⟩
      simp at hd; subst hd
      unfold hexd at hx; unfold lo1 fig
      split <;> simp at hx ⊢ <;> omega
    · cases h
  · have hh := h
    unfold lawPiece at h
    rw [if_neg (by omega)] at h
    by_cases h1 : 119808 ≤ c ∧ c < 120484
    · have := List.all_eq_true.mp alpha_figs (c - 119808).toNat (List.mem_range.mpr (by omega))
      have e : (119808 + (((c - 119808).toNat : Nat) : Int)) = c := by omega
      rw [e, hh] at this
      exact get this
    · rw [if_neg h1] at h
      have hE : (Str.ofString "").length ≤ 2 ∧ ∀ d ∈ (Str.ofString "").cps, fig d = true := get (by decide +kernel)
      split at h
      · cases h; exact hE
      · split at h
        · cases h; exact hE
        · have hm : c ∈ [8450, 8492, 8493, 8496, 8497, 8517, 13256, 64256] := by
            have h := h
            unfold aloneAt at h
            simp only [List.mem_cons, List.not_mem_nil, or_false]
            (repeat' split at h) <;> first | omega | cases h
          have := List.all_eq_true.mp alone_figs c hm
          rw [h] at this
          exact get this
end
-- Y3
section
open PySem PySem.W PyProof.Rows PySem.Builtin
set_option maxRecDepth 100000
set_option maxHeartbeats 1000000
theorem str_ext {x y : Str} (h : x.cps.toList = y.cps.toList) : x = y := by
  cases x; cases y
  simp only at h
  rw [Array.toList_inj.mp h]
/-- a text of its signs' numbers -/
noncomputable abbrev up (l : List Nat) : List Int := l.map fun (n : Nat) => (n : Int)
theorem nat_form : ∀ {ns : List Int}, (∀ c ∈ ns, 0 ≤ c) → ∃ l : List Nat, ns = up l
  | [], _ => ⟨[], rfl⟩
  | c :: r, h => by
    obtain ⟨l, e⟩ := nat_form (ns := r) fun x hx => h x (.tail _ hx)
    have := h c (.head _)
    refine ⟨c.toNat :: l, ?_⟩
    rw [up, List.map_cons, ← up, ← e, Int.toNat_of_nonneg this]
theorem txt_list (l : List Nat) : (txt (up l)).cps.toList = l := by
  unfold txt
  rw [cat_list]
  induction l with
  | nil => rfl
  | cons c r ih =>
    rw [up, List.map_cons, List.map_cons, List.flatMap_cons, ← up, ih]
    rfl
theorem txt_len (l : List Nat) : (txt (up l)).length = l.length := by
  show (txt (up l)).cps.size = _
  rw [← Array.length_toList, txt_list]
theorem txt_of (x : Str) : txt (up x.cps.toList) = x := str_ext (txt_list _)
theorem cat_cons (q : Str) (r : List Str) : (cat (q :: r)).cps.toList = q.cps.toList ++ (cat r).cps.toList := by
  rw [cat_list, cat_list, List.flatMap_cons]
theorem prep_txt (l : List Nat) : prep (txt (up l)) = cat (l.map Mp) := by
  unfold prep
  rw [join_cat]
  apply str_ext
  rw [cat_list, cat_list, signs, txt_list]
  induction l with
  | nil => rfl
  | cons c r ih =>
    rw [List.map_cons, List.map_cons, List.flatMap_cons, ← ih]
    have e : sig ⟨#[c]⟩ = c := rfl
    cases hb : inB1 (c : Int) with
    | true =>
      rw [List.filter_cons_of_neg (by rw [e, hb]; decide)]
      have : Mp c = Str.ofString "" := by unfold Mp; rw [if_pos hb]
      rw [this]
      have : (Str.ofString "").cps.toList = [] := by decide +kernel
      rw [this, List.nil_append]
    | false =>
      rw [List.filter_cons_of_pos (by rw [e, hb]; decide), List.map_cons, List.flatMap_cons]
      have : Mp c = map3 c := by unfold Mp; rw [hb]; rfl
      rw [this, e]
theorem Mp_len (c : Nat) : (Mp c).length ≤ 4 := by
  unfold Mp
  split
  · decide +kernel
  · exact map3_len c
theorem prep_len (l : List Nat) : (prep (txt (up l))).length ≤ 4 * l.length := by
  rw [prep_txt]
  have := cat_len (qs := l.map Mp) (k := 4) (by
    intro q hq
    obtain ⟨c, _, rfl⟩ := List.mem_map.mp hq
    exact Mp_len c)
  simpa using this
/-- where no sign is strange, the prepared text is the figures -/
theorem prep_figs : ∀ (l : List Nat), none ∉ pcs (up l) → cat (l.map Mp) = cat (somes (pcs (up l)))
  | [], _ => rfl
  | c :: r, h => by
    have hr := prep_figs r (fun z => h (by unfold pcs up at z ⊢; exact .tail _ z))
    apply str_ext
    cases e : lawPiece (c : Int) with
    | none => exact absurd (by unfold pcs up; rw [List.map_cons, List.map_cons, e]; exact .head _) h
    | some q =>
      have p : somes (pcs (up (c :: r))) = q :: somes (pcs (up r)) := by
        unfold somes pcs up
        rw [List.map_cons, List.map_cons, e]; rfl
      rw [p, List.map_cons, cat_cons, cat_cons, hr, sign_some e]
theorem prepOk {ns : List Int} (h : ∀ c ∈ ns, 0 ≤ c) : PrepOk ns := by
  obtain ⟨l, rfl⟩ := nat_form h
  intro hn
  rw [prep_txt, prep_figs l hn]
theorem goodP {ns : List Int} (h : ∀ c ∈ ns, 0 ≤ c) (hl : ns.length ≤ 20) : GoodP (pcs ns) := by
  have key : ∀ q, some q ∈ pcs ns → q.length ≤ 2 ∧ ∀ d ∈ q.cps, fig d = true := by
    intro q hq
    obtain ⟨c, hc, e⟩ := List.mem_map.mp hq
    exact piece_figs (h c hc) e
  refine ⟨by unfold pcs; rw [List.length_map]; omega, fun q hq => by have := (key q hq).1; omega, fun q hq => (key q hq).2⟩
/-- a strange sign leaves one in the text, and in the text prepared -/
theorem strange_txt {l : List Nat} (h : none ∈ pcs (up l)) : ∃ d ∈ (txt (up l)).cps.toList, hexd d = false := by
  rw [txt_list]
  unfold pcs up at h
  rw [List.map_map] at h
  obtain ⟨c, hc, e⟩ := List.mem_map.mp h
  exact ⟨c, hc, self_none e⟩
theorem strange_prep {l : List Nat} (h : none ∈ pcs (up l)) : ∃ d ∈ (prep (txt (up l))).cps.toList, hexd d = false := by
  rw [prep_txt, cat_list]
  unfold pcs up at h
  rw [List.map_map] at h
  obtain ⟨c, hc, e⟩ := List.mem_map.mp h
  obtain ⟨d, hd, e⟩ := sign_none e
  exact ⟨d, List.mem_flatMap.mpr ⟨Mp c, List.mem_map.mpr ⟨c, hc, rfl⟩, by simpa using hd⟩, e⟩
/-- the octet of a sign -/
noncomputable def byt (c : Nat) : UInt8 := Nat.toUInt8 c
theorem enc_list (x : Str) : (encA x).toList = x.cps.toList.map byt := encA_list x
theorem up_list (x : Str) : (upB (encA x)).toList = x.cps.toList.map fun c => Bytes.toUpper (byt c) := by
  unfold upB
  rw [List.toList_toArray, enc_list, List.map_map]; rfl
noncomputable def hexU (d : Nat) : Bool := (decide (48 ≤ d) && decide (d ≤ 57)) || (decide (65 ≤ d) && decide (d ≤ 70))
theorem not_up : ∀ c, c < 128 → notHex (Bytes.toUpper (byt c)).toNat = !hexd c := by decide +kernel
theorem not_raw : ∀ c, c < 128 → notHex (byt c).toNat = !hexU c := by decide +kernel
theorem any_list (b : Array UInt8) : (b.any fun c => notHex c.toNat) = b.toList.any fun c => notHex c.toNat := by rw [← Array.any_toList]
theorem any_same {α : Type} {p q : α → Bool} : ∀ {l : List α}, (∀ a ∈ l, p a = q a) → l.any p = l.any q
  | [], _ => rfl
  | a :: r, h => by rw [List.any_cons, List.any_cons, h a (.head _), any_same fun b hb => h b (.tail _ hb)]
theorem any_up {x : Str} (h : ∀ c ∈ x.cps.toList, c < 128) : ((upB (encA x)).any fun c => notHex c.toNat) = x.cps.toList.any fun c => !hexd c := by
  rw [any_list, up_list, List.any_map]
  exact any_same fun c hc => not_up c (h c hc)
theorem any_raw {x : Str} (h : ∀ c ∈ x.cps.toList, c < 128) : ((encA x).any fun c => notHex c.toNat) = x.cps.toList.any fun c => !hexU c := by
  rw [any_list, enc_list, List.any_map]
  exact any_same fun c hc => not_raw c (h c hc)
theorem hexU_hexd {d : Nat} (h : hexd d = false) : hexU d = false := by
  unfold hexd at h; unfold hexU; simp at h ⊢; omega
/-- a text with a strange sign is refused, or barred -/
theorem read_strange {x : Str} (h : ∃ d ∈ x.cps.toList, hexd d = false) (b : Bool) : readOf x b = if ascii x = true then .refused else .barred := by
  unfold readOf
  by_cases ha : ascii x = true
  · rw [if_pos ha, if_pos ha]
    have hx : ∀ c ∈ x.cps.toList, c < 128 := fun c hc => ascii_all ha c (by simpa using hc)
    obtain ⟨d, hd, e⟩ := h
    rw [if_pos]
    cases b with
    | true =>
      show ((upB (encA x)).any fun c => notHex c.toNat) = true
      rw [any_up hx]
      exact List.any_eq_true.mpr ⟨d, hd, by rw [e]; rfl⟩
    | false =>
      show ((encA x).any fun c => notHex c.toNat) = true
      rw [any_raw hx]
      exact List.any_eq_true.mpr ⟨d, hd, by rw [hexU_hexd e]; rfl⟩
  · rw [if_neg ha, if_neg ha]
theorem allSome_of_none : ∀ {ps : List (Option Str)}, none ∈ ps → allSome ps = none
  | [], h => by cases h
  | none :: _, _ => rfl
  | some q :: r, h => by
    rcases List.mem_cons.mp h with h | h
    · cases h
    · rw [allSome, allSome_of_none h]; rfl
theorem due_strange {x : Str} {ps : List (Option Str)} (h : none ∈ ps) (b : Bool) : dueOf x ps b = if ascii x = true then .refused else .barred := by
  unfold dueOf
  rw [allSome_of_none h]
/-- two by two -/
noncomputable def decP : List Int → List Int
  | a :: b :: r => (16 * a + b) :: decP r
  | _ => []
theorem decI_P : ∀ l : List Int, decI l = decP (l.map hexVal)
  | [] => rfl
  | [a] => rfl
  | a :: b :: r => by
    rw [decI, List.map_cons, List.map_cons, decP, decI_P r]
theorem vals_map {α : Type} (as : List α) (f : α → Int) : vals as f = as.map f := by
  unfold vals
  rw [List.filter_eq_self.mpr fun _ _ => rfl]
end
-- Y4
section
open PySem PySem.W PyProof.Rows PySem.Builtin
set_option maxRecDepth 100000
set_option maxHeartbeats 1000000
theorem range_P : ∀ (V : List Int), V.length % 2 = 0 → (List.range (V.length / 2)).map (fun i => 16 * V.getD (2 * i) 0 + V.getD (2 * i + 1) 0) = decP V
  | [], _ => rfl
  | [a], h => by simp at h
  | a :: b :: r, h => by
    have e : (a :: b :: r).length / 2 = r.length / 2 + 1 := by simp only [List.length_cons]; omega
    have hr : r.length % 2 = 0 := by simp only [List.length_cons] at h; omega
    rw [e, List.range_succ_eq_map, List.map_cons, List.map_map, decP, ← range_P r hr]
    rfl
theorem pairs_P {V : List Int} (h : V.length % 2 = 0) : vals (rangeInts 0 2 (V.length / 2)) (pairAt V) = decP V := by
  rw [vals_map, ← range_P V h]
  unfold rangeInts
  rw [List.map_map]
  refine List.map_congr_left fun i _ => ?_
  show 16 * V.getD (0 + (i : Int) * 2).toNat 0 + V.getD (0 + (i : Int) * 2 + 1).toNat 0 = _
  have e1 : (0 + (i : Int) * 2).toNat = 2 * i := by omega
  have e2 : (0 + (i : Int) * 2 + 1).toNat = 2 * i + 1 := by omega
  rw [e1, e2]
theorem due_P {y : Str} (hf : ∀ c ∈ y.cps.toList, fig c = true) (h : y.length % 2 = 0) : dueOct y = byteArr (decP (y.cps.toList.map figVal)) := by
  unfold dueOct
  have e := vals_fig (x := y) fun c hc => hf c (by simpa using hc)
  rw [e]
  have l : (y.cps.toList.map figVal).length = y.length := by rw [List.length_map, Array.length_toList]; rfl
  rw [← l, pairs_P (by rw [l]; exact h)]
theorem val_up : ∀ c, c < 128 → hexd c = true → hexVal ((Bytes.toUpper (byt c)).toNat : Int) = figVal (lo1 c) := by decide +kernel
theorem val_raw : ∀ c, c < 128 → hexU c = true → hexVal ((byt c).toNat : Int) = figVal (lo1 c) := by decide +kernel
theorem hexd_low {c : Nat} (h : hexd c = true) : c < 128 := by unfold hexd at h; simp at h; omega
theorem hexd_fig {c : Nat} (h : hexd c = true) : fig (lo1 c) = true := by
  have key : ∀ c, c < 128 → hexd c = true → fig (lo1 c) = true := by decide +kernel
  exact key c (hexd_low h) h
theorem fig_hexd {c : Nat} (h : fig c = true) : hexd c = true ∧ lo1 c = c := by
  have hc : c < 128 := by unfold fig at h; simp at h; omega
  have key : ∀ c, c < 128 → fig c = true → hexd c = true ∧ lo1 c = c := by decide +kernel
  exact key c hc h
theorem ints_up {x : Str} (h : ∀ c ∈ x.cps.toList, hexd c = true) : (KBw.bInts (upB (encA x))).map hexVal = x.cps.toList.map fun c => figVal (lo1 c) := by
  unfold KBw.bInts
  rw [up_list, List.map_map, List.map_map]
  exact List.map_congr_left fun c hc => val_up c (hexd_low (h c hc)) (h c hc)
theorem ints_raw {x : Str} (h : ∀ c ∈ x.cps.toList, hexU c = true) : (KBw.bInts (encA x)).map hexVal = x.cps.toList.map fun c => figVal (lo1 c) := by
  unfold KBw.bInts
  rw [enc_list, List.map_map, List.map_map]
  exact List.map_congr_left fun c hc => val_raw c (by have := h c hc; unfold hexU at this; simp at this; omega) (h c hc)
theorem small_sign : ∀ c, c < 128 → hexd c = true → Txt.contains (Str.ofString "abcdef") ⟨#[c]⟩ = !hexU c := by decide +kernel
theorem small_any {x : Str} (h : ∀ c ∈ x.cps.toList, hexd c = true) : (x.cps.toList.any fun c => !hexU c) = true ↔ small x ≠ [] := by
  unfold small signs
  rw [List.any_eq_true]
  constructor
  · rintro ⟨c, hc, e⟩ hn
    have := List.filter_eq_nil_iff.mp hn ⟨#[c]⟩ (List.mem_map.mpr ⟨c, hc, rfl⟩)
    rw [small_sign c (hexd_low (h c hc)) (h c hc)] at this
    exact this e
  · intro hn
    obtain ⟨k, hk⟩ := List.exists_mem_of_ne_nil _ hn
    obtain ⟨hk, e⟩ := List.mem_filter.mp hk
    obtain ⟨c, hc, rfl⟩ := List.mem_map.mp hk
    rw [small_sign c (hexd_low (h c hc)) (h c hc)] at e
    exact ⟨c, hc, e⟩
theorem ascii_of {x : Str} (h : ∀ c ∈ x.cps.toList, c < 128) : ascii x = true := by
  unfold ascii
  rw [Array.all_eq_true_iff_forall_mem]
  exact fun c hc => by simpa using h c (by simpa using hc)
theorem allSome_map : ∀ qs : List Str, allSome (qs.map some) = some qs
  | [] => rfl
  | q :: r => by rw [List.map_cons, allSome, allSome_map r]; rfl
/-- a text of figures: what it is read as, and what is due -/
theorem read_hex {x : Str} {qs : List Str} (hx : ∀ c ∈ x.cps.toList, hexd c = true) (hq : (cat qs).cps.toList = x.cps.toList.map lo1) (b : Bool) : readOf x b = dueOf x (qs.map some) b := by
  have h128 : ∀ c ∈ x.cps.toList, c < 128 := fun c hc => hexd_low (hx c hc)
  have ha := ascii_of h128
  have hl : (cat qs).length = x.length := by
    show (cat qs).cps.size = x.cps.size
    rw [← Array.length_toList, hq, List.length_map, Array.length_toList]
  have hf : ∀ c ∈ (cat qs).cps.toList, fig c = true := by
    rw [hq]
    intro c hc
    obtain ⟨d, hd, rfl⟩ := List.mem_map.mp hc
    exact hexd_fig (hx d hd)
  have hup : ((upB (encA x)).any fun c => notHex c.toNat) = false := by
    rw [any_up h128, List.any_eq_false]
    intro c hc; rw [hx c hc]; decide
  unfold readOf dueOf
  rw [if_pos ha, if_pos ha, allSome_map]
  dsimp only
  rw [hl]
  have hsz : (encOf x b).size = x.length := encOf_size x b
  have hP : ∀ (hb : b = true ∨ ∀ c ∈ x.cps.toList, hexU c = true), decI (KBw.bInts (encOf x b)) = decP (x.cps.toList.map fun c => figVal (lo1 c)) := by
    intro hb
    rw [decI_P]
    cases b with
    | true => exact congrArg decP (ints_up hx)
    | false => exact congrArg decP (ints_raw (hb.resolve_left (by decide)))
  have hD : x.length % 2 = 0 → dueOct (cat qs) = byteArr (decP (x.cps.toList.map fun c => figVal (lo1 c))) := by
    intro h0
    rw [due_P hf (by rw [hl]; exact h0), hq, List.map_map]; rfl
  cases b with
  | true =>
    have : ((encOf x true).any fun c => notHex c.toNat) = false := hup
    rw [this, if_neg (by decide), hsz]
    by_cases ho : x.length % 2 = 1
    · rw [if_pos ho, if_pos ho]
    · rw [if_neg ho, if_neg ho, if_neg (by simp), hD (by omega), hP (.inl rfl)]
  | false =>
    have e : ((encOf x false).any fun c => notHex c.toNat) = x.cps.toList.any fun c => !hexU c := any_raw h128
    rw [e, hsz]
    by_cases hs : (x.cps.toList.any fun c => !hexU c) = true
    · rw [if_pos hs]
      by_cases ho : x.length % 2 = 1
      · rw [if_pos ho]
      · rw [if_neg ho, if_pos ⟨rfl, (small_any hx).mp hs⟩]
    · rw [if_neg hs]
      by_cases ho : x.length % 2 = 1
      · rw [if_pos ho, if_pos ho]
      · have hU : ∀ c ∈ x.cps.toList, hexU c = true := by
          intro c hc
          cases hu : hexU c with
          | true => rfl
          | false => exact absurd (List.any_eq_true.mpr ⟨c, hc, by rw [hu]; rfl⟩) hs
        rw [if_neg ho, if_neg ho, if_neg (fun z => hs ((small_any hx).mpr z.2)), hD (by omega), hP (.inr hU)]
theorem somes_all : ∀ {ps : List (Option Str)}, none ∉ ps → ps = (somes ps).map some
  | [], _ => rfl
  | none :: r, h => absurd (.head _) h
  | some q :: r, h => by
    have := somes_all (ps := r) fun z => h (.tail _ z)
    show some q :: r = some q :: (somes r).map some
    rw [← this]
theorem cat_low : ∀ (l : List Nat), (∀ c ∈ l, c < 128) → none ∉ pcs (up l) → (∀ c ∈ l, hexd c = true) ∧ (cat (somes (pcs (up l)))).cps.toList = l.map lo1
  | [], _, _ => ⟨(fun _ h => nomatch h), rfl⟩
  | c :: r, h, hn => by
    have hr := cat_low r (fun d hd => h d (.tail _ hd)) (fun z => hn (by unfold pcs up at z ⊢; exact .tail _ z))
    have e := low_law (h c (.head _))
    cases hx : hexd c with
    | false =>
      rw [hx] at e
      exact absurd (by unfold pcs up; rw [List.map_cons, List.map_cons, e]; exact .head _) hn
    | true =>
      rw [hx] at e
      have p : somes (pcs (up (c :: r))) = ⟨#[lo1 c]⟩ :: somes (pcs (up r)) := by
        unfold somes pcs up
        rw [List.map_cons, List.map_cons, e]; rfl
      refine ⟨fun d hd => ?_, by rw [p, cat_cons, hr.2]; rfl⟩
      rcases List.mem_cons.mp hd with rfl | hd
      · exact hx
      · exact hr.1 d hd
theorem not_ascii {x : Str} {qs : List (Option Str)} (h : ¬ ascii x = true) (b : Bool) : readOf x b = dueOf x qs b := by
  unfold readOf dueOf
  rw [if_neg h, if_neg h]
theorem figs_of {l : List Nat} : ∀ c ∈ (cat (somes (pcs (up l)))).cps.toList, fig c = true := by
  intro c hc
  rw [cat_list] at hc
  obtain ⟨q, hq, hc⟩ := List.mem_flatMap.mp hc
  obtain ⟨o, ho, e⟩ := List.mem_filterMap.mp hq
  obtain ⟨i, hi, e2⟩ := List.mem_map.mp ho
  have h0 : (0 : Int) ≤ i := by
    obtain ⟨n, _, rfl⟩ := List.mem_map.mp hi
    omega
  have e : o = some q := e
  subst e
  exact (piece_figs h0 e2).2 c (by simpa using hc)
theorem fine {ns : List Int} (h : ∀ c ∈ ns, 0 ≤ c ∧ c < 1114112) (hl : ns.length ≤ 20) : Fine ns := by
  have h0 : ∀ c ∈ ns, 0 ≤ c := fun c hc => (h c hc).1
  have hg := goodP h0 hl
  have hp := prepOk h0
  obtain ⟨l, rfl⟩ := nat_form h0
  have hl' : l.length ≤ 20 := by simpa using hl
  have hxl := txt_len l
  have hyl := prep_len l
  refine ⟨hg, hp, by omega, by omega, fun b => ?_⟩
  by_cases hn : none ∈ pcs (up l)
  · rw [read_strange (strange_txt hn), due_strange hn, read_strange (strange_prep hn), due_strange hn]
    exact ⟨rfl, rfl⟩
  · have hs := somes_all hn
    constructor
    · by_cases ha : ascii (txt (up l)) = true
      · have h128 : ∀ c ∈ l, c < 128 := by
          intro c hc
          refine ascii_all ha c ?_
          have : c ∈ (txt (up l)).cps.toList := by rw [txt_list]; exact hc
          simpa using this
        obtain ⟨hx, hq⟩ := cat_low l h128 hn
        have := read_hex (x := txt (up l)) (qs := somes (pcs (up l))) (by rw [txt_list]; exact hx) (by rw [txt_list]; exact hq) b
        rw [← hs] at this
        exact this
      · exact not_ascii ha b
    · have e : prep (txt (up l)) = cat (somes (pcs (up l))) := hp hn
      have hf := figs_of (l := l)
      have := read_hex (x := prep (txt (up l))) (qs := somes (pcs (up l))) (by rw [e]; exact fun c hc => (fig_hexd (hf c hc)).1)
        (by rw [e]; exact ((List.map_congr_left (g := fun c => c) fun c hc => (fig_hexd (hf c hc)).2).trans (List.map_id' _)).symm) b
      rw [← hs] at this
      exact this
end
-- Y5
section
open PySem PySem.W PyProof.Rows PySem.Builtin
set_option maxRecDepth 100000
set_option maxHeartbeats 1000000
noncomputable def ub (c : Nat) : Nat := (Bytes.toUpper (byt c)).toNat
theorem ub_facts {c : Nat} (h : fig c = true) : ub c = (if c < 97 then c else c - 32) ∧ hexU (ub c) = true ∧ lo1 (ub c) = c ∧ ub c < 128 := by
  have hc : c < 128 := by unfold fig at h; simp at h; omega
  have key : ∀ c, c < 128 → fig c = true → ub c = (if c < 97 then c else c - 32) ∧ hexU (ub c) = true ∧ lo1 (ub c) = c ∧ ub c < 128 := by decide +kernel
  exact key c hc h
theorem digit_back {c : Nat} (h : fig c = true) : Bytes.hexDigit (figVal c).toNat = c := by
  have hc : c < 128 := by unfold fig at h; simp at h; omega
  have key : ∀ c, c < 128 → fig c = true → Bytes.hexDigit (figVal c).toNat = c := by decide +kernel
  exact key c hc h
theorem byte_back {n : Int} (_h0 : 0 ≤ n) (h : n < 256) : n.toNat.toUInt8.toNat = n.toNat := by
  simp; omega
theorem hex_round : ∀ (y : List Nat), (∀ c ∈ y, fig c = true) → y.length % 2 = 0 → ((decP (y.map figVal)).map fun n => n.toNat.toUInt8).flatMap (fun c => [Bytes.hexDigit (c.toNat / 16), Bytes.hexDigit (c.toNat % 16)]) = y
  | [], _, _ => rfl
  | [a], _, h => by simp at h
  | a :: b :: r, hf, h => by
    have ha := hf a (by simp)
    have hb := hf b (by simp)
    have ra := figVal_in a ha
    have rb := figVal_in b hb
    have ih := hex_round r (fun c hc => hf c (by simp [hc])) (by simp only [List.length_cons] at h; omega)
    rw [List.map_cons, List.map_cons, decP, List.map_cons, List.flatMap_cons, ih, byte_back (by omega) (by omega)]
    have e1 : (16 * figVal a + figVal b).toNat / 16 = (figVal a).toNat := by omega
    have e2 : (16 * figVal a + figVal b).toNat % 16 = (figVal b).toNat := by omega
    rw [e1, e2, digit_back ha, digit_back hb]
    rfl
theorem decP_len : ∀ l : List Int, (decP l).length ≤ l.length
  | [] => by simp [decP]
  | [a] => by simp [decP]
  | a :: b :: r => by have := decP_len r; simp [decP]; omega
theorem oct_P {Y : Str} (hf : ∀ c ∈ Y.cps.toList, fig c = true) : octOf Y = byteArr (decP (Y.cps.toList.map figVal)) := by
  unfold octOf
  rw [decI_P, ints_up fun c hc => (fig_hexd (hf c hc)).1]
  rw [List.map_congr_left (g := figVal) fun c hc => by rw [(fig_hexd (hf c hc)).2]]
theorem hex_back {Y : Str} (hf : ∀ c ∈ Y.cps.toList, fig c = true) (he : Y.length % 2 = 0) : hexT (octOf Y) = Y := by
  apply str_ext
  show (hexA (octOf Y)).toList = _
  rw [hexA_list, oct_P hf]
  unfold byteArr
  rw [List.toList_toArray]
  exact hex_round _ hf (by rw [Array.length_toList]; exact he)
theorem ints_ub (Y : Str) : KBw.bInts (upB (encA Y)) = up (Y.cps.toList.map ub) := by
  unfold KBw.bInts up
  rw [up_list, List.map_map, List.map_map]; rfl
section
variable {Y : Str} (hf : ∀ c ∈ Y.cps.toList, fig c = true) (he : Y.length % 2 = 0) (hlen : Y.length ≤ 80)
include hf
theorem e_hexd : ∀ c ∈ Y.cps.toList, hexd c = true := fun c hc => (fig_hexd (hf c hc)).1
theorem e_low : ∀ c ∈ Y.cps.toList, c < 128 := fun c hc => hexd_low (e_hexd hf c hc)
theorem e_none : ((upB (encA Y)).any fun c => notHex c.toNat) = false := by
  rw [any_up (e_low hf), List.any_eq_false]
  intro c hc; rw [e_hexd hf c hc]; decide
omit hf in
theorem e_size (Y : Str) : (upB (encA Y)).size = Y.length := encOf_size Y true
omit hf in
theorem e_count (Y : Str) : Y.cps.toList.length = Y.length := by rw [Array.length_toList]; rfl
omit hf in
theorem decP_half : ∀ l : List Int, 2 * (decP l).length ≤ l.length
  | [] => by simp [decP]
  | [a] => by simp [decP]
  | a :: b :: r => by
    have := decP_half r
    simp only [decP, List.length_cons]; omega
include hlen
theorem e_osz : (octOf Y).size ≤ 50 := by
  rw [oct_P hf, byteArr_size]
  have := decP_half (Y.cps.toList.map figVal)
  rw [List.length_map, e_count] at this
  omega
include he
theorem e_HexB : HexB (upB (encA Y)) := by
  have := e_size Y
  have hno := e_none hf
  exact ⟨by omega, by omega, by omega, any_none hno, any_val hno⟩
theorem e_el : (KBw.bInts (upB (encA (hexT (octOf Y))))).length ≤ 100 := by
  rw [hex_back hf he, KBw.ints_length, e_size]; omega
omit hlen in
theorem e_wr : wrOf Y = txt (up (Y.cps.toList.map ub)) := by
  show txt (KBw.bInts (upB (encA (hexT (octOf Y))))) = _
  rw [hex_back hf he, ints_ub]
omit hlen in
theorem e_wrl : (wrOf Y).cps.toList = Y.cps.toList.map ub := by
  rw [e_wr hf he, txt_list]
theorem e_wl : (wrOf Y).length ≤ 100 := by
  rw [e_wr hf he, txt_len, List.length_map, e_count]; omega
omit hlen in
theorem e_great : wrOf Y = cat ((signs Y).map greatS) := by
  apply str_ext
  rw [e_wrl hf he, cat_list, signs, List.map_map]
  have : ∀ l : List Nat, (∀ c ∈ l, fig c = true) → l.map ub = (l.map (greatS ∘ fun n => ⟨#[n]⟩)).flatMap fun q => q.cps.toList := by
    intro l
    induction l with
    | nil => intro _; rfl
    | cons c r ih =>
      intro hl
      rw [List.map_cons, List.map_cons, List.flatMap_cons, ← ih fun d hd => hl d (.tail _ hd), (ub_facts (hl c (.head _))).1]
      have e : ((greatS ∘ fun n => (⟨#[n]⟩ : Str)) c) = greatS ⟨#[c]⟩ := rfl
      rw [e]
      have s : sig ⟨#[c]⟩ = c := rfl
      unfold greatS
      rw [s]
      split <;> rfl
  exact this _ hf
omit hlen in
theorem e_read : readOf (wrOf Y) false = .oct (octOf Y) := by
  have hwl := e_wrl hf he
  have hO := oct_P hf
  have hc := e_count Y
  generalize wrOf Y = W at *
  generalize octOf Y = O at *
  have hU : ∀ c ∈ W.cps.toList, hexU c = true := by
    rw [hwl]; intro c hc
    obtain ⟨d, hd, rfl⟩ := List.mem_map.mp hc
    exact (ub_facts (hf d hd)).2.1
  have hl8 : ∀ c ∈ W.cps.toList, c < 128 := by
    rw [hwl]; intro c hc
    obtain ⟨d, hd, rfl⟩ := List.mem_map.mp hc
    exact (ub_facts (hf d hd)).2.2.2
  have hd : KBw.bInts (encOf W false) = KBw.bInts (encA W) := rfl
  have hwz : (encOf W false).size = Y.length := by
    rw [encOf_size]
    have := e_count W
    rw [hwl, List.length_map, hc] at this
    exact this.symm
  unfold readOf
  rw [if_pos (ascii_of hl8)]
  have e : ((encOf W false).any fun c => notHex c.toNat) = false := by
    show ((encA W).any fun c => notHex c.toNat) = false
    rw [any_raw hl8, List.any_eq_false]
    intro c hc; rw [hU c hc]; decide
  rw [e, if_neg (by decide), hwz, if_neg (by omega), hd, decI_P, ints_raw hU, hwl, List.map_map, hO]
  rw [List.map_congr_left (g := figVal) fun c hc => by
    show figVal (lo1 (ub c)) = figVal c
    rw [(ub_facts (hf c hc)).2.2.1]]
omit hlen in
theorem e_again : prep (wrOf Y) = Y := by
  rw [e_wr hf he, prep_txt]
  apply str_ext
  rw [cat_list, List.map_map]
  have : ∀ l : List Nat, (∀ c ∈ l, fig c = true) → ((l.map (Mp ∘ ub)).flatMap fun q => q.cps.toList) = l := by
    intro l
    induction l with
    | nil => intro _; rfl
    | cons c r ih =>
      intro hl
      have q := ub_facts (hl c (.head _))
      rw [List.map_cons, List.flatMap_cons, ih fun d hd => hl d (.tail _ hd)]
      have e : (Mp ∘ ub) c = ⟨#[c]⟩ := by
        show Mp (ub c) = _
        rw [low_Mp q.2.2.2, q.2.2.1]
      rw [e]; rfl
  exact this _ hf
end
theorem endOk_of {fs : List Int} (h : ∀ c ∈ fs, 0 ≤ c ∧ c < 1114112) (hl : fs.length ≤ 20) (hn : none ∉ pcs fs) (he : (cat (somes (pcs fs))).length % 2 = 0) : EndOk fs := by
  have hF := fine h hl
  have hY : prep (txt fs) = cat (somes (pcs fs)) := hF.prep hn
  have hlen : (prep (txt fs)).length ≤ 80 := by
    obtain ⟨l, rfl⟩ := nat_form (ns := fs) fun c hc => (h c hc).1
    have := prep_len l
    simp at hl; omega
  have hf : ∀ c ∈ (prep (txt fs)).cps.toList, fig c = true := by
    rw [hY]
    obtain ⟨l, rfl⟩ := nat_form (ns := fs) fun c hc => (h c hc).1
    exact figs_of
  rw [← hY] at he
  exact ⟨hF.xl, hF.yl, fun c hc => e_low hf c (by simpa using hc), e_HexB hf he hlen, e_osz hf hlen, e_el hf he hlen, e_wl hf he hlen, e_great hf he, e_read hf he, e_again hf he⟩
theorem pcs_app (a b : List Int) : pcs (a ++ b) = pcs a ++ pcs b := by unfold pcs; rw [List.map_append]
theorem endOk {cs : List Int} (h : ∀ c ∈ cs, 0 ≤ c ∧ c < 1114112) (hl : cs.length ≤ 19) : EndOk (evened (cs.filter figP)) := by
  have hin := figs_in h
  have hl2 : (cs.filter figP).length ≤ 19 := Nat.le_trans (List.length_filter_le _ _) hl
  have hn : none ∉ pcs (cs.filter figP) := by
    intro hn
    obtain ⟨c, hc, e⟩ := List.mem_map.mp hn
    have := (hin c hc).2
    rw [e] at this; cases this
  have hr : ∀ c ∈ cs.filter figP, 0 ≤ c ∧ c < 1114112 := fun c hc => (hin c hc).1
  generalize cs.filter figP = fs at *
  have hr2 := evened_in hr
  have hl3 := evened_len fs
  by_cases he : (cat (somes (pcs fs))).length % 2 = 0
  · rw [evened_t he] at *
    exact endOk_of hr (by omega) hn he
  · rw [evened_f he] at *
    have e48 : pcs [48] = [some ⟨#[48]⟩] := by decide +kernel
    refine endOk_of hr2 (by omega) ?_ ?_
    · rw [pcs_app, e48]
      intro z
      rcases List.mem_append.mp z with z | z
      · exact hn z
      · cases z with
        | tail _ z => cases z
    · rw [pcs_app, e48]
      have : (cat (somes (pcs fs ++ [some ⟨#[48]⟩]))).length = (cat (somes (pcs fs))).length + 1 := by
        show (cat _).cps.size = (cat _).cps.size + 1
        rw [← Array.length_toList, ← Array.length_toList, cat_list, cat_list]
        unfold somes
        rw [List.filterMap_append, List.flatMap_append, List.length_append]
        rfl
      rw [this]; omega
end
-- Z1
section
set_option maxRecDepth 100000
set_option maxHeartbeats 4000000
open PySem PySem.W PySem.Calls PyProof.Rows
noncomputable def mainSays (P : Params) : Option Value := match (K P).lookup mainNs with
  | some o => (match o.data with | .dict es _ => nsFind es "law" | _ => none)
  | none => none
theorem mainSays_law (P : Params) : mainSays P = some (.ref 228) := by kernel_rfl
theorem law_at {w : World} {h : Heap} {mg : Str → Option Value} (X : InK K w h) (g : h.Ns mainGlobals mg) : mg "law" = some (.ref 228) := by
  rw [g.eq_nsMap]
  have e := mainSays_law w.params
  unfold mainSays at e
  split at e
  · rename_i o ho
    unfold Heap.nsMap
    rw [show h.get? mainGlobals = some o from X _ _ ho]
    exact e
  · cases e
theorem law_call : ∀ (w : World) (s₀ s₁ : Shared) (mg mb : Str → Option Value), Ground qq looseL PySem.Challenge.rw_pa0016_01.row.records (XL qq []) w s₀ mg mb s₁.heap → InK K w s₁.heap → s₁.gens = #[] → ∀ (f : Addr), mg PySem.Challenge.rw_pa0016_01.row.name = some (.ref f) → ∀ (args : List WData) (vs : List Value) (as : List Addr),
      PySem.Challenge.rw_pa0016_01.row.claim.pre args = true → WData.layableAll args = true → ReadsAllW PySem.Challenge.rw_pa0016_01.row.records (classAt s₀.heap) s₁.heap vs args as → WellAll w.params s₁.heap vs args → (∀ a ∈ as, (a == sysModules) = false) →
        wpAny (model PySem.Challenge.rw_pa0016_01.row.prog w) callerA (PySem.call (.ref f) vs) (fun v s' => GoodWG PySem.Challenge.rw_pa0016_01.row.claim (classAt s₀.heap) (ExcName.means s₀.heap) args s₁ (.ok (.ret v)) s')
          (fun e s' => GoodWG PySem.Challenge.rw_pa0016_01.row.claim (classAt s₀.heap) (ExcName.means s₀.heap) args s₁ (.error e) s') s₁ := by
  intro w s₀ s₁ mg mb G Y hg f hf args vs as hpre hlay hrd hwl hlo
  have hf2 : mg "law" = some (.ref f) := hf
  rw [law_at Y G.T.g] at hf2
  cases hf2
  have T := G.T
  wrow_args hpre hlay hrd hwl hlo
  rename s₁.heap.IsList _ _ => hL
  rename IntsAre _ _ => hI
  rename ¬ _ => hn
  refine con_law w qq (looseW qq looseL) (ExcName.means s₀.heap) mg mb hL hI (by omega) (fun _ h hl => fine h hl) (fun _ h hl => endOk h hl) Y T fun h' tk' keep => ?_
  refine GoodW.toG ⟨.inl ⟨.bool true, .bool true, [], rfl, fun _ => rfl, .bool _, by wrow_post, fun _ => ⟨List.nodup_nil, nofun⟩⟩, keep, rfl, hg⟩
theorem law_holds : PySem.Challenge.rw_pa0016_01.Holds := by
  w_on
  refine holds_law said fun said' => ?_
  refine' holds_ran (q := qq) (loose := looseL) (XP := XL qq []) (YP := InK K) behK rfl XL.keeps InK.keeps (by rfl) (by rfl) (by rfl) said' (by decide +kernel) (by decide +kernel) (by rfl) ⟨rfl, rfl, rfl, rfl, rfl, by decide +kernel⟩ ?_ law_call
  w_witness2
end
end Mine
theorem PySem.Challenge.cw_pa0016_01_holds : PySem.Challenge.rw_pa0016_01.Holds :=
  Mine.law_holds
