import PyProof.Rows.All
import Wide.All
import OpenK.AllK
import Wide.FinOn
import PySem.Challenge.RW_br6030_01
open PySem PySem.W PyProof.Rows
set_option Elab.async false
-- HRun
namespace Mine


abbrev CallF := Ctx → Pos → SharedT → Option (Result × SharedT)

/-- a big-step run of a tree over a heap kept as a tree of objects -/
noncomputable def runT {α : Type} (M : Model) (call : CallF) (Γ : Ctx) (t : Sem α) : Pos → SharedT → Option (Except Value α × Pos × SharedT) :=
  @Sem.rec α (fun _ => Pos → SharedT → Option (Except Value α × Pos × SharedT))
    (fun a p s => some (.ok a, p, s))
    (fun e p s => some (.error e, p, s))
    (fun _ _ _ => none)
    (fun _ _ _ => none)
    (fun _ _ ih p s => ih () p s)
    (fun p' _ ih _ s => ih () p' s)
    (fun a _ _ ih p s => match s with
      | ⟨T, n, life, gens, drawn, toks, os⟩ => match Nat.ble n a with
        | true => none
        | false => match T.get a with
          | none => none
          | some o => match alive o with
            | none => none
            | some o' => ih o' p ⟨T, n, life, gens, drawn, toks, os⟩)
    (fun a _ f _ ih p s => match s with
      | ⟨T, n, life, gens, drawn, toks, os⟩ => match Nat.ble n a with
        | true => none
        | false => match T.get a with
          | none => none
          | some o => match alive o with
            | none => none
            | some _ => ih () p ⟨T.set a f, n, life, gens, drawn, toks, os⟩)
    (fun o _ ih p s => match s with
      | ⟨T, n, life, gens, drawn, toks, os⟩ => match ((T.ins n o).get n).isSome with
        | true => ih n p ⟨T.ins n o, n + 1, life, gens, drawn, toks, os⟩
        | false => none)
    (fun a _ ih p s => match s with
      | ⟨T, n, life, gens, drawn, toks, os⟩ => match Nat.ble n a with
        | true => ih none p ⟨T, n, life, gens, drawn, toks, os⟩
        | false => match T.get a with
          | none => none
          | some o => ih (alive o) p ⟨T, n, life, gens, drawn, toks, os⟩)
    (fun _ _ ih p s => ih () p s)
    (fun _ _ _ _ _ => none)
    (fun _ ih p s => match s with
      | ⟨T, n, life, gens, drawn, toks, os⟩ => ih toks p ⟨T, n, life, gens, drawn, toks + 1, os⟩)
    (fun _ ih p s => ih ⟨M.prog, M.w.params⟩ p s)
    (fun _ _ _ _ _ _ => none)
    (fun _ _ _ _ _ _ => none)
    (fun c h _ _ _ ih p s => match call (Γ.enter c h p) p s with
      | some (r, s') => ih r p s'
      | none => none)
    (fun own _ ih p s => match own with
      | true => ih Γ.own p s
      | false => ih Γ.handled p s)
    (fun _ _ _ _ _ => none)
    (fun _ _ _ _ _ => none)
    (fun _ _ _ _ _ _ _ => none)
    (fun _ _ _ _ _ _ _ => none)
    (fun _ ih p s => ih ((Γ.code, p) :: Γ.below) p s)
    (fun _ _ _ _ _ => none)
    (fun _ _ _ _ => none)
    (fun _ _ _ _ _ _ _ _ => none)
    t

def leafIs {α : Type} (Q : α → Pos → Shared → Prop) (E : Value → Pos → Shared → Prop) (x : Except Value α) (p : Pos) (s : Shared) : Prop := match x with
  | .ok a => Q a p s
  | .error e => E e p s

theorem runT_sound {α : Type} {M : Model} {call : CallF} (hc : ∀ Γ p s r s', call Γ p s = some (r, s') → Returns M Γ p s.abs r s'.abs) {Γ : Ctx} (t : Sem α) :
    ∀ {p : Pos} {s : SharedT} {x : Except Value α} {p' : Pos} {s' : SharedT}, runT M call Γ t p s = some (x, p', s') →
      ∀ {Q : α → Pos → Shared → Prop} {E : Value → Pos → Shared → Prop}, leafIs Q E x p' s'.abs → Sem.wp M Γ t Q E p s.abs := by
  induction t with
  | pure a => intro p s x p' s' h Q E q; cases h; exact q
  | raise e => intro p s x p' s' h Q E q; cases h; exact q
  | unsupported | finish | register | choose | os | newGen | genState | resume | yield | fork | thread | await => intro p s x p' s' h; cases h
  | rule tag k ih => intro p s x p' s' h Q E q; exact ih () h q
  | «at» p₀ k ih => intro p s x p' s' h Q E q; exact ih () h q
  | load a part k ih =>
    intro p s x p' s' h Q E q
    obtain ⟨T, n, life, gens, drawn, toks, os⟩ := s
    replace h : (match Nat.ble n a with
        | true => none
        | false => match T.get a with
          | none => none
          | some o => match alive o with
            | none => none
            | some o' => runT M call Γ (k o') p ⟨T, n, life, gens, drawn, toks, os⟩) = some (x, p', s') := h
    cases e : Nat.ble n a with
    | true => simp only [e] at h; cases h
    | false =>
      have lt : a < n := Nat.lt_of_not_le fun q => by rw [Nat.ble_eq_true_of_le q] at e; cases e
      cases g : T.get a with
      | none => simp only [e, g] at h; cases h
      | some o =>
        cases al : alive o with
        | none => simp only [e, g, al] at h; cases h
        | some o' =>
          simp only [e, g, al] at h
          exact ⟨o', by show (absHeap T n life).get? a = _; rw [abs_get lt g, al], ih o' h q⟩
  | update a part f k ih =>
    intro p s x p' s' h Q E q
    obtain ⟨T, n, life, gens, drawn, toks, os⟩ := s
    replace h : (match Nat.ble n a with
        | true => none
        | false => match T.get a with
          | none => none
          | some o => match alive o with
            | none => none
            | some _ => runT M call Γ (k ()) p ⟨T.set a f, n, life, gens, drawn, toks, os⟩) = some (x, p', s') := h
    cases e : Nat.ble n a with
    | true => simp only [e] at h; cases h
    | false =>
      have lt : a < n := Nat.lt_of_not_le fun q => by rw [Nat.ble_eq_true_of_le q] at e; cases e
      cases g : T.get a with
      | none => simp only [e, g] at h; cases h
      | some o =>
        cases al : alive o with
        | none => simp only [e, g, al] at h; cases h
        | some o' =>
          simp only [e, g, al] at h
          refine ⟨by show ((absHeap T n life).get? a).isSome = true; rw [abs_get lt g, al]; rfl, ?_⟩
          have := ih () h q
          have e2 : SharedT.abs ⟨T.set a f, n, life, gens, drawn, toks, os⟩ = { SharedT.abs ⟨T, n, life, gens, drawn, toks, os⟩ with heap := (absHeap T n life).update a f } := by
            unfold SharedT.abs; dsimp only; rw [absHeap_set g]
          rw [e2] at this
          exact this
  | alloc o k ih =>
    intro p s x p' s' h Q E q
    obtain ⟨T, n, life, gens, drawn, toks, os⟩ := s
    replace h : (match ((T.ins n o).get n).isSome with
        | true => runT M call Γ (k n) p ⟨T.ins n o, n + 1, life, gens, drawn, toks, os⟩
        | false => none) = some (x, p', s') := h
    cases e : ((T.ins n o).get n).isSome with
    | false => simp only [e] at h; cases h
    | true =>
      simp only [e] at h
      have := ih n h q
      have e2 : SharedT.abs ⟨T.ins n o, n + 1, life, gens, drawn, toks, os⟩ = { SharedT.abs ⟨T, n, life, gens, drawn, toks, os⟩ with heap := (absHeap T n life).push o } := by
        unfold SharedT.abs; dsimp only; rw [absHeap_ins e]
      rw [e2] at this
      show Sem.wp M Γ (k (absHeap T n life).objs.size) Q E p _
      rw [absHeap_size]
      exact this
  | loadIfAlive a k ih =>
    intro p s x p' s' h Q E q
    obtain ⟨T, n, life, gens, drawn, toks, os⟩ := s
    replace h : (match Nat.ble n a with
        | true => runT M call Γ (k none) p ⟨T, n, life, gens, drawn, toks, os⟩
        | false => match T.get a with
          | none => none
          | some o => runT M call Γ (k (alive o)) p ⟨T, n, life, gens, drawn, toks, os⟩) = some (x, p', s') := h
    show Sem.wp M Γ (k ((absHeap T n life).get? a)) Q E p _
    cases e : Nat.ble n a with
    | true =>
      simp only [e] at h
      rw [abs_get_none (fun lt => absurd (Nat.le_of_ble_eq_true e) (Nat.not_le.mpr lt))]
      exact ih none h q
    | false =>
      have lt : a < n := Nat.lt_of_not_le fun q => by rw [Nat.ble_eq_true_of_le q] at e; cases e
      cases g : T.get a with
      | none => simp only [e, g] at h; cases h
      | some o =>
        simp only [e, g] at h
        rw [abs_get lt g]
        exact ih (alive o) h q
  | point l k ih => intro p s x p' s' h Q E q; exact ih () h q
  | fresh k ih =>
    intro p s x p' s' h Q E q
    obtain ⟨T, n, life, gens, drawn, toks, os⟩ := s
    exact ih toks h q
  | ask k ih => intro p s x p' s' h Q E q; exact ih _ h q
  | call c hd g l k ih =>
    intro p s x p' s' h Q E q
    replace h : (match call (Γ.enter c hd p) p s with
      | some (r, s') => runT M call Γ (k r) p s'
      | none => none) = some (x, p', s') := h
    cases e : call (Γ.enter c hd p) p s with
    | none => simp only [e] at h; cases h
    | some rs =>
      obtain ⟨r, s₂⟩ := rs
      simp only [e] at h
      exact ⟨r, s₂.abs, hc _ _ _ _ _ e, ih r h q⟩
  | handled own k ih =>
    intro p s x p' s' h Q E q
    cases own with
    | true => exact ih _ h q
    | false => exact ih _ h q
  | stack k ih => intro p s x p' s' h Q E q; exact ih _ h q

def isBody : Code → Bool
  | .body .. => true
  | _ => false
abbrev Stop (α : Type) := Code × Option Value × Pos × SharedT × (Result → Sem α)
/-- the same run, up to the tree's own first call of a body -/
noncomputable def runU {α : Type} (M : Model) (call : CallF) (Γ : Ctx) (t : Sem α) : Pos → SharedT → Option (Stop α) :=
  @Sem.rec α (fun _ => Pos → SharedT → Option (Stop α))
    (fun _ _ _ => none)
    (fun _ _ _ => none)
    (fun _ _ _ => none)
    (fun _ _ _ => none)
    (fun _ _ ih p s => ih () p s)
    (fun p' _ ih _ s => ih () p' s)
    (fun a _ _ ih p s => match s with
      | ⟨T, n, life, gens, drawn, toks, os⟩ => match Nat.ble n a with
        | true => none
        | false => match T.get a with
          | none => none
          | some o => match alive o with
            | none => none
            | some o' => ih o' p ⟨T, n, life, gens, drawn, toks, os⟩)
    (fun a _ f _ ih p s => match s with
      | ⟨T, n, life, gens, drawn, toks, os⟩ => match Nat.ble n a with
        | true => none
        | false => match T.get a with
          | none => none
          | some o => match alive o with
            | none => none
            | some _ => ih () p ⟨T.set a f, n, life, gens, drawn, toks, os⟩)
    (fun o _ ih p s => match s with
      | ⟨T, n, life, gens, drawn, toks, os⟩ => match ((T.ins n o).get n).isSome with
        | true => ih n p ⟨T.ins n o, n + 1, life, gens, drawn, toks, os⟩
        | false => none)
    (fun a _ ih p s => match s with
      | ⟨T, n, life, gens, drawn, toks, os⟩ => match Nat.ble n a with
        | true => ih none p ⟨T, n, life, gens, drawn, toks, os⟩
        | false => match T.get a with
          | none => none
          | some o => ih (alive o) p ⟨T, n, life, gens, drawn, toks, os⟩)
    (fun _ _ ih p s => ih () p s)
    (fun _ _ _ _ _ => none)
    (fun _ ih p s => match s with
      | ⟨T, n, life, gens, drawn, toks, os⟩ => ih toks p ⟨T, n, life, gens, drawn, toks + 1, os⟩)
    (fun _ ih p s => ih ⟨M.prog, M.w.params⟩ p s)
    (fun _ _ _ _ _ _ => none)
    (fun _ _ _ _ _ _ => none)
    (fun c h _ _ k ih p s => match isBody c with
      | true => some (c, h, p, s, k)
      | false => match call (Γ.enter c h p) p s with
        | some (r, s') => ih r p s'
        | none => none)
    (fun own _ ih p s => match own with
      | true => ih Γ.own p s
      | false => ih Γ.handled p s)
    (fun _ _ _ _ _ => none)
    (fun _ _ _ _ _ => none)
    (fun _ _ _ _ _ _ _ => none)
    (fun _ _ _ _ _ _ _ => none)
    (fun _ ih p s => ih ((Γ.code, p) :: Γ.below) p s)
    (fun _ _ _ _ _ => none)
    (fun _ _ _ _ => none)
    (fun _ _ _ _ _ _ _ _ => none)
    t

theorem runU_sound {α : Type} {M : Model} {call : CallF} (hc : ∀ Γ p s r s', call Γ p s = some (r, s') → Returns M Γ p s.abs r s'.abs) {Γ : Ctx} (t : Sem α) :
    ∀ {p : Pos} {s : SharedT} {c : Code} {h : Option Value} {p' : Pos} {s' : SharedT} {k : Result → Sem α}, runU M call Γ t p s = some (c, h, p', s', k) →
      ∀ {Q : α → Pos → Shared → Prop} {E : Value → Pos → Shared → Prop}, wpCode M (Γ.enter c h p') (fun r s₂ => Sem.wp M Γ (k r) Q E p' s₂) p' s'.abs → Sem.wp M Γ t Q E p s.abs := by
  induction t with
  | pure a => intro p s c hd p' s' k' h; cases h
  | raise e => intro p s c hd p' s' k' h; cases h
  | unsupported | finish | register | choose | os | newGen | genState | resume | yield | fork | thread | await => intro p s c hd p' s' k' h; cases h
  | rule tag k ih => intro p s c hd p' s' k' h Q E q; exact ih () h q
  | «at» p₀ k ih => intro p s c hd p' s' k' h Q E q; exact ih () h q
  | load a part k ih =>
    intro p s c hd p' s' k' h Q E q
    obtain ⟨T, n, life, gens, drawn, toks, os⟩ := s
    replace h : (match Nat.ble n a with
        | true => none
        | false => match T.get a with
          | none => none
          | some o => match alive o with
            | none => none
            | some o' => runU M call Γ (k o') p ⟨T, n, life, gens, drawn, toks, os⟩) = some (c, hd, p', s', k') := h
    cases e : Nat.ble n a with
    | true => simp only [e] at h; cases h
    | false =>
      have lt : a < n := Nat.lt_of_not_le fun q => by rw [Nat.ble_eq_true_of_le q] at e; cases e
      cases g : T.get a with
      | none => simp only [e, g] at h; cases h
      | some o =>
        cases al : alive o with
        | none => simp only [e, g, al] at h; cases h
        | some o' =>
          simp only [e, g, al] at h
          exact ⟨o', by show (absHeap T n life).get? a = _; rw [abs_get lt g, al], ih o' h q⟩
  | update a part f k ih =>
    intro p s c hd p' s' k' h Q E q
    obtain ⟨T, n, life, gens, drawn, toks, os⟩ := s
    replace h : (match Nat.ble n a with
        | true => none
        | false => match T.get a with
          | none => none
          | some o => match alive o with
            | none => none
            | some _ => runU M call Γ (k ()) p ⟨T.set a f, n, life, gens, drawn, toks, os⟩) = some (c, hd, p', s', k') := h
    cases e : Nat.ble n a with
    | true => simp only [e] at h; cases h
    | false =>
      have lt : a < n := Nat.lt_of_not_le fun q => by rw [Nat.ble_eq_true_of_le q] at e; cases e
      cases g : T.get a with
      | none => simp only [e, g] at h; cases h
      | some o =>
        cases al : alive o with
        | none => simp only [e, g, al] at h; cases h
        | some o' =>
          simp only [e, g, al] at h
          refine ⟨by show ((absHeap T n life).get? a).isSome = true; rw [abs_get lt g, al]; rfl, ?_⟩
          have := ih () h q
          have e2 : SharedT.abs ⟨T.set a f, n, life, gens, drawn, toks, os⟩ = { SharedT.abs ⟨T, n, life, gens, drawn, toks, os⟩ with heap := (absHeap T n life).update a f } := by
            unfold SharedT.abs; dsimp only; rw [absHeap_set g]
          rw [e2] at this
          exact this
  | alloc o k ih =>
    intro p s c hd p' s' k' h Q E q
    obtain ⟨T, n, life, gens, drawn, toks, os⟩ := s
    replace h : (match ((T.ins n o).get n).isSome with
        | true => runU M call Γ (k n) p ⟨T.ins n o, n + 1, life, gens, drawn, toks, os⟩
        | false => none) = some (c, hd, p', s', k') := h
    cases e : ((T.ins n o).get n).isSome with
    | false => simp only [e] at h; cases h
    | true =>
      simp only [e] at h
      have := ih n h q
      have e2 : SharedT.abs ⟨T.ins n o, n + 1, life, gens, drawn, toks, os⟩ = { SharedT.abs ⟨T, n, life, gens, drawn, toks, os⟩ with heap := (absHeap T n life).push o } := by
        unfold SharedT.abs; dsimp only; rw [absHeap_ins e]
      rw [e2] at this
      show Sem.wp M Γ (k (absHeap T n life).objs.size) Q E p _
      rw [absHeap_size]
      exact this
  | loadIfAlive a k ih =>
    intro p s c hd p' s' k' h Q E q
    obtain ⟨T, n, life, gens, drawn, toks, os⟩ := s
    replace h : (match Nat.ble n a with
        | true => runU M call Γ (k none) p ⟨T, n, life, gens, drawn, toks, os⟩
        | false => match T.get a with
          | none => none
          | some o => runU M call Γ (k (alive o)) p ⟨T, n, life, gens, drawn, toks, os⟩) = some (c, hd, p', s', k') := h
    show Sem.wp M Γ (k ((absHeap T n life).get? a)) Q E p _
    cases e : Nat.ble n a with
    | true =>
      simp only [e] at h
      rw [abs_get_none (fun lt => absurd (Nat.le_of_ble_eq_true e) (Nat.not_le.mpr lt))]
      exact ih none h q
    | false =>
      have lt : a < n := Nat.lt_of_not_le fun q => by rw [Nat.ble_eq_true_of_le q] at e; cases e
      cases g : T.get a with
      | none => simp only [e, g] at h; cases h
      | some o =>
        simp only [e, g] at h
        rw [abs_get lt g]
        exact ih (alive o) h q
  | point l k ih => intro p s c hd p' s' k' h Q E q; exact ih () h q
  | fresh k ih =>
    intro p s c hd p' s' k' h Q E q
    obtain ⟨T, n, life, gens, drawn, toks, os⟩ := s
    exact ih toks h q
  | ask k ih => intro p s c hd p' s' k' h Q E q; exact ih _ h q
  | call c₀ h₀ g l k ih =>
    intro p s c hd p' s' k' h Q E q
    replace h : (match isBody c₀ with
      | true => some (c₀, h₀, p, s, k)
      | false => match call (Γ.enter c₀ h₀ p) p s with
        | some (r, s') => runU M call Γ (k r) p s'
        | none => none) = some (c, hd, p', s', k') := h
    cases eb : isBody c₀ with
    | true => rw [eb] at h; cases h; exact q
    | false =>
      rw [eb] at h
      cases e : call (Γ.enter c₀ h₀ p) p s with
      | none => simp only [e] at h; cases h
      | some rs =>
        obtain ⟨r, s₂⟩ := rs
        simp only [e] at h
        exact ⟨r, s₂.abs, hc _ _ _ _ _ e, ih r h q⟩
  | handled own k ih =>
    intro p s c hd p' s' k' h Q E q
    cases own with
    | true => exact ih _ h q
    | false => exact ih _ h q
  | stack k ih => intro p s c hd p' s' k' h Q E q; exact ih _ h q

def calmB (c : Code) : Bool := Thread.calm ⟨.pure (.again c), c, default, []⟩
theorem calmB_quiet {c : Code} (h : calmB c = true) : c.quiet = true := by
  unfold calmB Thread.calm at h
  unfold Code.quiet Thread.loud
  simp only [Bool.and_eq_true, Bool.or_eq_true, Bool.not_eq_true'] at h
  obtain ⟨⟨h1, h2⟩, _⟩ := h
  rw [h2]
  rcases h1 with h1 | h1 <;> simp [h1]

noncomputable def runC (M : Model) (calm : Code → Bool) : Nat → CallF
  | 0 => fun _ _ _ => none
  | n + 1 => fun Γ p s => match runT M (runC M calm n) Γ (M.den Γ.code) p s with
    | some (.ok (.done f), _, s') => some (.ok f, s')
    | some (.ok (.again c), p', s') => match calm c with
      | true => runC M calm n (Γ.goto c) p' s'
      | false => none
    | some (.error e, _, s') => some (.error e, s')
    | none => none

theorem runC_sound {M : Model} {calm : Code → Bool} (hq : ∀ c, calm c = true → c.quiet = true) : ∀ (n : Nat) (Γ : Ctx) (p : Pos) (s : SharedT) (r : Result) (s' : SharedT), runC M calm n Γ p s = some (r, s') → Returns M Γ p s.abs r s'.abs
  | 0, _, _, _, _, _, h => by cases h
  | n + 1, Γ, p, s, r, s', h => by
    unfold runC at h
    have key : wpCode M Γ (fun r₀ s₀ => r₀ = r ∧ s₀ = s'.abs) p s.abs := by
      rw [wpCode_iff_wp]
      cases e : runT M (runC M calm n) Γ (M.den Γ.code) p s with
      | none => simp only [e] at h; cases h
      | some x =>
        obtain ⟨x, p₁, s₁⟩ := x
        simp only [e] at h
        refine runT_sound (runC_sound hq n) _ e ?_
        cases x with
        | error v => cases h; exact ⟨rfl, rfl⟩
        | ok f =>
          cases f with
          | done f => cases h; exact ⟨rfl, rfl⟩
          | again c =>
            simp only at h
            cases q : calm c with
            | false => rw [q] at h; cases h
            | true =>
              rw [q] at h
              exact ⟨hq c q, r, s'.abs, runC_sound hq n _ _ _ _ _ h, rfl, rfl⟩
    obtain ⟨r₀, s₀, a, rfl, rfl⟩ := key
    exact a
end Mine

-- HState
namespace Mine
set_option maxRecDepth 100000
set_option maxHeartbeats 0
set_option linter.unusedVariables false
abbrev pg : Program := PySem.Challenge.pw_br6030_01
abbrev S (x : String) : Str := Str.ofString x
abbrev N := BT.node
abbrev E := BT.nil
structure SetD where
  es : Array (Int × Value)
  n : Nat
  t : SetTable
  life : Life
def oset (X : SetD) : Obj := ⟨.type "set", none, .set X.es X.n X.t, #[]⟩
def D (P : Params) (es : List (Str × Nat × Value)) (n : Nat) : Data := .dict (es.map fun e => (⟨PyData.keyHash P e.1, .str e.1 e.2.1, e.2.2⟩ : DictEntry)).toArray n
def Q (xs : List Value) (n : Nat) : Data := .seq xs.toArray n
def F (xs : List Value) : Data := .fields xs.toArray
def stT (i : Nat) : Stmt := (pg.main.body[i]?).getD (.Pass default)
def stC (i j : Nat) : Stmt := match stT i with
  | .ClassDef _ _ _ b .. => (b[j]?).getD (.Pass default)
  | s => s
def fdata (st : Stmt) (q : Str) (g : Addr) (pm code : Value) (b : Addr) : Data := match st with
  | .FunctionDef n a body _ _ _ sc _ _ _ => .func { name := n, qualname := q, params := a, body := .stmts body, scope := sc, globals := g, closure := [], defaults := .none, kwdefaults := .none, doc := .none, pyModule := pm, annotations := none, code := code, closureTuple := .none, builtins := b }
  | _ => .plain
def life0 : Life := {}
def drawn0 : Drawn := {}
noncomputable def T0 (P : Params) : BT := (N (boot_o_0 P) (N (boot_o_1 P) (N (boot_o_3 P) (N (boot_o_7 P) E E) E) (N (boot_o_5 P) (N (boot_o_9 P) E E) E)) (N (boot_o_2 P) (N (boot_o_4 P) (N (boot_o_8 P) E E) E) (N (boot_o_6 P) (N (boot_o_10 P) E E) E)))
noncomputable def St0 (w : World) (os : OsState) : SharedT := ⟨T0 w.params, 11, life0, #[], drawn0, 181, os⟩
abbrev ps0 : Pos := ⟨0, 0, 0, 0⟩
-- snapshot 0: depth 0, stack []; drawn 0 0 0 0; gens 0
noncomputable def o11 (P : Params) : Obj := ⟨(.type "tuple"), none, (Q [] 0), #[]⟩
noncomputable def o12 (P : Params) : Obj := ⟨.none, none, (F []), #[]⟩
noncomputable def o13 (P : Params) : Obj := ⟨(.type "code"), none, (F [(.str (S "<module>") 182), (.str (S "<module>") 183), (.str (S "/claim/cut.py") 184), (.int (1) 0), (.int (0) 0), (.int (0) 0), (.int (0) 0), (.int (0) 0), (.ref 11), (.bool false), (.int (181) 0), (.ref 12), .none, .none, .none, .none, (.int (185) 0), (.int (1) 0), (.str (S "/claim/cut.py") 186)]), #[]⟩
noncomputable def o14 (P : Params) : Obj := ⟨(.type "frame"), none, .plain, #[some (.ref 13), some (.ref 3), some (.ref 3), none, some (.str (S "__main__") 164), none, some (.ref 0)]⟩
noncomputable def T1 (P : Params) : BT := (N (boot_o_0 P) (N (boot_o_1 P) (N (boot_o_3 P) (N (boot_o_7 P) E E) (N (o11 P) E E)) (N (boot_o_5 P) (N (boot_o_9 P) E E) (N (o13 P) E E))) (N (boot_o_2 P) (N (boot_o_4 P) (N (boot_o_8 P) E E) (N (o12 P) E E)) (N (boot_o_6 P) (N (boot_o_10 P) E E) (N (o14 P) E E))))
noncomputable def St1 (w : World) (os : OsState) : SharedT := ⟨T1 w.params, 15, life0, #[], drawn0, 187, os⟩
abbrev ps1 : Pos := ⟨0, 0, 0, 0⟩
-- snapshot 1: depth 1, stack [claim.caller ⟨0, 0, 0, 0⟩]; drawn 0 0 0 0; gens 0
noncomputable def o3 (P : Params) : Obj := ⟨(.type "dict"), none, (D P [((S "__name__"), 165, (.str (S "snowballstemmer.spanish_stemmer") 461)), ((S "__doc__"), 166, .none), ((S "__package__"), 167, .none), ((S "__loader__"), 168, (.builtin "__main__.__loader__#opaque")), ((S "__spec__"), 169, .none), ((S "__annotations__"), 170, (.ref 6)), ((S "__builtins__"), 171, (.ref 4)), ((S "__file__"), 173, (.str (S "/claim/cut.py") 172)), ((S "__cached__"), 174, .none), ((S "_wall"), 193, (.ref 21)), ((S "BaseStemmer"), 425, (.ref 199)), ((S "Among"), 460, (.ref 220))] 12), #[]⟩
noncomputable def o12v1 (P : Params) : Obj := ⟨.none, none, (F [(.int (1) 0), (.int (0) 0), (.ref 20), (.int (5) 0), (.int (0) 0), (.ref 27), (.int (141) 0), (.int (0) 0), (.ref 209)]), #[]⟩
noncomputable def o15 (P : Params) : Obj := ⟨(.type "tuple"), none, (Q [] 0), #[]⟩
noncomputable def o16 (P : Params) : Obj := ⟨.none, none, (F []), #[]⟩
noncomputable def o17 (P : Params) : Obj := ⟨(.type "tuple"), none, (Q [(.str (S "k") 190)] 0), #[]⟩
noncomputable def o18 (P : Params) : Obj := ⟨(.type "tuple"), none, (Q [] 0), #[]⟩
noncomputable def o19 (P : Params) : Obj := ⟨.none, none, (fdata (stT 0) (S "_wall") 0 .none .none 0), #[]⟩
noncomputable def o20 (P : Params) : Obj := ⟨(.type "code"), none, (F [(.str (S "_wall") 187), (.str (S "_wall") 188), (.str (S "/claim/cut.py") 189), (.int (1) 0), (.int (1) 0), (.int (0) 0), (.int (0) 0), (.int (3) 0), (.ref 15), (.bool true), (.int (181) 0), (.ref 16), .none, (.ref 17), (.ref 18), (.ref 19), (.int (191) 0), (.int (1) 0), (.str (S "/claim/cut.py") 192)]), #[]⟩
noncomputable def o21 (P : Params) : Obj := ⟨(.type "function"), none, (fdata (stT 0) (S "_wall") 3 (.str (S "__main__") 164) (.ref 20) 0), #[]⟩
noncomputable def o22 (P : Params) : Obj := ⟨(.type "tuple"), none, (Q [] 0), #[]⟩
noncomputable def o23 (P : Params) : Obj := ⟨(.type "builtin_function_or_method"), none, (F [(.builtin "type.__prepare__"), (.type "type")]), #[]⟩
noncomputable def o24 (P : Params) : Obj := ⟨(.type "dict"), none, (D P [((S "__module__"), 203, (.str (S "snowballstemmer.basestemmer") 194)), ((S "__qualname__"), 205, (.str (S "BaseStemmer") 204)), ((S "__firstlineno__"), 207, (.int (5) 206)), ((S "__init__"), 214, (.ref 35)), ((S "set_current"), 222, (.ref 42)), ((S "get_current"), 229, (.ref 49)), ((S "copy_from"), 237, (.ref 56)), ((S "in_grouping"), 245, (.ref 63)), ((S "go_in_grouping"), 253, (.ref 70)), ((S "in_grouping_b"), 261, (.ref 77)), ((S "go_in_grouping_b"), 269, (.ref 84)), ((S "out_grouping"), 277, (.ref 91)), ((S "go_out_grouping"), 285, (.ref 98)), ((S "out_grouping_b"), 293, (.ref 105)), ((S "go_out_grouping_b"), 301, (.ref 112)), ((S "eq_s"), 309, (.ref 119)), ((S "eq_s_b"), 317, (.ref 126)), ((S "find_among"), 325, (.ref 133)), ((S "find_among_b"), 345, (.ref 140)), ((S "replace_s"), 356, (.ref 147)), ((S "slice_from"), 364, (.ref 154)), ((S "slice_del"), 371, (.ref 161)), ((S "insert"), 381, (.ref 168)), ((S "slice_to"), 388, (.ref 175)), ((S "assign_to"), 395, (.ref 182)), ((S "stemWord"), 403, (.ref 189)), ((S "stemWords"), 411, (.ref 196)), ((S "__static_attributes__"), 418, (.ref 197))] 28), #[]⟩
noncomputable def o25 (P : Params) : Obj := ⟨(.type "tuple"), none, (Q [] 0), #[]⟩
noncomputable def o26 (P : Params) : Obj := ⟨.none, none, (F [(.int (7) 0), (.int (4) 0), (.ref 34), (.int (10) 0), (.int (4) 0), (.ref 41), (.int (18) 0), (.int (4) 0), (.ref 48), (.int (21) 0), (.int (4) 0), (.ref 55), (.int (24) 0), (.int (4) 0), (.ref 62), (.int (27) 0), (.int (4) 0), (.ref 69), (.int (30) 0), (.int (4) 0), (.ref 76), (.int (33) 0), (.int (4) 0), (.ref 83), (.int (36) 0), (.int (4) 0), (.ref 90), (.int (39) 0), (.int (4) 0), (.ref 97), (.int (42) 0), (.int (4) 0), (.ref 104), (.int (45) 0), (.int (4) 0), (.ref 111), (.int (48) 0), (.int (4) 0), (.ref 118), (.int (51) 0), (.int (4) 0), (.ref 125), (.int (57) 0), (.int (4) 0), (.ref 132), (.int (60) 0), (.int (4) 0), (.ref 139), (.int (105) 0), (.int (4) 0), (.ref 146), (.int (115) 0), (.int (4) 0), (.ref 153), (.int (123) 0), (.int (4) 0), (.ref 160), (.int (126) 0), (.int (4) 0), (.ref 167), (.int (129) 0), (.int (4) 0), (.ref 174), (.int (132) 0), (.int (4) 0), (.ref 181), (.int (135) 0), (.int (4) 0), (.ref 188), (.int (138) 0), (.int (4) 0), (.ref 195)]), #[]⟩
noncomputable def o27 (P : Params) : Obj := ⟨(.type "code"), none, (F [(.str (S "BaseStemmer") 198), (.str (S "BaseStemmer") 199), (.str (S "/claim/cut.py") 200), (.int (5) 0), (.int (0) 0), (.int (0) 0), (.int (0) 0), (.int (0) 0), (.ref 25), (.bool false), (.int (181) 0), (.ref 26), .none, .none, .none, .none, (.int (201) 0), (.int (5) 0), (.str (S "/claim/cut.py") 202)]), #[]⟩
noncomputable def o28 (P : Params) : Obj := ⟨(.type "frame"), none, .plain, #[some (.ref 27), some (.ref 3), some (.ref 24), none, some (.str (S "snowballstemmer.basestemmer") 194), none, some (.ref 0)]⟩
noncomputable def o29 (P : Params) : Obj := ⟨(.type "tuple"), none, (Q [] 0), #[]⟩
noncomputable def o30 (P : Params) : Obj := ⟨.none, none, (F []), #[]⟩
noncomputable def o31 (P : Params) : Obj := ⟨(.type "tuple"), none, (Q [(.str (S "self") 211)] 0), #[]⟩
noncomputable def o32 (P : Params) : Obj := ⟨(.type "tuple"), none, (Q [] 0), #[]⟩
noncomputable def o33 (P : Params) : Obj := ⟨.none, none, (fdata (stC 2 0) (S "BaseStemmer.__init__") 0 .none .none 0), #[]⟩
noncomputable def o34 (P : Params) : Obj := ⟨(.type "code"), none, (F [(.str (S "__init__") 208), (.str (S "BaseStemmer.__init__") 209), (.str (S "/claim/cut.py") 210), (.int (7) 0), (.int (1) 0), (.int (0) 0), (.int (0) 0), (.int (3) 0), (.ref 29), (.bool true), (.int (181) 0), (.ref 30), .none, (.ref 31), (.ref 32), (.ref 33), (.int (212) 0), (.int (7) 0), (.str (S "/claim/cut.py") 213)]), #[]⟩
noncomputable def o35 (P : Params) : Obj := ⟨(.type "function"), none, (fdata (stC 2 0) (S "BaseStemmer.__init__") 3 (.str (S "snowballstemmer.basestemmer") 194) (.ref 34) 0), #[]⟩
noncomputable def o36 (P : Params) : Obj := ⟨(.type "tuple"), none, (Q [] 0), #[]⟩
noncomputable def o37 (P : Params) : Obj := ⟨.none, none, (F []), #[]⟩
noncomputable def o38 (P : Params) : Obj := ⟨(.type "tuple"), none, (Q [(.str (S "self") 218), (.str (S "value") 219)] 0), #[]⟩
noncomputable def o39 (P : Params) : Obj := ⟨(.type "tuple"), none, (Q [] 0), #[]⟩
noncomputable def o40 (P : Params) : Obj := ⟨.none, none, (fdata (stC 2 1) (S "BaseStemmer.set_current") 0 .none .none 0), #[]⟩
noncomputable def o41 (P : Params) : Obj := ⟨(.type "code"), none, (F [(.str (S "set_current") 215), (.str (S "BaseStemmer.set_current") 216), (.str (S "/claim/cut.py") 217), (.int (10) 0), (.int (2) 0), (.int (0) 0), (.int (0) 0), (.int (3) 0), (.ref 36), (.bool true), (.int (181) 0), (.ref 37), .none, (.ref 38), (.ref 39), (.ref 40), (.int (220) 0), (.int (10) 0), (.str (S "/claim/cut.py") 221)]), #[]⟩
noncomputable def o42 (P : Params) : Obj := ⟨(.type "function"), none, (fdata (stC 2 1) (S "BaseStemmer.set_current") 3 (.str (S "snowballstemmer.basestemmer") 194) (.ref 41) 0), #[]⟩
noncomputable def o43 (P : Params) : Obj := ⟨(.type "tuple"), none, (Q [] 0), #[]⟩
noncomputable def o44 (P : Params) : Obj := ⟨.none, none, (F []), #[]⟩
noncomputable def o45 (P : Params) : Obj := ⟨(.type "tuple"), none, (Q [(.str (S "self") 226)] 0), #[]⟩
noncomputable def o46 (P : Params) : Obj := ⟨(.type "tuple"), none, (Q [] 0), #[]⟩
noncomputable def o47 (P : Params) : Obj := ⟨.none, none, (fdata (stC 2 2) (S "BaseStemmer.get_current") 0 .none .none 0), #[]⟩
noncomputable def o48 (P : Params) : Obj := ⟨(.type "code"), none, (F [(.str (S "get_current") 223), (.str (S "BaseStemmer.get_current") 224), (.str (S "/claim/cut.py") 225), (.int (18) 0), (.int (1) 0), (.int (0) 0), (.int (0) 0), (.int (3) 0), (.ref 43), (.bool true), (.int (181) 0), (.ref 44), .none, (.ref 45), (.ref 46), (.ref 47), (.int (227) 0), (.int (18) 0), (.str (S "/claim/cut.py") 228)]), #[]⟩
noncomputable def o49 (P : Params) : Obj := ⟨(.type "function"), none, (fdata (stC 2 2) (S "BaseStemmer.get_current") 3 (.str (S "snowballstemmer.basestemmer") 194) (.ref 48) 0), #[]⟩
noncomputable def o50 (P : Params) : Obj := ⟨(.type "tuple"), none, (Q [] 0), #[]⟩
noncomputable def o51 (P : Params) : Obj := ⟨.none, none, (F []), #[]⟩
noncomputable def o52 (P : Params) : Obj := ⟨(.type "tuple"), none, (Q [(.str (S "self") 233), (.str (S "other") 234)] 0), #[]⟩
noncomputable def o53 (P : Params) : Obj := ⟨(.type "tuple"), none, (Q [] 0), #[]⟩
noncomputable def o54 (P : Params) : Obj := ⟨.none, none, (fdata (stC 2 3) (S "BaseStemmer.copy_from") 0 .none .none 0), #[]⟩
noncomputable def o55 (P : Params) : Obj := ⟨(.type "code"), none, (F [(.str (S "copy_from") 230), (.str (S "BaseStemmer.copy_from") 231), (.str (S "/claim/cut.py") 232), (.int (21) 0), (.int (2) 0), (.int (0) 0), (.int (0) 0), (.int (3) 0), (.ref 50), (.bool true), (.int (181) 0), (.ref 51), .none, (.ref 52), (.ref 53), (.ref 54), (.int (235) 0), (.int (21) 0), (.str (S "/claim/cut.py") 236)]), #[]⟩
noncomputable def o56 (P : Params) : Obj := ⟨(.type "function"), none, (fdata (stC 2 3) (S "BaseStemmer.copy_from") 3 (.str (S "snowballstemmer.basestemmer") 194) (.ref 55) 0), #[]⟩
noncomputable def o57 (P : Params) : Obj := ⟨(.type "tuple"), none, (Q [] 0), #[]⟩
noncomputable def o58 (P : Params) : Obj := ⟨.none, none, (F []), #[]⟩
noncomputable def o59 (P : Params) : Obj := ⟨(.type "tuple"), none, (Q [(.str (S "self") 241), (.str (S "s") 242)] 0), #[]⟩
noncomputable def o60 (P : Params) : Obj := ⟨(.type "tuple"), none, (Q [] 0), #[]⟩
noncomputable def o61 (P : Params) : Obj := ⟨.none, none, (fdata (stC 2 4) (S "BaseStemmer.in_grouping") 0 .none .none 0), #[]⟩
noncomputable def o62 (P : Params) : Obj := ⟨(.type "code"), none, (F [(.str (S "in_grouping") 238), (.str (S "BaseStemmer.in_grouping") 239), (.str (S "/claim/cut.py") 240), (.int (24) 0), (.int (2) 0), (.int (0) 0), (.int (0) 0), (.int (3) 0), (.ref 57), (.bool true), (.int (181) 0), (.ref 58), .none, (.ref 59), (.ref 60), (.ref 61), (.int (243) 0), (.int (24) 0), (.str (S "/claim/cut.py") 244)]), #[]⟩
noncomputable def o63 (P : Params) : Obj := ⟨(.type "function"), none, (fdata (stC 2 4) (S "BaseStemmer.in_grouping") 3 (.str (S "snowballstemmer.basestemmer") 194) (.ref 62) 0), #[]⟩
noncomputable def o64 (P : Params) : Obj := ⟨(.type "tuple"), none, (Q [] 0), #[]⟩
noncomputable def o65 (P : Params) : Obj := ⟨.none, none, (F []), #[]⟩
noncomputable def o66 (P : Params) : Obj := ⟨(.type "tuple"), none, (Q [(.str (S "self") 249), (.str (S "s") 250)] 0), #[]⟩
noncomputable def o67 (P : Params) : Obj := ⟨(.type "tuple"), none, (Q [] 0), #[]⟩
noncomputable def o68 (P : Params) : Obj := ⟨.none, none, (fdata (stC 2 5) (S "BaseStemmer.go_in_grouping") 0 .none .none 0), #[]⟩
noncomputable def o69 (P : Params) : Obj := ⟨(.type "code"), none, (F [(.str (S "go_in_grouping") 246), (.str (S "BaseStemmer.go_in_grouping") 247), (.str (S "/claim/cut.py") 248), (.int (27) 0), (.int (2) 0), (.int (0) 0), (.int (0) 0), (.int (3) 0), (.ref 64), (.bool true), (.int (181) 0), (.ref 65), .none, (.ref 66), (.ref 67), (.ref 68), (.int (251) 0), (.int (27) 0), (.str (S "/claim/cut.py") 252)]), #[]⟩
noncomputable def o70 (P : Params) : Obj := ⟨(.type "function"), none, (fdata (stC 2 5) (S "BaseStemmer.go_in_grouping") 3 (.str (S "snowballstemmer.basestemmer") 194) (.ref 69) 0), #[]⟩
noncomputable def o71 (P : Params) : Obj := ⟨(.type "tuple"), none, (Q [] 0), #[]⟩
noncomputable def o72 (P : Params) : Obj := ⟨.none, none, (F []), #[]⟩
noncomputable def o73 (P : Params) : Obj := ⟨(.type "tuple"), none, (Q [(.str (S "self") 257), (.str (S "s") 258)] 0), #[]⟩
noncomputable def o74 (P : Params) : Obj := ⟨(.type "tuple"), none, (Q [] 0), #[]⟩
noncomputable def o75 (P : Params) : Obj := ⟨.none, none, (fdata (stC 2 6) (S "BaseStemmer.in_grouping_b") 0 .none .none 0), #[]⟩
noncomputable def o76 (P : Params) : Obj := ⟨(.type "code"), none, (F [(.str (S "in_grouping_b") 254), (.str (S "BaseStemmer.in_grouping_b") 255), (.str (S "/claim/cut.py") 256), (.int (30) 0), (.int (2) 0), (.int (0) 0), (.int (0) 0), (.int (3) 0), (.ref 71), (.bool true), (.int (181) 0), (.ref 72), .none, (.ref 73), (.ref 74), (.ref 75), (.int (259) 0), (.int (30) 0), (.str (S "/claim/cut.py") 260)]), #[]⟩
noncomputable def o77 (P : Params) : Obj := ⟨(.type "function"), none, (fdata (stC 2 6) (S "BaseStemmer.in_grouping_b") 3 (.str (S "snowballstemmer.basestemmer") 194) (.ref 76) 0), #[]⟩
noncomputable def o78 (P : Params) : Obj := ⟨(.type "tuple"), none, (Q [] 0), #[]⟩
noncomputable def o79 (P : Params) : Obj := ⟨.none, none, (F []), #[]⟩
noncomputable def o80 (P : Params) : Obj := ⟨(.type "tuple"), none, (Q [(.str (S "self") 265), (.str (S "s") 266)] 0), #[]⟩
noncomputable def o81 (P : Params) : Obj := ⟨(.type "tuple"), none, (Q [] 0), #[]⟩
noncomputable def o82 (P : Params) : Obj := ⟨.none, none, (fdata (stC 2 7) (S "BaseStemmer.go_in_grouping_b") 0 .none .none 0), #[]⟩
noncomputable def o83 (P : Params) : Obj := ⟨(.type "code"), none, (F [(.str (S "go_in_grouping_b") 262), (.str (S "BaseStemmer.go_in_grouping_b") 263), (.str (S "/claim/cut.py") 264), (.int (33) 0), (.int (2) 0), (.int (0) 0), (.int (0) 0), (.int (3) 0), (.ref 78), (.bool true), (.int (181) 0), (.ref 79), .none, (.ref 80), (.ref 81), (.ref 82), (.int (267) 0), (.int (33) 0), (.str (S "/claim/cut.py") 268)]), #[]⟩
noncomputable def o84 (P : Params) : Obj := ⟨(.type "function"), none, (fdata (stC 2 7) (S "BaseStemmer.go_in_grouping_b") 3 (.str (S "snowballstemmer.basestemmer") 194) (.ref 83) 0), #[]⟩
noncomputable def o85 (P : Params) : Obj := ⟨(.type "tuple"), none, (Q [] 0), #[]⟩
noncomputable def o86 (P : Params) : Obj := ⟨.none, none, (F []), #[]⟩
noncomputable def o87 (P : Params) : Obj := ⟨(.type "tuple"), none, (Q [(.str (S "self") 273), (.str (S "s") 274)] 0), #[]⟩
noncomputable def o88 (P : Params) : Obj := ⟨(.type "tuple"), none, (Q [] 0), #[]⟩
noncomputable def o89 (P : Params) : Obj := ⟨.none, none, (fdata (stC 2 8) (S "BaseStemmer.out_grouping") 0 .none .none 0), #[]⟩
noncomputable def o90 (P : Params) : Obj := ⟨(.type "code"), none, (F [(.str (S "out_grouping") 270), (.str (S "BaseStemmer.out_grouping") 271), (.str (S "/claim/cut.py") 272), (.int (36) 0), (.int (2) 0), (.int (0) 0), (.int (0) 0), (.int (3) 0), (.ref 85), (.bool true), (.int (181) 0), (.ref 86), .none, (.ref 87), (.ref 88), (.ref 89), (.int (275) 0), (.int (36) 0), (.str (S "/claim/cut.py") 276)]), #[]⟩
noncomputable def o91 (P : Params) : Obj := ⟨(.type "function"), none, (fdata (stC 2 8) (S "BaseStemmer.out_grouping") 3 (.str (S "snowballstemmer.basestemmer") 194) (.ref 90) 0), #[]⟩
noncomputable def o92 (P : Params) : Obj := ⟨(.type "tuple"), none, (Q [] 0), #[]⟩
noncomputable def o93 (P : Params) : Obj := ⟨.none, none, (F []), #[]⟩
noncomputable def o94 (P : Params) : Obj := ⟨(.type "tuple"), none, (Q [(.str (S "self") 281), (.str (S "s") 282)] 0), #[]⟩
noncomputable def o95 (P : Params) : Obj := ⟨(.type "tuple"), none, (Q [] 0), #[]⟩
noncomputable def o96 (P : Params) : Obj := ⟨.none, none, (fdata (stC 2 9) (S "BaseStemmer.go_out_grouping") 0 .none .none 0), #[]⟩
noncomputable def o97 (P : Params) : Obj := ⟨(.type "code"), none, (F [(.str (S "go_out_grouping") 278), (.str (S "BaseStemmer.go_out_grouping") 279), (.str (S "/claim/cut.py") 280), (.int (39) 0), (.int (2) 0), (.int (0) 0), (.int (0) 0), (.int (3) 0), (.ref 92), (.bool true), (.int (181) 0), (.ref 93), .none, (.ref 94), (.ref 95), (.ref 96), (.int (283) 0), (.int (39) 0), (.str (S "/claim/cut.py") 284)]), #[]⟩
noncomputable def o98 (P : Params) : Obj := ⟨(.type "function"), none, (fdata (stC 2 9) (S "BaseStemmer.go_out_grouping") 3 (.str (S "snowballstemmer.basestemmer") 194) (.ref 97) 0), #[]⟩
noncomputable def o99 (P : Params) : Obj := ⟨(.type "tuple"), none, (Q [] 0), #[]⟩
noncomputable def o100 (P : Params) : Obj := ⟨.none, none, (F []), #[]⟩
noncomputable def o101 (P : Params) : Obj := ⟨(.type "tuple"), none, (Q [(.str (S "self") 289), (.str (S "s") 290)] 0), #[]⟩
noncomputable def o102 (P : Params) : Obj := ⟨(.type "tuple"), none, (Q [] 0), #[]⟩
noncomputable def o103 (P : Params) : Obj := ⟨.none, none, (fdata (stC 2 10) (S "BaseStemmer.out_grouping_b") 0 .none .none 0), #[]⟩
noncomputable def o104 (P : Params) : Obj := ⟨(.type "code"), none, (F [(.str (S "out_grouping_b") 286), (.str (S "BaseStemmer.out_grouping_b") 287), (.str (S "/claim/cut.py") 288), (.int (42) 0), (.int (2) 0), (.int (0) 0), (.int (0) 0), (.int (3) 0), (.ref 99), (.bool true), (.int (181) 0), (.ref 100), .none, (.ref 101), (.ref 102), (.ref 103), (.int (291) 0), (.int (42) 0), (.str (S "/claim/cut.py") 292)]), #[]⟩
noncomputable def o105 (P : Params) : Obj := ⟨(.type "function"), none, (fdata (stC 2 10) (S "BaseStemmer.out_grouping_b") 3 (.str (S "snowballstemmer.basestemmer") 194) (.ref 104) 0), #[]⟩
noncomputable def o106 (P : Params) : Obj := ⟨(.type "tuple"), none, (Q [] 0), #[]⟩
noncomputable def o107 (P : Params) : Obj := ⟨.none, none, (F []), #[]⟩
noncomputable def o108 (P : Params) : Obj := ⟨(.type "tuple"), none, (Q [(.str (S "self") 297), (.str (S "s") 298)] 0), #[]⟩
noncomputable def o109 (P : Params) : Obj := ⟨(.type "tuple"), none, (Q [] 0), #[]⟩
noncomputable def o110 (P : Params) : Obj := ⟨.none, none, (fdata (stC 2 11) (S "BaseStemmer.go_out_grouping_b") 0 .none .none 0), #[]⟩
noncomputable def o111 (P : Params) : Obj := ⟨(.type "code"), none, (F [(.str (S "go_out_grouping_b") 294), (.str (S "BaseStemmer.go_out_grouping_b") 295), (.str (S "/claim/cut.py") 296), (.int (45) 0), (.int (2) 0), (.int (0) 0), (.int (0) 0), (.int (3) 0), (.ref 106), (.bool true), (.int (181) 0), (.ref 107), .none, (.ref 108), (.ref 109), (.ref 110), (.int (299) 0), (.int (45) 0), (.str (S "/claim/cut.py") 300)]), #[]⟩
noncomputable def o112 (P : Params) : Obj := ⟨(.type "function"), none, (fdata (stC 2 11) (S "BaseStemmer.go_out_grouping_b") 3 (.str (S "snowballstemmer.basestemmer") 194) (.ref 111) 0), #[]⟩
noncomputable def o113 (P : Params) : Obj := ⟨(.type "tuple"), none, (Q [] 0), #[]⟩
noncomputable def o114 (P : Params) : Obj := ⟨.none, none, (F []), #[]⟩
noncomputable def o115 (P : Params) : Obj := ⟨(.type "tuple"), none, (Q [(.str (S "self") 305), (.str (S "s") 306)] 0), #[]⟩
noncomputable def o116 (P : Params) : Obj := ⟨(.type "tuple"), none, (Q [] 0), #[]⟩
noncomputable def o117 (P : Params) : Obj := ⟨.none, none, (fdata (stC 2 12) (S "BaseStemmer.eq_s") 0 .none .none 0), #[]⟩
noncomputable def o118 (P : Params) : Obj := ⟨(.type "code"), none, (F [(.str (S "eq_s") 302), (.str (S "BaseStemmer.eq_s") 303), (.str (S "/claim/cut.py") 304), (.int (48) 0), (.int (2) 0), (.int (0) 0), (.int (0) 0), (.int (3) 0), (.ref 113), (.bool true), (.int (181) 0), (.ref 114), .none, (.ref 115), (.ref 116), (.ref 117), (.int (307) 0), (.int (48) 0), (.str (S "/claim/cut.py") 308)]), #[]⟩
noncomputable def o119 (P : Params) : Obj := ⟨(.type "function"), none, (fdata (stC 2 12) (S "BaseStemmer.eq_s") 3 (.str (S "snowballstemmer.basestemmer") 194) (.ref 118) 0), #[]⟩
noncomputable def o120 (P : Params) : Obj := ⟨(.type "tuple"), none, (Q [] 0), #[]⟩
noncomputable def o121 (P : Params) : Obj := ⟨.none, none, (F []), #[]⟩
noncomputable def o122 (P : Params) : Obj := ⟨(.type "tuple"), none, (Q [(.str (S "self") 313), (.str (S "s") 314)] 0), #[]⟩
noncomputable def o123 (P : Params) : Obj := ⟨(.type "tuple"), none, (Q [] 0), #[]⟩
noncomputable def o124 (P : Params) : Obj := ⟨.none, none, (fdata (stC 2 13) (S "BaseStemmer.eq_s_b") 0 .none .none 0), #[]⟩
noncomputable def o125 (P : Params) : Obj := ⟨(.type "code"), none, (F [(.str (S "eq_s_b") 310), (.str (S "BaseStemmer.eq_s_b") 311), (.str (S "/claim/cut.py") 312), (.int (51) 0), (.int (2) 0), (.int (0) 0), (.int (0) 0), (.int (3) 0), (.ref 120), (.bool true), (.int (181) 0), (.ref 121), .none, (.ref 122), (.ref 123), (.ref 124), (.int (315) 0), (.int (51) 0), (.str (S "/claim/cut.py") 316)]), #[]⟩
noncomputable def o126 (P : Params) : Obj := ⟨(.type "function"), none, (fdata (stC 2 13) (S "BaseStemmer.eq_s_b") 3 (.str (S "snowballstemmer.basestemmer") 194) (.ref 125) 0), #[]⟩
noncomputable def o127 (P : Params) : Obj := ⟨(.type "tuple"), none, (Q [] 0), #[]⟩
noncomputable def o128 (P : Params) : Obj := ⟨.none, none, (F []), #[]⟩
noncomputable def o129 (P : Params) : Obj := ⟨(.type "tuple"), none, (Q [(.str (S "self") 321), (.str (S "v") 322)] 0), #[]⟩
noncomputable def o130 (P : Params) : Obj := ⟨(.type "tuple"), none, (Q [] 0), #[]⟩
noncomputable def o131 (P : Params) : Obj := ⟨.none, none, (fdata (stC 2 14) (S "BaseStemmer.find_among") 0 .none .none 0), #[]⟩
noncomputable def o132 (P : Params) : Obj := ⟨(.type "code"), none, (F [(.str (S "find_among") 318), (.str (S "BaseStemmer.find_among") 319), (.str (S "/claim/cut.py") 320), (.int (57) 0), (.int (2) 0), (.int (0) 0), (.int (0) 0), (.int (3) 0), (.ref 127), (.bool true), (.int (181) 0), (.ref 128), .none, (.ref 129), (.ref 130), (.ref 131), (.int (323) 0), (.int (57) 0), (.str (S "/claim/cut.py") 324)]), #[]⟩
noncomputable def o133 (P : Params) : Obj := ⟨(.type "function"), none, (fdata (stC 2 14) (S "BaseStemmer.find_among") 3 (.str (S "snowballstemmer.basestemmer") 194) (.ref 132) 0), #[]⟩
noncomputable def o134 (P : Params) : Obj := ⟨(.type "tuple"), none, (Q [] 0), #[]⟩
noncomputable def o135 (P : Params) : Obj := ⟨.none, none, (F []), #[]⟩
noncomputable def o136 (P : Params) : Obj := ⟨(.type "tuple"), none, (Q [(.str (S "self") 329), (.str (S "v") 330), (.str (S "i") 331), (.str (S "j") 332), (.str (S "c") 333), (.str (S "lb") 334), (.str (S "common_i") 335), (.str (S "common_j") 336), (.str (S "first_key_inspected") 337), (.str (S "k") 338), (.str (S "diff") 339), (.str (S "common") 340), (.str (S "w") 341), (.str (S "i2") 342)] 0), #[]⟩
noncomputable def o137 (P : Params) : Obj := ⟨(.type "tuple"), none, (Q [] 0), #[]⟩
noncomputable def o138 (P : Params) : Obj := ⟨.none, none, (fdata (stC 2 15) (S "BaseStemmer.find_among_b") 0 .none .none 0), #[]⟩
noncomputable def o139 (P : Params) : Obj := ⟨(.type "code"), none, (F [(.str (S "find_among_b") 326), (.str (S "BaseStemmer.find_among_b") 327), (.str (S "/claim/cut.py") 328), (.int (60) 0), (.int (2) 0), (.int (0) 0), (.int (0) 0), (.int (3) 0), (.ref 134), (.bool true), (.int (181) 0), (.ref 135), .none, (.ref 136), (.ref 137), (.ref 138), (.int (343) 0), (.int (60) 0), (.str (S "/claim/cut.py") 344)]), #[]⟩
noncomputable def o140 (P : Params) : Obj := ⟨(.type "function"), none, (fdata (stC 2 15) (S "BaseStemmer.find_among_b") 3 (.str (S "snowballstemmer.basestemmer") 194) (.ref 139) 0), #[]⟩
noncomputable def o141 (P : Params) : Obj := ⟨(.type "tuple"), none, (Q [] 0), #[]⟩
noncomputable def o142 (P : Params) : Obj := ⟨.none, none, (F []), #[]⟩
noncomputable def o143 (P : Params) : Obj := ⟨(.type "tuple"), none, (Q [(.str (S "self") 349), (.str (S "c_bra") 350), (.str (S "c_ket") 351), (.str (S "s") 352), (.str (S "adjustment") 353)] 0), #[]⟩
noncomputable def o144 (P : Params) : Obj := ⟨(.type "tuple"), none, (Q [] 0), #[]⟩
noncomputable def o145 (P : Params) : Obj := ⟨.none, none, (fdata (stC 2 16) (S "BaseStemmer.replace_s") 0 .none .none 0), #[]⟩
noncomputable def o146 (P : Params) : Obj := ⟨(.type "code"), none, (F [(.str (S "replace_s") 346), (.str (S "BaseStemmer.replace_s") 347), (.str (S "/claim/cut.py") 348), (.int (105) 0), (.int (4) 0), (.int (0) 0), (.int (0) 0), (.int (3) 0), (.ref 141), (.bool true), (.int (181) 0), (.ref 142), .none, (.ref 143), (.ref 144), (.ref 145), (.int (354) 0), (.int (105) 0), (.str (S "/claim/cut.py") 355)]), #[]⟩
noncomputable def o147 (P : Params) : Obj := ⟨(.type "function"), none, (fdata (stC 2 16) (S "BaseStemmer.replace_s") 3 (.str (S "snowballstemmer.basestemmer") 194) (.ref 146) 0), #[]⟩
noncomputable def o148 (P : Params) : Obj := ⟨(.type "tuple"), none, (Q [] 0), #[]⟩
noncomputable def o149 (P : Params) : Obj := ⟨.none, none, (F []), #[]⟩
noncomputable def o150 (P : Params) : Obj := ⟨(.type "tuple"), none, (Q [(.str (S "self") 360), (.str (S "s") 361)] 0), #[]⟩
noncomputable def o151 (P : Params) : Obj := ⟨(.type "tuple"), none, (Q [] 0), #[]⟩
noncomputable def o152 (P : Params) : Obj := ⟨.none, none, (fdata (stC 2 17) (S "BaseStemmer.slice_from") 0 .none .none 0), #[]⟩
noncomputable def o153 (P : Params) : Obj := ⟨(.type "code"), none, (F [(.str (S "slice_from") 357), (.str (S "BaseStemmer.slice_from") 358), (.str (S "/claim/cut.py") 359), (.int (115) 0), (.int (2) 0), (.int (0) 0), (.int (0) 0), (.int (3) 0), (.ref 148), (.bool true), (.int (181) 0), (.ref 149), .none, (.ref 150), (.ref 151), (.ref 152), (.int (362) 0), (.int (115) 0), (.str (S "/claim/cut.py") 363)]), #[]⟩
noncomputable def o154 (P : Params) : Obj := ⟨(.type "function"), none, (fdata (stC 2 17) (S "BaseStemmer.slice_from") 3 (.str (S "snowballstemmer.basestemmer") 194) (.ref 153) 0), #[]⟩
noncomputable def o155 (P : Params) : Obj := ⟨(.type "tuple"), none, (Q [] 0), #[]⟩
noncomputable def o156 (P : Params) : Obj := ⟨.none, none, (F []), #[]⟩
noncomputable def o157 (P : Params) : Obj := ⟨(.type "tuple"), none, (Q [(.str (S "self") 368)] 0), #[]⟩
noncomputable def o158 (P : Params) : Obj := ⟨(.type "tuple"), none, (Q [] 0), #[]⟩
noncomputable def o159 (P : Params) : Obj := ⟨.none, none, (fdata (stC 2 18) (S "BaseStemmer.slice_del") 0 .none .none 0), #[]⟩
noncomputable def o160 (P : Params) : Obj := ⟨(.type "code"), none, (F [(.str (S "slice_del") 365), (.str (S "BaseStemmer.slice_del") 366), (.str (S "/claim/cut.py") 367), (.int (123) 0), (.int (1) 0), (.int (0) 0), (.int (0) 0), (.int (3) 0), (.ref 155), (.bool true), (.int (181) 0), (.ref 156), .none, (.ref 157), (.ref 158), (.ref 159), (.int (369) 0), (.int (123) 0), (.str (S "/claim/cut.py") 370)]), #[]⟩
noncomputable def o161 (P : Params) : Obj := ⟨(.type "function"), none, (fdata (stC 2 18) (S "BaseStemmer.slice_del") 3 (.str (S "snowballstemmer.basestemmer") 194) (.ref 160) 0), #[]⟩
noncomputable def o162 (P : Params) : Obj := ⟨(.type "tuple"), none, (Q [] 0), #[]⟩
noncomputable def o163 (P : Params) : Obj := ⟨.none, none, (F []), #[]⟩
noncomputable def o164 (P : Params) : Obj := ⟨(.type "tuple"), none, (Q [(.str (S "self") 375), (.str (S "c_bra") 376), (.str (S "c_ket") 377), (.str (S "s") 378)] 0), #[]⟩
noncomputable def o165 (P : Params) : Obj := ⟨(.type "tuple"), none, (Q [] 0), #[]⟩
noncomputable def o166 (P : Params) : Obj := ⟨.none, none, (fdata (stC 2 19) (S "BaseStemmer.insert") 0 .none .none 0), #[]⟩
noncomputable def o167 (P : Params) : Obj := ⟨(.type "code"), none, (F [(.str (S "insert") 372), (.str (S "BaseStemmer.insert") 373), (.str (S "/claim/cut.py") 374), (.int (126) 0), (.int (4) 0), (.int (0) 0), (.int (0) 0), (.int (3) 0), (.ref 162), (.bool true), (.int (181) 0), (.ref 163), .none, (.ref 164), (.ref 165), (.ref 166), (.int (379) 0), (.int (126) 0), (.str (S "/claim/cut.py") 380)]), #[]⟩
noncomputable def o168 (P : Params) : Obj := ⟨(.type "function"), none, (fdata (stC 2 19) (S "BaseStemmer.insert") 3 (.str (S "snowballstemmer.basestemmer") 194) (.ref 167) 0), #[]⟩
noncomputable def o169 (P : Params) : Obj := ⟨(.type "tuple"), none, (Q [] 0), #[]⟩
noncomputable def o170 (P : Params) : Obj := ⟨.none, none, (F []), #[]⟩
noncomputable def o171 (P : Params) : Obj := ⟨(.type "tuple"), none, (Q [(.str (S "self") 385)] 0), #[]⟩
noncomputable def o172 (P : Params) : Obj := ⟨(.type "tuple"), none, (Q [] 0), #[]⟩
noncomputable def o173 (P : Params) : Obj := ⟨.none, none, (fdata (stC 2 20) (S "BaseStemmer.slice_to") 0 .none .none 0), #[]⟩
noncomputable def o174 (P : Params) : Obj := ⟨(.type "code"), none, (F [(.str (S "slice_to") 382), (.str (S "BaseStemmer.slice_to") 383), (.str (S "/claim/cut.py") 384), (.int (129) 0), (.int (1) 0), (.int (0) 0), (.int (0) 0), (.int (3) 0), (.ref 169), (.bool true), (.int (181) 0), (.ref 170), .none, (.ref 171), (.ref 172), (.ref 173), (.int (386) 0), (.int (129) 0), (.str (S "/claim/cut.py") 387)]), #[]⟩
noncomputable def o175 (P : Params) : Obj := ⟨(.type "function"), none, (fdata (stC 2 20) (S "BaseStemmer.slice_to") 3 (.str (S "snowballstemmer.basestemmer") 194) (.ref 174) 0), #[]⟩
noncomputable def o176 (P : Params) : Obj := ⟨(.type "tuple"), none, (Q [] 0), #[]⟩
noncomputable def o177 (P : Params) : Obj := ⟨.none, none, (F []), #[]⟩
noncomputable def o178 (P : Params) : Obj := ⟨(.type "tuple"), none, (Q [(.str (S "self") 392)] 0), #[]⟩
noncomputable def o179 (P : Params) : Obj := ⟨(.type "tuple"), none, (Q [] 0), #[]⟩
noncomputable def o180 (P : Params) : Obj := ⟨.none, none, (fdata (stC 2 21) (S "BaseStemmer.assign_to") 0 .none .none 0), #[]⟩
noncomputable def o181 (P : Params) : Obj := ⟨(.type "code"), none, (F [(.str (S "assign_to") 389), (.str (S "BaseStemmer.assign_to") 390), (.str (S "/claim/cut.py") 391), (.int (132) 0), (.int (1) 0), (.int (0) 0), (.int (0) 0), (.int (3) 0), (.ref 176), (.bool true), (.int (181) 0), (.ref 177), .none, (.ref 178), (.ref 179), (.ref 180), (.int (393) 0), (.int (132) 0), (.str (S "/claim/cut.py") 394)]), #[]⟩
noncomputable def o182 (P : Params) : Obj := ⟨(.type "function"), none, (fdata (stC 2 21) (S "BaseStemmer.assign_to") 3 (.str (S "snowballstemmer.basestemmer") 194) (.ref 181) 0), #[]⟩
noncomputable def o183 (P : Params) : Obj := ⟨(.type "tuple"), none, (Q [] 0), #[]⟩
noncomputable def o184 (P : Params) : Obj := ⟨.none, none, (F []), #[]⟩
noncomputable def o185 (P : Params) : Obj := ⟨(.type "tuple"), none, (Q [(.str (S "self") 399), (.str (S "word") 400)] 0), #[]⟩
noncomputable def o186 (P : Params) : Obj := ⟨(.type "tuple"), none, (Q [] 0), #[]⟩
noncomputable def o187 (P : Params) : Obj := ⟨.none, none, (fdata (stC 2 22) (S "BaseStemmer.stemWord") 0 .none .none 0), #[]⟩
noncomputable def o188 (P : Params) : Obj := ⟨(.type "code"), none, (F [(.str (S "stemWord") 396), (.str (S "BaseStemmer.stemWord") 397), (.str (S "/claim/cut.py") 398), (.int (135) 0), (.int (2) 0), (.int (0) 0), (.int (0) 0), (.int (3) 0), (.ref 183), (.bool true), (.int (181) 0), (.ref 184), .none, (.ref 185), (.ref 186), (.ref 187), (.int (401) 0), (.int (135) 0), (.str (S "/claim/cut.py") 402)]), #[]⟩
noncomputable def o189 (P : Params) : Obj := ⟨(.type "function"), none, (fdata (stC 2 22) (S "BaseStemmer.stemWord") 3 (.str (S "snowballstemmer.basestemmer") 194) (.ref 188) 0), #[]⟩
noncomputable def o190 (P : Params) : Obj := ⟨(.type "tuple"), none, (Q [] 0), #[]⟩
noncomputable def o191 (P : Params) : Obj := ⟨.none, none, (F []), #[]⟩
noncomputable def o192 (P : Params) : Obj := ⟨(.type "tuple"), none, (Q [(.str (S "self") 407), (.str (S "words") 408)] 0), #[]⟩
noncomputable def o193 (P : Params) : Obj := ⟨(.type "tuple"), none, (Q [] 0), #[]⟩
noncomputable def o194 (P : Params) : Obj := ⟨.none, none, (fdata (stC 2 23) (S "BaseStemmer.stemWords") 0 .none .none 0), #[]⟩
noncomputable def o195 (P : Params) : Obj := ⟨(.type "code"), none, (F [(.str (S "stemWords") 404), (.str (S "BaseStemmer.stemWords") 405), (.str (S "/claim/cut.py") 406), (.int (138) 0), (.int (2) 0), (.int (0) 0), (.int (0) 0), (.int (3) 0), (.ref 190), (.bool true), (.int (181) 0), (.ref 191), .none, (.ref 192), (.ref 193), (.ref 194), (.int (409) 0), (.int (138) 0), (.str (S "/claim/cut.py") 410)]), #[]⟩
noncomputable def o196 (P : Params) : Obj := ⟨(.type "function"), none, (fdata (stC 2 23) (S "BaseStemmer.stemWords") 3 (.str (S "snowballstemmer.basestemmer") 194) (.ref 195) 0), #[]⟩
noncomputable def o197 (P : Params) : Obj := ⟨(.type "tuple"), none, (Q [(.str (S "bra") 412), (.str (S "current") 413), (.str (S "cursor") 414), (.str (S "ket") 415), (.str (S "limit") 416), (.str (S "limit_backward") 417)] 0), #[]⟩
noncomputable def o198 (P : Params) : Obj := ⟨(.type "dict"), none, (D P [((S "__module__"), 203, (.str (S "snowballstemmer.basestemmer") 194)), ((S "__firstlineno__"), 207, (.int (5) 206)), ((S "__init__"), 214, (.ref 35)), ((S "set_current"), 222, (.ref 42)), ((S "get_current"), 229, (.ref 49)), ((S "copy_from"), 237, (.ref 56)), ((S "in_grouping"), 245, (.ref 63)), ((S "go_in_grouping"), 253, (.ref 70)), ((S "in_grouping_b"), 261, (.ref 77)), ((S "go_in_grouping_b"), 269, (.ref 84)), ((S "out_grouping"), 277, (.ref 91)), ((S "go_out_grouping"), 285, (.ref 98)), ((S "out_grouping_b"), 293, (.ref 105)), ((S "go_out_grouping_b"), 301, (.ref 112)), ((S "eq_s"), 309, (.ref 119)), ((S "eq_s_b"), 317, (.ref 126)), ((S "find_among"), 325, (.ref 133)), ((S "find_among_b"), 345, (.ref 140)), ((S "replace_s"), 356, (.ref 147)), ((S "slice_from"), 364, (.ref 154)), ((S "slice_del"), 371, (.ref 161)), ((S "insert"), 381, (.ref 168)), ((S "slice_to"), 388, (.ref 175)), ((S "assign_to"), 395, (.ref 182)), ((S "stemWord"), 403, (.ref 189)), ((S "stemWords"), 411, (.ref 196)), ((S "__static_attributes__"), 418, (.ref 197)), ((S "__dict__"), 420, (.ref 200)), ((S "__weakref__"), 422, (.ref 201)), ((S "__doc__"), 423, .none)] 4), #[]⟩
noncomputable def o199 (P : Params) : Obj := ⟨(.type "type"), none, (.cls { name := (S "BaseStemmer"), bases := [(.type "object")], mro := [(.ref 199), (.type "object")], ns := 198, qualname := (S "BaseStemmer"), hasDict := true, slotNames := [], subclasses := [], abstract := false, collection := none, hasDel := false }), #[none, none, some (.str (S "BaseStemmer") 196), some (.str (S "BaseStemmer") 204), some (.builtin "object.__new__"), some (.bool true)]⟩
noncomputable def o200 (P : Params) : Obj := ⟨(.type "getset_descriptor"), none, (F [(.str (S "__dict__") 419), (.ref 199), (.builtin "function.__dict__"), (.builtin "function.__dict__#set")]), #[]⟩
noncomputable def o201 (P : Params) : Obj := ⟨(.type "getset_descriptor"), none, (F [(.str (S "__weakref__") 421), (.ref 199), (.builtin "ExceptionGroup.__weakref__"), .none]), #[]⟩
noncomputable def o202 (P : Params) : Obj := ⟨(.type "super"), none, (F [(.ref 199), (.ref 199), (.ref 199)]), #[]⟩
noncomputable def o203 (P : Params) : Obj := ⟨(.type "builtin_function_or_method"), none, (F [(.builtin "object.__init_subclass__"), (.ref 199)]), #[]⟩
noncomputable def o204 (P : Params) : Obj := ⟨(.type "tuple"), none, (Q [] 0), #[]⟩
noncomputable def o205 (P : Params) : Obj := ⟨(.type "builtin_function_or_method"), none, (F [(.builtin "type.__prepare__"), (.type "type")]), #[]⟩
noncomputable def o206 (P : Params) : Obj := ⟨(.type "dict"), none, (D P [((S "__module__"), 435, (.str (S "snowballstemmer.among") 426)), ((S "__qualname__"), 437, (.str (S "Among") 436)), ((S "__firstlineno__"), 439, (.int (141) 438)), ((S "__init__"), 449, (.ref 217)), ((S "__static_attributes__"), 453, (.ref 218))] 5), #[]⟩
noncomputable def o207 (P : Params) : Obj := ⟨(.type "tuple"), none, (Q [] 0), #[]⟩
noncomputable def o208 (P : Params) : Obj := ⟨.none, none, (F [(.int (143) 0), (.int (4) 0), (.ref 216)]), #[]⟩
noncomputable def o209 (P : Params) : Obj := ⟨(.type "code"), none, (F [(.str (S "Among") 430), (.str (S "Among") 431), (.str (S "/claim/cut.py") 432), (.int (141) 0), (.int (0) 0), (.int (0) 0), (.int (0) 0), (.int (0) 0), (.ref 207), (.bool false), (.int (181) 0), (.ref 208), .none, .none, .none, .none, (.int (433) 0), (.int (141) 0), (.str (S "/claim/cut.py") 434)]), #[]⟩
noncomputable def o210 (P : Params) : Obj := ⟨(.type "frame"), none, .plain, #[some (.ref 209), some (.ref 3), some (.ref 206), none, some (.str (S "snowballstemmer.among") 426), none, some (.ref 0)]⟩
noncomputable def o211 (P : Params) : Obj := ⟨(.type "tuple"), none, (Q [] 0), #[]⟩
noncomputable def o212 (P : Params) : Obj := ⟨.none, none, (F []), #[]⟩
noncomputable def o213 (P : Params) : Obj := ⟨(.type "tuple"), none, (Q [(.str (S "self") 443), (.str (S "s") 444), (.str (S "substring_i") 445), (.str (S "result") 446)] 0), #[]⟩
noncomputable def o214 (P : Params) : Obj := ⟨(.type "tuple"), none, (Q [] 0), #[]⟩
noncomputable def o215 (P : Params) : Obj := ⟨.none, none, (fdata (stC 4 0) (S "Among.__init__") 0 .none .none 0), #[]⟩
noncomputable def o216 (P : Params) : Obj := ⟨(.type "code"), none, (F [(.str (S "__init__") 440), (.str (S "Among.__init__") 441), (.str (S "/claim/cut.py") 442), (.int (143) 0), (.int (4) 0), (.int (0) 0), (.int (0) 0), (.int (3) 0), (.ref 211), (.bool true), (.int (181) 0), (.ref 212), .none, (.ref 213), (.ref 214), (.ref 215), (.int (447) 0), (.int (143) 0), (.str (S "/claim/cut.py") 448)]), #[]⟩
noncomputable def o217 (P : Params) : Obj := ⟨(.type "function"), none, (fdata (stC 4 0) (S "Among.__init__") 3 (.str (S "snowballstemmer.among") 426) (.ref 216) 0), #[]⟩
noncomputable def o218 (P : Params) : Obj := ⟨(.type "tuple"), none, (Q [(.str (S "result") 450), (.str (S "s") 451), (.str (S "substring_i") 452)] 0), #[]⟩
noncomputable def o219 (P : Params) : Obj := ⟨(.type "dict"), none, (D P [((S "__module__"), 435, (.str (S "snowballstemmer.among") 426)), ((S "__firstlineno__"), 439, (.int (141) 438)), ((S "__init__"), 449, (.ref 217)), ((S "__static_attributes__"), 453, (.ref 218)), ((S "__dict__"), 455, (.ref 221)), ((S "__weakref__"), 457, (.ref 222)), ((S "__doc__"), 458, .none)] 4), #[]⟩
noncomputable def o220 (P : Params) : Obj := ⟨(.type "type"), none, (.cls { name := (S "Among"), bases := [(.type "object")], mro := [(.ref 220), (.type "object")], ns := 219, qualname := (S "Among"), hasDict := true, slotNames := [], subclasses := [], abstract := false, collection := none, hasDel := false }), #[none, none, some (.str (S "Among") 428), some (.str (S "Among") 436), some (.builtin "object.__new__"), some (.bool true)]⟩
noncomputable def o221 (P : Params) : Obj := ⟨(.type "getset_descriptor"), none, (F [(.str (S "__dict__") 454), (.ref 220), (.builtin "function.__dict__"), (.builtin "function.__dict__#set")]), #[]⟩
noncomputable def o222 (P : Params) : Obj := ⟨(.type "getset_descriptor"), none, (F [(.str (S "__weakref__") 456), (.ref 220), (.builtin "ExceptionGroup.__weakref__"), .none]), #[]⟩
noncomputable def o223 (P : Params) : Obj := ⟨(.type "super"), none, (F [(.ref 220), (.ref 220), (.ref 220)]), #[]⟩
noncomputable def o224 (P : Params) : Obj := ⟨(.type "builtin_function_or_method"), none, (F [(.builtin "object.__init_subclass__"), (.ref 220)]), #[]⟩
noncomputable def T2 (P : Params) : BT := (N (boot_o_0 P) (N (boot_o_1 P) (N (o3 P) (N (boot_o_7 P) (N (o15 P) (N (o31 P) (N (o63 P) (N (o127 P) E E) (N (o191 P) E E)) (N (o95 P) (N (o159 P) E E) (N (o223 P) E E))) (N (o47 P) (N (o79 P) (N (o143 P) E E) (N (o207 P) E E)) (N (o111 P) (N (o175 P) E E) E))) (N (o23 P) (N (o39 P) (N (o71 P) (N (o135 P) E E) (N (o199 P) E E)) (N (o103 P) (N (o167 P) E E) E)) (N (o55 P) (N (o87 P) (N (o151 P) E E) (N (o215 P) E E)) (N (o119 P) (N (o183 P) E E) E)))) (N (o11 P) (N (o19 P) (N (o35 P) (N (o67 P) (N (o131 P) E E) (N (o195 P) E E)) (N (o99 P) (N (o163 P) E E) E)) (N (o51 P) (N (o83 P) (N (o147 P) E E) (N (o211 P) E E)) (N (o115 P) (N (o179 P) E E) E))) (N (o27 P) (N (o43 P) (N (o75 P) (N (o139 P) E E) (N (o203 P) E E)) (N (o107 P) (N (o171 P) E E) E)) (N (o59 P) (N (o91 P) (N (o155 P) E E) (N (o219 P) E E)) (N (o123 P) (N (o187 P) E E) E))))) (N (boot_o_5 P) (N (boot_o_9 P) (N (o17 P) (N (o33 P) (N (o65 P) (N (o129 P) E E) (N (o193 P) E E)) (N (o97 P) (N (o161 P) E E) E)) (N (o49 P) (N (o81 P) (N (o145 P) E E) (N (o209 P) E E)) (N (o113 P) (N (o177 P) E E) E))) (N (o25 P) (N (o41 P) (N (o73 P) (N (o137 P) E E) (N (o201 P) E E)) (N (o105 P) (N (o169 P) E E) E)) (N (o57 P) (N (o89 P) (N (o153 P) E E) (N (o217 P) E E)) (N (o121 P) (N (o185 P) E E) E)))) (N (o13 P) (N (o21 P) (N (o37 P) (N (o69 P) (N (o133 P) E E) (N (o197 P) E E)) (N (o101 P) (N (o165 P) E E) E)) (N (o53 P) (N (o85 P) (N (o149 P) E E) (N (o213 P) E E)) (N (o117 P) (N (o181 P) E E) E))) (N (o29 P) (N (o45 P) (N (o77 P) (N (o141 P) E E) (N (o205 P) E E)) (N (o109 P) (N (o173 P) E E) E)) (N (o61 P) (N (o93 P) (N (o157 P) E E) (N (o221 P) E E)) (N (o125 P) (N (o189 P) E E) E)))))) (N (boot_o_2 P) (N (boot_o_4 P) (N (boot_o_8 P) (N (o16 P) (N (o32 P) (N (o64 P) (N (o128 P) E E) (N (o192 P) E E)) (N (o96 P) (N (o160 P) E E) (N (o224 P) E E))) (N (o48 P) (N (o80 P) (N (o144 P) E E) (N (o208 P) E E)) (N (o112 P) (N (o176 P) E E) E))) (N (o24 P) (N (o40 P) (N (o72 P) (N (o136 P) E E) (N (o200 P) E E)) (N (o104 P) (N (o168 P) E E) E)) (N (o56 P) (N (o88 P) (N (o152 P) E E) (N (o216 P) E E)) (N (o120 P) (N (o184 P) E E) E)))) (N (o12v1 P) (N (o20 P) (N (o36 P) (N (o68 P) (N (o132 P) E E) (N (o196 P) E E)) (N (o100 P) (N (o164 P) E E) E)) (N (o52 P) (N (o84 P) (N (o148 P) E E) (N (o212 P) E E)) (N (o116 P) (N (o180 P) E E) E))) (N (o28 P) (N (o44 P) (N (o76 P) (N (o140 P) E E) (N (o204 P) E E)) (N (o108 P) (N (o172 P) E E) E)) (N (o60 P) (N (o92 P) (N (o156 P) E E) (N (o220 P) E E)) (N (o124 P) (N (o188 P) E E) E))))) (N (boot_o_6 P) (N (boot_o_10 P) (N (o18 P) (N (o34 P) (N (o66 P) (N (o130 P) E E) (N (o194 P) E E)) (N (o98 P) (N (o162 P) E E) E)) (N (o50 P) (N (o82 P) (N (o146 P) E E) (N (o210 P) E E)) (N (o114 P) (N (o178 P) E E) E))) (N (o26 P) (N (o42 P) (N (o74 P) (N (o138 P) E E) (N (o202 P) E E)) (N (o106 P) (N (o170 P) E E) E)) (N (o58 P) (N (o90 P) (N (o154 P) E E) (N (o218 P) E E)) (N (o122 P) (N (o186 P) E E) E)))) (N (o14 P) (N (o22 P) (N (o38 P) (N (o70 P) (N (o134 P) E E) (N (o198 P) E E)) (N (o102 P) (N (o166 P) E E) E)) (N (o54 P) (N (o86 P) (N (o150 P) E E) (N (o214 P) E E)) (N (o118 P) (N (o182 P) E E) E))) (N (o30 P) (N (o46 P) (N (o78 P) (N (o142 P) E E) (N (o206 P) E E)) (N (o110 P) (N (o174 P) E E) E)) (N (o62 P) (N (o94 P) (N (o158 P) E E) (N (o222 P) E E)) (N (o126 P) (N (o190 P) E E) E)))))))
noncomputable def St2 (w : World) (os : OsState) : SharedT := ⟨T2 w.params, 225, life0, #[], drawn0, 463, os⟩
abbrev ps2 : Pos := ⟨147, 0, 147, 8⟩
-- snapshot 2: depth 1, stack [claim.caller ⟨0, 0, 0, 0⟩]; drawn 0 0 0 0; gens 0
noncomputable def o12v2 (P : Params) : Obj := ⟨.none, none, (F [(.int (1) 0), (.int (0) 0), (.ref 20), (.int (5) 0), (.int (0) 0), (.ref 27), (.int (141) 0), (.int (0) 0), (.ref 209), (.int (148) 0), (.int (0) 0), (.ref 230)]), #[]⟩
noncomputable def o225 (P : Params) : Obj := ⟨(.type "tuple"), none, (Q [(.ref 199)] 0), #[]⟩
noncomputable def o226 (P : Params) : Obj := ⟨(.type "builtin_function_or_method"), none, (F [(.builtin "type.__prepare__"), (.type "type")]), #[]⟩
noncomputable def o227 (P : Params) : Obj := ⟨(.type "dict"), none, (D P [((S "__module__"), 470, (.str (S "snowballstemmer.spanish_stemmer") 461)), ((S "__qualname__"), 472, (.str (S "SpanishStemmer") 471)), ((S "__firstlineno__"), 474, (.int (148) 473))] 3), #[]⟩
noncomputable def o228 (P : Params) : Obj := ⟨(.type "tuple"), none, (Q [] 0), #[]⟩
noncomputable def o229 (P : Params) : Obj := ⟨.none, none, (F []), #[]⟩
noncomputable def o230 (P : Params) : Obj := ⟨(.type "code"), none, (F [(.str (S "SpanishStemmer") 465), (.str (S "SpanishStemmer") 466), (.str (S "/claim/cut.py") 467), (.int (148) 0), (.int (0) 0), (.int (0) 0), (.int (0) 0), (.int (0) 0), (.ref 228), (.bool false), (.int (181) 0), (.ref 229), .none, .none, .none, .none, (.int (468) 0), (.int (148) 0), (.str (S "/claim/cut.py") 469)]), #[]⟩
noncomputable def o231 (P : Params) : Obj := ⟨(.type "frame"), none, .plain, #[some (.ref 230), some (.ref 3), some (.ref 227), none, some (.str (S "snowballstemmer.spanish_stemmer") 461), none, some (.ref 0)]⟩
noncomputable def T3 (P : Params) : BT := (N (boot_o_0 P) (N (boot_o_1 P) (N (o3 P) (N (boot_o_7 P) (N (o15 P) (N (o31 P) (N (o63 P) (N (o127 P) E E) (N (o191 P) E E)) (N (o95 P) (N (o159 P) E E) (N (o223 P) E E))) (N (o47 P) (N (o79 P) (N (o143 P) E E) (N (o207 P) E E)) (N (o111 P) (N (o175 P) E E) E))) (N (o23 P) (N (o39 P) (N (o71 P) (N (o135 P) E E) (N (o199 P) E E)) (N (o103 P) (N (o167 P) E E) (N (o231 P) E E))) (N (o55 P) (N (o87 P) (N (o151 P) E E) (N (o215 P) E E)) (N (o119 P) (N (o183 P) E E) E)))) (N (o11 P) (N (o19 P) (N (o35 P) (N (o67 P) (N (o131 P) E E) (N (o195 P) E E)) (N (o99 P) (N (o163 P) E E) (N (o227 P) E E))) (N (o51 P) (N (o83 P) (N (o147 P) E E) (N (o211 P) E E)) (N (o115 P) (N (o179 P) E E) E))) (N (o27 P) (N (o43 P) (N (o75 P) (N (o139 P) E E) (N (o203 P) E E)) (N (o107 P) (N (o171 P) E E) E)) (N (o59 P) (N (o91 P) (N (o155 P) E E) (N (o219 P) E E)) (N (o123 P) (N (o187 P) E E) E))))) (N (boot_o_5 P) (N (boot_o_9 P) (N (o17 P) (N (o33 P) (N (o65 P) (N (o129 P) E E) (N (o193 P) E E)) (N (o97 P) (N (o161 P) E E) (N (o225 P) E E))) (N (o49 P) (N (o81 P) (N (o145 P) E E) (N (o209 P) E E)) (N (o113 P) (N (o177 P) E E) E))) (N (o25 P) (N (o41 P) (N (o73 P) (N (o137 P) E E) (N (o201 P) E E)) (N (o105 P) (N (o169 P) E E) E)) (N (o57 P) (N (o89 P) (N (o153 P) E E) (N (o217 P) E E)) (N (o121 P) (N (o185 P) E E) E)))) (N (o13 P) (N (o21 P) (N (o37 P) (N (o69 P) (N (o133 P) E E) (N (o197 P) E E)) (N (o101 P) (N (o165 P) E E) (N (o229 P) E E))) (N (o53 P) (N (o85 P) (N (o149 P) E E) (N (o213 P) E E)) (N (o117 P) (N (o181 P) E E) E))) (N (o29 P) (N (o45 P) (N (o77 P) (N (o141 P) E E) (N (o205 P) E E)) (N (o109 P) (N (o173 P) E E) E)) (N (o61 P) (N (o93 P) (N (o157 P) E E) (N (o221 P) E E)) (N (o125 P) (N (o189 P) E E) E)))))) (N (boot_o_2 P) (N (boot_o_4 P) (N (boot_o_8 P) (N (o16 P) (N (o32 P) (N (o64 P) (N (o128 P) E E) (N (o192 P) E E)) (N (o96 P) (N (o160 P) E E) (N (o224 P) E E))) (N (o48 P) (N (o80 P) (N (o144 P) E E) (N (o208 P) E E)) (N (o112 P) (N (o176 P) E E) E))) (N (o24 P) (N (o40 P) (N (o72 P) (N (o136 P) E E) (N (o200 P) E E)) (N (o104 P) (N (o168 P) E E) E)) (N (o56 P) (N (o88 P) (N (o152 P) E E) (N (o216 P) E E)) (N (o120 P) (N (o184 P) E E) E)))) (N (o12v2 P) (N (o20 P) (N (o36 P) (N (o68 P) (N (o132 P) E E) (N (o196 P) E E)) (N (o100 P) (N (o164 P) E E) (N (o228 P) E E))) (N (o52 P) (N (o84 P) (N (o148 P) E E) (N (o212 P) E E)) (N (o116 P) (N (o180 P) E E) E))) (N (o28 P) (N (o44 P) (N (o76 P) (N (o140 P) E E) (N (o204 P) E E)) (N (o108 P) (N (o172 P) E E) E)) (N (o60 P) (N (o92 P) (N (o156 P) E E) (N (o220 P) E E)) (N (o124 P) (N (o188 P) E E) E))))) (N (boot_o_6 P) (N (boot_o_10 P) (N (o18 P) (N (o34 P) (N (o66 P) (N (o130 P) E E) (N (o194 P) E E)) (N (o98 P) (N (o162 P) E E) (N (o226 P) E E))) (N (o50 P) (N (o82 P) (N (o146 P) E E) (N (o210 P) E E)) (N (o114 P) (N (o178 P) E E) E))) (N (o26 P) (N (o42 P) (N (o74 P) (N (o138 P) E E) (N (o202 P) E E)) (N (o106 P) (N (o170 P) E E) E)) (N (o58 P) (N (o90 P) (N (o154 P) E E) (N (o218 P) E E)) (N (o122 P) (N (o186 P) E E) E)))) (N (o14 P) (N (o22 P) (N (o38 P) (N (o70 P) (N (o134 P) E E) (N (o198 P) E E)) (N (o102 P) (N (o166 P) E E) (N (o230 P) E E))) (N (o54 P) (N (o86 P) (N (o150 P) E E) (N (o214 P) E E)) (N (o118 P) (N (o182 P) E E) E))) (N (o30 P) (N (o46 P) (N (o78 P) (N (o142 P) E E) (N (o206 P) E E)) (N (o110 P) (N (o174 P) E E) E)) (N (o62 P) (N (o94 P) (N (o158 P) E E) (N (o222 P) E E)) (N (o126 P) (N (o190 P) E E) E)))))))
noncomputable def St3 (w : World) (os : OsState) : SharedT := ⟨T3 w.params, 232, life0, #[], drawn0, 475, os⟩
abbrev ps3 : Pos := ⟨148, 0, 417, 167⟩
-- snapshot 3: depth 2, stack [body ⟨148, 0, 417, 167⟩, claim.caller ⟨0, 0, 0, 0⟩]; drawn 0 0 0 0; gens 0
noncomputable def o227v1 (P : Params) : Obj := ⟨(.type "dict"), none, (D P [((S "__module__"), 470, (.str (S "snowballstemmer.spanish_stemmer") 461)), ((S "__qualname__"), 472, (.str (S "SpanishStemmer") 471)), ((S "__firstlineno__"), 474, (.int (148) 473)), ((S "g_v"), 497, (.ref 232))] 4), #[]⟩
noncomputable def T4 (P : Params) (X : SetD) : BT := (N (boot_o_0 P) (N (boot_o_1 P) (N (o3 P) (N (boot_o_7 P) (N (o15 P) (N (o31 P) (N (o63 P) (N (o127 P) E E) (N (o191 P) E E)) (N (o95 P) (N (o159 P) E E) (N (o223 P) E E))) (N (o47 P) (N (o79 P) (N (o143 P) E E) (N (o207 P) E E)) (N (o111 P) (N (o175 P) E E) E))) (N (o23 P) (N (o39 P) (N (o71 P) (N (o135 P) E E) (N (o199 P) E E)) (N (o103 P) (N (o167 P) E E) (N (o231 P) E E))) (N (o55 P) (N (o87 P) (N (o151 P) E E) (N (o215 P) E E)) (N (o119 P) (N (o183 P) E E) E)))) (N (o11 P) (N (o19 P) (N (o35 P) (N (o67 P) (N (o131 P) E E) (N (o195 P) E E)) (N (o99 P) (N (o163 P) E E) (N (o227v1 P) E E))) (N (o51 P) (N (o83 P) (N (o147 P) E E) (N (o211 P) E E)) (N (o115 P) (N (o179 P) E E) E))) (N (o27 P) (N (o43 P) (N (o75 P) (N (o139 P) E E) (N (o203 P) E E)) (N (o107 P) (N (o171 P) E E) E)) (N (o59 P) (N (o91 P) (N (o155 P) E E) (N (o219 P) E E)) (N (o123 P) (N (o187 P) E E) E))))) (N (boot_o_5 P) (N (boot_o_9 P) (N (o17 P) (N (o33 P) (N (o65 P) (N (o129 P) E E) (N (o193 P) E E)) (N (o97 P) (N (o161 P) E E) (N (o225 P) E E))) (N (o49 P) (N (o81 P) (N (o145 P) E E) (N (o209 P) E E)) (N (o113 P) (N (o177 P) E E) E))) (N (o25 P) (N (o41 P) (N (o73 P) (N (o137 P) E E) (N (o201 P) E E)) (N (o105 P) (N (o169 P) E E) E)) (N (o57 P) (N (o89 P) (N (o153 P) E E) (N (o217 P) E E)) (N (o121 P) (N (o185 P) E E) E)))) (N (o13 P) (N (o21 P) (N (o37 P) (N (o69 P) (N (o133 P) E E) (N (o197 P) E E)) (N (o101 P) (N (o165 P) E E) (N (o229 P) E E))) (N (o53 P) (N (o85 P) (N (o149 P) E E) (N (o213 P) E E)) (N (o117 P) (N (o181 P) E E) E))) (N (o29 P) (N (o45 P) (N (o77 P) (N (o141 P) E E) (N (o205 P) E E)) (N (o109 P) (N (o173 P) E E) E)) (N (o61 P) (N (o93 P) (N (o157 P) E E) (N (o221 P) E E)) (N (o125 P) (N (o189 P) E E) E)))))) (N (boot_o_2 P) (N (boot_o_4 P) (N (boot_o_8 P) (N (o16 P) (N (o32 P) (N (o64 P) (N (o128 P) E E) (N (o192 P) E E)) (N (o96 P) (N (o160 P) E E) (N (o224 P) E E))) (N (o48 P) (N (o80 P) (N (o144 P) E E) (N (o208 P) E E)) (N (o112 P) (N (o176 P) E E) E))) (N (o24 P) (N (o40 P) (N (o72 P) (N (o136 P) E E) (N (o200 P) E E)) (N (o104 P) (N (o168 P) E E) (N (oset X) E E))) (N (o56 P) (N (o88 P) (N (o152 P) E E) (N (o216 P) E E)) (N (o120 P) (N (o184 P) E E) E)))) (N (o12v2 P) (N (o20 P) (N (o36 P) (N (o68 P) (N (o132 P) E E) (N (o196 P) E E)) (N (o100 P) (N (o164 P) E E) (N (o228 P) E E))) (N (o52 P) (N (o84 P) (N (o148 P) E E) (N (o212 P) E E)) (N (o116 P) (N (o180 P) E E) E))) (N (o28 P) (N (o44 P) (N (o76 P) (N (o140 P) E E) (N (o204 P) E E)) (N (o108 P) (N (o172 P) E E) E)) (N (o60 P) (N (o92 P) (N (o156 P) E E) (N (o220 P) E E)) (N (o124 P) (N (o188 P) E E) E))))) (N (boot_o_6 P) (N (boot_o_10 P) (N (o18 P) (N (o34 P) (N (o66 P) (N (o130 P) E E) (N (o194 P) E E)) (N (o98 P) (N (o162 P) E E) (N (o226 P) E E))) (N (o50 P) (N (o82 P) (N (o146 P) E E) (N (o210 P) E E)) (N (o114 P) (N (o178 P) E E) E))) (N (o26 P) (N (o42 P) (N (o74 P) (N (o138 P) E E) (N (o202 P) E E)) (N (o106 P) (N (o170 P) E E) E)) (N (o58 P) (N (o90 P) (N (o154 P) E E) (N (o218 P) E E)) (N (o122 P) (N (o186 P) E E) E)))) (N (o14 P) (N (o22 P) (N (o38 P) (N (o70 P) (N (o134 P) E E) (N (o198 P) E E)) (N (o102 P) (N (o166 P) E E) (N (o230 P) E E))) (N (o54 P) (N (o86 P) (N (o150 P) E E) (N (o214 P) E E)) (N (o118 P) (N (o182 P) E E) E))) (N (o30 P) (N (o46 P) (N (o78 P) (N (o142 P) E E) (N (o206 P) E E)) (N (o110 P) (N (o174 P) E E) E)) (N (o62 P) (N (o94 P) (N (o158 P) E E) (N (o222 P) E E)) (N (o126 P) (N (o190 P) E E) E)))))))
noncomputable def St4 (w : World) (X : SetD) (os : OsState) : SharedT := ⟨T4 w.params X, 233, X.life, #[], drawn0, 498, os⟩
abbrev ps4 : Pos := ⟨149, 4, 149, 7⟩
-- snapshot 4: depth 2, stack [body ⟨148, 0, 417, 167⟩, claim.caller ⟨0, 0, 0, 0⟩]; drawn 0 0 0 0; gens 0
noncomputable def o227v2 (P : Params) : Obj := ⟨(.type "dict"), none, (D P [((S "__module__"), 470, (.str (S "snowballstemmer.spanish_stemmer") 461)), ((S "__qualname__"), 472, (.str (S "SpanishStemmer") 471)), ((S "__firstlineno__"), 474, (.int (148) 473)), ((S "g_v"), 497, (.ref 232)), ((S "I_p2"), 499, (.int (0) 498)), ((S "I_p1"), 501, (.int (0) 500)), ((S "I_pV"), 503, (.int (0) 502)), ((S "r_mark_regions"), 510, (.ref 239)), ((S "r_postlude"), 517, (.ref 246)), ((S "r_RV"), 524, (.ref 253)), ((S "r_R2"), 531, (.ref 260)), ((S "r_attached_pronoun"), 539, (.ref 267)), ((S "r_standard_suffix"), 552, (.ref 274)), ((S "r_y_verb_suffix"), 560, (.ref 281)), ((S "r_verb_suffix"), 571, (.ref 288)), ((S "r_residual_suffix"), 581, (.ref 295)), ((S "_stem"), 588, (.ref 302))] 17), #[]⟩
noncomputable def o229v1 (P : Params) : Obj := ⟨.none, none, (F [(.int (154) 0), (.int (4) 0), (.ref 238), (.int (157) 0), (.int (4) 0), (.ref 245), (.int (160) 0), (.int (4) 0), (.ref 252), (.int (163) 0), (.int (4) 0), (.ref 259), (.int (166) 0), (.int (4) 0), (.ref 266), (.int (200) 0), (.int (4) 0), (.ref 273), (.int (320) 0), (.int (4) 0), (.ref 280), (.int (337) 0), (.int (4) 0), (.ref 287), (.int (370) 0), (.int (4) 0), (.ref 294), (.int (406) 0), (.int (4) 0), (.ref 301)]), #[]⟩
noncomputable def o233 (P : Params) : Obj := ⟨(.type "tuple"), none, (Q [] 0), #[]⟩
noncomputable def o234 (P : Params) : Obj := ⟨.none, none, (F []), #[]⟩
noncomputable def o235 (P : Params) : Obj := ⟨(.type "tuple"), none, (Q [(.str (S "self") 507)] 0), #[]⟩
noncomputable def o236 (P : Params) : Obj := ⟨(.type "tuple"), none, (Q [] 0), #[]⟩
noncomputable def o237 (P : Params) : Obj := ⟨.none, none, (fdata (stC 6 4) (S "SpanishStemmer.r_mark_regions") 0 .none .none 0), #[]⟩
noncomputable def o238 (P : Params) : Obj := ⟨(.type "code"), none, (F [(.str (S "r_mark_regions") 504), (.str (S "SpanishStemmer.r_mark_regions") 505), (.str (S "/claim/cut.py") 506), (.int (154) 0), (.int (1) 0), (.int (0) 0), (.int (0) 0), (.int (3) 0), (.ref 233), (.bool true), (.int (181) 0), (.ref 234), .none, (.ref 235), (.ref 236), (.ref 237), (.int (508) 0), (.int (154) 0), (.str (S "/claim/cut.py") 509)]), #[]⟩
noncomputable def o239 (P : Params) : Obj := ⟨(.type "function"), none, (fdata (stC 6 4) (S "SpanishStemmer.r_mark_regions") 3 (.str (S "snowballstemmer.spanish_stemmer") 461) (.ref 238) 0), #[]⟩
noncomputable def o240 (P : Params) : Obj := ⟨(.type "tuple"), none, (Q [] 0), #[]⟩
noncomputable def o241 (P : Params) : Obj := ⟨.none, none, (F []), #[]⟩
noncomputable def o242 (P : Params) : Obj := ⟨(.type "tuple"), none, (Q [(.str (S "self") 514)] 0), #[]⟩
noncomputable def o243 (P : Params) : Obj := ⟨(.type "tuple"), none, (Q [] 0), #[]⟩
noncomputable def o244 (P : Params) : Obj := ⟨.none, none, (fdata (stC 6 5) (S "SpanishStemmer.r_postlude") 0 .none .none 0), #[]⟩
noncomputable def o245 (P : Params) : Obj := ⟨(.type "code"), none, (F [(.str (S "r_postlude") 511), (.str (S "SpanishStemmer.r_postlude") 512), (.str (S "/claim/cut.py") 513), (.int (157) 0), (.int (1) 0), (.int (0) 0), (.int (0) 0), (.int (3) 0), (.ref 240), (.bool true), (.int (181) 0), (.ref 241), .none, (.ref 242), (.ref 243), (.ref 244), (.int (515) 0), (.int (157) 0), (.str (S "/claim/cut.py") 516)]), #[]⟩
noncomputable def o246 (P : Params) : Obj := ⟨(.type "function"), none, (fdata (stC 6 5) (S "SpanishStemmer.r_postlude") 3 (.str (S "snowballstemmer.spanish_stemmer") 461) (.ref 245) 0), #[]⟩
noncomputable def o247 (P : Params) : Obj := ⟨(.type "tuple"), none, (Q [] 0), #[]⟩
noncomputable def o248 (P : Params) : Obj := ⟨.none, none, (F []), #[]⟩
noncomputable def o249 (P : Params) : Obj := ⟨(.type "tuple"), none, (Q [(.str (S "self") 521)] 0), #[]⟩
noncomputable def o250 (P : Params) : Obj := ⟨(.type "tuple"), none, (Q [] 0), #[]⟩
noncomputable def o251 (P : Params) : Obj := ⟨.none, none, (fdata (stC 6 6) (S "SpanishStemmer.r_RV") 0 .none .none 0), #[]⟩
noncomputable def o252 (P : Params) : Obj := ⟨(.type "code"), none, (F [(.str (S "r_RV") 518), (.str (S "SpanishStemmer.r_RV") 519), (.str (S "/claim/cut.py") 520), (.int (160) 0), (.int (1) 0), (.int (0) 0), (.int (0) 0), (.int (3) 0), (.ref 247), (.bool true), (.int (181) 0), (.ref 248), .none, (.ref 249), (.ref 250), (.ref 251), (.int (522) 0), (.int (160) 0), (.str (S "/claim/cut.py") 523)]), #[]⟩
noncomputable def o253 (P : Params) : Obj := ⟨(.type "function"), none, (fdata (stC 6 6) (S "SpanishStemmer.r_RV") 3 (.str (S "snowballstemmer.spanish_stemmer") 461) (.ref 252) 0), #[]⟩
noncomputable def o254 (P : Params) : Obj := ⟨(.type "tuple"), none, (Q [] 0), #[]⟩
noncomputable def o255 (P : Params) : Obj := ⟨.none, none, (F []), #[]⟩
noncomputable def o256 (P : Params) : Obj := ⟨(.type "tuple"), none, (Q [(.str (S "self") 528)] 0), #[]⟩
noncomputable def o257 (P : Params) : Obj := ⟨(.type "tuple"), none, (Q [] 0), #[]⟩
noncomputable def o258 (P : Params) : Obj := ⟨.none, none, (fdata (stC 6 7) (S "SpanishStemmer.r_R2") 0 .none .none 0), #[]⟩
noncomputable def o259 (P : Params) : Obj := ⟨(.type "code"), none, (F [(.str (S "r_R2") 525), (.str (S "SpanishStemmer.r_R2") 526), (.str (S "/claim/cut.py") 527), (.int (163) 0), (.int (1) 0), (.int (0) 0), (.int (0) 0), (.int (3) 0), (.ref 254), (.bool true), (.int (181) 0), (.ref 255), .none, (.ref 256), (.ref 257), (.ref 258), (.int (529) 0), (.int (163) 0), (.str (S "/claim/cut.py") 530)]), #[]⟩
noncomputable def o260 (P : Params) : Obj := ⟨(.type "function"), none, (fdata (stC 6 7) (S "SpanishStemmer.r_R2") 3 (.str (S "snowballstemmer.spanish_stemmer") 461) (.ref 259) 0), #[]⟩
noncomputable def o261 (P : Params) : Obj := ⟨(.type "tuple"), none, (Q [] 0), #[]⟩
noncomputable def o262 (P : Params) : Obj := ⟨.none, none, (F []), #[]⟩
noncomputable def o263 (P : Params) : Obj := ⟨(.type "tuple"), none, (Q [(.str (S "self") 535), (.str (S "among_var") 536)] 0), #[]⟩
noncomputable def o264 (P : Params) : Obj := ⟨(.type "tuple"), none, (Q [] 0), #[]⟩
noncomputable def o265 (P : Params) : Obj := ⟨.none, none, (fdata (stC 6 8) (S "SpanishStemmer.r_attached_pronoun") 0 .none .none 0), #[]⟩
noncomputable def o266 (P : Params) : Obj := ⟨(.type "code"), none, (F [(.str (S "r_attached_pronoun") 532), (.str (S "SpanishStemmer.r_attached_pronoun") 533), (.str (S "/claim/cut.py") 534), (.int (166) 0), (.int (1) 0), (.int (0) 0), (.int (0) 0), (.int (3) 0), (.ref 261), (.bool true), (.int (181) 0), (.ref 262), .none, (.ref 263), (.ref 264), (.ref 265), (.int (537) 0), (.int (166) 0), (.str (S "/claim/cut.py") 538)]), #[]⟩
noncomputable def o267 (P : Params) : Obj := ⟨(.type "function"), none, (fdata (stC 6 8) (S "SpanishStemmer.r_attached_pronoun") 3 (.str (S "snowballstemmer.spanish_stemmer") 461) (.ref 266) 0), #[]⟩
noncomputable def o268 (P : Params) : Obj := ⟨(.type "tuple"), none, (Q [] 0), #[]⟩
noncomputable def o269 (P : Params) : Obj := ⟨.none, none, (F []), #[]⟩
noncomputable def o270 (P : Params) : Obj := ⟨(.type "tuple"), none, (Q [(.str (S "self") 543), (.str (S "among_var") 544), (.str (S "v_1") 545), (.str (S "v_2") 546), (.str (S "v_3") 547), (.str (S "v_4") 548), (.str (S "v_5") 549)] 0), #[]⟩
noncomputable def o271 (P : Params) : Obj := ⟨(.type "tuple"), none, (Q [] 0), #[]⟩
noncomputable def o272 (P : Params) : Obj := ⟨.none, none, (fdata (stC 6 9) (S "SpanishStemmer.r_standard_suffix") 0 .none .none 0), #[]⟩
noncomputable def o273 (P : Params) : Obj := ⟨(.type "code"), none, (F [(.str (S "r_standard_suffix") 540), (.str (S "SpanishStemmer.r_standard_suffix") 541), (.str (S "/claim/cut.py") 542), (.int (200) 0), (.int (1) 0), (.int (0) 0), (.int (0) 0), (.int (3) 0), (.ref 268), (.bool true), (.int (181) 0), (.ref 269), .none, (.ref 270), (.ref 271), (.ref 272), (.int (550) 0), (.int (200) 0), (.str (S "/claim/cut.py") 551)]), #[]⟩
noncomputable def o274 (P : Params) : Obj := ⟨(.type "function"), none, (fdata (stC 6 9) (S "SpanishStemmer.r_standard_suffix") 3 (.str (S "snowballstemmer.spanish_stemmer") 461) (.ref 273) 0), #[]⟩
noncomputable def o275 (P : Params) : Obj := ⟨(.type "tuple"), none, (Q [] 0), #[]⟩
noncomputable def o276 (P : Params) : Obj := ⟨.none, none, (F []), #[]⟩
noncomputable def o277 (P : Params) : Obj := ⟨(.type "tuple"), none, (Q [(.str (S "self") 556), (.str (S "v_2") 557)] 0), #[]⟩
noncomputable def o278 (P : Params) : Obj := ⟨(.type "tuple"), none, (Q [] 0), #[]⟩
noncomputable def o279 (P : Params) : Obj := ⟨.none, none, (fdata (stC 6 10) (S "SpanishStemmer.r_y_verb_suffix") 0 .none .none 0), #[]⟩
noncomputable def o280 (P : Params) : Obj := ⟨(.type "code"), none, (F [(.str (S "r_y_verb_suffix") 553), (.str (S "SpanishStemmer.r_y_verb_suffix") 554), (.str (S "/claim/cut.py") 555), (.int (320) 0), (.int (1) 0), (.int (0) 0), (.int (0) 0), (.int (3) 0), (.ref 275), (.bool true), (.int (181) 0), (.ref 276), .none, (.ref 277), (.ref 278), (.ref 279), (.int (558) 0), (.int (320) 0), (.str (S "/claim/cut.py") 559)]), #[]⟩
noncomputable def o281 (P : Params) : Obj := ⟨(.type "function"), none, (fdata (stC 6 10) (S "SpanishStemmer.r_y_verb_suffix") 3 (.str (S "snowballstemmer.spanish_stemmer") 461) (.ref 280) 0), #[]⟩
noncomputable def o282 (P : Params) : Obj := ⟨(.type "tuple"), none, (Q [] 0), #[]⟩
noncomputable def o283 (P : Params) : Obj := ⟨.none, none, (F []), #[]⟩
noncomputable def o284 (P : Params) : Obj := ⟨(.type "tuple"), none, (Q [(.str (S "self") 564), (.str (S "v_2") 565), (.str (S "among_var") 566), (.str (S "v_3") 567), (.str (S "v_4") 568)] 0), #[]⟩
noncomputable def o285 (P : Params) : Obj := ⟨(.type "tuple"), none, (Q [] 0), #[]⟩
noncomputable def o286 (P : Params) : Obj := ⟨.none, none, (fdata (stC 6 11) (S "SpanishStemmer.r_verb_suffix") 0 .none .none 0), #[]⟩
noncomputable def o287 (P : Params) : Obj := ⟨(.type "code"), none, (F [(.str (S "r_verb_suffix") 561), (.str (S "SpanishStemmer.r_verb_suffix") 562), (.str (S "/claim/cut.py") 563), (.int (337) 0), (.int (1) 0), (.int (0) 0), (.int (0) 0), (.int (3) 0), (.ref 282), (.bool true), (.int (181) 0), (.ref 283), .none, (.ref 284), (.ref 285), (.ref 286), (.int (569) 0), (.int (337) 0), (.str (S "/claim/cut.py") 570)]), #[]⟩
noncomputable def o288 (P : Params) : Obj := ⟨(.type "function"), none, (fdata (stC 6 11) (S "SpanishStemmer.r_verb_suffix") 3 (.str (S "snowballstemmer.spanish_stemmer") 461) (.ref 287) 0), #[]⟩
noncomputable def o289 (P : Params) : Obj := ⟨(.type "tuple"), none, (Q [] 0), #[]⟩
noncomputable def o290 (P : Params) : Obj := ⟨.none, none, (F []), #[]⟩
noncomputable def o291 (P : Params) : Obj := ⟨(.type "tuple"), none, (Q [(.str (S "self") 575), (.str (S "among_var") 576), (.str (S "v_1") 577), (.str (S "v_2") 578)] 0), #[]⟩
noncomputable def o292 (P : Params) : Obj := ⟨(.type "tuple"), none, (Q [] 0), #[]⟩
noncomputable def o293 (P : Params) : Obj := ⟨.none, none, (fdata (stC 6 12) (S "SpanishStemmer.r_residual_suffix") 0 .none .none 0), #[]⟩
noncomputable def o294 (P : Params) : Obj := ⟨(.type "code"), none, (F [(.str (S "r_residual_suffix") 572), (.str (S "SpanishStemmer.r_residual_suffix") 573), (.str (S "/claim/cut.py") 574), (.int (370) 0), (.int (1) 0), (.int (0) 0), (.int (0) 0), (.int (3) 0), (.ref 289), (.bool true), (.int (181) 0), (.ref 290), .none, (.ref 291), (.ref 292), (.ref 293), (.int (579) 0), (.int (370) 0), (.str (S "/claim/cut.py") 580)]), #[]⟩
noncomputable def o295 (P : Params) : Obj := ⟨(.type "function"), none, (fdata (stC 6 12) (S "SpanishStemmer.r_residual_suffix") 3 (.str (S "snowballstemmer.spanish_stemmer") 461) (.ref 294) 0), #[]⟩
noncomputable def o296 (P : Params) : Obj := ⟨(.type "tuple"), none, (Q [] 0), #[]⟩
noncomputable def o297 (P : Params) : Obj := ⟨.none, none, (F []), #[]⟩
noncomputable def o298 (P : Params) : Obj := ⟨(.type "tuple"), none, (Q [(.str (S "self") 585)] 0), #[]⟩
noncomputable def o299 (P : Params) : Obj := ⟨(.type "tuple"), none, (Q [] 0), #[]⟩
noncomputable def o300 (P : Params) : Obj := ⟨.none, none, (fdata (stC 6 13) (S "SpanishStemmer._stem") 0 .none .none 0), #[]⟩
noncomputable def o301 (P : Params) : Obj := ⟨(.type "code"), none, (F [(.str (S "_stem") 582), (.str (S "SpanishStemmer._stem") 583), (.str (S "/claim/cut.py") 584), (.int (406) 0), (.int (1) 0), (.int (0) 0), (.int (0) 0), (.int (3) 0), (.ref 296), (.bool true), (.int (181) 0), (.ref 297), .none, (.ref 298), (.ref 299), (.ref 300), (.int (586) 0), (.int (406) 0), (.str (S "/claim/cut.py") 587)]), #[]⟩
noncomputable def o302 (P : Params) : Obj := ⟨(.type "function"), none, (fdata (stC 6 13) (S "SpanishStemmer._stem") 3 (.str (S "snowballstemmer.spanish_stemmer") 461) (.ref 301) 0), #[]⟩
noncomputable def T5 (P : Params) (X : SetD) : BT := (N (boot_o_0 P) (N (boot_o_1 P) (N (o3 P) (N (boot_o_7 P) (N (o15 P) (N (o31 P) (N (o63 P) (N (o127 P) (N (o255 P) E E) E) (N (o191 P) E E)) (N (o95 P) (N (o159 P) (N (o287 P) E E) E) (N (o223 P) E E))) (N (o47 P) (N (o79 P) (N (o143 P) (N (o271 P) E E) E) (N (o207 P) E E)) (N (o111 P) (N (o175 P) E E) (N (o239 P) E E)))) (N (o23 P) (N (o39 P) (N (o71 P) (N (o135 P) (N (o263 P) E E) E) (N (o199 P) E E)) (N (o103 P) (N (o167 P) (N (o295 P) E E) E) (N (o231 P) E E))) (N (o55 P) (N (o87 P) (N (o151 P) (N (o279 P) E E) E) (N (o215 P) E E)) (N (o119 P) (N (o183 P) E E) (N (o247 P) E E))))) (N (o11 P) (N (o19 P) (N (o35 P) (N (o67 P) (N (o131 P) (N (o259 P) E E) E) (N (o195 P) E E)) (N (o99 P) (N (o163 P) (N (o291 P) E E) E) (N (o227v2 P) E E))) (N (o51 P) (N (o83 P) (N (o147 P) (N (o275 P) E E) E) (N (o211 P) E E)) (N (o115 P) (N (o179 P) E E) (N (o243 P) E E)))) (N (o27 P) (N (o43 P) (N (o75 P) (N (o139 P) (N (o267 P) E E) E) (N (o203 P) E E)) (N (o107 P) (N (o171 P) (N (o299 P) E E) E) (N (o235 P) E E))) (N (o59 P) (N (o91 P) (N (o155 P) (N (o283 P) E E) E) (N (o219 P) E E)) (N (o123 P) (N (o187 P) E E) (N (o251 P) E E)))))) (N (boot_o_5 P) (N (boot_o_9 P) (N (o17 P) (N (o33 P) (N (o65 P) (N (o129 P) (N (o257 P) E E) E) (N (o193 P) E E)) (N (o97 P) (N (o161 P) (N (o289 P) E E) E) (N (o225 P) E E))) (N (o49 P) (N (o81 P) (N (o145 P) (N (o273 P) E E) E) (N (o209 P) E E)) (N (o113 P) (N (o177 P) E E) (N (o241 P) E E)))) (N (o25 P) (N (o41 P) (N (o73 P) (N (o137 P) (N (o265 P) E E) E) (N (o201 P) E E)) (N (o105 P) (N (o169 P) (N (o297 P) E E) E) (N (o233 P) E E))) (N (o57 P) (N (o89 P) (N (o153 P) (N (o281 P) E E) E) (N (o217 P) E E)) (N (o121 P) (N (o185 P) E E) (N (o249 P) E E))))) (N (o13 P) (N (o21 P) (N (o37 P) (N (o69 P) (N (o133 P) (N (o261 P) E E) E) (N (o197 P) E E)) (N (o101 P) (N (o165 P) (N (o293 P) E E) E) (N (o229v1 P) E E))) (N (o53 P) (N (o85 P) (N (o149 P) (N (o277 P) E E) E) (N (o213 P) E E)) (N (o117 P) (N (o181 P) E E) (N (o245 P) E E)))) (N (o29 P) (N (o45 P) (N (o77 P) (N (o141 P) (N (o269 P) E E) E) (N (o205 P) E E)) (N (o109 P) (N (o173 P) (N (o301 P) E E) E) (N (o237 P) E E))) (N (o61 P) (N (o93 P) (N (o157 P) (N (o285 P) E E) E) (N (o221 P) E E)) (N (o125 P) (N (o189 P) E E) (N (o253 P) E E))))))) (N (boot_o_2 P) (N (boot_o_4 P) (N (boot_o_8 P) (N (o16 P) (N (o32 P) (N (o64 P) (N (o128 P) (N (o256 P) E E) E) (N (o192 P) E E)) (N (o96 P) (N (o160 P) (N (o288 P) E E) E) (N (o224 P) E E))) (N (o48 P) (N (o80 P) (N (o144 P) (N (o272 P) E E) E) (N (o208 P) E E)) (N (o112 P) (N (o176 P) E E) (N (o240 P) E E)))) (N (o24 P) (N (o40 P) (N (o72 P) (N (o136 P) (N (o264 P) E E) E) (N (o200 P) E E)) (N (o104 P) (N (o168 P) (N (o296 P) E E) E) (N (oset X) E E))) (N (o56 P) (N (o88 P) (N (o152 P) (N (o280 P) E E) E) (N (o216 P) E E)) (N (o120 P) (N (o184 P) E E) (N (o248 P) E E))))) (N (o12v2 P) (N (o20 P) (N (o36 P) (N (o68 P) (N (o132 P) (N (o260 P) E E) E) (N (o196 P) E E)) (N (o100 P) (N (o164 P) (N (o292 P) E E) E) (N (o228 P) E E))) (N (o52 P) (N (o84 P) (N (o148 P) (N (o276 P) E E) E) (N (o212 P) E E)) (N (o116 P) (N (o180 P) E E) (N (o244 P) E E)))) (N (o28 P) (N (o44 P) (N (o76 P) (N (o140 P) (N (o268 P) E E) E) (N (o204 P) E E)) (N (o108 P) (N (o172 P) (N (o300 P) E E) E) (N (o236 P) E E))) (N (o60 P) (N (o92 P) (N (o156 P) (N (o284 P) E E) E) (N (o220 P) E E)) (N (o124 P) (N (o188 P) E E) (N (o252 P) E E)))))) (N (boot_o_6 P) (N (boot_o_10 P) (N (o18 P) (N (o34 P) (N (o66 P) (N (o130 P) (N (o258 P) E E) E) (N (o194 P) E E)) (N (o98 P) (N (o162 P) (N (o290 P) E E) E) (N (o226 P) E E))) (N (o50 P) (N (o82 P) (N (o146 P) (N (o274 P) E E) E) (N (o210 P) E E)) (N (o114 P) (N (o178 P) E E) (N (o242 P) E E)))) (N (o26 P) (N (o42 P) (N (o74 P) (N (o138 P) (N (o266 P) E E) E) (N (o202 P) E E)) (N (o106 P) (N (o170 P) (N (o298 P) E E) E) (N (o234 P) E E))) (N (o58 P) (N (o90 P) (N (o154 P) (N (o282 P) E E) E) (N (o218 P) E E)) (N (o122 P) (N (o186 P) E E) (N (o250 P) E E))))) (N (o14 P) (N (o22 P) (N (o38 P) (N (o70 P) (N (o134 P) (N (o262 P) E E) E) (N (o198 P) E E)) (N (o102 P) (N (o166 P) (N (o294 P) E E) E) (N (o230 P) E E))) (N (o54 P) (N (o86 P) (N (o150 P) (N (o278 P) E E) E) (N (o214 P) E E)) (N (o118 P) (N (o182 P) E E) (N (o246 P) E E)))) (N (o30 P) (N (o46 P) (N (o78 P) (N (o142 P) (N (o270 P) E E) E) (N (o206 P) E E)) (N (o110 P) (N (o174 P) (N (o302 P) E E) E) (N (o238 P) E E))) (N (o62 P) (N (o94 P) (N (o158 P) (N (o286 P) E E) E) (N (o222 P) E E)) (N (o126 P) (N (o190 P) E E) (N (o254 P) E E))))))))
noncomputable def St5 (w : World) (X : SetD) (os : OsState) : SharedT := ⟨T5 w.params X, 303, X.life, #[], drawn0, 589, os⟩
abbrev ps5 : Pos := ⟨406, 4, 407, 17⟩
-- snapshot 5: depth 2, stack [body ⟨148, 0, 417, 167⟩, claim.caller ⟨0, 0, 0, 0⟩]; drawn 0 0 0 0; gens 0
noncomputable def o227v3 (P : Params) : Obj := ⟨(.type "dict"), none, (D P [((S "__module__"), 470, (.str (S "snowballstemmer.spanish_stemmer") 461)), ((S "__qualname__"), 472, (.str (S "SpanishStemmer") 471)), ((S "__firstlineno__"), 474, (.int (148) 473)), ((S "g_v"), 497, (.ref 232)), ((S "I_p2"), 499, (.int (0) 498)), ((S "I_p1"), 501, (.int (0) 500)), ((S "I_pV"), 503, (.int (0) 502)), ((S "r_mark_regions"), 510, (.ref 239)), ((S "r_postlude"), 517, (.ref 246)), ((S "r_RV"), 524, (.ref 253)), ((S "r_R2"), 531, (.ref 260)), ((S "r_attached_pronoun"), 539, (.ref 267)), ((S "r_standard_suffix"), 552, (.ref 274)), ((S "r_y_verb_suffix"), 560, (.ref 281)), ((S "r_verb_suffix"), 571, (.ref 288)), ((S "r_residual_suffix"), 581, (.ref 295)), ((S "_stem"), 588, (.ref 302)), ((S "a_0"), 668, (.ref 321)), ((S "a_1"), 860, (.ref 361)), ((S "a_2"), 1015, (.ref 395)), ((S "a_3"), 1075, (.ref 408)), ((S "a_4"), 1118, (.ref 418))] 22), #[]⟩
noncomputable def o303 (P : Params) : Obj := ⟨(.type "dict"), none, (D P [((S "s"), 598, (.str (S "") 589)), ((S "substring_i"), 600, (.int (-1) 591)), ((S "result"), 602, (.int (6) 592))] 3), #[]⟩
noncomputable def o304 (P : Params) : Obj := ⟨(.ref 220), some 303, .plain, #[]⟩
noncomputable def o305 (P : Params) : Obj := ⟨(.type "frame"), none, (D P [((S "self"), 593, (.ref 304)), ((S "s"), 594, (.str (S "") 589)), ((S "substring_i"), 595, (.int (-1) 591)), ((S "result"), 596, (.int (6) 592))] 4), #[]⟩
noncomputable def o306 (P : Params) : Obj := ⟨(.type "dict"), none, (D P [((S "s"), 611, (.str (S "á") 603)), ((S "substring_i"), 613, (.int (0) 604)), ((S "result"), 615, (.int (1) 605))] 3), #[]⟩
noncomputable def o307 (P : Params) : Obj := ⟨(.ref 220), some 306, .plain, #[]⟩
noncomputable def o308 (P : Params) : Obj := ⟨(.type "frame"), none, (D P [((S "self"), 606, (.ref 307)), ((S "s"), 607, (.str (S "á") 603)), ((S "substring_i"), 608, (.int (0) 604)), ((S "result"), 609, (.int (1) 605))] 4), #[]⟩
noncomputable def o309 (P : Params) : Obj := ⟨(.type "dict"), none, (D P [((S "s"), 624, (.str (S "é") 616)), ((S "substring_i"), 626, (.int (0) 617)), ((S "result"), 628, (.int (2) 618))] 3), #[]⟩
noncomputable def o310 (P : Params) : Obj := ⟨(.ref 220), some 309, .plain, #[]⟩
noncomputable def o311 (P : Params) : Obj := ⟨(.type "frame"), none, (D P [((S "self"), 619, (.ref 310)), ((S "s"), 620, (.str (S "é") 616)), ((S "substring_i"), 621, (.int (0) 617)), ((S "result"), 622, (.int (2) 618))] 4), #[]⟩
noncomputable def o312 (P : Params) : Obj := ⟨(.type "dict"), none, (D P [((S "s"), 637, (.str (S "í") 629)), ((S "substring_i"), 639, (.int (0) 630)), ((S "result"), 641, (.int (3) 631))] 3), #[]⟩
noncomputable def o313 (P : Params) : Obj := ⟨(.ref 220), some 312, .plain, #[]⟩
noncomputable def o314 (P : Params) : Obj := ⟨(.type "frame"), none, (D P [((S "self"), 632, (.ref 313)), ((S "s"), 633, (.str (S "í") 629)), ((S "substring_i"), 634, (.int (0) 630)), ((S "result"), 635, (.int (3) 631))] 4), #[]⟩
noncomputable def o315 (P : Params) : Obj := ⟨(.type "dict"), none, (D P [((S "s"), 650, (.str (S "ó") 642)), ((S "substring_i"), 652, (.int (0) 643)), ((S "result"), 654, (.int (4) 644))] 3), #[]⟩
noncomputable def o316 (P : Params) : Obj := ⟨(.ref 220), some 315, .plain, #[]⟩
noncomputable def o317 (P : Params) : Obj := ⟨(.type "frame"), none, (D P [((S "self"), 645, (.ref 316)), ((S "s"), 646, (.str (S "ó") 642)), ((S "substring_i"), 647, (.int (0) 643)), ((S "result"), 648, (.int (4) 644))] 4), #[]⟩
noncomputable def o318 (P : Params) : Obj := ⟨(.type "dict"), none, (D P [((S "s"), 663, (.str (S "ú") 655)), ((S "substring_i"), 665, (.int (0) 656)), ((S "result"), 667, (.int (5) 657))] 3), #[]⟩
noncomputable def o319 (P : Params) : Obj := ⟨(.ref 220), some 318, .plain, #[]⟩
noncomputable def o320 (P : Params) : Obj := ⟨(.type "frame"), none, (D P [((S "self"), 658, (.ref 319)), ((S "s"), 659, (.str (S "ú") 655)), ((S "substring_i"), 660, (.int (0) 656)), ((S "result"), 661, (.int (5) 657))] 4), #[]⟩
noncomputable def o321 (P : Params) : Obj := ⟨(.type "list"), none, (Q [(.ref 304), (.ref 307), (.ref 310), (.ref 313), (.ref 316), (.ref 319)] 0), #[]⟩
noncomputable def o322 (P : Params) : Obj := ⟨(.type "dict"), none, (D P [((S "s"), 679, (.str (S "la") 669)), ((S "substring_i"), 681, (.int (-1) 671)), ((S "result"), 683, (.int (-1) 673))] 3), #[]⟩
noncomputable def o323 (P : Params) : Obj := ⟨(.ref 220), some 322, .plain, #[]⟩
noncomputable def o324 (P : Params) : Obj := ⟨(.type "frame"), none, (D P [((S "self"), 674, (.ref 323)), ((S "s"), 675, (.str (S "la") 669)), ((S "substring_i"), 676, (.int (-1) 671)), ((S "result"), 677, (.int (-1) 673))] 4), #[]⟩
noncomputable def o325 (P : Params) : Obj := ⟨(.type "dict"), none, (D P [((S "s"), 693, (.str (S "sela") 684)), ((S "substring_i"), 695, (.int (0) 685)), ((S "result"), 697, (.int (-1) 687))] 3), #[]⟩
noncomputable def o326 (P : Params) : Obj := ⟨(.ref 220), some 325, .plain, #[]⟩
noncomputable def o327 (P : Params) : Obj := ⟨(.type "frame"), none, (D P [((S "self"), 688, (.ref 326)), ((S "s"), 689, (.str (S "sela") 684)), ((S "substring_i"), 690, (.int (0) 685)), ((S "result"), 691, (.int (-1) 687))] 4), #[]⟩
noncomputable def o328 (P : Params) : Obj := ⟨(.type "dict"), none, (D P [((S "s"), 708, (.str (S "le") 698)), ((S "substring_i"), 710, (.int (-1) 700)), ((S "result"), 712, (.int (-1) 702))] 3), #[]⟩
noncomputable def o329 (P : Params) : Obj := ⟨(.ref 220), some 328, .plain, #[]⟩
noncomputable def o330 (P : Params) : Obj := ⟨(.type "frame"), none, (D P [((S "self"), 703, (.ref 329)), ((S "s"), 704, (.str (S "le") 698)), ((S "substring_i"), 705, (.int (-1) 700)), ((S "result"), 706, (.int (-1) 702))] 4), #[]⟩
noncomputable def o331 (P : Params) : Obj := ⟨(.type "dict"), none, (D P [((S "s"), 723, (.str (S "me") 713)), ((S "substring_i"), 725, (.int (-1) 715)), ((S "result"), 727, (.int (-1) 717))] 3), #[]⟩
noncomputable def o332 (P : Params) : Obj := ⟨(.ref 220), some 331, .plain, #[]⟩
noncomputable def o333 (P : Params) : Obj := ⟨(.type "frame"), none, (D P [((S "self"), 718, (.ref 332)), ((S "s"), 719, (.str (S "me") 713)), ((S "substring_i"), 720, (.int (-1) 715)), ((S "result"), 721, (.int (-1) 717))] 4), #[]⟩
noncomputable def o334 (P : Params) : Obj := ⟨(.type "dict"), none, (D P [((S "s"), 738, (.str (S "se") 728)), ((S "substring_i"), 740, (.int (-1) 730)), ((S "result"), 742, (.int (-1) 732))] 3), #[]⟩
noncomputable def o335 (P : Params) : Obj := ⟨(.ref 220), some 334, .plain, #[]⟩
noncomputable def o336 (P : Params) : Obj := ⟨(.type "frame"), none, (D P [((S "self"), 733, (.ref 335)), ((S "s"), 734, (.str (S "se") 728)), ((S "substring_i"), 735, (.int (-1) 730)), ((S "result"), 736, (.int (-1) 732))] 4), #[]⟩
noncomputable def o337 (P : Params) : Obj := ⟨(.type "dict"), none, (D P [((S "s"), 753, (.str (S "lo") 743)), ((S "substring_i"), 755, (.int (-1) 745)), ((S "result"), 757, (.int (-1) 747))] 3), #[]⟩
noncomputable def o338 (P : Params) : Obj := ⟨(.ref 220), some 337, .plain, #[]⟩
noncomputable def o339 (P : Params) : Obj := ⟨(.type "frame"), none, (D P [((S "self"), 748, (.ref 338)), ((S "s"), 749, (.str (S "lo") 743)), ((S "substring_i"), 750, (.int (-1) 745)), ((S "result"), 751, (.int (-1) 747))] 4), #[]⟩
noncomputable def o340 (P : Params) : Obj := ⟨(.type "dict"), none, (D P [((S "s"), 767, (.str (S "selo") 758)), ((S "substring_i"), 769, (.int (5) 759)), ((S "result"), 771, (.int (-1) 761))] 3), #[]⟩
noncomputable def o341 (P : Params) : Obj := ⟨(.ref 220), some 340, .plain, #[]⟩
noncomputable def o342 (P : Params) : Obj := ⟨(.type "frame"), none, (D P [((S "self"), 762, (.ref 341)), ((S "s"), 763, (.str (S "selo") 758)), ((S "substring_i"), 764, (.int (5) 759)), ((S "result"), 765, (.int (-1) 761))] 4), #[]⟩
noncomputable def o343 (P : Params) : Obj := ⟨(.type "dict"), none, (D P [((S "s"), 782, (.str (S "las") 772)), ((S "substring_i"), 784, (.int (-1) 774)), ((S "result"), 786, (.int (-1) 776))] 3), #[]⟩
noncomputable def o344 (P : Params) : Obj := ⟨(.ref 220), some 343, .plain, #[]⟩
noncomputable def o345 (P : Params) : Obj := ⟨(.type "frame"), none, (D P [((S "self"), 777, (.ref 344)), ((S "s"), 778, (.str (S "las") 772)), ((S "substring_i"), 779, (.int (-1) 774)), ((S "result"), 780, (.int (-1) 776))] 4), #[]⟩
noncomputable def o346 (P : Params) : Obj := ⟨(.type "dict"), none, (D P [((S "s"), 796, (.str (S "selas") 787)), ((S "substring_i"), 798, (.int (7) 788)), ((S "result"), 800, (.int (-1) 790))] 3), #[]⟩
noncomputable def o347 (P : Params) : Obj := ⟨(.ref 220), some 346, .plain, #[]⟩
noncomputable def o348 (P : Params) : Obj := ⟨(.type "frame"), none, (D P [((S "self"), 791, (.ref 347)), ((S "s"), 792, (.str (S "selas") 787)), ((S "substring_i"), 793, (.int (7) 788)), ((S "result"), 794, (.int (-1) 790))] 4), #[]⟩
noncomputable def o349 (P : Params) : Obj := ⟨(.type "dict"), none, (D P [((S "s"), 811, (.str (S "les") 801)), ((S "substring_i"), 813, (.int (-1) 803)), ((S "result"), 815, (.int (-1) 805))] 3), #[]⟩
noncomputable def o350 (P : Params) : Obj := ⟨(.ref 220), some 349, .plain, #[]⟩
noncomputable def o351 (P : Params) : Obj := ⟨(.type "frame"), none, (D P [((S "self"), 806, (.ref 350)), ((S "s"), 807, (.str (S "les") 801)), ((S "substring_i"), 808, (.int (-1) 803)), ((S "result"), 809, (.int (-1) 805))] 4), #[]⟩
noncomputable def o352 (P : Params) : Obj := ⟨(.type "dict"), none, (D P [((S "s"), 826, (.str (S "los") 816)), ((S "substring_i"), 828, (.int (-1) 818)), ((S "result"), 830, (.int (-1) 820))] 3), #[]⟩
noncomputable def o353 (P : Params) : Obj := ⟨(.ref 220), some 352, .plain, #[]⟩
noncomputable def o354 (P : Params) : Obj := ⟨(.type "frame"), none, (D P [((S "self"), 821, (.ref 353)), ((S "s"), 822, (.str (S "los") 816)), ((S "substring_i"), 823, (.int (-1) 818)), ((S "result"), 824, (.int (-1) 820))] 4), #[]⟩
noncomputable def o355 (P : Params) : Obj := ⟨(.type "dict"), none, (D P [((S "s"), 840, (.str (S "selos") 831)), ((S "substring_i"), 842, (.int (10) 832)), ((S "result"), 844, (.int (-1) 834))] 3), #[]⟩
noncomputable def o356 (P : Params) : Obj := ⟨(.ref 220), some 355, .plain, #[]⟩
noncomputable def o357 (P : Params) : Obj := ⟨(.type "frame"), none, (D P [((S "self"), 835, (.ref 356)), ((S "s"), 836, (.str (S "selos") 831)), ((S "substring_i"), 837, (.int (10) 832)), ((S "result"), 838, (.int (-1) 834))] 4), #[]⟩
noncomputable def o358 (P : Params) : Obj := ⟨(.type "dict"), none, (D P [((S "s"), 855, (.str (S "nos") 845)), ((S "substring_i"), 857, (.int (-1) 847)), ((S "result"), 859, (.int (-1) 849))] 3), #[]⟩
noncomputable def o359 (P : Params) : Obj := ⟨(.ref 220), some 358, .plain, #[]⟩
noncomputable def o360 (P : Params) : Obj := ⟨(.type "frame"), none, (D P [((S "self"), 850, (.ref 359)), ((S "s"), 851, (.str (S "nos") 845)), ((S "substring_i"), 852, (.int (-1) 847)), ((S "result"), 853, (.int (-1) 849))] 4), #[]⟩
noncomputable def o361 (P : Params) : Obj := ⟨(.type "list"), none, (Q [(.ref 323), (.ref 326), (.ref 329), (.ref 332), (.ref 335), (.ref 338), (.ref 341), (.ref 344), (.ref 347), (.ref 350), (.ref 353), (.ref 356), (.ref 359)] 0), #[]⟩
noncomputable def o362 (P : Params) : Obj := ⟨(.type "dict"), none, (D P [((S "s"), 870, (.str (S "ando") 861)), ((S "substring_i"), 872, (.int (-1) 863)), ((S "result"), 874, (.int (6) 864))] 3), #[]⟩
noncomputable def o363 (P : Params) : Obj := ⟨(.ref 220), some 362, .plain, #[]⟩
noncomputable def o364 (P : Params) : Obj := ⟨(.type "frame"), none, (D P [((S "self"), 865, (.ref 363)), ((S "s"), 866, (.str (S "ando") 861)), ((S "substring_i"), 867, (.int (-1) 863)), ((S "result"), 868, (.int (6) 864))] 4), #[]⟩
noncomputable def o365 (P : Params) : Obj := ⟨(.type "dict"), none, (D P [((S "s"), 884, (.str (S "iendo") 875)), ((S "substring_i"), 886, (.int (-1) 877)), ((S "result"), 888, (.int (6) 878))] 3), #[]⟩
noncomputable def o366 (P : Params) : Obj := ⟨(.ref 220), some 365, .plain, #[]⟩
noncomputable def o367 (P : Params) : Obj := ⟨(.type "frame"), none, (D P [((S "self"), 879, (.ref 366)), ((S "s"), 880, (.str (S "iendo") 875)), ((S "substring_i"), 881, (.int (-1) 877)), ((S "result"), 882, (.int (6) 878))] 4), #[]⟩
noncomputable def o368 (P : Params) : Obj := ⟨(.type "dict"), none, (D P [((S "s"), 898, (.str (S "yendo") 889)), ((S "substring_i"), 900, (.int (-1) 891)), ((S "result"), 902, (.int (7) 892))] 3), #[]⟩
noncomputable def o369 (P : Params) : Obj := ⟨(.ref 220), some 368, .plain, #[]⟩
noncomputable def o370 (P : Params) : Obj := ⟨(.type "frame"), none, (D P [((S "self"), 893, (.ref 369)), ((S "s"), 894, (.str (S "yendo") 889)), ((S "substring_i"), 895, (.int (-1) 891)), ((S "result"), 896, (.int (7) 892))] 4), #[]⟩
noncomputable def o371 (P : Params) : Obj := ⟨(.type "dict"), none, (D P [((S "s"), 912, (.str (S "ándo") 903)), ((S "substring_i"), 914, (.int (-1) 905)), ((S "result"), 916, (.int (2) 906))] 3), #[]⟩
noncomputable def o372 (P : Params) : Obj := ⟨(.ref 220), some 371, .plain, #[]⟩
noncomputable def o373 (P : Params) : Obj := ⟨(.type "frame"), none, (D P [((S "self"), 907, (.ref 372)), ((S "s"), 908, (.str (S "ándo") 903)), ((S "substring_i"), 909, (.int (-1) 905)), ((S "result"), 910, (.int (2) 906))] 4), #[]⟩
noncomputable def o374 (P : Params) : Obj := ⟨(.type "dict"), none, (D P [((S "s"), 926, (.str (S "iéndo") 917)), ((S "substring_i"), 928, (.int (-1) 919)), ((S "result"), 930, (.int (1) 920))] 3), #[]⟩
noncomputable def o375 (P : Params) : Obj := ⟨(.ref 220), some 374, .plain, #[]⟩
noncomputable def o376 (P : Params) : Obj := ⟨(.type "frame"), none, (D P [((S "self"), 921, (.ref 375)), ((S "s"), 922, (.str (S "iéndo") 917)), ((S "substring_i"), 923, (.int (-1) 919)), ((S "result"), 924, (.int (1) 920))] 4), #[]⟩
noncomputable def o377 (P : Params) : Obj := ⟨(.type "dict"), none, (D P [((S "s"), 940, (.str (S "ar") 931)), ((S "substring_i"), 942, (.int (-1) 933)), ((S "result"), 944, (.int (6) 934))] 3), #[]⟩
noncomputable def o378 (P : Params) : Obj := ⟨(.ref 220), some 377, .plain, #[]⟩
noncomputable def o379 (P : Params) : Obj := ⟨(.type "frame"), none, (D P [((S "self"), 935, (.ref 378)), ((S "s"), 936, (.str (S "ar") 931)), ((S "substring_i"), 937, (.int (-1) 933)), ((S "result"), 938, (.int (6) 934))] 4), #[]⟩
noncomputable def o380 (P : Params) : Obj := ⟨(.type "dict"), none, (D P [((S "s"), 954, (.str (S "er") 945)), ((S "substring_i"), 956, (.int (-1) 947)), ((S "result"), 958, (.int (6) 948))] 3), #[]⟩
noncomputable def o381 (P : Params) : Obj := ⟨(.ref 220), some 380, .plain, #[]⟩
noncomputable def o382 (P : Params) : Obj := ⟨(.type "frame"), none, (D P [((S "self"), 949, (.ref 381)), ((S "s"), 950, (.str (S "er") 945)), ((S "substring_i"), 951, (.int (-1) 947)), ((S "result"), 952, (.int (6) 948))] 4), #[]⟩
noncomputable def o383 (P : Params) : Obj := ⟨(.type "dict"), none, (D P [((S "s"), 968, (.str (S "ir") 959)), ((S "substring_i"), 970, (.int (-1) 961)), ((S "result"), 972, (.int (6) 962))] 3), #[]⟩
noncomputable def o384 (P : Params) : Obj := ⟨(.ref 220), some 383, .plain, #[]⟩
noncomputable def o385 (P : Params) : Obj := ⟨(.type "frame"), none, (D P [((S "self"), 963, (.ref 384)), ((S "s"), 964, (.str (S "ir") 959)), ((S "substring_i"), 965, (.int (-1) 961)), ((S "result"), 966, (.int (6) 962))] 4), #[]⟩
noncomputable def o386 (P : Params) : Obj := ⟨(.type "dict"), none, (D P [((S "s"), 982, (.str (S "ár") 973)), ((S "substring_i"), 984, (.int (-1) 975)), ((S "result"), 986, (.int (3) 976))] 3), #[]⟩
noncomputable def o387 (P : Params) : Obj := ⟨(.ref 220), some 386, .plain, #[]⟩
noncomputable def o388 (P : Params) : Obj := ⟨(.type "frame"), none, (D P [((S "self"), 977, (.ref 387)), ((S "s"), 978, (.str (S "ár") 973)), ((S "substring_i"), 979, (.int (-1) 975)), ((S "result"), 980, (.int (3) 976))] 4), #[]⟩
noncomputable def o389 (P : Params) : Obj := ⟨(.type "dict"), none, (D P [((S "s"), 996, (.str (S "ér") 987)), ((S "substring_i"), 998, (.int (-1) 989)), ((S "result"), 1000, (.int (4) 990))] 3), #[]⟩
noncomputable def o390 (P : Params) : Obj := ⟨(.ref 220), some 389, .plain, #[]⟩
noncomputable def o391 (P : Params) : Obj := ⟨(.type "frame"), none, (D P [((S "self"), 991, (.ref 390)), ((S "s"), 992, (.str (S "ér") 987)), ((S "substring_i"), 993, (.int (-1) 989)), ((S "result"), 994, (.int (4) 990))] 4), #[]⟩
noncomputable def o392 (P : Params) : Obj := ⟨(.type "dict"), none, (D P [((S "s"), 1010, (.str (S "ír") 1001)), ((S "substring_i"), 1012, (.int (-1) 1003)), ((S "result"), 1014, (.int (5) 1004))] 3), #[]⟩
noncomputable def o393 (P : Params) : Obj := ⟨(.ref 220), some 392, .plain, #[]⟩
noncomputable def o394 (P : Params) : Obj := ⟨(.type "frame"), none, (D P [((S "self"), 1005, (.ref 393)), ((S "s"), 1006, (.str (S "ír") 1001)), ((S "substring_i"), 1007, (.int (-1) 1003)), ((S "result"), 1008, (.int (5) 1004))] 4), #[]⟩
noncomputable def o395 (P : Params) : Obj := ⟨(.type "list"), none, (Q [(.ref 363), (.ref 366), (.ref 369), (.ref 372), (.ref 375), (.ref 378), (.ref 381), (.ref 384), (.ref 387), (.ref 390), (.ref 393)] 0), #[]⟩
noncomputable def o396 (P : Params) : Obj := ⟨(.type "dict"), none, (D P [((S "s"), 1026, (.str (S "ic") 1016)), ((S "substring_i"), 1028, (.int (-1) 1018)), ((S "result"), 1030, (.int (-1) 1020))] 3), #[]⟩
noncomputable def o397 (P : Params) : Obj := ⟨(.ref 220), some 396, .plain, #[]⟩
noncomputable def o398 (P : Params) : Obj := ⟨(.type "frame"), none, (D P [((S "self"), 1021, (.ref 397)), ((S "s"), 1022, (.str (S "ic") 1016)), ((S "substring_i"), 1023, (.int (-1) 1018)), ((S "result"), 1024, (.int (-1) 1020))] 4), #[]⟩
noncomputable def o399 (P : Params) : Obj := ⟨(.type "dict"), none, (D P [((S "s"), 1041, (.str (S "ad") 1031)), ((S "substring_i"), 1043, (.int (-1) 1033)), ((S "result"), 1045, (.int (-1) 1035))] 3), #[]⟩
noncomputable def o400 (P : Params) : Obj := ⟨(.ref 220), some 399, .plain, #[]⟩
noncomputable def o401 (P : Params) : Obj := ⟨(.type "frame"), none, (D P [((S "self"), 1036, (.ref 400)), ((S "s"), 1037, (.str (S "ad") 1031)), ((S "substring_i"), 1038, (.int (-1) 1033)), ((S "result"), 1039, (.int (-1) 1035))] 4), #[]⟩
noncomputable def o402 (P : Params) : Obj := ⟨(.type "dict"), none, (D P [((S "s"), 1056, (.str (S "os") 1046)), ((S "substring_i"), 1058, (.int (-1) 1048)), ((S "result"), 1060, (.int (-1) 1050))] 3), #[]⟩
noncomputable def o403 (P : Params) : Obj := ⟨(.ref 220), some 402, .plain, #[]⟩
noncomputable def o404 (P : Params) : Obj := ⟨(.type "frame"), none, (D P [((S "self"), 1051, (.ref 403)), ((S "s"), 1052, (.str (S "os") 1046)), ((S "substring_i"), 1053, (.int (-1) 1048)), ((S "result"), 1054, (.int (-1) 1050))] 4), #[]⟩
noncomputable def o405 (P : Params) : Obj := ⟨(.type "dict"), none, (D P [((S "s"), 1070, (.str (S "iv") 1061)), ((S "substring_i"), 1072, (.int (-1) 1063)), ((S "result"), 1074, (.int (1) 1064))] 3), #[]⟩
noncomputable def o406 (P : Params) : Obj := ⟨(.ref 220), some 405, .plain, #[]⟩
noncomputable def o407 (P : Params) : Obj := ⟨(.type "frame"), none, (D P [((S "self"), 1065, (.ref 406)), ((S "s"), 1066, (.str (S "iv") 1061)), ((S "substring_i"), 1067, (.int (-1) 1063)), ((S "result"), 1068, (.int (1) 1064))] 4), #[]⟩
noncomputable def o408 (P : Params) : Obj := ⟨(.type "list"), none, (Q [(.ref 397), (.ref 400), (.ref 403), (.ref 406)] 0), #[]⟩
noncomputable def o409 (P : Params) : Obj := ⟨(.type "dict"), none, (D P [((S "s"), 1085, (.str (S "able") 1076)), ((S "substring_i"), 1087, (.int (-1) 1078)), ((S "result"), 1089, (.int (1) 1079))] 3), #[]⟩
noncomputable def o410 (P : Params) : Obj := ⟨(.ref 220), some 409, .plain, #[]⟩
noncomputable def o411 (P : Params) : Obj := ⟨(.type "frame"), none, (D P [((S "self"), 1080, (.ref 410)), ((S "s"), 1081, (.str (S "able") 1076)), ((S "substring_i"), 1082, (.int (-1) 1078)), ((S "result"), 1083, (.int (1) 1079))] 4), #[]⟩
noncomputable def o412 (P : Params) : Obj := ⟨(.type "dict"), none, (D P [((S "s"), 1099, (.str (S "ible") 1090)), ((S "substring_i"), 1101, (.int (-1) 1092)), ((S "result"), 1103, (.int (1) 1093))] 3), #[]⟩
noncomputable def o413 (P : Params) : Obj := ⟨(.ref 220), some 412, .plain, #[]⟩
noncomputable def o414 (P : Params) : Obj := ⟨(.type "frame"), none, (D P [((S "self"), 1094, (.ref 413)), ((S "s"), 1095, (.str (S "ible") 1090)), ((S "substring_i"), 1096, (.int (-1) 1092)), ((S "result"), 1097, (.int (1) 1093))] 4), #[]⟩
noncomputable def o415 (P : Params) : Obj := ⟨(.type "dict"), none, (D P [((S "s"), 1113, (.str (S "ante") 1104)), ((S "substring_i"), 1115, (.int (-1) 1106)), ((S "result"), 1117, (.int (1) 1107))] 3), #[]⟩
noncomputable def o416 (P : Params) : Obj := ⟨(.ref 220), some 415, .plain, #[]⟩
noncomputable def o417 (P : Params) : Obj := ⟨(.type "frame"), none, (D P [((S "self"), 1108, (.ref 416)), ((S "s"), 1109, (.str (S "ante") 1104)), ((S "substring_i"), 1110, (.int (-1) 1106)), ((S "result"), 1111, (.int (1) 1107))] 4), #[]⟩
noncomputable def o418 (P : Params) : Obj := ⟨(.type "list"), none, (Q [(.ref 410), (.ref 413), (.ref 416)] 0), #[]⟩
noncomputable def T6 (P : Params) (X : SetD) : BT := (N (boot_o_0 P) (N (boot_o_1 P) (N (o3 P) (N (boot_o_7 P) (N (o15 P) (N (o31 P) (N (o63 P) (N (o127 P) (N (o255 P) E E) (N (o383 P) E E)) (N (o191 P) (N (o319 P) E E) E)) (N (o95 P) (N (o159 P) (N (o287 P) E E) (N (o415 P) E E)) (N (o223 P) (N (o351 P) E E) E))) (N (o47 P) (N (o79 P) (N (o143 P) (N (o271 P) E E) (N (o399 P) E E)) (N (o207 P) (N (o335 P) E E) E)) (N (o111 P) (N (o175 P) (N (o303 P) E E) E) (N (o239 P) (N (o367 P) E E) E)))) (N (o23 P) (N (o39 P) (N (o71 P) (N (o135 P) (N (o263 P) E E) (N (o391 P) E E)) (N (o199 P) (N (o327 P) E E) E)) (N (o103 P) (N (o167 P) (N (o295 P) E E) E) (N (o231 P) (N (o359 P) E E) E))) (N (o55 P) (N (o87 P) (N (o151 P) (N (o279 P) E E) (N (o407 P) E E)) (N (o215 P) (N (o343 P) E E) E)) (N (o119 P) (N (o183 P) (N (o311 P) E E) E) (N (o247 P) (N (o375 P) E E) E))))) (N (o11 P) (N (o19 P) (N (o35 P) (N (o67 P) (N (o131 P) (N (o259 P) E E) (N (o387 P) E E)) (N (o195 P) (N (o323 P) E E) E)) (N (o99 P) (N (o163 P) (N (o291 P) E E) E) (N (o227v3 P) (N (o355 P) E E) E))) (N (o51 P) (N (o83 P) (N (o147 P) (N (o275 P) E E) (N (o403 P) E E)) (N (o211 P) (N (o339 P) E E) E)) (N (o115 P) (N (o179 P) (N (o307 P) E E) E) (N (o243 P) (N (o371 P) E E) E)))) (N (o27 P) (N (o43 P) (N (o75 P) (N (o139 P) (N (o267 P) E E) (N (o395 P) E E)) (N (o203 P) (N (o331 P) E E) E)) (N (o107 P) (N (o171 P) (N (o299 P) E E) E) (N (o235 P) (N (o363 P) E E) E))) (N (o59 P) (N (o91 P) (N (o155 P) (N (o283 P) E E) (N (o411 P) E E)) (N (o219 P) (N (o347 P) E E) E)) (N (o123 P) (N (o187 P) (N (o315 P) E E) E) (N (o251 P) (N (o379 P) E E) E)))))) (N (boot_o_5 P) (N (boot_o_9 P) (N (o17 P) (N (o33 P) (N (o65 P) (N (o129 P) (N (o257 P) E E) (N (o385 P) E E)) (N (o193 P) (N (o321 P) E E) E)) (N (o97 P) (N (o161 P) (N (o289 P) E E) (N (o417 P) E E)) (N (o225 P) (N (o353 P) E E) E))) (N (o49 P) (N (o81 P) (N (o145 P) (N (o273 P) E E) (N (o401 P) E E)) (N (o209 P) (N (o337 P) E E) E)) (N (o113 P) (N (o177 P) (N (o305 P) E E) E) (N (o241 P) (N (o369 P) E E) E)))) (N (o25 P) (N (o41 P) (N (o73 P) (N (o137 P) (N (o265 P) E E) (N (o393 P) E E)) (N (o201 P) (N (o329 P) E E) E)) (N (o105 P) (N (o169 P) (N (o297 P) E E) E) (N (o233 P) (N (o361 P) E E) E))) (N (o57 P) (N (o89 P) (N (o153 P) (N (o281 P) E E) (N (o409 P) E E)) (N (o217 P) (N (o345 P) E E) E)) (N (o121 P) (N (o185 P) (N (o313 P) E E) E) (N (o249 P) (N (o377 P) E E) E))))) (N (o13 P) (N (o21 P) (N (o37 P) (N (o69 P) (N (o133 P) (N (o261 P) E E) (N (o389 P) E E)) (N (o197 P) (N (o325 P) E E) E)) (N (o101 P) (N (o165 P) (N (o293 P) E E) E) (N (o229v1 P) (N (o357 P) E E) E))) (N (o53 P) (N (o85 P) (N (o149 P) (N (o277 P) E E) (N (o405 P) E E)) (N (o213 P) (N (o341 P) E E) E)) (N (o117 P) (N (o181 P) (N (o309 P) E E) E) (N (o245 P) (N (o373 P) E E) E)))) (N (o29 P) (N (o45 P) (N (o77 P) (N (o141 P) (N (o269 P) E E) (N (o397 P) E E)) (N (o205 P) (N (o333 P) E E) E)) (N (o109 P) (N (o173 P) (N (o301 P) E E) E) (N (o237 P) (N (o365 P) E E) E))) (N (o61 P) (N (o93 P) (N (o157 P) (N (o285 P) E E) (N (o413 P) E E)) (N (o221 P) (N (o349 P) E E) E)) (N (o125 P) (N (o189 P) (N (o317 P) E E) E) (N (o253 P) (N (o381 P) E E) E))))))) (N (boot_o_2 P) (N (boot_o_4 P) (N (boot_o_8 P) (N (o16 P) (N (o32 P) (N (o64 P) (N (o128 P) (N (o256 P) E E) (N (o384 P) E E)) (N (o192 P) (N (o320 P) E E) E)) (N (o96 P) (N (o160 P) (N (o288 P) E E) (N (o416 P) E E)) (N (o224 P) (N (o352 P) E E) E))) (N (o48 P) (N (o80 P) (N (o144 P) (N (o272 P) E E) (N (o400 P) E E)) (N (o208 P) (N (o336 P) E E) E)) (N (o112 P) (N (o176 P) (N (o304 P) E E) E) (N (o240 P) (N (o368 P) E E) E)))) (N (o24 P) (N (o40 P) (N (o72 P) (N (o136 P) (N (o264 P) E E) (N (o392 P) E E)) (N (o200 P) (N (o328 P) E E) E)) (N (o104 P) (N (o168 P) (N (o296 P) E E) E) (N (oset X) (N (o360 P) E E) E))) (N (o56 P) (N (o88 P) (N (o152 P) (N (o280 P) E E) (N (o408 P) E E)) (N (o216 P) (N (o344 P) E E) E)) (N (o120 P) (N (o184 P) (N (o312 P) E E) E) (N (o248 P) (N (o376 P) E E) E))))) (N (o12v2 P) (N (o20 P) (N (o36 P) (N (o68 P) (N (o132 P) (N (o260 P) E E) (N (o388 P) E E)) (N (o196 P) (N (o324 P) E E) E)) (N (o100 P) (N (o164 P) (N (o292 P) E E) E) (N (o228 P) (N (o356 P) E E) E))) (N (o52 P) (N (o84 P) (N (o148 P) (N (o276 P) E E) (N (o404 P) E E)) (N (o212 P) (N (o340 P) E E) E)) (N (o116 P) (N (o180 P) (N (o308 P) E E) E) (N (o244 P) (N (o372 P) E E) E)))) (N (o28 P) (N (o44 P) (N (o76 P) (N (o140 P) (N (o268 P) E E) (N (o396 P) E E)) (N (o204 P) (N (o332 P) E E) E)) (N (o108 P) (N (o172 P) (N (o300 P) E E) E) (N (o236 P) (N (o364 P) E E) E))) (N (o60 P) (N (o92 P) (N (o156 P) (N (o284 P) E E) (N (o412 P) E E)) (N (o220 P) (N (o348 P) E E) E)) (N (o124 P) (N (o188 P) (N (o316 P) E E) E) (N (o252 P) (N (o380 P) E E) E)))))) (N (boot_o_6 P) (N (boot_o_10 P) (N (o18 P) (N (o34 P) (N (o66 P) (N (o130 P) (N (o258 P) E E) (N (o386 P) E E)) (N (o194 P) (N (o322 P) E E) E)) (N (o98 P) (N (o162 P) (N (o290 P) E E) (N (o418 P) E E)) (N (o226 P) (N (o354 P) E E) E))) (N (o50 P) (N (o82 P) (N (o146 P) (N (o274 P) E E) (N (o402 P) E E)) (N (o210 P) (N (o338 P) E E) E)) (N (o114 P) (N (o178 P) (N (o306 P) E E) E) (N (o242 P) (N (o370 P) E E) E)))) (N (o26 P) (N (o42 P) (N (o74 P) (N (o138 P) (N (o266 P) E E) (N (o394 P) E E)) (N (o202 P) (N (o330 P) E E) E)) (N (o106 P) (N (o170 P) (N (o298 P) E E) E) (N (o234 P) (N (o362 P) E E) E))) (N (o58 P) (N (o90 P) (N (o154 P) (N (o282 P) E E) (N (o410 P) E E)) (N (o218 P) (N (o346 P) E E) E)) (N (o122 P) (N (o186 P) (N (o314 P) E E) E) (N (o250 P) (N (o378 P) E E) E))))) (N (o14 P) (N (o22 P) (N (o38 P) (N (o70 P) (N (o134 P) (N (o262 P) E E) (N (o390 P) E E)) (N (o198 P) (N (o326 P) E E) E)) (N (o102 P) (N (o166 P) (N (o294 P) E E) E) (N (o230 P) (N (o358 P) E E) E))) (N (o54 P) (N (o86 P) (N (o150 P) (N (o278 P) E E) (N (o406 P) E E)) (N (o214 P) (N (o342 P) E E) E)) (N (o118 P) (N (o182 P) (N (o310 P) E E) E) (N (o246 P) (N (o374 P) E E) E)))) (N (o30 P) (N (o46 P) (N (o78 P) (N (o142 P) (N (o270 P) E E) (N (o398 P) E E)) (N (o206 P) (N (o334 P) E E) E)) (N (o110 P) (N (o174 P) (N (o302 P) E E) E) (N (o238 P) (N (o366 P) E E) E))) (N (o62 P) (N (o94 P) (N (o158 P) (N (o286 P) E E) (N (o414 P) E E)) (N (o222 P) (N (o350 P) E E) E)) (N (o126 P) (N (o190 P) (N (o318 P) E E) E) (N (o254 P) (N (o382 P) E E) E))))))))
noncomputable def St6 (w : World) (X : SetD) (os : OsState) : SharedT := ⟨T6 w.params X, 419, X.life, #[], drawn0, 1119, os⟩
abbrev ps6 : Pos := ⟨412, 4, 412, 7⟩
-- snapshot 6: depth 2, stack [body ⟨148, 0, 417, 167⟩, claim.caller ⟨0, 0, 0, 0⟩]; drawn 0 0 0 0; gens 0
noncomputable def o227v4 (P : Params) : Obj := ⟨(.type "dict"), none, (D P [((S "__module__"), 470, (.str (S "snowballstemmer.spanish_stemmer") 461)), ((S "__qualname__"), 472, (.str (S "SpanishStemmer") 471)), ((S "__firstlineno__"), 474, (.int (148) 473)), ((S "g_v"), 497, (.ref 232)), ((S "I_p2"), 499, (.int (0) 498)), ((S "I_p1"), 501, (.int (0) 500)), ((S "I_pV"), 503, (.int (0) 502)), ((S "r_mark_regions"), 510, (.ref 239)), ((S "r_postlude"), 517, (.ref 246)), ((S "r_RV"), 524, (.ref 253)), ((S "r_R2"), 531, (.ref 260)), ((S "r_attached_pronoun"), 539, (.ref 267)), ((S "r_standard_suffix"), 552, (.ref 274)), ((S "r_y_verb_suffix"), 560, (.ref 281)), ((S "r_verb_suffix"), 571, (.ref 288)), ((S "r_residual_suffix"), 581, (.ref 295)), ((S "_stem"), 588, (.ref 302)), ((S "a_0"), 668, (.ref 321)), ((S "a_1"), 860, (.ref 361)), ((S "a_2"), 1015, (.ref 395)), ((S "a_3"), 1075, (.ref 408)), ((S "a_4"), 1118, (.ref 418)), ((S "a_5"), 1161, (.ref 428))] 23), #[]⟩
noncomputable def o419 (P : Params) : Obj := ⟨(.type "dict"), none, (D P [((S "s"), 1128, (.str (S "ic") 1119)), ((S "substring_i"), 1130, (.int (-1) 1121)), ((S "result"), 1132, (.int (1) 1122))] 3), #[]⟩
noncomputable def o420 (P : Params) : Obj := ⟨(.ref 220), some 419, .plain, #[]⟩
noncomputable def o421 (P : Params) : Obj := ⟨(.type "frame"), none, (D P [((S "self"), 1123, (.ref 420)), ((S "s"), 1124, (.str (S "ic") 1119)), ((S "substring_i"), 1125, (.int (-1) 1121)), ((S "result"), 1126, (.int (1) 1122))] 4), #[]⟩
noncomputable def o422 (P : Params) : Obj := ⟨(.type "dict"), none, (D P [((S "s"), 1142, (.str (S "abil") 1133)), ((S "substring_i"), 1144, (.int (-1) 1135)), ((S "result"), 1146, (.int (1) 1136))] 3), #[]⟩
noncomputable def o423 (P : Params) : Obj := ⟨(.ref 220), some 422, .plain, #[]⟩
noncomputable def o424 (P : Params) : Obj := ⟨(.type "frame"), none, (D P [((S "self"), 1137, (.ref 423)), ((S "s"), 1138, (.str (S "abil") 1133)), ((S "substring_i"), 1139, (.int (-1) 1135)), ((S "result"), 1140, (.int (1) 1136))] 4), #[]⟩
noncomputable def o425 (P : Params) : Obj := ⟨(.type "dict"), none, (D P [((S "s"), 1156, (.str (S "iv") 1147)), ((S "substring_i"), 1158, (.int (-1) 1149)), ((S "result"), 1160, (.int (1) 1150))] 3), #[]⟩
noncomputable def o426 (P : Params) : Obj := ⟨(.ref 220), some 425, .plain, #[]⟩
noncomputable def o427 (P : Params) : Obj := ⟨(.type "frame"), none, (D P [((S "self"), 1151, (.ref 426)), ((S "s"), 1152, (.str (S "iv") 1147)), ((S "substring_i"), 1153, (.int (-1) 1149)), ((S "result"), 1154, (.int (1) 1150))] 4), #[]⟩
noncomputable def o428 (P : Params) : Obj := ⟨(.type "list"), none, (Q [(.ref 420), (.ref 423), (.ref 426)] 0), #[]⟩
noncomputable def T7 (P : Params) (X : SetD) : BT := (N (boot_o_0 P) (N (boot_o_1 P) (N (o3 P) (N (boot_o_7 P) (N (o15 P) (N (o31 P) (N (o63 P) (N (o127 P) (N (o255 P) E E) (N (o383 P) E E)) (N (o191 P) (N (o319 P) E E) E)) (N (o95 P) (N (o159 P) (N (o287 P) E E) (N (o415 P) E E)) (N (o223 P) (N (o351 P) E E) E))) (N (o47 P) (N (o79 P) (N (o143 P) (N (o271 P) E E) (N (o399 P) E E)) (N (o207 P) (N (o335 P) E E) E)) (N (o111 P) (N (o175 P) (N (o303 P) E E) E) (N (o239 P) (N (o367 P) E E) E)))) (N (o23 P) (N (o39 P) (N (o71 P) (N (o135 P) (N (o263 P) E E) (N (o391 P) E E)) (N (o199 P) (N (o327 P) E E) E)) (N (o103 P) (N (o167 P) (N (o295 P) E E) (N (o423 P) E E)) (N (o231 P) (N (o359 P) E E) E))) (N (o55 P) (N (o87 P) (N (o151 P) (N (o279 P) E E) (N (o407 P) E E)) (N (o215 P) (N (o343 P) E E) E)) (N (o119 P) (N (o183 P) (N (o311 P) E E) E) (N (o247 P) (N (o375 P) E E) E))))) (N (o11 P) (N (o19 P) (N (o35 P) (N (o67 P) (N (o131 P) (N (o259 P) E E) (N (o387 P) E E)) (N (o195 P) (N (o323 P) E E) E)) (N (o99 P) (N (o163 P) (N (o291 P) E E) (N (o419 P) E E)) (N (o227v4 P) (N (o355 P) E E) E))) (N (o51 P) (N (o83 P) (N (o147 P) (N (o275 P) E E) (N (o403 P) E E)) (N (o211 P) (N (o339 P) E E) E)) (N (o115 P) (N (o179 P) (N (o307 P) E E) E) (N (o243 P) (N (o371 P) E E) E)))) (N (o27 P) (N (o43 P) (N (o75 P) (N (o139 P) (N (o267 P) E E) (N (o395 P) E E)) (N (o203 P) (N (o331 P) E E) E)) (N (o107 P) (N (o171 P) (N (o299 P) E E) (N (o427 P) E E)) (N (o235 P) (N (o363 P) E E) E))) (N (o59 P) (N (o91 P) (N (o155 P) (N (o283 P) E E) (N (o411 P) E E)) (N (o219 P) (N (o347 P) E E) E)) (N (o123 P) (N (o187 P) (N (o315 P) E E) E) (N (o251 P) (N (o379 P) E E) E)))))) (N (boot_o_5 P) (N (boot_o_9 P) (N (o17 P) (N (o33 P) (N (o65 P) (N (o129 P) (N (o257 P) E E) (N (o385 P) E E)) (N (o193 P) (N (o321 P) E E) E)) (N (o97 P) (N (o161 P) (N (o289 P) E E) (N (o417 P) E E)) (N (o225 P) (N (o353 P) E E) E))) (N (o49 P) (N (o81 P) (N (o145 P) (N (o273 P) E E) (N (o401 P) E E)) (N (o209 P) (N (o337 P) E E) E)) (N (o113 P) (N (o177 P) (N (o305 P) E E) E) (N (o241 P) (N (o369 P) E E) E)))) (N (o25 P) (N (o41 P) (N (o73 P) (N (o137 P) (N (o265 P) E E) (N (o393 P) E E)) (N (o201 P) (N (o329 P) E E) E)) (N (o105 P) (N (o169 P) (N (o297 P) E E) (N (o425 P) E E)) (N (o233 P) (N (o361 P) E E) E))) (N (o57 P) (N (o89 P) (N (o153 P) (N (o281 P) E E) (N (o409 P) E E)) (N (o217 P) (N (o345 P) E E) E)) (N (o121 P) (N (o185 P) (N (o313 P) E E) E) (N (o249 P) (N (o377 P) E E) E))))) (N (o13 P) (N (o21 P) (N (o37 P) (N (o69 P) (N (o133 P) (N (o261 P) E E) (N (o389 P) E E)) (N (o197 P) (N (o325 P) E E) E)) (N (o101 P) (N (o165 P) (N (o293 P) E E) (N (o421 P) E E)) (N (o229v1 P) (N (o357 P) E E) E))) (N (o53 P) (N (o85 P) (N (o149 P) (N (o277 P) E E) (N (o405 P) E E)) (N (o213 P) (N (o341 P) E E) E)) (N (o117 P) (N (o181 P) (N (o309 P) E E) E) (N (o245 P) (N (o373 P) E E) E)))) (N (o29 P) (N (o45 P) (N (o77 P) (N (o141 P) (N (o269 P) E E) (N (o397 P) E E)) (N (o205 P) (N (o333 P) E E) E)) (N (o109 P) (N (o173 P) (N (o301 P) E E) E) (N (o237 P) (N (o365 P) E E) E))) (N (o61 P) (N (o93 P) (N (o157 P) (N (o285 P) E E) (N (o413 P) E E)) (N (o221 P) (N (o349 P) E E) E)) (N (o125 P) (N (o189 P) (N (o317 P) E E) E) (N (o253 P) (N (o381 P) E E) E))))))) (N (boot_o_2 P) (N (boot_o_4 P) (N (boot_o_8 P) (N (o16 P) (N (o32 P) (N (o64 P) (N (o128 P) (N (o256 P) E E) (N (o384 P) E E)) (N (o192 P) (N (o320 P) E E) E)) (N (o96 P) (N (o160 P) (N (o288 P) E E) (N (o416 P) E E)) (N (o224 P) (N (o352 P) E E) E))) (N (o48 P) (N (o80 P) (N (o144 P) (N (o272 P) E E) (N (o400 P) E E)) (N (o208 P) (N (o336 P) E E) E)) (N (o112 P) (N (o176 P) (N (o304 P) E E) E) (N (o240 P) (N (o368 P) E E) E)))) (N (o24 P) (N (o40 P) (N (o72 P) (N (o136 P) (N (o264 P) E E) (N (o392 P) E E)) (N (o200 P) (N (o328 P) E E) E)) (N (o104 P) (N (o168 P) (N (o296 P) E E) (N (o424 P) E E)) (N (oset X) (N (o360 P) E E) E))) (N (o56 P) (N (o88 P) (N (o152 P) (N (o280 P) E E) (N (o408 P) E E)) (N (o216 P) (N (o344 P) E E) E)) (N (o120 P) (N (o184 P) (N (o312 P) E E) E) (N (o248 P) (N (o376 P) E E) E))))) (N (o12v2 P) (N (o20 P) (N (o36 P) (N (o68 P) (N (o132 P) (N (o260 P) E E) (N (o388 P) E E)) (N (o196 P) (N (o324 P) E E) E)) (N (o100 P) (N (o164 P) (N (o292 P) E E) (N (o420 P) E E)) (N (o228 P) (N (o356 P) E E) E))) (N (o52 P) (N (o84 P) (N (o148 P) (N (o276 P) E E) (N (o404 P) E E)) (N (o212 P) (N (o340 P) E E) E)) (N (o116 P) (N (o180 P) (N (o308 P) E E) E) (N (o244 P) (N (o372 P) E E) E)))) (N (o28 P) (N (o44 P) (N (o76 P) (N (o140 P) (N (o268 P) E E) (N (o396 P) E E)) (N (o204 P) (N (o332 P) E E) E)) (N (o108 P) (N (o172 P) (N (o300 P) E E) (N (o428 P) E E)) (N (o236 P) (N (o364 P) E E) E))) (N (o60 P) (N (o92 P) (N (o156 P) (N (o284 P) E E) (N (o412 P) E E)) (N (o220 P) (N (o348 P) E E) E)) (N (o124 P) (N (o188 P) (N (o316 P) E E) E) (N (o252 P) (N (o380 P) E E) E)))))) (N (boot_o_6 P) (N (boot_o_10 P) (N (o18 P) (N (o34 P) (N (o66 P) (N (o130 P) (N (o258 P) E E) (N (o386 P) E E)) (N (o194 P) (N (o322 P) E E) E)) (N (o98 P) (N (o162 P) (N (o290 P) E E) (N (o418 P) E E)) (N (o226 P) (N (o354 P) E E) E))) (N (o50 P) (N (o82 P) (N (o146 P) (N (o274 P) E E) (N (o402 P) E E)) (N (o210 P) (N (o338 P) E E) E)) (N (o114 P) (N (o178 P) (N (o306 P) E E) E) (N (o242 P) (N (o370 P) E E) E)))) (N (o26 P) (N (o42 P) (N (o74 P) (N (o138 P) (N (o266 P) E E) (N (o394 P) E E)) (N (o202 P) (N (o330 P) E E) E)) (N (o106 P) (N (o170 P) (N (o298 P) E E) (N (o426 P) E E)) (N (o234 P) (N (o362 P) E E) E))) (N (o58 P) (N (o90 P) (N (o154 P) (N (o282 P) E E) (N (o410 P) E E)) (N (o218 P) (N (o346 P) E E) E)) (N (o122 P) (N (o186 P) (N (o314 P) E E) E) (N (o250 P) (N (o378 P) E E) E))))) (N (o14 P) (N (o22 P) (N (o38 P) (N (o70 P) (N (o134 P) (N (o262 P) E E) (N (o390 P) E E)) (N (o198 P) (N (o326 P) E E) E)) (N (o102 P) (N (o166 P) (N (o294 P) E E) (N (o422 P) E E)) (N (o230 P) (N (o358 P) E E) E))) (N (o54 P) (N (o86 P) (N (o150 P) (N (o278 P) E E) (N (o406 P) E E)) (N (o214 P) (N (o342 P) E E) E)) (N (o118 P) (N (o182 P) (N (o310 P) E E) E) (N (o246 P) (N (o374 P) E E) E)))) (N (o30 P) (N (o46 P) (N (o78 P) (N (o142 P) (N (o270 P) E E) (N (o398 P) E E)) (N (o206 P) (N (o334 P) E E) E)) (N (o110 P) (N (o174 P) (N (o302 P) E E) E) (N (o238 P) (N (o366 P) E E) E))) (N (o62 P) (N (o94 P) (N (o158 P) (N (o286 P) E E) (N (o414 P) E E)) (N (o222 P) (N (o350 P) E E) E)) (N (o126 P) (N (o190 P) (N (o318 P) E E) E) (N (o254 P) (N (o382 P) E E) E))))))))
noncomputable def St7 (w : World) (X : SetD) (os : OsState) : SharedT := ⟨T7 w.params X, 429, X.life, #[], drawn0, 1162, os⟩
abbrev ps7 : Pos := ⟨413, 4, 413, 7⟩
-- snapshot 7: depth 2, stack [body ⟨148, 0, 417, 167⟩, claim.caller ⟨0, 0, 0, 0⟩]; drawn 0 0 0 0; gens 0
noncomputable def o227v5 (P : Params) : Obj := ⟨(.type "dict"), none, (D P [((S "__module__"), 470, (.str (S "snowballstemmer.spanish_stemmer") 461)), ((S "__qualname__"), 472, (.str (S "SpanishStemmer") 471)), ((S "__firstlineno__"), 474, (.int (148) 473)), ((S "g_v"), 497, (.ref 232)), ((S "I_p2"), 499, (.int (0) 498)), ((S "I_p1"), 501, (.int (0) 500)), ((S "I_pV"), 503, (.int (0) 502)), ((S "r_mark_regions"), 510, (.ref 239)), ((S "r_postlude"), 517, (.ref 246)), ((S "r_RV"), 524, (.ref 253)), ((S "r_R2"), 531, (.ref 260)), ((S "r_attached_pronoun"), 539, (.ref 267)), ((S "r_standard_suffix"), 552, (.ref 274)), ((S "r_y_verb_suffix"), 560, (.ref 281)), ((S "r_verb_suffix"), 571, (.ref 288)), ((S "r_residual_suffix"), 581, (.ref 295)), ((S "_stem"), 588, (.ref 302)), ((S "a_0"), 668, (.ref 321)), ((S "a_1"), 860, (.ref 361)), ((S "a_2"), 1015, (.ref 395)), ((S "a_3"), 1075, (.ref 408)), ((S "a_4"), 1118, (.ref 418)), ((S "a_5"), 1161, (.ref 428)), ((S "a_6"), 1833, (.ref 573))] 24), #[]⟩
noncomputable def o429 (P : Params) : Obj := ⟨(.type "dict"), none, (D P [((S "s"), 1171, (.str (S "ica") 1162)), ((S "substring_i"), 1173, (.int (-1) 1164)), ((S "result"), 1175, (.int (1) 1165))] 3), #[]⟩
noncomputable def o430 (P : Params) : Obj := ⟨(.ref 220), some 429, .plain, #[]⟩
noncomputable def o431 (P : Params) : Obj := ⟨(.type "frame"), none, (D P [((S "self"), 1166, (.ref 430)), ((S "s"), 1167, (.str (S "ica") 1162)), ((S "substring_i"), 1168, (.int (-1) 1164)), ((S "result"), 1169, (.int (1) 1165))] 4), #[]⟩
noncomputable def o432 (P : Params) : Obj := ⟨(.type "dict"), none, (D P [((S "s"), 1185, (.str (S "ancia") 1176)), ((S "substring_i"), 1187, (.int (-1) 1178)), ((S "result"), 1189, (.int (2) 1179))] 3), #[]⟩
noncomputable def o433 (P : Params) : Obj := ⟨(.ref 220), some 432, .plain, #[]⟩
noncomputable def o434 (P : Params) : Obj := ⟨(.type "frame"), none, (D P [((S "self"), 1180, (.ref 433)), ((S "s"), 1181, (.str (S "ancia") 1176)), ((S "substring_i"), 1182, (.int (-1) 1178)), ((S "result"), 1183, (.int (2) 1179))] 4), #[]⟩
noncomputable def o435 (P : Params) : Obj := ⟨(.type "dict"), none, (D P [((S "s"), 1199, (.str (S "encia") 1190)), ((S "substring_i"), 1201, (.int (-1) 1192)), ((S "result"), 1203, (.int (5) 1193))] 3), #[]⟩
noncomputable def o436 (P : Params) : Obj := ⟨(.ref 220), some 435, .plain, #[]⟩
noncomputable def o437 (P : Params) : Obj := ⟨(.type "frame"), none, (D P [((S "self"), 1194, (.ref 436)), ((S "s"), 1195, (.str (S "encia") 1190)), ((S "substring_i"), 1196, (.int (-1) 1192)), ((S "result"), 1197, (.int (5) 1193))] 4), #[]⟩
noncomputable def o438 (P : Params) : Obj := ⟨(.type "dict"), none, (D P [((S "s"), 1213, (.str (S "adora") 1204)), ((S "substring_i"), 1215, (.int (-1) 1206)), ((S "result"), 1217, (.int (2) 1207))] 3), #[]⟩
noncomputable def o439 (P : Params) : Obj := ⟨(.ref 220), some 438, .plain, #[]⟩
noncomputable def o440 (P : Params) : Obj := ⟨(.type "frame"), none, (D P [((S "self"), 1208, (.ref 439)), ((S "s"), 1209, (.str (S "adora") 1204)), ((S "substring_i"), 1210, (.int (-1) 1206)), ((S "result"), 1211, (.int (2) 1207))] 4), #[]⟩
noncomputable def o441 (P : Params) : Obj := ⟨(.type "dict"), none, (D P [((S "s"), 1227, (.str (S "osa") 1218)), ((S "substring_i"), 1229, (.int (-1) 1220)), ((S "result"), 1231, (.int (1) 1221))] 3), #[]⟩
noncomputable def o442 (P : Params) : Obj := ⟨(.ref 220), some 441, .plain, #[]⟩
noncomputable def o443 (P : Params) : Obj := ⟨(.type "frame"), none, (D P [((S "self"), 1222, (.ref 442)), ((S "s"), 1223, (.str (S "osa") 1218)), ((S "substring_i"), 1224, (.int (-1) 1220)), ((S "result"), 1225, (.int (1) 1221))] 4), #[]⟩
noncomputable def o444 (P : Params) : Obj := ⟨(.type "dict"), none, (D P [((S "s"), 1241, (.str (S "ista") 1232)), ((S "substring_i"), 1243, (.int (-1) 1234)), ((S "result"), 1245, (.int (1) 1235))] 3), #[]⟩
noncomputable def o445 (P : Params) : Obj := ⟨(.ref 220), some 444, .plain, #[]⟩
noncomputable def o446 (P : Params) : Obj := ⟨(.type "frame"), none, (D P [((S "self"), 1236, (.ref 445)), ((S "s"), 1237, (.str (S "ista") 1232)), ((S "substring_i"), 1238, (.int (-1) 1234)), ((S "result"), 1239, (.int (1) 1235))] 4), #[]⟩
noncomputable def o447 (P : Params) : Obj := ⟨(.type "dict"), none, (D P [((S "s"), 1255, (.str (S "iva") 1246)), ((S "substring_i"), 1257, (.int (-1) 1248)), ((S "result"), 1259, (.int (9) 1249))] 3), #[]⟩
noncomputable def o448 (P : Params) : Obj := ⟨(.ref 220), some 447, .plain, #[]⟩
noncomputable def o449 (P : Params) : Obj := ⟨(.type "frame"), none, (D P [((S "self"), 1250, (.ref 448)), ((S "s"), 1251, (.str (S "iva") 1246)), ((S "substring_i"), 1252, (.int (-1) 1248)), ((S "result"), 1253, (.int (9) 1249))] 4), #[]⟩
noncomputable def o450 (P : Params) : Obj := ⟨(.type "dict"), none, (D P [((S "s"), 1269, (.str (S "anza") 1260)), ((S "substring_i"), 1271, (.int (-1) 1262)), ((S "result"), 1273, (.int (1) 1263))] 3), #[]⟩
noncomputable def o451 (P : Params) : Obj := ⟨(.ref 220), some 450, .plain, #[]⟩
noncomputable def o452 (P : Params) : Obj := ⟨(.type "frame"), none, (D P [((S "self"), 1264, (.ref 451)), ((S "s"), 1265, (.str (S "anza") 1260)), ((S "substring_i"), 1266, (.int (-1) 1262)), ((S "result"), 1267, (.int (1) 1263))] 4), #[]⟩
noncomputable def o453 (P : Params) : Obj := ⟨(.type "dict"), none, (D P [((S "s"), 1283, (.str (S "logía") 1274)), ((S "substring_i"), 1285, (.int (-1) 1276)), ((S "result"), 1287, (.int (3) 1277))] 3), #[]⟩
noncomputable def o454 (P : Params) : Obj := ⟨(.ref 220), some 453, .plain, #[]⟩
noncomputable def o455 (P : Params) : Obj := ⟨(.type "frame"), none, (D P [((S "self"), 1278, (.ref 454)), ((S "s"), 1279, (.str (S "logía") 1274)), ((S "substring_i"), 1280, (.int (-1) 1276)), ((S "result"), 1281, (.int (3) 1277))] 4), #[]⟩
noncomputable def o456 (P : Params) : Obj := ⟨(.type "dict"), none, (D P [((S "s"), 1297, (.str (S "idad") 1288)), ((S "substring_i"), 1299, (.int (-1) 1290)), ((S "result"), 1301, (.int (8) 1291))] 3), #[]⟩
noncomputable def o457 (P : Params) : Obj := ⟨(.ref 220), some 456, .plain, #[]⟩
noncomputable def o458 (P : Params) : Obj := ⟨(.type "frame"), none, (D P [((S "self"), 1292, (.ref 457)), ((S "s"), 1293, (.str (S "idad") 1288)), ((S "substring_i"), 1294, (.int (-1) 1290)), ((S "result"), 1295, (.int (8) 1291))] 4), #[]⟩
noncomputable def o459 (P : Params) : Obj := ⟨(.type "dict"), none, (D P [((S "s"), 1311, (.str (S "able") 1302)), ((S "substring_i"), 1313, (.int (-1) 1304)), ((S "result"), 1315, (.int (1) 1305))] 3), #[]⟩
noncomputable def o460 (P : Params) : Obj := ⟨(.ref 220), some 459, .plain, #[]⟩
noncomputable def o461 (P : Params) : Obj := ⟨(.type "frame"), none, (D P [((S "self"), 1306, (.ref 460)), ((S "s"), 1307, (.str (S "able") 1302)), ((S "substring_i"), 1308, (.int (-1) 1304)), ((S "result"), 1309, (.int (1) 1305))] 4), #[]⟩
noncomputable def o462 (P : Params) : Obj := ⟨(.type "dict"), none, (D P [((S "s"), 1325, (.str (S "ible") 1316)), ((S "substring_i"), 1327, (.int (-1) 1318)), ((S "result"), 1329, (.int (1) 1319))] 3), #[]⟩
noncomputable def o463 (P : Params) : Obj := ⟨(.ref 220), some 462, .plain, #[]⟩
noncomputable def o464 (P : Params) : Obj := ⟨(.type "frame"), none, (D P [((S "self"), 1320, (.ref 463)), ((S "s"), 1321, (.str (S "ible") 1316)), ((S "substring_i"), 1322, (.int (-1) 1318)), ((S "result"), 1323, (.int (1) 1319))] 4), #[]⟩
noncomputable def o465 (P : Params) : Obj := ⟨(.type "dict"), none, (D P [((S "s"), 1339, (.str (S "ante") 1330)), ((S "substring_i"), 1341, (.int (-1) 1332)), ((S "result"), 1343, (.int (2) 1333))] 3), #[]⟩
noncomputable def o466 (P : Params) : Obj := ⟨(.ref 220), some 465, .plain, #[]⟩
noncomputable def o467 (P : Params) : Obj := ⟨(.type "frame"), none, (D P [((S "self"), 1334, (.ref 466)), ((S "s"), 1335, (.str (S "ante") 1330)), ((S "substring_i"), 1336, (.int (-1) 1332)), ((S "result"), 1337, (.int (2) 1333))] 4), #[]⟩
noncomputable def o468 (P : Params) : Obj := ⟨(.type "dict"), none, (D P [((S "s"), 1353, (.str (S "mente") 1344)), ((S "substring_i"), 1355, (.int (-1) 1346)), ((S "result"), 1357, (.int (7) 1347))] 3), #[]⟩
noncomputable def o469 (P : Params) : Obj := ⟨(.ref 220), some 468, .plain, #[]⟩
noncomputable def o470 (P : Params) : Obj := ⟨(.type "frame"), none, (D P [((S "self"), 1348, (.ref 469)), ((S "s"), 1349, (.str (S "mente") 1344)), ((S "substring_i"), 1350, (.int (-1) 1346)), ((S "result"), 1351, (.int (7) 1347))] 4), #[]⟩
noncomputable def o471 (P : Params) : Obj := ⟨(.type "dict"), none, (D P [((S "s"), 1366, (.str (S "amente") 1358)), ((S "substring_i"), 1368, (.int (13) 1359)), ((S "result"), 1370, (.int (6) 1360))] 3), #[]⟩
noncomputable def o472 (P : Params) : Obj := ⟨(.ref 220), some 471, .plain, #[]⟩
noncomputable def o473 (P : Params) : Obj := ⟨(.type "frame"), none, (D P [((S "self"), 1361, (.ref 472)), ((S "s"), 1362, (.str (S "amente") 1358)), ((S "substring_i"), 1363, (.int (13) 1359)), ((S "result"), 1364, (.int (6) 1360))] 4), #[]⟩
noncomputable def o474 (P : Params) : Obj := ⟨(.type "dict"), none, (D P [((S "s"), 1380, (.str (S "acion") 1371)), ((S "substring_i"), 1382, (.int (-1) 1373)), ((S "result"), 1384, (.int (2) 1374))] 3), #[]⟩
noncomputable def o475 (P : Params) : Obj := ⟨(.ref 220), some 474, .plain, #[]⟩
noncomputable def o476 (P : Params) : Obj := ⟨(.type "frame"), none, (D P [((S "self"), 1375, (.ref 475)), ((S "s"), 1376, (.str (S "acion") 1371)), ((S "substring_i"), 1377, (.int (-1) 1373)), ((S "result"), 1378, (.int (2) 1374))] 4), #[]⟩
noncomputable def o477 (P : Params) : Obj := ⟨(.type "dict"), none, (D P [((S "s"), 1394, (.str (S "ucion") 1385)), ((S "substring_i"), 1396, (.int (-1) 1387)), ((S "result"), 1398, (.int (4) 1388))] 3), #[]⟩
noncomputable def o478 (P : Params) : Obj := ⟨(.ref 220), some 477, .plain, #[]⟩
noncomputable def o479 (P : Params) : Obj := ⟨(.type "frame"), none, (D P [((S "self"), 1389, (.ref 478)), ((S "s"), 1390, (.str (S "ucion") 1385)), ((S "substring_i"), 1391, (.int (-1) 1387)), ((S "result"), 1392, (.int (4) 1388))] 4), #[]⟩
noncomputable def o480 (P : Params) : Obj := ⟨(.type "dict"), none, (D P [((S "s"), 1408, (.str (S "ación") 1399)), ((S "substring_i"), 1410, (.int (-1) 1401)), ((S "result"), 1412, (.int (2) 1402))] 3), #[]⟩
noncomputable def o481 (P : Params) : Obj := ⟨(.ref 220), some 480, .plain, #[]⟩
noncomputable def o482 (P : Params) : Obj := ⟨(.type "frame"), none, (D P [((S "self"), 1403, (.ref 481)), ((S "s"), 1404, (.str (S "ación") 1399)), ((S "substring_i"), 1405, (.int (-1) 1401)), ((S "result"), 1406, (.int (2) 1402))] 4), #[]⟩
noncomputable def o483 (P : Params) : Obj := ⟨(.type "dict"), none, (D P [((S "s"), 1422, (.str (S "ución") 1413)), ((S "substring_i"), 1424, (.int (-1) 1415)), ((S "result"), 1426, (.int (4) 1416))] 3), #[]⟩
noncomputable def o484 (P : Params) : Obj := ⟨(.ref 220), some 483, .plain, #[]⟩
noncomputable def o485 (P : Params) : Obj := ⟨(.type "frame"), none, (D P [((S "self"), 1417, (.ref 484)), ((S "s"), 1418, (.str (S "ución") 1413)), ((S "substring_i"), 1419, (.int (-1) 1415)), ((S "result"), 1420, (.int (4) 1416))] 4), #[]⟩
noncomputable def o486 (P : Params) : Obj := ⟨(.type "dict"), none, (D P [((S "s"), 1436, (.str (S "ico") 1427)), ((S "substring_i"), 1438, (.int (-1) 1429)), ((S "result"), 1440, (.int (1) 1430))] 3), #[]⟩
noncomputable def o487 (P : Params) : Obj := ⟨(.ref 220), some 486, .plain, #[]⟩
noncomputable def o488 (P : Params) : Obj := ⟨(.type "frame"), none, (D P [((S "self"), 1431, (.ref 487)), ((S "s"), 1432, (.str (S "ico") 1427)), ((S "substring_i"), 1433, (.int (-1) 1429)), ((S "result"), 1434, (.int (1) 1430))] 4), #[]⟩
noncomputable def o489 (P : Params) : Obj := ⟨(.type "dict"), none, (D P [((S "s"), 1450, (.str (S "ismo") 1441)), ((S "substring_i"), 1452, (.int (-1) 1443)), ((S "result"), 1454, (.int (1) 1444))] 3), #[]⟩
noncomputable def o490 (P : Params) : Obj := ⟨(.ref 220), some 489, .plain, #[]⟩
noncomputable def o491 (P : Params) : Obj := ⟨(.type "frame"), none, (D P [((S "self"), 1445, (.ref 490)), ((S "s"), 1446, (.str (S "ismo") 1441)), ((S "substring_i"), 1447, (.int (-1) 1443)), ((S "result"), 1448, (.int (1) 1444))] 4), #[]⟩
noncomputable def o492 (P : Params) : Obj := ⟨(.type "dict"), none, (D P [((S "s"), 1464, (.str (S "oso") 1455)), ((S "substring_i"), 1466, (.int (-1) 1457)), ((S "result"), 1468, (.int (1) 1458))] 3), #[]⟩
noncomputable def o493 (P : Params) : Obj := ⟨(.ref 220), some 492, .plain, #[]⟩
noncomputable def o494 (P : Params) : Obj := ⟨(.type "frame"), none, (D P [((S "self"), 1459, (.ref 493)), ((S "s"), 1460, (.str (S "oso") 1455)), ((S "substring_i"), 1461, (.int (-1) 1457)), ((S "result"), 1462, (.int (1) 1458))] 4), #[]⟩
noncomputable def o495 (P : Params) : Obj := ⟨(.type "dict"), none, (D P [((S "s"), 1478, (.str (S "amiento") 1469)), ((S "substring_i"), 1480, (.int (-1) 1471)), ((S "result"), 1482, (.int (1) 1472))] 3), #[]⟩
noncomputable def o496 (P : Params) : Obj := ⟨(.ref 220), some 495, .plain, #[]⟩
noncomputable def o497 (P : Params) : Obj := ⟨(.type "frame"), none, (D P [((S "self"), 1473, (.ref 496)), ((S "s"), 1474, (.str (S "amiento") 1469)), ((S "substring_i"), 1475, (.int (-1) 1471)), ((S "result"), 1476, (.int (1) 1472))] 4), #[]⟩
noncomputable def o498 (P : Params) : Obj := ⟨(.type "dict"), none, (D P [((S "s"), 1492, (.str (S "imiento") 1483)), ((S "substring_i"), 1494, (.int (-1) 1485)), ((S "result"), 1496, (.int (1) 1486))] 3), #[]⟩
noncomputable def o499 (P : Params) : Obj := ⟨(.ref 220), some 498, .plain, #[]⟩
noncomputable def o500 (P : Params) : Obj := ⟨(.type "frame"), none, (D P [((S "self"), 1487, (.ref 499)), ((S "s"), 1488, (.str (S "imiento") 1483)), ((S "substring_i"), 1489, (.int (-1) 1485)), ((S "result"), 1490, (.int (1) 1486))] 4), #[]⟩
noncomputable def o501 (P : Params) : Obj := ⟨(.type "dict"), none, (D P [((S "s"), 1506, (.str (S "ivo") 1497)), ((S "substring_i"), 1508, (.int (-1) 1499)), ((S "result"), 1510, (.int (9) 1500))] 3), #[]⟩
noncomputable def o502 (P : Params) : Obj := ⟨(.ref 220), some 501, .plain, #[]⟩
noncomputable def o503 (P : Params) : Obj := ⟨(.type "frame"), none, (D P [((S "self"), 1501, (.ref 502)), ((S "s"), 1502, (.str (S "ivo") 1497)), ((S "substring_i"), 1503, (.int (-1) 1499)), ((S "result"), 1504, (.int (9) 1500))] 4), #[]⟩
noncomputable def o504 (P : Params) : Obj := ⟨(.type "dict"), none, (D P [((S "s"), 1520, (.str (S "ador") 1511)), ((S "substring_i"), 1522, (.int (-1) 1513)), ((S "result"), 1524, (.int (2) 1514))] 3), #[]⟩
noncomputable def o505 (P : Params) : Obj := ⟨(.ref 220), some 504, .plain, #[]⟩
noncomputable def o506 (P : Params) : Obj := ⟨(.type "frame"), none, (D P [((S "self"), 1515, (.ref 505)), ((S "s"), 1516, (.str (S "ador") 1511)), ((S "substring_i"), 1517, (.int (-1) 1513)), ((S "result"), 1518, (.int (2) 1514))] 4), #[]⟩
noncomputable def o507 (P : Params) : Obj := ⟨(.type "dict"), none, (D P [((S "s"), 1534, (.str (S "icas") 1525)), ((S "substring_i"), 1536, (.int (-1) 1527)), ((S "result"), 1538, (.int (1) 1528))] 3), #[]⟩
noncomputable def o508 (P : Params) : Obj := ⟨(.ref 220), some 507, .plain, #[]⟩
noncomputable def o509 (P : Params) : Obj := ⟨(.type "frame"), none, (D P [((S "self"), 1529, (.ref 508)), ((S "s"), 1530, (.str (S "icas") 1525)), ((S "substring_i"), 1531, (.int (-1) 1527)), ((S "result"), 1532, (.int (1) 1528))] 4), #[]⟩
noncomputable def o510 (P : Params) : Obj := ⟨(.type "dict"), none, (D P [((S "s"), 1548, (.str (S "ancias") 1539)), ((S "substring_i"), 1550, (.int (-1) 1541)), ((S "result"), 1552, (.int (2) 1542))] 3), #[]⟩
noncomputable def o511 (P : Params) : Obj := ⟨(.ref 220), some 510, .plain, #[]⟩
noncomputable def o512 (P : Params) : Obj := ⟨(.type "frame"), none, (D P [((S "self"), 1543, (.ref 511)), ((S "s"), 1544, (.str (S "ancias") 1539)), ((S "substring_i"), 1545, (.int (-1) 1541)), ((S "result"), 1546, (.int (2) 1542))] 4), #[]⟩
noncomputable def o513 (P : Params) : Obj := ⟨(.type "dict"), none, (D P [((S "s"), 1562, (.str (S "encias") 1553)), ((S "substring_i"), 1564, (.int (-1) 1555)), ((S "result"), 1566, (.int (5) 1556))] 3), #[]⟩
noncomputable def o514 (P : Params) : Obj := ⟨(.ref 220), some 513, .plain, #[]⟩
noncomputable def o515 (P : Params) : Obj := ⟨(.type "frame"), none, (D P [((S "self"), 1557, (.ref 514)), ((S "s"), 1558, (.str (S "encias") 1553)), ((S "substring_i"), 1559, (.int (-1) 1555)), ((S "result"), 1560, (.int (5) 1556))] 4), #[]⟩
noncomputable def o516 (P : Params) : Obj := ⟨(.type "dict"), none, (D P [((S "s"), 1576, (.str (S "adoras") 1567)), ((S "substring_i"), 1578, (.int (-1) 1569)), ((S "result"), 1580, (.int (2) 1570))] 3), #[]⟩
noncomputable def o517 (P : Params) : Obj := ⟨(.ref 220), some 516, .plain, #[]⟩
noncomputable def o518 (P : Params) : Obj := ⟨(.type "frame"), none, (D P [((S "self"), 1571, (.ref 517)), ((S "s"), 1572, (.str (S "adoras") 1567)), ((S "substring_i"), 1573, (.int (-1) 1569)), ((S "result"), 1574, (.int (2) 1570))] 4), #[]⟩
noncomputable def o519 (P : Params) : Obj := ⟨(.type "dict"), none, (D P [((S "s"), 1590, (.str (S "osas") 1581)), ((S "substring_i"), 1592, (.int (-1) 1583)), ((S "result"), 1594, (.int (1) 1584))] 3), #[]⟩
noncomputable def o520 (P : Params) : Obj := ⟨(.ref 220), some 519, .plain, #[]⟩
noncomputable def o521 (P : Params) : Obj := ⟨(.type "frame"), none, (D P [((S "self"), 1585, (.ref 520)), ((S "s"), 1586, (.str (S "osas") 1581)), ((S "substring_i"), 1587, (.int (-1) 1583)), ((S "result"), 1588, (.int (1) 1584))] 4), #[]⟩
noncomputable def o522 (P : Params) : Obj := ⟨(.type "dict"), none, (D P [((S "s"), 1604, (.str (S "istas") 1595)), ((S "substring_i"), 1606, (.int (-1) 1597)), ((S "result"), 1608, (.int (1) 1598))] 3), #[]⟩
noncomputable def o523 (P : Params) : Obj := ⟨(.ref 220), some 522, .plain, #[]⟩
noncomputable def o524 (P : Params) : Obj := ⟨(.type "frame"), none, (D P [((S "self"), 1599, (.ref 523)), ((S "s"), 1600, (.str (S "istas") 1595)), ((S "substring_i"), 1601, (.int (-1) 1597)), ((S "result"), 1602, (.int (1) 1598))] 4), #[]⟩
noncomputable def o525 (P : Params) : Obj := ⟨(.type "dict"), none, (D P [((S "s"), 1618, (.str (S "ivas") 1609)), ((S "substring_i"), 1620, (.int (-1) 1611)), ((S "result"), 1622, (.int (9) 1612))] 3), #[]⟩
noncomputable def o526 (P : Params) : Obj := ⟨(.ref 220), some 525, .plain, #[]⟩
noncomputable def o527 (P : Params) : Obj := ⟨(.type "frame"), none, (D P [((S "self"), 1613, (.ref 526)), ((S "s"), 1614, (.str (S "ivas") 1609)), ((S "substring_i"), 1615, (.int (-1) 1611)), ((S "result"), 1616, (.int (9) 1612))] 4), #[]⟩
noncomputable def o528 (P : Params) : Obj := ⟨(.type "dict"), none, (D P [((S "s"), 1632, (.str (S "anzas") 1623)), ((S "substring_i"), 1634, (.int (-1) 1625)), ((S "result"), 1636, (.int (1) 1626))] 3), #[]⟩
noncomputable def o529 (P : Params) : Obj := ⟨(.ref 220), some 528, .plain, #[]⟩
noncomputable def o530 (P : Params) : Obj := ⟨(.type "frame"), none, (D P [((S "self"), 1627, (.ref 529)), ((S "s"), 1628, (.str (S "anzas") 1623)), ((S "substring_i"), 1629, (.int (-1) 1625)), ((S "result"), 1630, (.int (1) 1626))] 4), #[]⟩
noncomputable def o531 (P : Params) : Obj := ⟨(.type "dict"), none, (D P [((S "s"), 1646, (.str (S "logías") 1637)), ((S "substring_i"), 1648, (.int (-1) 1639)), ((S "result"), 1650, (.int (3) 1640))] 3), #[]⟩
noncomputable def o532 (P : Params) : Obj := ⟨(.ref 220), some 531, .plain, #[]⟩
noncomputable def o533 (P : Params) : Obj := ⟨(.type "frame"), none, (D P [((S "self"), 1641, (.ref 532)), ((S "s"), 1642, (.str (S "logías") 1637)), ((S "substring_i"), 1643, (.int (-1) 1639)), ((S "result"), 1644, (.int (3) 1640))] 4), #[]⟩
noncomputable def o534 (P : Params) : Obj := ⟨(.type "dict"), none, (D P [((S "s"), 1660, (.str (S "idades") 1651)), ((S "substring_i"), 1662, (.int (-1) 1653)), ((S "result"), 1664, (.int (8) 1654))] 3), #[]⟩
noncomputable def o535 (P : Params) : Obj := ⟨(.ref 220), some 534, .plain, #[]⟩
noncomputable def o536 (P : Params) : Obj := ⟨(.type "frame"), none, (D P [((S "self"), 1655, (.ref 535)), ((S "s"), 1656, (.str (S "idades") 1651)), ((S "substring_i"), 1657, (.int (-1) 1653)), ((S "result"), 1658, (.int (8) 1654))] 4), #[]⟩
noncomputable def o537 (P : Params) : Obj := ⟨(.type "dict"), none, (D P [((S "s"), 1674, (.str (S "ables") 1665)), ((S "substring_i"), 1676, (.int (-1) 1667)), ((S "result"), 1678, (.int (1) 1668))] 3), #[]⟩
noncomputable def o538 (P : Params) : Obj := ⟨(.ref 220), some 537, .plain, #[]⟩
noncomputable def o539 (P : Params) : Obj := ⟨(.type "frame"), none, (D P [((S "self"), 1669, (.ref 538)), ((S "s"), 1670, (.str (S "ables") 1665)), ((S "substring_i"), 1671, (.int (-1) 1667)), ((S "result"), 1672, (.int (1) 1668))] 4), #[]⟩
noncomputable def o540 (P : Params) : Obj := ⟨(.type "dict"), none, (D P [((S "s"), 1688, (.str (S "ibles") 1679)), ((S "substring_i"), 1690, (.int (-1) 1681)), ((S "result"), 1692, (.int (1) 1682))] 3), #[]⟩
noncomputable def o541 (P : Params) : Obj := ⟨(.ref 220), some 540, .plain, #[]⟩
noncomputable def o542 (P : Params) : Obj := ⟨(.type "frame"), none, (D P [((S "self"), 1683, (.ref 541)), ((S "s"), 1684, (.str (S "ibles") 1679)), ((S "substring_i"), 1685, (.int (-1) 1681)), ((S "result"), 1686, (.int (1) 1682))] 4), #[]⟩
noncomputable def o543 (P : Params) : Obj := ⟨(.type "dict"), none, (D P [((S "s"), 1702, (.str (S "aciones") 1693)), ((S "substring_i"), 1704, (.int (-1) 1695)), ((S "result"), 1706, (.int (2) 1696))] 3), #[]⟩
noncomputable def o544 (P : Params) : Obj := ⟨(.ref 220), some 543, .plain, #[]⟩
noncomputable def o545 (P : Params) : Obj := ⟨(.type "frame"), none, (D P [((S "self"), 1697, (.ref 544)), ((S "s"), 1698, (.str (S "aciones") 1693)), ((S "substring_i"), 1699, (.int (-1) 1695)), ((S "result"), 1700, (.int (2) 1696))] 4), #[]⟩
noncomputable def o546 (P : Params) : Obj := ⟨(.type "dict"), none, (D P [((S "s"), 1716, (.str (S "uciones") 1707)), ((S "substring_i"), 1718, (.int (-1) 1709)), ((S "result"), 1720, (.int (4) 1710))] 3), #[]⟩
noncomputable def o547 (P : Params) : Obj := ⟨(.ref 220), some 546, .plain, #[]⟩
noncomputable def o548 (P : Params) : Obj := ⟨(.type "frame"), none, (D P [((S "self"), 1711, (.ref 547)), ((S "s"), 1712, (.str (S "uciones") 1707)), ((S "substring_i"), 1713, (.int (-1) 1709)), ((S "result"), 1714, (.int (4) 1710))] 4), #[]⟩
noncomputable def o549 (P : Params) : Obj := ⟨(.type "dict"), none, (D P [((S "s"), 1730, (.str (S "adores") 1721)), ((S "substring_i"), 1732, (.int (-1) 1723)), ((S "result"), 1734, (.int (2) 1724))] 3), #[]⟩
noncomputable def o550 (P : Params) : Obj := ⟨(.ref 220), some 549, .plain, #[]⟩
noncomputable def o551 (P : Params) : Obj := ⟨(.type "frame"), none, (D P [((S "self"), 1725, (.ref 550)), ((S "s"), 1726, (.str (S "adores") 1721)), ((S "substring_i"), 1727, (.int (-1) 1723)), ((S "result"), 1728, (.int (2) 1724))] 4), #[]⟩
noncomputable def o552 (P : Params) : Obj := ⟨(.type "dict"), none, (D P [((S "s"), 1744, (.str (S "antes") 1735)), ((S "substring_i"), 1746, (.int (-1) 1737)), ((S "result"), 1748, (.int (2) 1738))] 3), #[]⟩
noncomputable def o553 (P : Params) : Obj := ⟨(.ref 220), some 552, .plain, #[]⟩
noncomputable def o554 (P : Params) : Obj := ⟨(.type "frame"), none, (D P [((S "self"), 1739, (.ref 553)), ((S "s"), 1740, (.str (S "antes") 1735)), ((S "substring_i"), 1741, (.int (-1) 1737)), ((S "result"), 1742, (.int (2) 1738))] 4), #[]⟩
noncomputable def o555 (P : Params) : Obj := ⟨(.type "dict"), none, (D P [((S "s"), 1758, (.str (S "icos") 1749)), ((S "substring_i"), 1760, (.int (-1) 1751)), ((S "result"), 1762, (.int (1) 1752))] 3), #[]⟩
noncomputable def o556 (P : Params) : Obj := ⟨(.ref 220), some 555, .plain, #[]⟩
noncomputable def o557 (P : Params) : Obj := ⟨(.type "frame"), none, (D P [((S "self"), 1753, (.ref 556)), ((S "s"), 1754, (.str (S "icos") 1749)), ((S "substring_i"), 1755, (.int (-1) 1751)), ((S "result"), 1756, (.int (1) 1752))] 4), #[]⟩
noncomputable def o558 (P : Params) : Obj := ⟨(.type "dict"), none, (D P [((S "s"), 1772, (.str (S "ismos") 1763)), ((S "substring_i"), 1774, (.int (-1) 1765)), ((S "result"), 1776, (.int (1) 1766))] 3), #[]⟩
noncomputable def o559 (P : Params) : Obj := ⟨(.ref 220), some 558, .plain, #[]⟩
noncomputable def o560 (P : Params) : Obj := ⟨(.type "frame"), none, (D P [((S "self"), 1767, (.ref 559)), ((S "s"), 1768, (.str (S "ismos") 1763)), ((S "substring_i"), 1769, (.int (-1) 1765)), ((S "result"), 1770, (.int (1) 1766))] 4), #[]⟩
noncomputable def o561 (P : Params) : Obj := ⟨(.type "dict"), none, (D P [((S "s"), 1786, (.str (S "osos") 1777)), ((S "substring_i"), 1788, (.int (-1) 1779)), ((S "result"), 1790, (.int (1) 1780))] 3), #[]⟩
noncomputable def o562 (P : Params) : Obj := ⟨(.ref 220), some 561, .plain, #[]⟩
noncomputable def o563 (P : Params) : Obj := ⟨(.type "frame"), none, (D P [((S "self"), 1781, (.ref 562)), ((S "s"), 1782, (.str (S "osos") 1777)), ((S "substring_i"), 1783, (.int (-1) 1779)), ((S "result"), 1784, (.int (1) 1780))] 4), #[]⟩
noncomputable def o564 (P : Params) : Obj := ⟨(.type "dict"), none, (D P [((S "s"), 1800, (.str (S "amientos") 1791)), ((S "substring_i"), 1802, (.int (-1) 1793)), ((S "result"), 1804, (.int (1) 1794))] 3), #[]⟩
noncomputable def o565 (P : Params) : Obj := ⟨(.ref 220), some 564, .plain, #[]⟩
noncomputable def o566 (P : Params) : Obj := ⟨(.type "frame"), none, (D P [((S "self"), 1795, (.ref 565)), ((S "s"), 1796, (.str (S "amientos") 1791)), ((S "substring_i"), 1797, (.int (-1) 1793)), ((S "result"), 1798, (.int (1) 1794))] 4), #[]⟩
noncomputable def o567 (P : Params) : Obj := ⟨(.type "dict"), none, (D P [((S "s"), 1814, (.str (S "imientos") 1805)), ((S "substring_i"), 1816, (.int (-1) 1807)), ((S "result"), 1818, (.int (1) 1808))] 3), #[]⟩
noncomputable def o568 (P : Params) : Obj := ⟨(.ref 220), some 567, .plain, #[]⟩
noncomputable def o569 (P : Params) : Obj := ⟨(.type "frame"), none, (D P [((S "self"), 1809, (.ref 568)), ((S "s"), 1810, (.str (S "imientos") 1805)), ((S "substring_i"), 1811, (.int (-1) 1807)), ((S "result"), 1812, (.int (1) 1808))] 4), #[]⟩
noncomputable def o570 (P : Params) : Obj := ⟨(.type "dict"), none, (D P [((S "s"), 1828, (.str (S "ivos") 1819)), ((S "substring_i"), 1830, (.int (-1) 1821)), ((S "result"), 1832, (.int (9) 1822))] 3), #[]⟩
noncomputable def o571 (P : Params) : Obj := ⟨(.ref 220), some 570, .plain, #[]⟩
noncomputable def o572 (P : Params) : Obj := ⟨(.type "frame"), none, (D P [((S "self"), 1823, (.ref 571)), ((S "s"), 1824, (.str (S "ivos") 1819)), ((S "substring_i"), 1825, (.int (-1) 1821)), ((S "result"), 1826, (.int (9) 1822))] 4), #[]⟩
noncomputable def o573 (P : Params) : Obj := ⟨(.type "list"), none, (Q [(.ref 430), (.ref 433), (.ref 436), (.ref 439), (.ref 442), (.ref 445), (.ref 448), (.ref 451), (.ref 454), (.ref 457), (.ref 460), (.ref 463), (.ref 466), (.ref 469), (.ref 472), (.ref 475), (.ref 478), (.ref 481), (.ref 484), (.ref 487), (.ref 490), (.ref 493), (.ref 496), (.ref 499), (.ref 502), (.ref 505), (.ref 508), (.ref 511), (.ref 514), (.ref 517), (.ref 520), (.ref 523), (.ref 526), (.ref 529), (.ref 532), (.ref 535), (.ref 538), (.ref 541), (.ref 544), (.ref 547), (.ref 550), (.ref 553), (.ref 556), (.ref 559), (.ref 562), (.ref 565), (.ref 568), (.ref 571)] 0), #[]⟩
noncomputable def T8 (P : Params) (X : SetD) : BT := (N (boot_o_0 P) (N (boot_o_1 P) (N (o3 P) (N (boot_o_7 P) (N (o15 P) (N (o31 P) (N (o63 P) (N (o127 P) (N (o255 P) (N (o511 P) E E) E) (N (o383 P) E E)) (N (o191 P) (N (o319 P) E E) (N (o447 P) E E))) (N (o95 P) (N (o159 P) (N (o287 P) (N (o543 P) E E) E) (N (o415 P) E E)) (N (o223 P) (N (o351 P) E E) (N (o479 P) E E)))) (N (o47 P) (N (o79 P) (N (o143 P) (N (o271 P) (N (o527 P) E E) E) (N (o399 P) E E)) (N (o207 P) (N (o335 P) E E) (N (o463 P) E E))) (N (o111 P) (N (o175 P) (N (o303 P) (N (o559 P) E E) E) (N (o431 P) E E)) (N (o239 P) (N (o367 P) E E) (N (o495 P) E E))))) (N (o23 P) (N (o39 P) (N (o71 P) (N (o135 P) (N (o263 P) (N (o519 P) E E) E) (N (o391 P) E E)) (N (o199 P) (N (o327 P) E E) (N (o455 P) E E))) (N (o103 P) (N (o167 P) (N (o295 P) (N (o551 P) E E) E) (N (o423 P) E E)) (N (o231 P) (N (o359 P) E E) (N (o487 P) E E)))) (N (o55 P) (N (o87 P) (N (o151 P) (N (o279 P) (N (o535 P) E E) E) (N (o407 P) E E)) (N (o215 P) (N (o343 P) E E) (N (o471 P) E E))) (N (o119 P) (N (o183 P) (N (o311 P) (N (o567 P) E E) E) (N (o439 P) E E)) (N (o247 P) (N (o375 P) E E) (N (o503 P) E E)))))) (N (o11 P) (N (o19 P) (N (o35 P) (N (o67 P) (N (o131 P) (N (o259 P) (N (o515 P) E E) E) (N (o387 P) E E)) (N (o195 P) (N (o323 P) E E) (N (o451 P) E E))) (N (o99 P) (N (o163 P) (N (o291 P) (N (o547 P) E E) E) (N (o419 P) E E)) (N (o227v5 P) (N (o355 P) E E) (N (o483 P) E E)))) (N (o51 P) (N (o83 P) (N (o147 P) (N (o275 P) (N (o531 P) E E) E) (N (o403 P) E E)) (N (o211 P) (N (o339 P) E E) (N (o467 P) E E))) (N (o115 P) (N (o179 P) (N (o307 P) (N (o563 P) E E) E) (N (o435 P) E E)) (N (o243 P) (N (o371 P) E E) (N (o499 P) E E))))) (N (o27 P) (N (o43 P) (N (o75 P) (N (o139 P) (N (o267 P) (N (o523 P) E E) E) (N (o395 P) E E)) (N (o203 P) (N (o331 P) E E) (N (o459 P) E E))) (N (o107 P) (N (o171 P) (N (o299 P) (N (o555 P) E E) E) (N (o427 P) E E)) (N (o235 P) (N (o363 P) E E) (N (o491 P) E E)))) (N (o59 P) (N (o91 P) (N (o155 P) (N (o283 P) (N (o539 P) E E) E) (N (o411 P) E E)) (N (o219 P) (N (o347 P) E E) (N (o475 P) E E))) (N (o123 P) (N (o187 P) (N (o315 P) (N (o571 P) E E) E) (N (o443 P) E E)) (N (o251 P) (N (o379 P) E E) (N (o507 P) E E))))))) (N (boot_o_5 P) (N (boot_o_9 P) (N (o17 P) (N (o33 P) (N (o65 P) (N (o129 P) (N (o257 P) (N (o513 P) E E) E) (N (o385 P) E E)) (N (o193 P) (N (o321 P) E E) (N (o449 P) E E))) (N (o97 P) (N (o161 P) (N (o289 P) (N (o545 P) E E) E) (N (o417 P) E E)) (N (o225 P) (N (o353 P) E E) (N (o481 P) E E)))) (N (o49 P) (N (o81 P) (N (o145 P) (N (o273 P) (N (o529 P) E E) E) (N (o401 P) E E)) (N (o209 P) (N (o337 P) E E) (N (o465 P) E E))) (N (o113 P) (N (o177 P) (N (o305 P) (N (o561 P) E E) E) (N (o433 P) E E)) (N (o241 P) (N (o369 P) E E) (N (o497 P) E E))))) (N (o25 P) (N (o41 P) (N (o73 P) (N (o137 P) (N (o265 P) (N (o521 P) E E) E) (N (o393 P) E E)) (N (o201 P) (N (o329 P) E E) (N (o457 P) E E))) (N (o105 P) (N (o169 P) (N (o297 P) (N (o553 P) E E) E) (N (o425 P) E E)) (N (o233 P) (N (o361 P) E E) (N (o489 P) E E)))) (N (o57 P) (N (o89 P) (N (o153 P) (N (o281 P) (N (o537 P) E E) E) (N (o409 P) E E)) (N (o217 P) (N (o345 P) E E) (N (o473 P) E E))) (N (o121 P) (N (o185 P) (N (o313 P) (N (o569 P) E E) E) (N (o441 P) E E)) (N (o249 P) (N (o377 P) E E) (N (o505 P) E E)))))) (N (o13 P) (N (o21 P) (N (o37 P) (N (o69 P) (N (o133 P) (N (o261 P) (N (o517 P) E E) E) (N (o389 P) E E)) (N (o197 P) (N (o325 P) E E) (N (o453 P) E E))) (N (o101 P) (N (o165 P) (N (o293 P) (N (o549 P) E E) E) (N (o421 P) E E)) (N (o229v1 P) (N (o357 P) E E) (N (o485 P) E E)))) (N (o53 P) (N (o85 P) (N (o149 P) (N (o277 P) (N (o533 P) E E) E) (N (o405 P) E E)) (N (o213 P) (N (o341 P) E E) (N (o469 P) E E))) (N (o117 P) (N (o181 P) (N (o309 P) (N (o565 P) E E) E) (N (o437 P) E E)) (N (o245 P) (N (o373 P) E E) (N (o501 P) E E))))) (N (o29 P) (N (o45 P) (N (o77 P) (N (o141 P) (N (o269 P) (N (o525 P) E E) E) (N (o397 P) E E)) (N (o205 P) (N (o333 P) E E) (N (o461 P) E E))) (N (o109 P) (N (o173 P) (N (o301 P) (N (o557 P) E E) E) (N (o429 P) E E)) (N (o237 P) (N (o365 P) E E) (N (o493 P) E E)))) (N (o61 P) (N (o93 P) (N (o157 P) (N (o285 P) (N (o541 P) E E) E) (N (o413 P) E E)) (N (o221 P) (N (o349 P) E E) (N (o477 P) E E))) (N (o125 P) (N (o189 P) (N (o317 P) (N (o573 P) E E) E) (N (o445 P) E E)) (N (o253 P) (N (o381 P) E E) (N (o509 P) E E)))))))) (N (boot_o_2 P) (N (boot_o_4 P) (N (boot_o_8 P) (N (o16 P) (N (o32 P) (N (o64 P) (N (o128 P) (N (o256 P) (N (o512 P) E E) E) (N (o384 P) E E)) (N (o192 P) (N (o320 P) E E) (N (o448 P) E E))) (N (o96 P) (N (o160 P) (N (o288 P) (N (o544 P) E E) E) (N (o416 P) E E)) (N (o224 P) (N (o352 P) E E) (N (o480 P) E E)))) (N (o48 P) (N (o80 P) (N (o144 P) (N (o272 P) (N (o528 P) E E) E) (N (o400 P) E E)) (N (o208 P) (N (o336 P) E E) (N (o464 P) E E))) (N (o112 P) (N (o176 P) (N (o304 P) (N (o560 P) E E) E) (N (o432 P) E E)) (N (o240 P) (N (o368 P) E E) (N (o496 P) E E))))) (N (o24 P) (N (o40 P) (N (o72 P) (N (o136 P) (N (o264 P) (N (o520 P) E E) E) (N (o392 P) E E)) (N (o200 P) (N (o328 P) E E) (N (o456 P) E E))) (N (o104 P) (N (o168 P) (N (o296 P) (N (o552 P) E E) E) (N (o424 P) E E)) (N (oset X) (N (o360 P) E E) (N (o488 P) E E)))) (N (o56 P) (N (o88 P) (N (o152 P) (N (o280 P) (N (o536 P) E E) E) (N (o408 P) E E)) (N (o216 P) (N (o344 P) E E) (N (o472 P) E E))) (N (o120 P) (N (o184 P) (N (o312 P) (N (o568 P) E E) E) (N (o440 P) E E)) (N (o248 P) (N (o376 P) E E) (N (o504 P) E E)))))) (N (o12v2 P) (N (o20 P) (N (o36 P) (N (o68 P) (N (o132 P) (N (o260 P) (N (o516 P) E E) E) (N (o388 P) E E)) (N (o196 P) (N (o324 P) E E) (N (o452 P) E E))) (N (o100 P) (N (o164 P) (N (o292 P) (N (o548 P) E E) E) (N (o420 P) E E)) (N (o228 P) (N (o356 P) E E) (N (o484 P) E E)))) (N (o52 P) (N (o84 P) (N (o148 P) (N (o276 P) (N (o532 P) E E) E) (N (o404 P) E E)) (N (o212 P) (N (o340 P) E E) (N (o468 P) E E))) (N (o116 P) (N (o180 P) (N (o308 P) (N (o564 P) E E) E) (N (o436 P) E E)) (N (o244 P) (N (o372 P) E E) (N (o500 P) E E))))) (N (o28 P) (N (o44 P) (N (o76 P) (N (o140 P) (N (o268 P) (N (o524 P) E E) E) (N (o396 P) E E)) (N (o204 P) (N (o332 P) E E) (N (o460 P) E E))) (N (o108 P) (N (o172 P) (N (o300 P) (N (o556 P) E E) E) (N (o428 P) E E)) (N (o236 P) (N (o364 P) E E) (N (o492 P) E E)))) (N (o60 P) (N (o92 P) (N (o156 P) (N (o284 P) (N (o540 P) E E) E) (N (o412 P) E E)) (N (o220 P) (N (o348 P) E E) (N (o476 P) E E))) (N (o124 P) (N (o188 P) (N (o316 P) (N (o572 P) E E) E) (N (o444 P) E E)) (N (o252 P) (N (o380 P) E E) (N (o508 P) E E))))))) (N (boot_o_6 P) (N (boot_o_10 P) (N (o18 P) (N (o34 P) (N (o66 P) (N (o130 P) (N (o258 P) (N (o514 P) E E) E) (N (o386 P) E E)) (N (o194 P) (N (o322 P) E E) (N (o450 P) E E))) (N (o98 P) (N (o162 P) (N (o290 P) (N (o546 P) E E) E) (N (o418 P) E E)) (N (o226 P) (N (o354 P) E E) (N (o482 P) E E)))) (N (o50 P) (N (o82 P) (N (o146 P) (N (o274 P) (N (o530 P) E E) E) (N (o402 P) E E)) (N (o210 P) (N (o338 P) E E) (N (o466 P) E E))) (N (o114 P) (N (o178 P) (N (o306 P) (N (o562 P) E E) E) (N (o434 P) E E)) (N (o242 P) (N (o370 P) E E) (N (o498 P) E E))))) (N (o26 P) (N (o42 P) (N (o74 P) (N (o138 P) (N (o266 P) (N (o522 P) E E) E) (N (o394 P) E E)) (N (o202 P) (N (o330 P) E E) (N (o458 P) E E))) (N (o106 P) (N (o170 P) (N (o298 P) (N (o554 P) E E) E) (N (o426 P) E E)) (N (o234 P) (N (o362 P) E E) (N (o490 P) E E)))) (N (o58 P) (N (o90 P) (N (o154 P) (N (o282 P) (N (o538 P) E E) E) (N (o410 P) E E)) (N (o218 P) (N (o346 P) E E) (N (o474 P) E E))) (N (o122 P) (N (o186 P) (N (o314 P) (N (o570 P) E E) E) (N (o442 P) E E)) (N (o250 P) (N (o378 P) E E) (N (o506 P) E E)))))) (N (o14 P) (N (o22 P) (N (o38 P) (N (o70 P) (N (o134 P) (N (o262 P) (N (o518 P) E E) E) (N (o390 P) E E)) (N (o198 P) (N (o326 P) E E) (N (o454 P) E E))) (N (o102 P) (N (o166 P) (N (o294 P) (N (o550 P) E E) E) (N (o422 P) E E)) (N (o230 P) (N (o358 P) E E) (N (o486 P) E E)))) (N (o54 P) (N (o86 P) (N (o150 P) (N (o278 P) (N (o534 P) E E) E) (N (o406 P) E E)) (N (o214 P) (N (o342 P) E E) (N (o470 P) E E))) (N (o118 P) (N (o182 P) (N (o310 P) (N (o566 P) E E) E) (N (o438 P) E E)) (N (o246 P) (N (o374 P) E E) (N (o502 P) E E))))) (N (o30 P) (N (o46 P) (N (o78 P) (N (o142 P) (N (o270 P) (N (o526 P) E E) E) (N (o398 P) E E)) (N (o206 P) (N (o334 P) E E) (N (o462 P) E E))) (N (o110 P) (N (o174 P) (N (o302 P) (N (o558 P) E E) E) (N (o430 P) E E)) (N (o238 P) (N (o366 P) E E) (N (o494 P) E E)))) (N (o62 P) (N (o94 P) (N (o158 P) (N (o286 P) (N (o542 P) E E) E) (N (o414 P) E E)) (N (o222 P) (N (o350 P) E E) (N (o478 P) E E))) (N (o126 P) (N (o190 P) (N (o318 P) E E) (N (o446 P) E E)) (N (o254 P) (N (o382 P) E E) (N (o510 P) E E)))))))))
noncomputable def St8 (w : World) (X : SetD) (os : OsState) : SharedT := ⟨T8 w.params X, 574, X.life, #[], drawn0, 1834, os⟩
abbrev ps8 : Pos := ⟨414, 4, 414, 7⟩
-- snapshot 8: depth 2, stack [body ⟨148, 0, 417, 167⟩, claim.caller ⟨0, 0, 0, 0⟩]; drawn 0 0 0 0; gens 0
noncomputable def o227v6 (P : Params) : Obj := ⟨(.type "dict"), none, (D P [((S "__module__"), 470, (.str (S "snowballstemmer.spanish_stemmer") 461)), ((S "__qualname__"), 472, (.str (S "SpanishStemmer") 471)), ((S "__firstlineno__"), 474, (.int (148) 473)), ((S "g_v"), 497, (.ref 232)), ((S "I_p2"), 499, (.int (0) 498)), ((S "I_p1"), 501, (.int (0) 500)), ((S "I_pV"), 503, (.int (0) 502)), ((S "r_mark_regions"), 510, (.ref 239)), ((S "r_postlude"), 517, (.ref 246)), ((S "r_RV"), 524, (.ref 253)), ((S "r_R2"), 531, (.ref 260)), ((S "r_attached_pronoun"), 539, (.ref 267)), ((S "r_standard_suffix"), 552, (.ref 274)), ((S "r_y_verb_suffix"), 560, (.ref 281)), ((S "r_verb_suffix"), 571, (.ref 288)), ((S "r_residual_suffix"), 581, (.ref 295)), ((S "_stem"), 588, (.ref 302)), ((S "a_0"), 668, (.ref 321)), ((S "a_1"), 860, (.ref 361)), ((S "a_2"), 1015, (.ref 395)), ((S "a_3"), 1075, (.ref 408)), ((S "a_4"), 1118, (.ref 418)), ((S "a_5"), 1161, (.ref 428)), ((S "a_6"), 1833, (.ref 573)), ((S "a_7"), 2002, (.ref 610))] 25), #[]⟩
noncomputable def o574 (P : Params) : Obj := ⟨(.type "dict"), none, (D P [((S "s"), 1843, (.str (S "ya") 1834)), ((S "substring_i"), 1845, (.int (-1) 1836)), ((S "result"), 1847, (.int (1) 1837))] 3), #[]⟩
noncomputable def o575 (P : Params) : Obj := ⟨(.ref 220), some 574, .plain, #[]⟩
noncomputable def o576 (P : Params) : Obj := ⟨(.type "frame"), none, (D P [((S "self"), 1838, (.ref 575)), ((S "s"), 1839, (.str (S "ya") 1834)), ((S "substring_i"), 1840, (.int (-1) 1836)), ((S "result"), 1841, (.int (1) 1837))] 4), #[]⟩
noncomputable def o577 (P : Params) : Obj := ⟨(.type "dict"), none, (D P [((S "s"), 1857, (.str (S "ye") 1848)), ((S "substring_i"), 1859, (.int (-1) 1850)), ((S "result"), 1861, (.int (1) 1851))] 3), #[]⟩
noncomputable def o578 (P : Params) : Obj := ⟨(.ref 220), some 577, .plain, #[]⟩
noncomputable def o579 (P : Params) : Obj := ⟨(.type "frame"), none, (D P [((S "self"), 1852, (.ref 578)), ((S "s"), 1853, (.str (S "ye") 1848)), ((S "substring_i"), 1854, (.int (-1) 1850)), ((S "result"), 1855, (.int (1) 1851))] 4), #[]⟩
noncomputable def o580 (P : Params) : Obj := ⟨(.type "dict"), none, (D P [((S "s"), 1871, (.str (S "yan") 1862)), ((S "substring_i"), 1873, (.int (-1) 1864)), ((S "result"), 1875, (.int (1) 1865))] 3), #[]⟩
noncomputable def o581 (P : Params) : Obj := ⟨(.ref 220), some 580, .plain, #[]⟩
noncomputable def o582 (P : Params) : Obj := ⟨(.type "frame"), none, (D P [((S "self"), 1866, (.ref 581)), ((S "s"), 1867, (.str (S "yan") 1862)), ((S "substring_i"), 1868, (.int (-1) 1864)), ((S "result"), 1869, (.int (1) 1865))] 4), #[]⟩
noncomputable def o583 (P : Params) : Obj := ⟨(.type "dict"), none, (D P [((S "s"), 1885, (.str (S "yen") 1876)), ((S "substring_i"), 1887, (.int (-1) 1878)), ((S "result"), 1889, (.int (1) 1879))] 3), #[]⟩
noncomputable def o584 (P : Params) : Obj := ⟨(.ref 220), some 583, .plain, #[]⟩
noncomputable def o585 (P : Params) : Obj := ⟨(.type "frame"), none, (D P [((S "self"), 1880, (.ref 584)), ((S "s"), 1881, (.str (S "yen") 1876)), ((S "substring_i"), 1882, (.int (-1) 1878)), ((S "result"), 1883, (.int (1) 1879))] 4), #[]⟩
noncomputable def o586 (P : Params) : Obj := ⟨(.type "dict"), none, (D P [((S "s"), 1899, (.str (S "yeron") 1890)), ((S "substring_i"), 1901, (.int (-1) 1892)), ((S "result"), 1903, (.int (1) 1893))] 3), #[]⟩
noncomputable def o587 (P : Params) : Obj := ⟨(.ref 220), some 586, .plain, #[]⟩
noncomputable def o588 (P : Params) : Obj := ⟨(.type "frame"), none, (D P [((S "self"), 1894, (.ref 587)), ((S "s"), 1895, (.str (S "yeron") 1890)), ((S "substring_i"), 1896, (.int (-1) 1892)), ((S "result"), 1897, (.int (1) 1893))] 4), #[]⟩
noncomputable def o589 (P : Params) : Obj := ⟨(.type "dict"), none, (D P [((S "s"), 1913, (.str (S "yendo") 1904)), ((S "substring_i"), 1915, (.int (-1) 1906)), ((S "result"), 1917, (.int (1) 1907))] 3), #[]⟩
noncomputable def o590 (P : Params) : Obj := ⟨(.ref 220), some 589, .plain, #[]⟩
noncomputable def o591 (P : Params) : Obj := ⟨(.type "frame"), none, (D P [((S "self"), 1908, (.ref 590)), ((S "s"), 1909, (.str (S "yendo") 1904)), ((S "substring_i"), 1910, (.int (-1) 1906)), ((S "result"), 1911, (.int (1) 1907))] 4), #[]⟩
noncomputable def o592 (P : Params) : Obj := ⟨(.type "dict"), none, (D P [((S "s"), 1927, (.str (S "yo") 1918)), ((S "substring_i"), 1929, (.int (-1) 1920)), ((S "result"), 1931, (.int (1) 1921))] 3), #[]⟩
noncomputable def o593 (P : Params) : Obj := ⟨(.ref 220), some 592, .plain, #[]⟩
noncomputable def o594 (P : Params) : Obj := ⟨(.type "frame"), none, (D P [((S "self"), 1922, (.ref 593)), ((S "s"), 1923, (.str (S "yo") 1918)), ((S "substring_i"), 1924, (.int (-1) 1920)), ((S "result"), 1925, (.int (1) 1921))] 4), #[]⟩
noncomputable def o595 (P : Params) : Obj := ⟨(.type "dict"), none, (D P [((S "s"), 1941, (.str (S "yas") 1932)), ((S "substring_i"), 1943, (.int (-1) 1934)), ((S "result"), 1945, (.int (1) 1935))] 3), #[]⟩
noncomputable def o596 (P : Params) : Obj := ⟨(.ref 220), some 595, .plain, #[]⟩
noncomputable def o597 (P : Params) : Obj := ⟨(.type "frame"), none, (D P [((S "self"), 1936, (.ref 596)), ((S "s"), 1937, (.str (S "yas") 1932)), ((S "substring_i"), 1938, (.int (-1) 1934)), ((S "result"), 1939, (.int (1) 1935))] 4), #[]⟩
noncomputable def o598 (P : Params) : Obj := ⟨(.type "dict"), none, (D P [((S "s"), 1955, (.str (S "yes") 1946)), ((S "substring_i"), 1957, (.int (-1) 1948)), ((S "result"), 1959, (.int (1) 1949))] 3), #[]⟩
noncomputable def o599 (P : Params) : Obj := ⟨(.ref 220), some 598, .plain, #[]⟩
noncomputable def o600 (P : Params) : Obj := ⟨(.type "frame"), none, (D P [((S "self"), 1950, (.ref 599)), ((S "s"), 1951, (.str (S "yes") 1946)), ((S "substring_i"), 1952, (.int (-1) 1948)), ((S "result"), 1953, (.int (1) 1949))] 4), #[]⟩
noncomputable def o601 (P : Params) : Obj := ⟨(.type "dict"), none, (D P [((S "s"), 1969, (.str (S "yais") 1960)), ((S "substring_i"), 1971, (.int (-1) 1962)), ((S "result"), 1973, (.int (1) 1963))] 3), #[]⟩
noncomputable def o602 (P : Params) : Obj := ⟨(.ref 220), some 601, .plain, #[]⟩
noncomputable def o603 (P : Params) : Obj := ⟨(.type "frame"), none, (D P [((S "self"), 1964, (.ref 602)), ((S "s"), 1965, (.str (S "yais") 1960)), ((S "substring_i"), 1966, (.int (-1) 1962)), ((S "result"), 1967, (.int (1) 1963))] 4), #[]⟩
noncomputable def o604 (P : Params) : Obj := ⟨(.type "dict"), none, (D P [((S "s"), 1983, (.str (S "yamos") 1974)), ((S "substring_i"), 1985, (.int (-1) 1976)), ((S "result"), 1987, (.int (1) 1977))] 3), #[]⟩
noncomputable def o605 (P : Params) : Obj := ⟨(.ref 220), some 604, .plain, #[]⟩
noncomputable def o606 (P : Params) : Obj := ⟨(.type "frame"), none, (D P [((S "self"), 1978, (.ref 605)), ((S "s"), 1979, (.str (S "yamos") 1974)), ((S "substring_i"), 1980, (.int (-1) 1976)), ((S "result"), 1981, (.int (1) 1977))] 4), #[]⟩
noncomputable def o607 (P : Params) : Obj := ⟨(.type "dict"), none, (D P [((S "s"), 1997, (.str (S "yó") 1988)), ((S "substring_i"), 1999, (.int (-1) 1990)), ((S "result"), 2001, (.int (1) 1991))] 3), #[]⟩
noncomputable def o608 (P : Params) : Obj := ⟨(.ref 220), some 607, .plain, #[]⟩
noncomputable def o609 (P : Params) : Obj := ⟨(.type "frame"), none, (D P [((S "self"), 1992, (.ref 608)), ((S "s"), 1993, (.str (S "yó") 1988)), ((S "substring_i"), 1994, (.int (-1) 1990)), ((S "result"), 1995, (.int (1) 1991))] 4), #[]⟩
noncomputable def o610 (P : Params) : Obj := ⟨(.type "list"), none, (Q [(.ref 575), (.ref 578), (.ref 581), (.ref 584), (.ref 587), (.ref 590), (.ref 593), (.ref 596), (.ref 599), (.ref 602), (.ref 605), (.ref 608)] 0), #[]⟩
noncomputable def T9 (P : Params) (X : SetD) : BT := (N (boot_o_0 P) (N (boot_o_1 P) (N (o3 P) (N (boot_o_7 P) (N (o15 P) (N (o31 P) (N (o63 P) (N (o127 P) (N (o255 P) (N (o511 P) E E) E) (N (o383 P) E E)) (N (o191 P) (N (o319 P) (N (o575 P) E E) E) (N (o447 P) E E))) (N (o95 P) (N (o159 P) (N (o287 P) (N (o543 P) E E) E) (N (o415 P) E E)) (N (o223 P) (N (o351 P) (N (o607 P) E E) E) (N (o479 P) E E)))) (N (o47 P) (N (o79 P) (N (o143 P) (N (o271 P) (N (o527 P) E E) E) (N (o399 P) E E)) (N (o207 P) (N (o335 P) (N (o591 P) E E) E) (N (o463 P) E E))) (N (o111 P) (N (o175 P) (N (o303 P) (N (o559 P) E E) E) (N (o431 P) E E)) (N (o239 P) (N (o367 P) E E) (N (o495 P) E E))))) (N (o23 P) (N (o39 P) (N (o71 P) (N (o135 P) (N (o263 P) (N (o519 P) E E) E) (N (o391 P) E E)) (N (o199 P) (N (o327 P) (N (o583 P) E E) E) (N (o455 P) E E))) (N (o103 P) (N (o167 P) (N (o295 P) (N (o551 P) E E) E) (N (o423 P) E E)) (N (o231 P) (N (o359 P) E E) (N (o487 P) E E)))) (N (o55 P) (N (o87 P) (N (o151 P) (N (o279 P) (N (o535 P) E E) E) (N (o407 P) E E)) (N (o215 P) (N (o343 P) (N (o599 P) E E) E) (N (o471 P) E E))) (N (o119 P) (N (o183 P) (N (o311 P) (N (o567 P) E E) E) (N (o439 P) E E)) (N (o247 P) (N (o375 P) E E) (N (o503 P) E E)))))) (N (o11 P) (N (o19 P) (N (o35 P) (N (o67 P) (N (o131 P) (N (o259 P) (N (o515 P) E E) E) (N (o387 P) E E)) (N (o195 P) (N (o323 P) (N (o579 P) E E) E) (N (o451 P) E E))) (N (o99 P) (N (o163 P) (N (o291 P) (N (o547 P) E E) E) (N (o419 P) E E)) (N (o227v6 P) (N (o355 P) E E) (N (o483 P) E E)))) (N (o51 P) (N (o83 P) (N (o147 P) (N (o275 P) (N (o531 P) E E) E) (N (o403 P) E E)) (N (o211 P) (N (o339 P) (N (o595 P) E E) E) (N (o467 P) E E))) (N (o115 P) (N (o179 P) (N (o307 P) (N (o563 P) E E) E) (N (o435 P) E E)) (N (o243 P) (N (o371 P) E E) (N (o499 P) E E))))) (N (o27 P) (N (o43 P) (N (o75 P) (N (o139 P) (N (o267 P) (N (o523 P) E E) E) (N (o395 P) E E)) (N (o203 P) (N (o331 P) (N (o587 P) E E) E) (N (o459 P) E E))) (N (o107 P) (N (o171 P) (N (o299 P) (N (o555 P) E E) E) (N (o427 P) E E)) (N (o235 P) (N (o363 P) E E) (N (o491 P) E E)))) (N (o59 P) (N (o91 P) (N (o155 P) (N (o283 P) (N (o539 P) E E) E) (N (o411 P) E E)) (N (o219 P) (N (o347 P) (N (o603 P) E E) E) (N (o475 P) E E))) (N (o123 P) (N (o187 P) (N (o315 P) (N (o571 P) E E) E) (N (o443 P) E E)) (N (o251 P) (N (o379 P) E E) (N (o507 P) E E))))))) (N (boot_o_5 P) (N (boot_o_9 P) (N (o17 P) (N (o33 P) (N (o65 P) (N (o129 P) (N (o257 P) (N (o513 P) E E) E) (N (o385 P) E E)) (N (o193 P) (N (o321 P) (N (o577 P) E E) E) (N (o449 P) E E))) (N (o97 P) (N (o161 P) (N (o289 P) (N (o545 P) E E) E) (N (o417 P) E E)) (N (o225 P) (N (o353 P) (N (o609 P) E E) E) (N (o481 P) E E)))) (N (o49 P) (N (o81 P) (N (o145 P) (N (o273 P) (N (o529 P) E E) E) (N (o401 P) E E)) (N (o209 P) (N (o337 P) (N (o593 P) E E) E) (N (o465 P) E E))) (N (o113 P) (N (o177 P) (N (o305 P) (N (o561 P) E E) E) (N (o433 P) E E)) (N (o241 P) (N (o369 P) E E) (N (o497 P) E E))))) (N (o25 P) (N (o41 P) (N (o73 P) (N (o137 P) (N (o265 P) (N (o521 P) E E) E) (N (o393 P) E E)) (N (o201 P) (N (o329 P) (N (o585 P) E E) E) (N (o457 P) E E))) (N (o105 P) (N (o169 P) (N (o297 P) (N (o553 P) E E) E) (N (o425 P) E E)) (N (o233 P) (N (o361 P) E E) (N (o489 P) E E)))) (N (o57 P) (N (o89 P) (N (o153 P) (N (o281 P) (N (o537 P) E E) E) (N (o409 P) E E)) (N (o217 P) (N (o345 P) (N (o601 P) E E) E) (N (o473 P) E E))) (N (o121 P) (N (o185 P) (N (o313 P) (N (o569 P) E E) E) (N (o441 P) E E)) (N (o249 P) (N (o377 P) E E) (N (o505 P) E E)))))) (N (o13 P) (N (o21 P) (N (o37 P) (N (o69 P) (N (o133 P) (N (o261 P) (N (o517 P) E E) E) (N (o389 P) E E)) (N (o197 P) (N (o325 P) (N (o581 P) E E) E) (N (o453 P) E E))) (N (o101 P) (N (o165 P) (N (o293 P) (N (o549 P) E E) E) (N (o421 P) E E)) (N (o229v1 P) (N (o357 P) E E) (N (o485 P) E E)))) (N (o53 P) (N (o85 P) (N (o149 P) (N (o277 P) (N (o533 P) E E) E) (N (o405 P) E E)) (N (o213 P) (N (o341 P) (N (o597 P) E E) E) (N (o469 P) E E))) (N (o117 P) (N (o181 P) (N (o309 P) (N (o565 P) E E) E) (N (o437 P) E E)) (N (o245 P) (N (o373 P) E E) (N (o501 P) E E))))) (N (o29 P) (N (o45 P) (N (o77 P) (N (o141 P) (N (o269 P) (N (o525 P) E E) E) (N (o397 P) E E)) (N (o205 P) (N (o333 P) (N (o589 P) E E) E) (N (o461 P) E E))) (N (o109 P) (N (o173 P) (N (o301 P) (N (o557 P) E E) E) (N (o429 P) E E)) (N (o237 P) (N (o365 P) E E) (N (o493 P) E E)))) (N (o61 P) (N (o93 P) (N (o157 P) (N (o285 P) (N (o541 P) E E) E) (N (o413 P) E E)) (N (o221 P) (N (o349 P) (N (o605 P) E E) E) (N (o477 P) E E))) (N (o125 P) (N (o189 P) (N (o317 P) (N (o573 P) E E) E) (N (o445 P) E E)) (N (o253 P) (N (o381 P) E E) (N (o509 P) E E)))))))) (N (boot_o_2 P) (N (boot_o_4 P) (N (boot_o_8 P) (N (o16 P) (N (o32 P) (N (o64 P) (N (o128 P) (N (o256 P) (N (o512 P) E E) E) (N (o384 P) E E)) (N (o192 P) (N (o320 P) (N (o576 P) E E) E) (N (o448 P) E E))) (N (o96 P) (N (o160 P) (N (o288 P) (N (o544 P) E E) E) (N (o416 P) E E)) (N (o224 P) (N (o352 P) (N (o608 P) E E) E) (N (o480 P) E E)))) (N (o48 P) (N (o80 P) (N (o144 P) (N (o272 P) (N (o528 P) E E) E) (N (o400 P) E E)) (N (o208 P) (N (o336 P) (N (o592 P) E E) E) (N (o464 P) E E))) (N (o112 P) (N (o176 P) (N (o304 P) (N (o560 P) E E) E) (N (o432 P) E E)) (N (o240 P) (N (o368 P) E E) (N (o496 P) E E))))) (N (o24 P) (N (o40 P) (N (o72 P) (N (o136 P) (N (o264 P) (N (o520 P) E E) E) (N (o392 P) E E)) (N (o200 P) (N (o328 P) (N (o584 P) E E) E) (N (o456 P) E E))) (N (o104 P) (N (o168 P) (N (o296 P) (N (o552 P) E E) E) (N (o424 P) E E)) (N (oset X) (N (o360 P) E E) (N (o488 P) E E)))) (N (o56 P) (N (o88 P) (N (o152 P) (N (o280 P) (N (o536 P) E E) E) (N (o408 P) E E)) (N (o216 P) (N (o344 P) (N (o600 P) E E) E) (N (o472 P) E E))) (N (o120 P) (N (o184 P) (N (o312 P) (N (o568 P) E E) E) (N (o440 P) E E)) (N (o248 P) (N (o376 P) E E) (N (o504 P) E E)))))) (N (o12v2 P) (N (o20 P) (N (o36 P) (N (o68 P) (N (o132 P) (N (o260 P) (N (o516 P) E E) E) (N (o388 P) E E)) (N (o196 P) (N (o324 P) (N (o580 P) E E) E) (N (o452 P) E E))) (N (o100 P) (N (o164 P) (N (o292 P) (N (o548 P) E E) E) (N (o420 P) E E)) (N (o228 P) (N (o356 P) E E) (N (o484 P) E E)))) (N (o52 P) (N (o84 P) (N (o148 P) (N (o276 P) (N (o532 P) E E) E) (N (o404 P) E E)) (N (o212 P) (N (o340 P) (N (o596 P) E E) E) (N (o468 P) E E))) (N (o116 P) (N (o180 P) (N (o308 P) (N (o564 P) E E) E) (N (o436 P) E E)) (N (o244 P) (N (o372 P) E E) (N (o500 P) E E))))) (N (o28 P) (N (o44 P) (N (o76 P) (N (o140 P) (N (o268 P) (N (o524 P) E E) E) (N (o396 P) E E)) (N (o204 P) (N (o332 P) (N (o588 P) E E) E) (N (o460 P) E E))) (N (o108 P) (N (o172 P) (N (o300 P) (N (o556 P) E E) E) (N (o428 P) E E)) (N (o236 P) (N (o364 P) E E) (N (o492 P) E E)))) (N (o60 P) (N (o92 P) (N (o156 P) (N (o284 P) (N (o540 P) E E) E) (N (o412 P) E E)) (N (o220 P) (N (o348 P) (N (o604 P) E E) E) (N (o476 P) E E))) (N (o124 P) (N (o188 P) (N (o316 P) (N (o572 P) E E) E) (N (o444 P) E E)) (N (o252 P) (N (o380 P) E E) (N (o508 P) E E))))))) (N (boot_o_6 P) (N (boot_o_10 P) (N (o18 P) (N (o34 P) (N (o66 P) (N (o130 P) (N (o258 P) (N (o514 P) E E) E) (N (o386 P) E E)) (N (o194 P) (N (o322 P) (N (o578 P) E E) E) (N (o450 P) E E))) (N (o98 P) (N (o162 P) (N (o290 P) (N (o546 P) E E) E) (N (o418 P) E E)) (N (o226 P) (N (o354 P) (N (o610 P) E E) E) (N (o482 P) E E)))) (N (o50 P) (N (o82 P) (N (o146 P) (N (o274 P) (N (o530 P) E E) E) (N (o402 P) E E)) (N (o210 P) (N (o338 P) (N (o594 P) E E) E) (N (o466 P) E E))) (N (o114 P) (N (o178 P) (N (o306 P) (N (o562 P) E E) E) (N (o434 P) E E)) (N (o242 P) (N (o370 P) E E) (N (o498 P) E E))))) (N (o26 P) (N (o42 P) (N (o74 P) (N (o138 P) (N (o266 P) (N (o522 P) E E) E) (N (o394 P) E E)) (N (o202 P) (N (o330 P) (N (o586 P) E E) E) (N (o458 P) E E))) (N (o106 P) (N (o170 P) (N (o298 P) (N (o554 P) E E) E) (N (o426 P) E E)) (N (o234 P) (N (o362 P) E E) (N (o490 P) E E)))) (N (o58 P) (N (o90 P) (N (o154 P) (N (o282 P) (N (o538 P) E E) E) (N (o410 P) E E)) (N (o218 P) (N (o346 P) (N (o602 P) E E) E) (N (o474 P) E E))) (N (o122 P) (N (o186 P) (N (o314 P) (N (o570 P) E E) E) (N (o442 P) E E)) (N (o250 P) (N (o378 P) E E) (N (o506 P) E E)))))) (N (o14 P) (N (o22 P) (N (o38 P) (N (o70 P) (N (o134 P) (N (o262 P) (N (o518 P) E E) E) (N (o390 P) E E)) (N (o198 P) (N (o326 P) (N (o582 P) E E) E) (N (o454 P) E E))) (N (o102 P) (N (o166 P) (N (o294 P) (N (o550 P) E E) E) (N (o422 P) E E)) (N (o230 P) (N (o358 P) E E) (N (o486 P) E E)))) (N (o54 P) (N (o86 P) (N (o150 P) (N (o278 P) (N (o534 P) E E) E) (N (o406 P) E E)) (N (o214 P) (N (o342 P) (N (o598 P) E E) E) (N (o470 P) E E))) (N (o118 P) (N (o182 P) (N (o310 P) (N (o566 P) E E) E) (N (o438 P) E E)) (N (o246 P) (N (o374 P) E E) (N (o502 P) E E))))) (N (o30 P) (N (o46 P) (N (o78 P) (N (o142 P) (N (o270 P) (N (o526 P) E E) E) (N (o398 P) E E)) (N (o206 P) (N (o334 P) (N (o590 P) E E) E) (N (o462 P) E E))) (N (o110 P) (N (o174 P) (N (o302 P) (N (o558 P) E E) E) (N (o430 P) E E)) (N (o238 P) (N (o366 P) E E) (N (o494 P) E E)))) (N (o62 P) (N (o94 P) (N (o158 P) (N (o286 P) (N (o542 P) E E) E) (N (o414 P) E E)) (N (o222 P) (N (o350 P) (N (o606 P) E E) E) (N (o478 P) E E))) (N (o126 P) (N (o190 P) (N (o318 P) (N (o574 P) E E) E) (N (o446 P) E E)) (N (o254 P) (N (o382 P) E E) (N (o510 P) E E)))))))))
noncomputable def St9 (w : World) (X : SetD) (os : OsState) : SharedT := ⟨T9 w.params X, 611, X.life, #[], drawn0, 2003, os⟩
abbrev ps9 : Pos := ⟨415, 4, 415, 7⟩
-- snapshot 9: depth 2, stack [body ⟨148, 0, 417, 167⟩, claim.caller ⟨0, 0, 0, 0⟩]; drawn 0 0 0 0; gens 0
noncomputable def o227v7 (P : Params) : Obj := ⟨(.type "dict"), none, (D P [((S "__module__"), 470, (.str (S "snowballstemmer.spanish_stemmer") 461)), ((S "__qualname__"), 472, (.str (S "SpanishStemmer") 471)), ((S "__firstlineno__"), 474, (.int (148) 473)), ((S "g_v"), 497, (.ref 232)), ((S "I_p2"), 499, (.int (0) 498)), ((S "I_p1"), 501, (.int (0) 500)), ((S "I_pV"), 503, (.int (0) 502)), ((S "r_mark_regions"), 510, (.ref 239)), ((S "r_postlude"), 517, (.ref 246)), ((S "r_RV"), 524, (.ref 253)), ((S "r_R2"), 531, (.ref 260)), ((S "r_attached_pronoun"), 539, (.ref 267)), ((S "r_standard_suffix"), 552, (.ref 274)), ((S "r_y_verb_suffix"), 560, (.ref 281)), ((S "r_verb_suffix"), 571, (.ref 288)), ((S "r_residual_suffix"), 581, (.ref 295)), ((S "_stem"), 588, (.ref 302)), ((S "a_0"), 668, (.ref 321)), ((S "a_1"), 860, (.ref 361)), ((S "a_2"), 1015, (.ref 395)), ((S "a_3"), 1075, (.ref 408)), ((S "a_4"), 1118, (.ref 418)), ((S "a_5"), 1161, (.ref 428)), ((S "a_6"), 1833, (.ref 573)), ((S "a_7"), 2002, (.ref 610)), ((S "a_8"), 3306, (.ref 899))] 26), #[]⟩
noncomputable def o611 (P : Params) : Obj := ⟨(.type "dict"), none, (D P [((S "s"), 2012, (.str (S "aba") 2003)), ((S "substring_i"), 2014, (.int (-1) 2005)), ((S "result"), 2016, (.int (2) 2006))] 3), #[]⟩
noncomputable def o612 (P : Params) : Obj := ⟨(.ref 220), some 611, .plain, #[]⟩
noncomputable def o613 (P : Params) : Obj := ⟨(.type "frame"), none, (D P [((S "self"), 2007, (.ref 612)), ((S "s"), 2008, (.str (S "aba") 2003)), ((S "substring_i"), 2009, (.int (-1) 2005)), ((S "result"), 2010, (.int (2) 2006))] 4), #[]⟩
noncomputable def o614 (P : Params) : Obj := ⟨(.type "dict"), none, (D P [((S "s"), 2026, (.str (S "ada") 2017)), ((S "substring_i"), 2028, (.int (-1) 2019)), ((S "result"), 2030, (.int (2) 2020))] 3), #[]⟩
noncomputable def o615 (P : Params) : Obj := ⟨(.ref 220), some 614, .plain, #[]⟩
noncomputable def o616 (P : Params) : Obj := ⟨(.type "frame"), none, (D P [((S "self"), 2021, (.ref 615)), ((S "s"), 2022, (.str (S "ada") 2017)), ((S "substring_i"), 2023, (.int (-1) 2019)), ((S "result"), 2024, (.int (2) 2020))] 4), #[]⟩
noncomputable def o617 (P : Params) : Obj := ⟨(.type "dict"), none, (D P [((S "s"), 2040, (.str (S "ida") 2031)), ((S "substring_i"), 2042, (.int (-1) 2033)), ((S "result"), 2044, (.int (2) 2034))] 3), #[]⟩
noncomputable def o618 (P : Params) : Obj := ⟨(.ref 220), some 617, .plain, #[]⟩
noncomputable def o619 (P : Params) : Obj := ⟨(.type "frame"), none, (D P [((S "self"), 2035, (.ref 618)), ((S "s"), 2036, (.str (S "ida") 2031)), ((S "substring_i"), 2037, (.int (-1) 2033)), ((S "result"), 2038, (.int (2) 2034))] 4), #[]⟩
noncomputable def o620 (P : Params) : Obj := ⟨(.type "dict"), none, (D P [((S "s"), 2054, (.str (S "ara") 2045)), ((S "substring_i"), 2056, (.int (-1) 2047)), ((S "result"), 2058, (.int (2) 2048))] 3), #[]⟩
noncomputable def o621 (P : Params) : Obj := ⟨(.ref 220), some 620, .plain, #[]⟩
noncomputable def o622 (P : Params) : Obj := ⟨(.type "frame"), none, (D P [((S "self"), 2049, (.ref 621)), ((S "s"), 2050, (.str (S "ara") 2045)), ((S "substring_i"), 2051, (.int (-1) 2047)), ((S "result"), 2052, (.int (2) 2048))] 4), #[]⟩
noncomputable def o623 (P : Params) : Obj := ⟨(.type "dict"), none, (D P [((S "s"), 2068, (.str (S "iera") 2059)), ((S "substring_i"), 2070, (.int (-1) 2061)), ((S "result"), 2072, (.int (2) 2062))] 3), #[]⟩
noncomputable def o624 (P : Params) : Obj := ⟨(.ref 220), some 623, .plain, #[]⟩
noncomputable def o625 (P : Params) : Obj := ⟨(.type "frame"), none, (D P [((S "self"), 2063, (.ref 624)), ((S "s"), 2064, (.str (S "iera") 2059)), ((S "substring_i"), 2065, (.int (-1) 2061)), ((S "result"), 2066, (.int (2) 2062))] 4), #[]⟩
noncomputable def o626 (P : Params) : Obj := ⟨(.type "dict"), none, (D P [((S "s"), 2082, (.str (S "ía") 2073)), ((S "substring_i"), 2084, (.int (-1) 2075)), ((S "result"), 2086, (.int (2) 2076))] 3), #[]⟩
noncomputable def o627 (P : Params) : Obj := ⟨(.ref 220), some 626, .plain, #[]⟩
noncomputable def o628 (P : Params) : Obj := ⟨(.type "frame"), none, (D P [((S "self"), 2077, (.ref 627)), ((S "s"), 2078, (.str (S "ía") 2073)), ((S "substring_i"), 2079, (.int (-1) 2075)), ((S "result"), 2080, (.int (2) 2076))] 4), #[]⟩
noncomputable def o629 (P : Params) : Obj := ⟨(.type "dict"), none, (D P [((S "s"), 2095, (.str (S "aría") 2087)), ((S "substring_i"), 2097, (.int (5) 2088)), ((S "result"), 2099, (.int (2) 2089))] 3), #[]⟩
noncomputable def o630 (P : Params) : Obj := ⟨(.ref 220), some 629, .plain, #[]⟩
noncomputable def o631 (P : Params) : Obj := ⟨(.type "frame"), none, (D P [((S "self"), 2090, (.ref 630)), ((S "s"), 2091, (.str (S "aría") 2087)), ((S "substring_i"), 2092, (.int (5) 2088)), ((S "result"), 2093, (.int (2) 2089))] 4), #[]⟩
noncomputable def o632 (P : Params) : Obj := ⟨(.type "dict"), none, (D P [((S "s"), 2108, (.str (S "ería") 2100)), ((S "substring_i"), 2110, (.int (5) 2101)), ((S "result"), 2112, (.int (2) 2102))] 3), #[]⟩
noncomputable def o633 (P : Params) : Obj := ⟨(.ref 220), some 632, .plain, #[]⟩
noncomputable def o634 (P : Params) : Obj := ⟨(.type "frame"), none, (D P [((S "self"), 2103, (.ref 633)), ((S "s"), 2104, (.str (S "ería") 2100)), ((S "substring_i"), 2105, (.int (5) 2101)), ((S "result"), 2106, (.int (2) 2102))] 4), #[]⟩
noncomputable def o635 (P : Params) : Obj := ⟨(.type "dict"), none, (D P [((S "s"), 2121, (.str (S "iría") 2113)), ((S "substring_i"), 2123, (.int (5) 2114)), ((S "result"), 2125, (.int (2) 2115))] 3), #[]⟩
noncomputable def o636 (P : Params) : Obj := ⟨(.ref 220), some 635, .plain, #[]⟩
noncomputable def o637 (P : Params) : Obj := ⟨(.type "frame"), none, (D P [((S "self"), 2116, (.ref 636)), ((S "s"), 2117, (.str (S "iría") 2113)), ((S "substring_i"), 2118, (.int (5) 2114)), ((S "result"), 2119, (.int (2) 2115))] 4), #[]⟩
noncomputable def o638 (P : Params) : Obj := ⟨(.type "dict"), none, (D P [((S "s"), 2135, (.str (S "ad") 2126)), ((S "substring_i"), 2137, (.int (-1) 2128)), ((S "result"), 2139, (.int (2) 2129))] 3), #[]⟩
noncomputable def o639 (P : Params) : Obj := ⟨(.ref 220), some 638, .plain, #[]⟩
noncomputable def o640 (P : Params) : Obj := ⟨(.type "frame"), none, (D P [((S "self"), 2130, (.ref 639)), ((S "s"), 2131, (.str (S "ad") 2126)), ((S "substring_i"), 2132, (.int (-1) 2128)), ((S "result"), 2133, (.int (2) 2129))] 4), #[]⟩
noncomputable def o641 (P : Params) : Obj := ⟨(.type "dict"), none, (D P [((S "s"), 2149, (.str (S "ed") 2140)), ((S "substring_i"), 2151, (.int (-1) 2142)), ((S "result"), 2153, (.int (2) 2143))] 3), #[]⟩
noncomputable def o642 (P : Params) : Obj := ⟨(.ref 220), some 641, .plain, #[]⟩
noncomputable def o643 (P : Params) : Obj := ⟨(.type "frame"), none, (D P [((S "self"), 2144, (.ref 642)), ((S "s"), 2145, (.str (S "ed") 2140)), ((S "substring_i"), 2146, (.int (-1) 2142)), ((S "result"), 2147, (.int (2) 2143))] 4), #[]⟩
noncomputable def o644 (P : Params) : Obj := ⟨(.type "dict"), none, (D P [((S "s"), 2163, (.str (S "id") 2154)), ((S "substring_i"), 2165, (.int (-1) 2156)), ((S "result"), 2167, (.int (2) 2157))] 3), #[]⟩
noncomputable def o645 (P : Params) : Obj := ⟨(.ref 220), some 644, .plain, #[]⟩
noncomputable def o646 (P : Params) : Obj := ⟨(.type "frame"), none, (D P [((S "self"), 2158, (.ref 645)), ((S "s"), 2159, (.str (S "id") 2154)), ((S "substring_i"), 2160, (.int (-1) 2156)), ((S "result"), 2161, (.int (2) 2157))] 4), #[]⟩
noncomputable def o647 (P : Params) : Obj := ⟨(.type "dict"), none, (D P [((S "s"), 2177, (.str (S "ase") 2168)), ((S "substring_i"), 2179, (.int (-1) 2170)), ((S "result"), 2181, (.int (2) 2171))] 3), #[]⟩
noncomputable def o648 (P : Params) : Obj := ⟨(.ref 220), some 647, .plain, #[]⟩
noncomputable def o649 (P : Params) : Obj := ⟨(.type "frame"), none, (D P [((S "self"), 2172, (.ref 648)), ((S "s"), 2173, (.str (S "ase") 2168)), ((S "substring_i"), 2174, (.int (-1) 2170)), ((S "result"), 2175, (.int (2) 2171))] 4), #[]⟩
noncomputable def o650 (P : Params) : Obj := ⟨(.type "dict"), none, (D P [((S "s"), 2191, (.str (S "iese") 2182)), ((S "substring_i"), 2193, (.int (-1) 2184)), ((S "result"), 2195, (.int (2) 2185))] 3), #[]⟩
noncomputable def o651 (P : Params) : Obj := ⟨(.ref 220), some 650, .plain, #[]⟩
noncomputable def o652 (P : Params) : Obj := ⟨(.type "frame"), none, (D P [((S "self"), 2186, (.ref 651)), ((S "s"), 2187, (.str (S "iese") 2182)), ((S "substring_i"), 2188, (.int (-1) 2184)), ((S "result"), 2189, (.int (2) 2185))] 4), #[]⟩
noncomputable def o653 (P : Params) : Obj := ⟨(.type "dict"), none, (D P [((S "s"), 2205, (.str (S "aste") 2196)), ((S "substring_i"), 2207, (.int (-1) 2198)), ((S "result"), 2209, (.int (2) 2199))] 3), #[]⟩
noncomputable def o654 (P : Params) : Obj := ⟨(.ref 220), some 653, .plain, #[]⟩
noncomputable def o655 (P : Params) : Obj := ⟨(.type "frame"), none, (D P [((S "self"), 2200, (.ref 654)), ((S "s"), 2201, (.str (S "aste") 2196)), ((S "substring_i"), 2202, (.int (-1) 2198)), ((S "result"), 2203, (.int (2) 2199))] 4), #[]⟩
noncomputable def o656 (P : Params) : Obj := ⟨(.type "dict"), none, (D P [((S "s"), 2219, (.str (S "iste") 2210)), ((S "substring_i"), 2221, (.int (-1) 2212)), ((S "result"), 2223, (.int (2) 2213))] 3), #[]⟩
noncomputable def o657 (P : Params) : Obj := ⟨(.ref 220), some 656, .plain, #[]⟩
noncomputable def o658 (P : Params) : Obj := ⟨(.type "frame"), none, (D P [((S "self"), 2214, (.ref 657)), ((S "s"), 2215, (.str (S "iste") 2210)), ((S "substring_i"), 2216, (.int (-1) 2212)), ((S "result"), 2217, (.int (2) 2213))] 4), #[]⟩
noncomputable def o659 (P : Params) : Obj := ⟨(.type "dict"), none, (D P [((S "s"), 2233, (.str (S "an") 2224)), ((S "substring_i"), 2235, (.int (-1) 2226)), ((S "result"), 2237, (.int (2) 2227))] 3), #[]⟩
noncomputable def o660 (P : Params) : Obj := ⟨(.ref 220), some 659, .plain, #[]⟩
noncomputable def o661 (P : Params) : Obj := ⟨(.type "frame"), none, (D P [((S "self"), 2228, (.ref 660)), ((S "s"), 2229, (.str (S "an") 2224)), ((S "substring_i"), 2230, (.int (-1) 2226)), ((S "result"), 2231, (.int (2) 2227))] 4), #[]⟩
noncomputable def o662 (P : Params) : Obj := ⟨(.type "dict"), none, (D P [((S "s"), 2246, (.str (S "aban") 2238)), ((S "substring_i"), 2248, (.int (16) 2239)), ((S "result"), 2250, (.int (2) 2240))] 3), #[]⟩
noncomputable def o663 (P : Params) : Obj := ⟨(.ref 220), some 662, .plain, #[]⟩
noncomputable def o664 (P : Params) : Obj := ⟨(.type "frame"), none, (D P [((S "self"), 2241, (.ref 663)), ((S "s"), 2242, (.str (S "aban") 2238)), ((S "substring_i"), 2243, (.int (16) 2239)), ((S "result"), 2244, (.int (2) 2240))] 4), #[]⟩
noncomputable def o665 (P : Params) : Obj := ⟨(.type "dict"), none, (D P [((S "s"), 2259, (.str (S "aran") 2251)), ((S "substring_i"), 2261, (.int (16) 2252)), ((S "result"), 2263, (.int (2) 2253))] 3), #[]⟩
noncomputable def o666 (P : Params) : Obj := ⟨(.ref 220), some 665, .plain, #[]⟩
noncomputable def o667 (P : Params) : Obj := ⟨(.type "frame"), none, (D P [((S "self"), 2254, (.ref 666)), ((S "s"), 2255, (.str (S "aran") 2251)), ((S "substring_i"), 2256, (.int (16) 2252)), ((S "result"), 2257, (.int (2) 2253))] 4), #[]⟩
noncomputable def o668 (P : Params) : Obj := ⟨(.type "dict"), none, (D P [((S "s"), 2272, (.str (S "ieran") 2264)), ((S "substring_i"), 2274, (.int (16) 2265)), ((S "result"), 2276, (.int (2) 2266))] 3), #[]⟩
noncomputable def o669 (P : Params) : Obj := ⟨(.ref 220), some 668, .plain, #[]⟩
noncomputable def o670 (P : Params) : Obj := ⟨(.type "frame"), none, (D P [((S "self"), 2267, (.ref 669)), ((S "s"), 2268, (.str (S "ieran") 2264)), ((S "substring_i"), 2269, (.int (16) 2265)), ((S "result"), 2270, (.int (2) 2266))] 4), #[]⟩
noncomputable def o671 (P : Params) : Obj := ⟨(.type "dict"), none, (D P [((S "s"), 2285, (.str (S "ían") 2277)), ((S "substring_i"), 2287, (.int (16) 2278)), ((S "result"), 2289, (.int (2) 2279))] 3), #[]⟩
noncomputable def o672 (P : Params) : Obj := ⟨(.ref 220), some 671, .plain, #[]⟩
noncomputable def o673 (P : Params) : Obj := ⟨(.type "frame"), none, (D P [((S "self"), 2280, (.ref 672)), ((S "s"), 2281, (.str (S "ían") 2277)), ((S "substring_i"), 2282, (.int (16) 2278)), ((S "result"), 2283, (.int (2) 2279))] 4), #[]⟩
noncomputable def o674 (P : Params) : Obj := ⟨(.type "dict"), none, (D P [((S "s"), 2298, (.str (S "arían") 2290)), ((S "substring_i"), 2300, (.int (20) 2291)), ((S "result"), 2302, (.int (2) 2292))] 3), #[]⟩
noncomputable def o675 (P : Params) : Obj := ⟨(.ref 220), some 674, .plain, #[]⟩
noncomputable def o676 (P : Params) : Obj := ⟨(.type "frame"), none, (D P [((S "self"), 2293, (.ref 675)), ((S "s"), 2294, (.str (S "arían") 2290)), ((S "substring_i"), 2295, (.int (20) 2291)), ((S "result"), 2296, (.int (2) 2292))] 4), #[]⟩
noncomputable def o677 (P : Params) : Obj := ⟨(.type "dict"), none, (D P [((S "s"), 2311, (.str (S "erían") 2303)), ((S "substring_i"), 2313, (.int (20) 2304)), ((S "result"), 2315, (.int (2) 2305))] 3), #[]⟩
noncomputable def o678 (P : Params) : Obj := ⟨(.ref 220), some 677, .plain, #[]⟩
noncomputable def o679 (P : Params) : Obj := ⟨(.type "frame"), none, (D P [((S "self"), 2306, (.ref 678)), ((S "s"), 2307, (.str (S "erían") 2303)), ((S "substring_i"), 2308, (.int (20) 2304)), ((S "result"), 2309, (.int (2) 2305))] 4), #[]⟩
noncomputable def o680 (P : Params) : Obj := ⟨(.type "dict"), none, (D P [((S "s"), 2324, (.str (S "irían") 2316)), ((S "substring_i"), 2326, (.int (20) 2317)), ((S "result"), 2328, (.int (2) 2318))] 3), #[]⟩
noncomputable def o681 (P : Params) : Obj := ⟨(.ref 220), some 680, .plain, #[]⟩
noncomputable def o682 (P : Params) : Obj := ⟨(.type "frame"), none, (D P [((S "self"), 2319, (.ref 681)), ((S "s"), 2320, (.str (S "irían") 2316)), ((S "substring_i"), 2321, (.int (20) 2317)), ((S "result"), 2322, (.int (2) 2318))] 4), #[]⟩
noncomputable def o683 (P : Params) : Obj := ⟨(.type "dict"), none, (D P [((S "s"), 2338, (.str (S "en") 2329)), ((S "substring_i"), 2340, (.int (-1) 2331)), ((S "result"), 2342, (.int (1) 2332))] 3), #[]⟩
noncomputable def o684 (P : Params) : Obj := ⟨(.ref 220), some 683, .plain, #[]⟩
noncomputable def o685 (P : Params) : Obj := ⟨(.type "frame"), none, (D P [((S "self"), 2333, (.ref 684)), ((S "s"), 2334, (.str (S "en") 2329)), ((S "substring_i"), 2335, (.int (-1) 2331)), ((S "result"), 2336, (.int (1) 2332))] 4), #[]⟩
noncomputable def o686 (P : Params) : Obj := ⟨(.type "dict"), none, (D P [((S "s"), 2351, (.str (S "asen") 2343)), ((S "substring_i"), 2353, (.int (24) 2344)), ((S "result"), 2355, (.int (2) 2345))] 3), #[]⟩
noncomputable def o687 (P : Params) : Obj := ⟨(.ref 220), some 686, .plain, #[]⟩
noncomputable def o688 (P : Params) : Obj := ⟨(.type "frame"), none, (D P [((S "self"), 2346, (.ref 687)), ((S "s"), 2347, (.str (S "asen") 2343)), ((S "substring_i"), 2348, (.int (24) 2344)), ((S "result"), 2349, (.int (2) 2345))] 4), #[]⟩
noncomputable def o689 (P : Params) : Obj := ⟨(.type "dict"), none, (D P [((S "s"), 2364, (.str (S "iesen") 2356)), ((S "substring_i"), 2366, (.int (24) 2357)), ((S "result"), 2368, (.int (2) 2358))] 3), #[]⟩
noncomputable def o690 (P : Params) : Obj := ⟨(.ref 220), some 689, .plain, #[]⟩
noncomputable def o691 (P : Params) : Obj := ⟨(.type "frame"), none, (D P [((S "self"), 2359, (.ref 690)), ((S "s"), 2360, (.str (S "iesen") 2356)), ((S "substring_i"), 2361, (.int (24) 2357)), ((S "result"), 2362, (.int (2) 2358))] 4), #[]⟩
noncomputable def o692 (P : Params) : Obj := ⟨(.type "dict"), none, (D P [((S "s"), 2378, (.str (S "aron") 2369)), ((S "substring_i"), 2380, (.int (-1) 2371)), ((S "result"), 2382, (.int (2) 2372))] 3), #[]⟩
noncomputable def o693 (P : Params) : Obj := ⟨(.ref 220), some 692, .plain, #[]⟩
noncomputable def o694 (P : Params) : Obj := ⟨(.type "frame"), none, (D P [((S "self"), 2373, (.ref 693)), ((S "s"), 2374, (.str (S "aron") 2369)), ((S "substring_i"), 2375, (.int (-1) 2371)), ((S "result"), 2376, (.int (2) 2372))] 4), #[]⟩
noncomputable def o695 (P : Params) : Obj := ⟨(.type "dict"), none, (D P [((S "s"), 2392, (.str (S "ieron") 2383)), ((S "substring_i"), 2394, (.int (-1) 2385)), ((S "result"), 2396, (.int (2) 2386))] 3), #[]⟩
noncomputable def o696 (P : Params) : Obj := ⟨(.ref 220), some 695, .plain, #[]⟩
noncomputable def o697 (P : Params) : Obj := ⟨(.type "frame"), none, (D P [((S "self"), 2387, (.ref 696)), ((S "s"), 2388, (.str (S "ieron") 2383)), ((S "substring_i"), 2389, (.int (-1) 2385)), ((S "result"), 2390, (.int (2) 2386))] 4), #[]⟩
noncomputable def o698 (P : Params) : Obj := ⟨(.type "dict"), none, (D P [((S "s"), 2406, (.str (S "arán") 2397)), ((S "substring_i"), 2408, (.int (-1) 2399)), ((S "result"), 2410, (.int (2) 2400))] 3), #[]⟩
noncomputable def o699 (P : Params) : Obj := ⟨(.ref 220), some 698, .plain, #[]⟩
noncomputable def o700 (P : Params) : Obj := ⟨(.type "frame"), none, (D P [((S "self"), 2401, (.ref 699)), ((S "s"), 2402, (.str (S "arán") 2397)), ((S "substring_i"), 2403, (.int (-1) 2399)), ((S "result"), 2404, (.int (2) 2400))] 4), #[]⟩
noncomputable def o701 (P : Params) : Obj := ⟨(.type "dict"), none, (D P [((S "s"), 2420, (.str (S "erán") 2411)), ((S "substring_i"), 2422, (.int (-1) 2413)), ((S "result"), 2424, (.int (2) 2414))] 3), #[]⟩
noncomputable def o702 (P : Params) : Obj := ⟨(.ref 220), some 701, .plain, #[]⟩
noncomputable def o703 (P : Params) : Obj := ⟨(.type "frame"), none, (D P [((S "self"), 2415, (.ref 702)), ((S "s"), 2416, (.str (S "erán") 2411)), ((S "substring_i"), 2417, (.int (-1) 2413)), ((S "result"), 2418, (.int (2) 2414))] 4), #[]⟩
noncomputable def o704 (P : Params) : Obj := ⟨(.type "dict"), none, (D P [((S "s"), 2434, (.str (S "irán") 2425)), ((S "substring_i"), 2436, (.int (-1) 2427)), ((S "result"), 2438, (.int (2) 2428))] 3), #[]⟩
noncomputable def o705 (P : Params) : Obj := ⟨(.ref 220), some 704, .plain, #[]⟩
noncomputable def o706 (P : Params) : Obj := ⟨(.type "frame"), none, (D P [((S "self"), 2429, (.ref 705)), ((S "s"), 2430, (.str (S "irán") 2425)), ((S "substring_i"), 2431, (.int (-1) 2427)), ((S "result"), 2432, (.int (2) 2428))] 4), #[]⟩
noncomputable def o707 (P : Params) : Obj := ⟨(.type "dict"), none, (D P [((S "s"), 2448, (.str (S "ado") 2439)), ((S "substring_i"), 2450, (.int (-1) 2441)), ((S "result"), 2452, (.int (2) 2442))] 3), #[]⟩
noncomputable def o708 (P : Params) : Obj := ⟨(.ref 220), some 707, .plain, #[]⟩
noncomputable def o709 (P : Params) : Obj := ⟨(.type "frame"), none, (D P [((S "self"), 2443, (.ref 708)), ((S "s"), 2444, (.str (S "ado") 2439)), ((S "substring_i"), 2445, (.int (-1) 2441)), ((S "result"), 2446, (.int (2) 2442))] 4), #[]⟩
noncomputable def o710 (P : Params) : Obj := ⟨(.type "dict"), none, (D P [((S "s"), 2462, (.str (S "ido") 2453)), ((S "substring_i"), 2464, (.int (-1) 2455)), ((S "result"), 2466, (.int (2) 2456))] 3), #[]⟩
noncomputable def o711 (P : Params) : Obj := ⟨(.ref 220), some 710, .plain, #[]⟩
noncomputable def o712 (P : Params) : Obj := ⟨(.type "frame"), none, (D P [((S "self"), 2457, (.ref 711)), ((S "s"), 2458, (.str (S "ido") 2453)), ((S "substring_i"), 2459, (.int (-1) 2455)), ((S "result"), 2460, (.int (2) 2456))] 4), #[]⟩
noncomputable def o713 (P : Params) : Obj := ⟨(.type "dict"), none, (D P [((S "s"), 2476, (.str (S "ando") 2467)), ((S "substring_i"), 2478, (.int (-1) 2469)), ((S "result"), 2480, (.int (2) 2470))] 3), #[]⟩
noncomputable def o714 (P : Params) : Obj := ⟨(.ref 220), some 713, .plain, #[]⟩
noncomputable def o715 (P : Params) : Obj := ⟨(.type "frame"), none, (D P [((S "self"), 2471, (.ref 714)), ((S "s"), 2472, (.str (S "ando") 2467)), ((S "substring_i"), 2473, (.int (-1) 2469)), ((S "result"), 2474, (.int (2) 2470))] 4), #[]⟩
noncomputable def o716 (P : Params) : Obj := ⟨(.type "dict"), none, (D P [((S "s"), 2490, (.str (S "iendo") 2481)), ((S "substring_i"), 2492, (.int (-1) 2483)), ((S "result"), 2494, (.int (2) 2484))] 3), #[]⟩
noncomputable def o717 (P : Params) : Obj := ⟨(.ref 220), some 716, .plain, #[]⟩
noncomputable def o718 (P : Params) : Obj := ⟨(.type "frame"), none, (D P [((S "self"), 2485, (.ref 717)), ((S "s"), 2486, (.str (S "iendo") 2481)), ((S "substring_i"), 2487, (.int (-1) 2483)), ((S "result"), 2488, (.int (2) 2484))] 4), #[]⟩
noncomputable def o719 (P : Params) : Obj := ⟨(.type "dict"), none, (D P [((S "s"), 2504, (.str (S "ar") 2495)), ((S "substring_i"), 2506, (.int (-1) 2497)), ((S "result"), 2508, (.int (2) 2498))] 3), #[]⟩
noncomputable def o720 (P : Params) : Obj := ⟨(.ref 220), some 719, .plain, #[]⟩
noncomputable def o721 (P : Params) : Obj := ⟨(.type "frame"), none, (D P [((S "self"), 2499, (.ref 720)), ((S "s"), 2500, (.str (S "ar") 2495)), ((S "substring_i"), 2501, (.int (-1) 2497)), ((S "result"), 2502, (.int (2) 2498))] 4), #[]⟩
noncomputable def o722 (P : Params) : Obj := ⟨(.type "dict"), none, (D P [((S "s"), 2518, (.str (S "er") 2509)), ((S "substring_i"), 2520, (.int (-1) 2511)), ((S "result"), 2522, (.int (2) 2512))] 3), #[]⟩
noncomputable def o723 (P : Params) : Obj := ⟨(.ref 220), some 722, .plain, #[]⟩
noncomputable def o724 (P : Params) : Obj := ⟨(.type "frame"), none, (D P [((S "self"), 2513, (.ref 723)), ((S "s"), 2514, (.str (S "er") 2509)), ((S "substring_i"), 2515, (.int (-1) 2511)), ((S "result"), 2516, (.int (2) 2512))] 4), #[]⟩
noncomputable def o725 (P : Params) : Obj := ⟨(.type "dict"), none, (D P [((S "s"), 2532, (.str (S "ir") 2523)), ((S "substring_i"), 2534, (.int (-1) 2525)), ((S "result"), 2536, (.int (2) 2526))] 3), #[]⟩
noncomputable def o726 (P : Params) : Obj := ⟨(.ref 220), some 725, .plain, #[]⟩
noncomputable def o727 (P : Params) : Obj := ⟨(.type "frame"), none, (D P [((S "self"), 2527, (.ref 726)), ((S "s"), 2528, (.str (S "ir") 2523)), ((S "substring_i"), 2529, (.int (-1) 2525)), ((S "result"), 2530, (.int (2) 2526))] 4), #[]⟩
noncomputable def o728 (P : Params) : Obj := ⟨(.type "dict"), none, (D P [((S "s"), 2546, (.str (S "as") 2537)), ((S "substring_i"), 2548, (.int (-1) 2539)), ((S "result"), 2550, (.int (2) 2540))] 3), #[]⟩
noncomputable def o729 (P : Params) : Obj := ⟨(.ref 220), some 728, .plain, #[]⟩
noncomputable def o730 (P : Params) : Obj := ⟨(.type "frame"), none, (D P [((S "self"), 2541, (.ref 729)), ((S "s"), 2542, (.str (S "as") 2537)), ((S "substring_i"), 2543, (.int (-1) 2539)), ((S "result"), 2544, (.int (2) 2540))] 4), #[]⟩
noncomputable def o731 (P : Params) : Obj := ⟨(.type "dict"), none, (D P [((S "s"), 2559, (.str (S "abas") 2551)), ((S "substring_i"), 2561, (.int (39) 2552)), ((S "result"), 2563, (.int (2) 2553))] 3), #[]⟩
noncomputable def o732 (P : Params) : Obj := ⟨(.ref 220), some 731, .plain, #[]⟩
noncomputable def o733 (P : Params) : Obj := ⟨(.type "frame"), none, (D P [((S "self"), 2554, (.ref 732)), ((S "s"), 2555, (.str (S "abas") 2551)), ((S "substring_i"), 2556, (.int (39) 2552)), ((S "result"), 2557, (.int (2) 2553))] 4), #[]⟩
noncomputable def o734 (P : Params) : Obj := ⟨(.type "dict"), none, (D P [((S "s"), 2572, (.str (S "adas") 2564)), ((S "substring_i"), 2574, (.int (39) 2565)), ((S "result"), 2576, (.int (2) 2566))] 3), #[]⟩
noncomputable def o735 (P : Params) : Obj := ⟨(.ref 220), some 734, .plain, #[]⟩
noncomputable def o736 (P : Params) : Obj := ⟨(.type "frame"), none, (D P [((S "self"), 2567, (.ref 735)), ((S "s"), 2568, (.str (S "adas") 2564)), ((S "substring_i"), 2569, (.int (39) 2565)), ((S "result"), 2570, (.int (2) 2566))] 4), #[]⟩
noncomputable def o737 (P : Params) : Obj := ⟨(.type "dict"), none, (D P [((S "s"), 2585, (.str (S "idas") 2577)), ((S "substring_i"), 2587, (.int (39) 2578)), ((S "result"), 2589, (.int (2) 2579))] 3), #[]⟩
noncomputable def o738 (P : Params) : Obj := ⟨(.ref 220), some 737, .plain, #[]⟩
noncomputable def o739 (P : Params) : Obj := ⟨(.type "frame"), none, (D P [((S "self"), 2580, (.ref 738)), ((S "s"), 2581, (.str (S "idas") 2577)), ((S "substring_i"), 2582, (.int (39) 2578)), ((S "result"), 2583, (.int (2) 2579))] 4), #[]⟩
noncomputable def o740 (P : Params) : Obj := ⟨(.type "dict"), none, (D P [((S "s"), 2598, (.str (S "aras") 2590)), ((S "substring_i"), 2600, (.int (39) 2591)), ((S "result"), 2602, (.int (2) 2592))] 3), #[]⟩
noncomputable def o741 (P : Params) : Obj := ⟨(.ref 220), some 740, .plain, #[]⟩
noncomputable def o742 (P : Params) : Obj := ⟨(.type "frame"), none, (D P [((S "self"), 2593, (.ref 741)), ((S "s"), 2594, (.str (S "aras") 2590)), ((S "substring_i"), 2595, (.int (39) 2591)), ((S "result"), 2596, (.int (2) 2592))] 4), #[]⟩
noncomputable def o743 (P : Params) : Obj := ⟨(.type "dict"), none, (D P [((S "s"), 2611, (.str (S "ieras") 2603)), ((S "substring_i"), 2613, (.int (39) 2604)), ((S "result"), 2615, (.int (2) 2605))] 3), #[]⟩
noncomputable def o744 (P : Params) : Obj := ⟨(.ref 220), some 743, .plain, #[]⟩
noncomputable def o745 (P : Params) : Obj := ⟨(.type "frame"), none, (D P [((S "self"), 2606, (.ref 744)), ((S "s"), 2607, (.str (S "ieras") 2603)), ((S "substring_i"), 2608, (.int (39) 2604)), ((S "result"), 2609, (.int (2) 2605))] 4), #[]⟩
noncomputable def o746 (P : Params) : Obj := ⟨(.type "dict"), none, (D P [((S "s"), 2624, (.str (S "ías") 2616)), ((S "substring_i"), 2626, (.int (39) 2617)), ((S "result"), 2628, (.int (2) 2618))] 3), #[]⟩
noncomputable def o747 (P : Params) : Obj := ⟨(.ref 220), some 746, .plain, #[]⟩
noncomputable def o748 (P : Params) : Obj := ⟨(.type "frame"), none, (D P [((S "self"), 2619, (.ref 747)), ((S "s"), 2620, (.str (S "ías") 2616)), ((S "substring_i"), 2621, (.int (39) 2617)), ((S "result"), 2622, (.int (2) 2618))] 4), #[]⟩
noncomputable def o749 (P : Params) : Obj := ⟨(.type "dict"), none, (D P [((S "s"), 2637, (.str (S "arías") 2629)), ((S "substring_i"), 2639, (.int (45) 2630)), ((S "result"), 2641, (.int (2) 2631))] 3), #[]⟩
noncomputable def o750 (P : Params) : Obj := ⟨(.ref 220), some 749, .plain, #[]⟩
noncomputable def o751 (P : Params) : Obj := ⟨(.type "frame"), none, (D P [((S "self"), 2632, (.ref 750)), ((S "s"), 2633, (.str (S "arías") 2629)), ((S "substring_i"), 2634, (.int (45) 2630)), ((S "result"), 2635, (.int (2) 2631))] 4), #[]⟩
noncomputable def o752 (P : Params) : Obj := ⟨(.type "dict"), none, (D P [((S "s"), 2650, (.str (S "erías") 2642)), ((S "substring_i"), 2652, (.int (45) 2643)), ((S "result"), 2654, (.int (2) 2644))] 3), #[]⟩
noncomputable def o753 (P : Params) : Obj := ⟨(.ref 220), some 752, .plain, #[]⟩
noncomputable def o754 (P : Params) : Obj := ⟨(.type "frame"), none, (D P [((S "self"), 2645, (.ref 753)), ((S "s"), 2646, (.str (S "erías") 2642)), ((S "substring_i"), 2647, (.int (45) 2643)), ((S "result"), 2648, (.int (2) 2644))] 4), #[]⟩
noncomputable def o755 (P : Params) : Obj := ⟨(.type "dict"), none, (D P [((S "s"), 2663, (.str (S "irías") 2655)), ((S "substring_i"), 2665, (.int (45) 2656)), ((S "result"), 2667, (.int (2) 2657))] 3), #[]⟩
noncomputable def o756 (P : Params) : Obj := ⟨(.ref 220), some 755, .plain, #[]⟩
noncomputable def o757 (P : Params) : Obj := ⟨(.type "frame"), none, (D P [((S "self"), 2658, (.ref 756)), ((S "s"), 2659, (.str (S "irías") 2655)), ((S "substring_i"), 2660, (.int (45) 2656)), ((S "result"), 2661, (.int (2) 2657))] 4), #[]⟩
noncomputable def o758 (P : Params) : Obj := ⟨(.type "dict"), none, (D P [((S "s"), 2677, (.str (S "es") 2668)), ((S "substring_i"), 2679, (.int (-1) 2670)), ((S "result"), 2681, (.int (1) 2671))] 3), #[]⟩
noncomputable def o759 (P : Params) : Obj := ⟨(.ref 220), some 758, .plain, #[]⟩
noncomputable def o760 (P : Params) : Obj := ⟨(.type "frame"), none, (D P [((S "self"), 2672, (.ref 759)), ((S "s"), 2673, (.str (S "es") 2668)), ((S "substring_i"), 2674, (.int (-1) 2670)), ((S "result"), 2675, (.int (1) 2671))] 4), #[]⟩
noncomputable def o761 (P : Params) : Obj := ⟨(.type "dict"), none, (D P [((S "s"), 2690, (.str (S "ases") 2682)), ((S "substring_i"), 2692, (.int (49) 2683)), ((S "result"), 2694, (.int (2) 2684))] 3), #[]⟩
noncomputable def o762 (P : Params) : Obj := ⟨(.ref 220), some 761, .plain, #[]⟩
noncomputable def o763 (P : Params) : Obj := ⟨(.type "frame"), none, (D P [((S "self"), 2685, (.ref 762)), ((S "s"), 2686, (.str (S "ases") 2682)), ((S "substring_i"), 2687, (.int (49) 2683)), ((S "result"), 2688, (.int (2) 2684))] 4), #[]⟩
noncomputable def o764 (P : Params) : Obj := ⟨(.type "dict"), none, (D P [((S "s"), 2703, (.str (S "ieses") 2695)), ((S "substring_i"), 2705, (.int (49) 2696)), ((S "result"), 2707, (.int (2) 2697))] 3), #[]⟩
noncomputable def o765 (P : Params) : Obj := ⟨(.ref 220), some 764, .plain, #[]⟩
noncomputable def o766 (P : Params) : Obj := ⟨(.type "frame"), none, (D P [((S "self"), 2698, (.ref 765)), ((S "s"), 2699, (.str (S "ieses") 2695)), ((S "substring_i"), 2700, (.int (49) 2696)), ((S "result"), 2701, (.int (2) 2697))] 4), #[]⟩
noncomputable def o767 (P : Params) : Obj := ⟨(.type "dict"), none, (D P [((S "s"), 2717, (.str (S "abais") 2708)), ((S "substring_i"), 2719, (.int (-1) 2710)), ((S "result"), 2721, (.int (2) 2711))] 3), #[]⟩
noncomputable def o768 (P : Params) : Obj := ⟨(.ref 220), some 767, .plain, #[]⟩
noncomputable def o769 (P : Params) : Obj := ⟨(.type "frame"), none, (D P [((S "self"), 2712, (.ref 768)), ((S "s"), 2713, (.str (S "abais") 2708)), ((S "substring_i"), 2714, (.int (-1) 2710)), ((S "result"), 2715, (.int (2) 2711))] 4), #[]⟩
noncomputable def o770 (P : Params) : Obj := ⟨(.type "dict"), none, (D P [((S "s"), 2731, (.str (S "arais") 2722)), ((S "substring_i"), 2733, (.int (-1) 2724)), ((S "result"), 2735, (.int (2) 2725))] 3), #[]⟩
noncomputable def o771 (P : Params) : Obj := ⟨(.ref 220), some 770, .plain, #[]⟩
noncomputable def o772 (P : Params) : Obj := ⟨(.type "frame"), none, (D P [((S "self"), 2726, (.ref 771)), ((S "s"), 2727, (.str (S "arais") 2722)), ((S "substring_i"), 2728, (.int (-1) 2724)), ((S "result"), 2729, (.int (2) 2725))] 4), #[]⟩
noncomputable def o773 (P : Params) : Obj := ⟨(.type "dict"), none, (D P [((S "s"), 2745, (.str (S "ierais") 2736)), ((S "substring_i"), 2747, (.int (-1) 2738)), ((S "result"), 2749, (.int (2) 2739))] 3), #[]⟩
noncomputable def o774 (P : Params) : Obj := ⟨(.ref 220), some 773, .plain, #[]⟩
noncomputable def o775 (P : Params) : Obj := ⟨(.type "frame"), none, (D P [((S "self"), 2740, (.ref 774)), ((S "s"), 2741, (.str (S "ierais") 2736)), ((S "substring_i"), 2742, (.int (-1) 2738)), ((S "result"), 2743, (.int (2) 2739))] 4), #[]⟩
noncomputable def o776 (P : Params) : Obj := ⟨(.type "dict"), none, (D P [((S "s"), 2759, (.str (S "íais") 2750)), ((S "substring_i"), 2761, (.int (-1) 2752)), ((S "result"), 2763, (.int (2) 2753))] 3), #[]⟩
noncomputable def o777 (P : Params) : Obj := ⟨(.ref 220), some 776, .plain, #[]⟩
noncomputable def o778 (P : Params) : Obj := ⟨(.type "frame"), none, (D P [((S "self"), 2754, (.ref 777)), ((S "s"), 2755, (.str (S "íais") 2750)), ((S "substring_i"), 2756, (.int (-1) 2752)), ((S "result"), 2757, (.int (2) 2753))] 4), #[]⟩
noncomputable def o779 (P : Params) : Obj := ⟨(.type "dict"), none, (D P [((S "s"), 2772, (.str (S "aríais") 2764)), ((S "substring_i"), 2774, (.int (55) 2765)), ((S "result"), 2776, (.int (2) 2766))] 3), #[]⟩
noncomputable def o780 (P : Params) : Obj := ⟨(.ref 220), some 779, .plain, #[]⟩
noncomputable def o781 (P : Params) : Obj := ⟨(.type "frame"), none, (D P [((S "self"), 2767, (.ref 780)), ((S "s"), 2768, (.str (S "aríais") 2764)), ((S "substring_i"), 2769, (.int (55) 2765)), ((S "result"), 2770, (.int (2) 2766))] 4), #[]⟩
noncomputable def o782 (P : Params) : Obj := ⟨(.type "dict"), none, (D P [((S "s"), 2785, (.str (S "eríais") 2777)), ((S "substring_i"), 2787, (.int (55) 2778)), ((S "result"), 2789, (.int (2) 2779))] 3), #[]⟩
noncomputable def o783 (P : Params) : Obj := ⟨(.ref 220), some 782, .plain, #[]⟩
noncomputable def o784 (P : Params) : Obj := ⟨(.type "frame"), none, (D P [((S "self"), 2780, (.ref 783)), ((S "s"), 2781, (.str (S "eríais") 2777)), ((S "substring_i"), 2782, (.int (55) 2778)), ((S "result"), 2783, (.int (2) 2779))] 4), #[]⟩
noncomputable def o785 (P : Params) : Obj := ⟨(.type "dict"), none, (D P [((S "s"), 2798, (.str (S "iríais") 2790)), ((S "substring_i"), 2800, (.int (55) 2791)), ((S "result"), 2802, (.int (2) 2792))] 3), #[]⟩
noncomputable def o786 (P : Params) : Obj := ⟨(.ref 220), some 785, .plain, #[]⟩
noncomputable def o787 (P : Params) : Obj := ⟨(.type "frame"), none, (D P [((S "self"), 2793, (.ref 786)), ((S "s"), 2794, (.str (S "iríais") 2790)), ((S "substring_i"), 2795, (.int (55) 2791)), ((S "result"), 2796, (.int (2) 2792))] 4), #[]⟩
noncomputable def o788 (P : Params) : Obj := ⟨(.type "dict"), none, (D P [((S "s"), 2812, (.str (S "aseis") 2803)), ((S "substring_i"), 2814, (.int (-1) 2805)), ((S "result"), 2816, (.int (2) 2806))] 3), #[]⟩
noncomputable def o789 (P : Params) : Obj := ⟨(.ref 220), some 788, .plain, #[]⟩
noncomputable def o790 (P : Params) : Obj := ⟨(.type "frame"), none, (D P [((S "self"), 2807, (.ref 789)), ((S "s"), 2808, (.str (S "aseis") 2803)), ((S "substring_i"), 2809, (.int (-1) 2805)), ((S "result"), 2810, (.int (2) 2806))] 4), #[]⟩
noncomputable def o791 (P : Params) : Obj := ⟨(.type "dict"), none, (D P [((S "s"), 2826, (.str (S "ieseis") 2817)), ((S "substring_i"), 2828, (.int (-1) 2819)), ((S "result"), 2830, (.int (2) 2820))] 3), #[]⟩
noncomputable def o792 (P : Params) : Obj := ⟨(.ref 220), some 791, .plain, #[]⟩
noncomputable def o793 (P : Params) : Obj := ⟨(.type "frame"), none, (D P [((S "self"), 2821, (.ref 792)), ((S "s"), 2822, (.str (S "ieseis") 2817)), ((S "substring_i"), 2823, (.int (-1) 2819)), ((S "result"), 2824, (.int (2) 2820))] 4), #[]⟩
noncomputable def o794 (P : Params) : Obj := ⟨(.type "dict"), none, (D P [((S "s"), 2840, (.str (S "asteis") 2831)), ((S "substring_i"), 2842, (.int (-1) 2833)), ((S "result"), 2844, (.int (2) 2834))] 3), #[]⟩
noncomputable def o795 (P : Params) : Obj := ⟨(.ref 220), some 794, .plain, #[]⟩
noncomputable def o796 (P : Params) : Obj := ⟨(.type "frame"), none, (D P [((S "self"), 2835, (.ref 795)), ((S "s"), 2836, (.str (S "asteis") 2831)), ((S "substring_i"), 2837, (.int (-1) 2833)), ((S "result"), 2838, (.int (2) 2834))] 4), #[]⟩
noncomputable def o797 (P : Params) : Obj := ⟨(.type "dict"), none, (D P [((S "s"), 2854, (.str (S "isteis") 2845)), ((S "substring_i"), 2856, (.int (-1) 2847)), ((S "result"), 2858, (.int (2) 2848))] 3), #[]⟩
noncomputable def o798 (P : Params) : Obj := ⟨(.ref 220), some 797, .plain, #[]⟩
noncomputable def o799 (P : Params) : Obj := ⟨(.type "frame"), none, (D P [((S "self"), 2849, (.ref 798)), ((S "s"), 2850, (.str (S "isteis") 2845)), ((S "substring_i"), 2851, (.int (-1) 2847)), ((S "result"), 2852, (.int (2) 2848))] 4), #[]⟩
noncomputable def o800 (P : Params) : Obj := ⟨(.type "dict"), none, (D P [((S "s"), 2868, (.str (S "áis") 2859)), ((S "substring_i"), 2870, (.int (-1) 2861)), ((S "result"), 2872, (.int (2) 2862))] 3), #[]⟩
noncomputable def o801 (P : Params) : Obj := ⟨(.ref 220), some 800, .plain, #[]⟩
noncomputable def o802 (P : Params) : Obj := ⟨(.type "frame"), none, (D P [((S "self"), 2863, (.ref 801)), ((S "s"), 2864, (.str (S "áis") 2859)), ((S "substring_i"), 2865, (.int (-1) 2861)), ((S "result"), 2866, (.int (2) 2862))] 4), #[]⟩
noncomputable def o803 (P : Params) : Obj := ⟨(.type "dict"), none, (D P [((S "s"), 2882, (.str (S "éis") 2873)), ((S "substring_i"), 2884, (.int (-1) 2875)), ((S "result"), 2886, (.int (1) 2876))] 3), #[]⟩
noncomputable def o804 (P : Params) : Obj := ⟨(.ref 220), some 803, .plain, #[]⟩
noncomputable def o805 (P : Params) : Obj := ⟨(.type "frame"), none, (D P [((S "self"), 2877, (.ref 804)), ((S "s"), 2878, (.str (S "éis") 2873)), ((S "substring_i"), 2879, (.int (-1) 2875)), ((S "result"), 2880, (.int (1) 2876))] 4), #[]⟩
noncomputable def o806 (P : Params) : Obj := ⟨(.type "dict"), none, (D P [((S "s"), 2895, (.str (S "aréis") 2887)), ((S "substring_i"), 2897, (.int (64) 2888)), ((S "result"), 2899, (.int (2) 2889))] 3), #[]⟩
noncomputable def o807 (P : Params) : Obj := ⟨(.ref 220), some 806, .plain, #[]⟩
noncomputable def o808 (P : Params) : Obj := ⟨(.type "frame"), none, (D P [((S "self"), 2890, (.ref 807)), ((S "s"), 2891, (.str (S "aréis") 2887)), ((S "substring_i"), 2892, (.int (64) 2888)), ((S "result"), 2893, (.int (2) 2889))] 4), #[]⟩
noncomputable def o809 (P : Params) : Obj := ⟨(.type "dict"), none, (D P [((S "s"), 2908, (.str (S "eréis") 2900)), ((S "substring_i"), 2910, (.int (64) 2901)), ((S "result"), 2912, (.int (2) 2902))] 3), #[]⟩
noncomputable def o810 (P : Params) : Obj := ⟨(.ref 220), some 809, .plain, #[]⟩
noncomputable def o811 (P : Params) : Obj := ⟨(.type "frame"), none, (D P [((S "self"), 2903, (.ref 810)), ((S "s"), 2904, (.str (S "eréis") 2900)), ((S "substring_i"), 2905, (.int (64) 2901)), ((S "result"), 2906, (.int (2) 2902))] 4), #[]⟩
noncomputable def o812 (P : Params) : Obj := ⟨(.type "dict"), none, (D P [((S "s"), 2921, (.str (S "iréis") 2913)), ((S "substring_i"), 2923, (.int (64) 2914)), ((S "result"), 2925, (.int (2) 2915))] 3), #[]⟩
noncomputable def o813 (P : Params) : Obj := ⟨(.ref 220), some 812, .plain, #[]⟩
noncomputable def o814 (P : Params) : Obj := ⟨(.type "frame"), none, (D P [((S "self"), 2916, (.ref 813)), ((S "s"), 2917, (.str (S "iréis") 2913)), ((S "substring_i"), 2918, (.int (64) 2914)), ((S "result"), 2919, (.int (2) 2915))] 4), #[]⟩
noncomputable def o815 (P : Params) : Obj := ⟨(.type "dict"), none, (D P [((S "s"), 2935, (.str (S "ados") 2926)), ((S "substring_i"), 2937, (.int (-1) 2928)), ((S "result"), 2939, (.int (2) 2929))] 3), #[]⟩
noncomputable def o816 (P : Params) : Obj := ⟨(.ref 220), some 815, .plain, #[]⟩
noncomputable def o817 (P : Params) : Obj := ⟨(.type "frame"), none, (D P [((S "self"), 2930, (.ref 816)), ((S "s"), 2931, (.str (S "ados") 2926)), ((S "substring_i"), 2932, (.int (-1) 2928)), ((S "result"), 2933, (.int (2) 2929))] 4), #[]⟩
noncomputable def o818 (P : Params) : Obj := ⟨(.type "dict"), none, (D P [((S "s"), 2949, (.str (S "idos") 2940)), ((S "substring_i"), 2951, (.int (-1) 2942)), ((S "result"), 2953, (.int (2) 2943))] 3), #[]⟩
noncomputable def o819 (P : Params) : Obj := ⟨(.ref 220), some 818, .plain, #[]⟩
noncomputable def o820 (P : Params) : Obj := ⟨(.type "frame"), none, (D P [((S "self"), 2944, (.ref 819)), ((S "s"), 2945, (.str (S "idos") 2940)), ((S "substring_i"), 2946, (.int (-1) 2942)), ((S "result"), 2947, (.int (2) 2943))] 4), #[]⟩
noncomputable def o821 (P : Params) : Obj := ⟨(.type "dict"), none, (D P [((S "s"), 2963, (.str (S "amos") 2954)), ((S "substring_i"), 2965, (.int (-1) 2956)), ((S "result"), 2967, (.int (2) 2957))] 3), #[]⟩
noncomputable def o822 (P : Params) : Obj := ⟨(.ref 220), some 821, .plain, #[]⟩
noncomputable def o823 (P : Params) : Obj := ⟨(.type "frame"), none, (D P [((S "self"), 2958, (.ref 822)), ((S "s"), 2959, (.str (S "amos") 2954)), ((S "substring_i"), 2960, (.int (-1) 2956)), ((S "result"), 2961, (.int (2) 2957))] 4), #[]⟩
noncomputable def o824 (P : Params) : Obj := ⟨(.type "dict"), none, (D P [((S "s"), 2976, (.str (S "ábamos") 2968)), ((S "substring_i"), 2978, (.int (70) 2969)), ((S "result"), 2980, (.int (2) 2970))] 3), #[]⟩
noncomputable def o825 (P : Params) : Obj := ⟨(.ref 220), some 824, .plain, #[]⟩
noncomputable def o826 (P : Params) : Obj := ⟨(.type "frame"), none, (D P [((S "self"), 2971, (.ref 825)), ((S "s"), 2972, (.str (S "ábamos") 2968)), ((S "substring_i"), 2973, (.int (70) 2969)), ((S "result"), 2974, (.int (2) 2970))] 4), #[]⟩
noncomputable def o827 (P : Params) : Obj := ⟨(.type "dict"), none, (D P [((S "s"), 2989, (.str (S "áramos") 2981)), ((S "substring_i"), 2991, (.int (70) 2982)), ((S "result"), 2993, (.int (2) 2983))] 3), #[]⟩
noncomputable def o828 (P : Params) : Obj := ⟨(.ref 220), some 827, .plain, #[]⟩
noncomputable def o829 (P : Params) : Obj := ⟨(.type "frame"), none, (D P [((S "self"), 2984, (.ref 828)), ((S "s"), 2985, (.str (S "áramos") 2981)), ((S "substring_i"), 2986, (.int (70) 2982)), ((S "result"), 2987, (.int (2) 2983))] 4), #[]⟩
noncomputable def o830 (P : Params) : Obj := ⟨(.type "dict"), none, (D P [((S "s"), 3002, (.str (S "iéramos") 2994)), ((S "substring_i"), 3004, (.int (70) 2995)), ((S "result"), 3006, (.int (2) 2996))] 3), #[]⟩
noncomputable def o831 (P : Params) : Obj := ⟨(.ref 220), some 830, .plain, #[]⟩
noncomputable def o832 (P : Params) : Obj := ⟨(.type "frame"), none, (D P [((S "self"), 2997, (.ref 831)), ((S "s"), 2998, (.str (S "iéramos") 2994)), ((S "substring_i"), 2999, (.int (70) 2995)), ((S "result"), 3000, (.int (2) 2996))] 4), #[]⟩
noncomputable def o833 (P : Params) : Obj := ⟨(.type "dict"), none, (D P [((S "s"), 3015, (.str (S "íamos") 3007)), ((S "substring_i"), 3017, (.int (70) 3008)), ((S "result"), 3019, (.int (2) 3009))] 3), #[]⟩
noncomputable def o834 (P : Params) : Obj := ⟨(.ref 220), some 833, .plain, #[]⟩
noncomputable def o835 (P : Params) : Obj := ⟨(.type "frame"), none, (D P [((S "self"), 3010, (.ref 834)), ((S "s"), 3011, (.str (S "íamos") 3007)), ((S "substring_i"), 3012, (.int (70) 3008)), ((S "result"), 3013, (.int (2) 3009))] 4), #[]⟩
noncomputable def o836 (P : Params) : Obj := ⟨(.type "dict"), none, (D P [((S "s"), 3028, (.str (S "aríamos") 3020)), ((S "substring_i"), 3030, (.int (74) 3021)), ((S "result"), 3032, (.int (2) 3022))] 3), #[]⟩
noncomputable def o837 (P : Params) : Obj := ⟨(.ref 220), some 836, .plain, #[]⟩
noncomputable def o838 (P : Params) : Obj := ⟨(.type "frame"), none, (D P [((S "self"), 3023, (.ref 837)), ((S "s"), 3024, (.str (S "aríamos") 3020)), ((S "substring_i"), 3025, (.int (74) 3021)), ((S "result"), 3026, (.int (2) 3022))] 4), #[]⟩
noncomputable def o839 (P : Params) : Obj := ⟨(.type "dict"), none, (D P [((S "s"), 3041, (.str (S "eríamos") 3033)), ((S "substring_i"), 3043, (.int (74) 3034)), ((S "result"), 3045, (.int (2) 3035))] 3), #[]⟩
noncomputable def o840 (P : Params) : Obj := ⟨(.ref 220), some 839, .plain, #[]⟩
noncomputable def o841 (P : Params) : Obj := ⟨(.type "frame"), none, (D P [((S "self"), 3036, (.ref 840)), ((S "s"), 3037, (.str (S "eríamos") 3033)), ((S "substring_i"), 3038, (.int (74) 3034)), ((S "result"), 3039, (.int (2) 3035))] 4), #[]⟩
noncomputable def o842 (P : Params) : Obj := ⟨(.type "dict"), none, (D P [((S "s"), 3054, (.str (S "iríamos") 3046)), ((S "substring_i"), 3056, (.int (74) 3047)), ((S "result"), 3058, (.int (2) 3048))] 3), #[]⟩
noncomputable def o843 (P : Params) : Obj := ⟨(.ref 220), some 842, .plain, #[]⟩
noncomputable def o844 (P : Params) : Obj := ⟨(.type "frame"), none, (D P [((S "self"), 3049, (.ref 843)), ((S "s"), 3050, (.str (S "iríamos") 3046)), ((S "substring_i"), 3051, (.int (74) 3047)), ((S "result"), 3052, (.int (2) 3048))] 4), #[]⟩
noncomputable def o845 (P : Params) : Obj := ⟨(.type "dict"), none, (D P [((S "s"), 3068, (.str (S "emos") 3059)), ((S "substring_i"), 3070, (.int (-1) 3061)), ((S "result"), 3072, (.int (1) 3062))] 3), #[]⟩
noncomputable def o846 (P : Params) : Obj := ⟨(.ref 220), some 845, .plain, #[]⟩
noncomputable def o847 (P : Params) : Obj := ⟨(.type "frame"), none, (D P [((S "self"), 3063, (.ref 846)), ((S "s"), 3064, (.str (S "emos") 3059)), ((S "substring_i"), 3065, (.int (-1) 3061)), ((S "result"), 3066, (.int (1) 3062))] 4), #[]⟩
noncomputable def o848 (P : Params) : Obj := ⟨(.type "dict"), none, (D P [((S "s"), 3081, (.str (S "aremos") 3073)), ((S "substring_i"), 3083, (.int (78) 3074)), ((S "result"), 3085, (.int (2) 3075))] 3), #[]⟩
noncomputable def o849 (P : Params) : Obj := ⟨(.ref 220), some 848, .plain, #[]⟩
noncomputable def o850 (P : Params) : Obj := ⟨(.type "frame"), none, (D P [((S "self"), 3076, (.ref 849)), ((S "s"), 3077, (.str (S "aremos") 3073)), ((S "substring_i"), 3078, (.int (78) 3074)), ((S "result"), 3079, (.int (2) 3075))] 4), #[]⟩
noncomputable def o851 (P : Params) : Obj := ⟨(.type "dict"), none, (D P [((S "s"), 3094, (.str (S "eremos") 3086)), ((S "substring_i"), 3096, (.int (78) 3087)), ((S "result"), 3098, (.int (2) 3088))] 3), #[]⟩
noncomputable def o852 (P : Params) : Obj := ⟨(.ref 220), some 851, .plain, #[]⟩
noncomputable def o853 (P : Params) : Obj := ⟨(.type "frame"), none, (D P [((S "self"), 3089, (.ref 852)), ((S "s"), 3090, (.str (S "eremos") 3086)), ((S "substring_i"), 3091, (.int (78) 3087)), ((S "result"), 3092, (.int (2) 3088))] 4), #[]⟩
noncomputable def o854 (P : Params) : Obj := ⟨(.type "dict"), none, (D P [((S "s"), 3107, (.str (S "iremos") 3099)), ((S "substring_i"), 3109, (.int (78) 3100)), ((S "result"), 3111, (.int (2) 3101))] 3), #[]⟩
noncomputable def o855 (P : Params) : Obj := ⟨(.ref 220), some 854, .plain, #[]⟩
noncomputable def o856 (P : Params) : Obj := ⟨(.type "frame"), none, (D P [((S "self"), 3102, (.ref 855)), ((S "s"), 3103, (.str (S "iremos") 3099)), ((S "substring_i"), 3104, (.int (78) 3100)), ((S "result"), 3105, (.int (2) 3101))] 4), #[]⟩
noncomputable def o857 (P : Params) : Obj := ⟨(.type "dict"), none, (D P [((S "s"), 3120, (.str (S "ásemos") 3112)), ((S "substring_i"), 3122, (.int (78) 3113)), ((S "result"), 3124, (.int (2) 3114))] 3), #[]⟩
noncomputable def o858 (P : Params) : Obj := ⟨(.ref 220), some 857, .plain, #[]⟩
noncomputable def o859 (P : Params) : Obj := ⟨(.type "frame"), none, (D P [((S "self"), 3115, (.ref 858)), ((S "s"), 3116, (.str (S "ásemos") 3112)), ((S "substring_i"), 3117, (.int (78) 3113)), ((S "result"), 3118, (.int (2) 3114))] 4), #[]⟩
noncomputable def o860 (P : Params) : Obj := ⟨(.type "dict"), none, (D P [((S "s"), 3133, (.str (S "iésemos") 3125)), ((S "substring_i"), 3135, (.int (78) 3126)), ((S "result"), 3137, (.int (2) 3127))] 3), #[]⟩
noncomputable def o861 (P : Params) : Obj := ⟨(.ref 220), some 860, .plain, #[]⟩
noncomputable def o862 (P : Params) : Obj := ⟨(.type "frame"), none, (D P [((S "self"), 3128, (.ref 861)), ((S "s"), 3129, (.str (S "iésemos") 3125)), ((S "substring_i"), 3130, (.int (78) 3126)), ((S "result"), 3131, (.int (2) 3127))] 4), #[]⟩
noncomputable def o863 (P : Params) : Obj := ⟨(.type "dict"), none, (D P [((S "s"), 3147, (.str (S "imos") 3138)), ((S "substring_i"), 3149, (.int (-1) 3140)), ((S "result"), 3151, (.int (2) 3141))] 3), #[]⟩
noncomputable def o864 (P : Params) : Obj := ⟨(.ref 220), some 863, .plain, #[]⟩
noncomputable def o865 (P : Params) : Obj := ⟨(.type "frame"), none, (D P [((S "self"), 3142, (.ref 864)), ((S "s"), 3143, (.str (S "imos") 3138)), ((S "substring_i"), 3144, (.int (-1) 3140)), ((S "result"), 3145, (.int (2) 3141))] 4), #[]⟩
noncomputable def o866 (P : Params) : Obj := ⟨(.type "dict"), none, (D P [((S "s"), 3161, (.str (S "arás") 3152)), ((S "substring_i"), 3163, (.int (-1) 3154)), ((S "result"), 3165, (.int (2) 3155))] 3), #[]⟩
noncomputable def o867 (P : Params) : Obj := ⟨(.ref 220), some 866, .plain, #[]⟩
noncomputable def o868 (P : Params) : Obj := ⟨(.type "frame"), none, (D P [((S "self"), 3156, (.ref 867)), ((S "s"), 3157, (.str (S "arás") 3152)), ((S "substring_i"), 3158, (.int (-1) 3154)), ((S "result"), 3159, (.int (2) 3155))] 4), #[]⟩
noncomputable def o869 (P : Params) : Obj := ⟨(.type "dict"), none, (D P [((S "s"), 3175, (.str (S "erás") 3166)), ((S "substring_i"), 3177, (.int (-1) 3168)), ((S "result"), 3179, (.int (2) 3169))] 3), #[]⟩
noncomputable def o870 (P : Params) : Obj := ⟨(.ref 220), some 869, .plain, #[]⟩
noncomputable def o871 (P : Params) : Obj := ⟨(.type "frame"), none, (D P [((S "self"), 3170, (.ref 870)), ((S "s"), 3171, (.str (S "erás") 3166)), ((S "substring_i"), 3172, (.int (-1) 3168)), ((S "result"), 3173, (.int (2) 3169))] 4), #[]⟩
noncomputable def o872 (P : Params) : Obj := ⟨(.type "dict"), none, (D P [((S "s"), 3189, (.str (S "irás") 3180)), ((S "substring_i"), 3191, (.int (-1) 3182)), ((S "result"), 3193, (.int (2) 3183))] 3), #[]⟩
noncomputable def o873 (P : Params) : Obj := ⟨(.ref 220), some 872, .plain, #[]⟩
noncomputable def o874 (P : Params) : Obj := ⟨(.type "frame"), none, (D P [((S "self"), 3184, (.ref 873)), ((S "s"), 3185, (.str (S "irás") 3180)), ((S "substring_i"), 3186, (.int (-1) 3182)), ((S "result"), 3187, (.int (2) 3183))] 4), #[]⟩
noncomputable def o875 (P : Params) : Obj := ⟨(.type "dict"), none, (D P [((S "s"), 3203, (.str (S "ís") 3194)), ((S "substring_i"), 3205, (.int (-1) 3196)), ((S "result"), 3207, (.int (2) 3197))] 3), #[]⟩
noncomputable def o876 (P : Params) : Obj := ⟨(.ref 220), some 875, .plain, #[]⟩
noncomputable def o877 (P : Params) : Obj := ⟨(.type "frame"), none, (D P [((S "self"), 3198, (.ref 876)), ((S "s"), 3199, (.str (S "ís") 3194)), ((S "substring_i"), 3200, (.int (-1) 3196)), ((S "result"), 3201, (.int (2) 3197))] 4), #[]⟩
noncomputable def o878 (P : Params) : Obj := ⟨(.type "dict"), none, (D P [((S "s"), 3217, (.str (S "ará") 3208)), ((S "substring_i"), 3219, (.int (-1) 3210)), ((S "result"), 3221, (.int (2) 3211))] 3), #[]⟩
noncomputable def o879 (P : Params) : Obj := ⟨(.ref 220), some 878, .plain, #[]⟩
noncomputable def o880 (P : Params) : Obj := ⟨(.type "frame"), none, (D P [((S "self"), 3212, (.ref 879)), ((S "s"), 3213, (.str (S "ará") 3208)), ((S "substring_i"), 3214, (.int (-1) 3210)), ((S "result"), 3215, (.int (2) 3211))] 4), #[]⟩
noncomputable def o881 (P : Params) : Obj := ⟨(.type "dict"), none, (D P [((S "s"), 3231, (.str (S "erá") 3222)), ((S "substring_i"), 3233, (.int (-1) 3224)), ((S "result"), 3235, (.int (2) 3225))] 3), #[]⟩
noncomputable def o882 (P : Params) : Obj := ⟨(.ref 220), some 881, .plain, #[]⟩
noncomputable def o883 (P : Params) : Obj := ⟨(.type "frame"), none, (D P [((S "self"), 3226, (.ref 882)), ((S "s"), 3227, (.str (S "erá") 3222)), ((S "substring_i"), 3228, (.int (-1) 3224)), ((S "result"), 3229, (.int (2) 3225))] 4), #[]⟩
noncomputable def o884 (P : Params) : Obj := ⟨(.type "dict"), none, (D P [((S "s"), 3245, (.str (S "irá") 3236)), ((S "substring_i"), 3247, (.int (-1) 3238)), ((S "result"), 3249, (.int (2) 3239))] 3), #[]⟩
noncomputable def o885 (P : Params) : Obj := ⟨(.ref 220), some 884, .plain, #[]⟩
noncomputable def o886 (P : Params) : Obj := ⟨(.type "frame"), none, (D P [((S "self"), 3240, (.ref 885)), ((S "s"), 3241, (.str (S "irá") 3236)), ((S "substring_i"), 3242, (.int (-1) 3238)), ((S "result"), 3243, (.int (2) 3239))] 4), #[]⟩
noncomputable def o887 (P : Params) : Obj := ⟨(.type "dict"), none, (D P [((S "s"), 3259, (.str (S "aré") 3250)), ((S "substring_i"), 3261, (.int (-1) 3252)), ((S "result"), 3263, (.int (2) 3253))] 3), #[]⟩
noncomputable def o888 (P : Params) : Obj := ⟨(.ref 220), some 887, .plain, #[]⟩
noncomputable def o889 (P : Params) : Obj := ⟨(.type "frame"), none, (D P [((S "self"), 3254, (.ref 888)), ((S "s"), 3255, (.str (S "aré") 3250)), ((S "substring_i"), 3256, (.int (-1) 3252)), ((S "result"), 3257, (.int (2) 3253))] 4), #[]⟩
noncomputable def o890 (P : Params) : Obj := ⟨(.type "dict"), none, (D P [((S "s"), 3273, (.str (S "eré") 3264)), ((S "substring_i"), 3275, (.int (-1) 3266)), ((S "result"), 3277, (.int (2) 3267))] 3), #[]⟩
noncomputable def o891 (P : Params) : Obj := ⟨(.ref 220), some 890, .plain, #[]⟩
noncomputable def o892 (P : Params) : Obj := ⟨(.type "frame"), none, (D P [((S "self"), 3268, (.ref 891)), ((S "s"), 3269, (.str (S "eré") 3264)), ((S "substring_i"), 3270, (.int (-1) 3266)), ((S "result"), 3271, (.int (2) 3267))] 4), #[]⟩
noncomputable def o893 (P : Params) : Obj := ⟨(.type "dict"), none, (D P [((S "s"), 3287, (.str (S "iré") 3278)), ((S "substring_i"), 3289, (.int (-1) 3280)), ((S "result"), 3291, (.int (2) 3281))] 3), #[]⟩
noncomputable def o894 (P : Params) : Obj := ⟨(.ref 220), some 893, .plain, #[]⟩
noncomputable def o895 (P : Params) : Obj := ⟨(.type "frame"), none, (D P [((S "self"), 3282, (.ref 894)), ((S "s"), 3283, (.str (S "iré") 3278)), ((S "substring_i"), 3284, (.int (-1) 3280)), ((S "result"), 3285, (.int (2) 3281))] 4), #[]⟩
noncomputable def o896 (P : Params) : Obj := ⟨(.type "dict"), none, (D P [((S "s"), 3301, (.str (S "ió") 3292)), ((S "substring_i"), 3303, (.int (-1) 3294)), ((S "result"), 3305, (.int (2) 3295))] 3), #[]⟩
noncomputable def o897 (P : Params) : Obj := ⟨(.ref 220), some 896, .plain, #[]⟩
noncomputable def o898 (P : Params) : Obj := ⟨(.type "frame"), none, (D P [((S "self"), 3296, (.ref 897)), ((S "s"), 3297, (.str (S "ió") 3292)), ((S "substring_i"), 3298, (.int (-1) 3294)), ((S "result"), 3299, (.int (2) 3295))] 4), #[]⟩
noncomputable def o899 (P : Params) : Obj := ⟨(.type "list"), none, (Q [(.ref 612), (.ref 615), (.ref 618), (.ref 621), (.ref 624), (.ref 627), (.ref 630), (.ref 633), (.ref 636), (.ref 639), (.ref 642), (.ref 645), (.ref 648), (.ref 651), (.ref 654), (.ref 657), (.ref 660), (.ref 663), (.ref 666), (.ref 669), (.ref 672), (.ref 675), (.ref 678), (.ref 681), (.ref 684), (.ref 687), (.ref 690), (.ref 693), (.ref 696), (.ref 699), (.ref 702), (.ref 705), (.ref 708), (.ref 711), (.ref 714), (.ref 717), (.ref 720), (.ref 723), (.ref 726), (.ref 729), (.ref 732), (.ref 735), (.ref 738), (.ref 741), (.ref 744), (.ref 747), (.ref 750), (.ref 753), (.ref 756), (.ref 759), (.ref 762), (.ref 765), (.ref 768), (.ref 771), (.ref 774), (.ref 777), (.ref 780), (.ref 783), (.ref 786), (.ref 789), (.ref 792), (.ref 795), (.ref 798), (.ref 801), (.ref 804), (.ref 807), (.ref 810), (.ref 813), (.ref 816), (.ref 819), (.ref 822), (.ref 825), (.ref 828), (.ref 831), (.ref 834), (.ref 837), (.ref 840), (.ref 843), (.ref 846), (.ref 849), (.ref 852), (.ref 855), (.ref 858), (.ref 861), (.ref 864), (.ref 867), (.ref 870), (.ref 873), (.ref 876), (.ref 879), (.ref 882), (.ref 885), (.ref 888), (.ref 891), (.ref 894), (.ref 897)] 0), #[]⟩
noncomputable def T10 (P : Params) (X : SetD) : BT := (N (boot_o_0 P) (N (boot_o_1 P) (N (o3 P) (N (boot_o_7 P) (N (o15 P) (N (o31 P) (N (o63 P) (N (o127 P) (N (o255 P) (N (o511 P) E E) (N (o767 P) E E)) (N (o383 P) (N (o639 P) E E) (N (o895 P) E E))) (N (o191 P) (N (o319 P) (N (o575 P) E E) (N (o831 P) E E)) (N (o447 P) (N (o703 P) E E) E))) (N (o95 P) (N (o159 P) (N (o287 P) (N (o543 P) E E) (N (o799 P) E E)) (N (o415 P) (N (o671 P) E E) E)) (N (o223 P) (N (o351 P) (N (o607 P) E E) (N (o863 P) E E)) (N (o479 P) (N (o735 P) E E) E)))) (N (o47 P) (N (o79 P) (N (o143 P) (N (o271 P) (N (o527 P) E E) (N (o783 P) E E)) (N (o399 P) (N (o655 P) E E) E)) (N (o207 P) (N (o335 P) (N (o591 P) E E) (N (o847 P) E E)) (N (o463 P) (N (o719 P) E E) E))) (N (o111 P) (N (o175 P) (N (o303 P) (N (o559 P) E E) (N (o815 P) E E)) (N (o431 P) (N (o687 P) E E) E)) (N (o239 P) (N (o367 P) (N (o623 P) E E) (N (o879 P) E E)) (N (o495 P) (N (o751 P) E E) E))))) (N (o23 P) (N (o39 P) (N (o71 P) (N (o135 P) (N (o263 P) (N (o519 P) E E) (N (o775 P) E E)) (N (o391 P) (N (o647 P) E E) E)) (N (o199 P) (N (o327 P) (N (o583 P) E E) (N (o839 P) E E)) (N (o455 P) (N (o711 P) E E) E))) (N (o103 P) (N (o167 P) (N (o295 P) (N (o551 P) E E) (N (o807 P) E E)) (N (o423 P) (N (o679 P) E E) E)) (N (o231 P) (N (o359 P) (N (o615 P) E E) (N (o871 P) E E)) (N (o487 P) (N (o743 P) E E) E)))) (N (o55 P) (N (o87 P) (N (o151 P) (N (o279 P) (N (o535 P) E E) (N (o791 P) E E)) (N (o407 P) (N (o663 P) E E) E)) (N (o215 P) (N (o343 P) (N (o599 P) E E) (N (o855 P) E E)) (N (o471 P) (N (o727 P) E E) E))) (N (o119 P) (N (o183 P) (N (o311 P) (N (o567 P) E E) (N (o823 P) E E)) (N (o439 P) (N (o695 P) E E) E)) (N (o247 P) (N (o375 P) (N (o631 P) E E) (N (o887 P) E E)) (N (o503 P) (N (o759 P) E E) E)))))) (N (o11 P) (N (o19 P) (N (o35 P) (N (o67 P) (N (o131 P) (N (o259 P) (N (o515 P) E E) (N (o771 P) E E)) (N (o387 P) (N (o643 P) E E) (N (o899 P) E E))) (N (o195 P) (N (o323 P) (N (o579 P) E E) (N (o835 P) E E)) (N (o451 P) (N (o707 P) E E) E))) (N (o99 P) (N (o163 P) (N (o291 P) (N (o547 P) E E) (N (o803 P) E E)) (N (o419 P) (N (o675 P) E E) E)) (N (o227v7 P) (N (o355 P) (N (o611 P) E E) (N (o867 P) E E)) (N (o483 P) (N (o739 P) E E) E)))) (N (o51 P) (N (o83 P) (N (o147 P) (N (o275 P) (N (o531 P) E E) (N (o787 P) E E)) (N (o403 P) (N (o659 P) E E) E)) (N (o211 P) (N (o339 P) (N (o595 P) E E) (N (o851 P) E E)) (N (o467 P) (N (o723 P) E E) E))) (N (o115 P) (N (o179 P) (N (o307 P) (N (o563 P) E E) (N (o819 P) E E)) (N (o435 P) (N (o691 P) E E) E)) (N (o243 P) (N (o371 P) (N (o627 P) E E) (N (o883 P) E E)) (N (o499 P) (N (o755 P) E E) E))))) (N (o27 P) (N (o43 P) (N (o75 P) (N (o139 P) (N (o267 P) (N (o523 P) E E) (N (o779 P) E E)) (N (o395 P) (N (o651 P) E E) E)) (N (o203 P) (N (o331 P) (N (o587 P) E E) (N (o843 P) E E)) (N (o459 P) (N (o715 P) E E) E))) (N (o107 P) (N (o171 P) (N (o299 P) (N (o555 P) E E) (N (o811 P) E E)) (N (o427 P) (N (o683 P) E E) E)) (N (o235 P) (N (o363 P) (N (o619 P) E E) (N (o875 P) E E)) (N (o491 P) (N (o747 P) E E) E)))) (N (o59 P) (N (o91 P) (N (o155 P) (N (o283 P) (N (o539 P) E E) (N (o795 P) E E)) (N (o411 P) (N (o667 P) E E) E)) (N (o219 P) (N (o347 P) (N (o603 P) E E) (N (o859 P) E E)) (N (o475 P) (N (o731 P) E E) E))) (N (o123 P) (N (o187 P) (N (o315 P) (N (o571 P) E E) (N (o827 P) E E)) (N (o443 P) (N (o699 P) E E) E)) (N (o251 P) (N (o379 P) (N (o635 P) E E) (N (o891 P) E E)) (N (o507 P) (N (o763 P) E E) E))))))) (N (boot_o_5 P) (N (boot_o_9 P) (N (o17 P) (N (o33 P) (N (o65 P) (N (o129 P) (N (o257 P) (N (o513 P) E E) (N (o769 P) E E)) (N (o385 P) (N (o641 P) E E) (N (o897 P) E E))) (N (o193 P) (N (o321 P) (N (o577 P) E E) (N (o833 P) E E)) (N (o449 P) (N (o705 P) E E) E))) (N (o97 P) (N (o161 P) (N (o289 P) (N (o545 P) E E) (N (o801 P) E E)) (N (o417 P) (N (o673 P) E E) E)) (N (o225 P) (N (o353 P) (N (o609 P) E E) (N (o865 P) E E)) (N (o481 P) (N (o737 P) E E) E)))) (N (o49 P) (N (o81 P) (N (o145 P) (N (o273 P) (N (o529 P) E E) (N (o785 P) E E)) (N (o401 P) (N (o657 P) E E) E)) (N (o209 P) (N (o337 P) (N (o593 P) E E) (N (o849 P) E E)) (N (o465 P) (N (o721 P) E E) E))) (N (o113 P) (N (o177 P) (N (o305 P) (N (o561 P) E E) (N (o817 P) E E)) (N (o433 P) (N (o689 P) E E) E)) (N (o241 P) (N (o369 P) (N (o625 P) E E) (N (o881 P) E E)) (N (o497 P) (N (o753 P) E E) E))))) (N (o25 P) (N (o41 P) (N (o73 P) (N (o137 P) (N (o265 P) (N (o521 P) E E) (N (o777 P) E E)) (N (o393 P) (N (o649 P) E E) E)) (N (o201 P) (N (o329 P) (N (o585 P) E E) (N (o841 P) E E)) (N (o457 P) (N (o713 P) E E) E))) (N (o105 P) (N (o169 P) (N (o297 P) (N (o553 P) E E) (N (o809 P) E E)) (N (o425 P) (N (o681 P) E E) E)) (N (o233 P) (N (o361 P) (N (o617 P) E E) (N (o873 P) E E)) (N (o489 P) (N (o745 P) E E) E)))) (N (o57 P) (N (o89 P) (N (o153 P) (N (o281 P) (N (o537 P) E E) (N (o793 P) E E)) (N (o409 P) (N (o665 P) E E) E)) (N (o217 P) (N (o345 P) (N (o601 P) E E) (N (o857 P) E E)) (N (o473 P) (N (o729 P) E E) E))) (N (o121 P) (N (o185 P) (N (o313 P) (N (o569 P) E E) (N (o825 P) E E)) (N (o441 P) (N (o697 P) E E) E)) (N (o249 P) (N (o377 P) (N (o633 P) E E) (N (o889 P) E E)) (N (o505 P) (N (o761 P) E E) E)))))) (N (o13 P) (N (o21 P) (N (o37 P) (N (o69 P) (N (o133 P) (N (o261 P) (N (o517 P) E E) (N (o773 P) E E)) (N (o389 P) (N (o645 P) E E) E)) (N (o197 P) (N (o325 P) (N (o581 P) E E) (N (o837 P) E E)) (N (o453 P) (N (o709 P) E E) E))) (N (o101 P) (N (o165 P) (N (o293 P) (N (o549 P) E E) (N (o805 P) E E)) (N (o421 P) (N (o677 P) E E) E)) (N (o229v1 P) (N (o357 P) (N (o613 P) E E) (N (o869 P) E E)) (N (o485 P) (N (o741 P) E E) E)))) (N (o53 P) (N (o85 P) (N (o149 P) (N (o277 P) (N (o533 P) E E) (N (o789 P) E E)) (N (o405 P) (N (o661 P) E E) E)) (N (o213 P) (N (o341 P) (N (o597 P) E E) (N (o853 P) E E)) (N (o469 P) (N (o725 P) E E) E))) (N (o117 P) (N (o181 P) (N (o309 P) (N (o565 P) E E) (N (o821 P) E E)) (N (o437 P) (N (o693 P) E E) E)) (N (o245 P) (N (o373 P) (N (o629 P) E E) (N (o885 P) E E)) (N (o501 P) (N (o757 P) E E) E))))) (N (o29 P) (N (o45 P) (N (o77 P) (N (o141 P) (N (o269 P) (N (o525 P) E E) (N (o781 P) E E)) (N (o397 P) (N (o653 P) E E) E)) (N (o205 P) (N (o333 P) (N (o589 P) E E) (N (o845 P) E E)) (N (o461 P) (N (o717 P) E E) E))) (N (o109 P) (N (o173 P) (N (o301 P) (N (o557 P) E E) (N (o813 P) E E)) (N (o429 P) (N (o685 P) E E) E)) (N (o237 P) (N (o365 P) (N (o621 P) E E) (N (o877 P) E E)) (N (o493 P) (N (o749 P) E E) E)))) (N (o61 P) (N (o93 P) (N (o157 P) (N (o285 P) (N (o541 P) E E) (N (o797 P) E E)) (N (o413 P) (N (o669 P) E E) E)) (N (o221 P) (N (o349 P) (N (o605 P) E E) (N (o861 P) E E)) (N (o477 P) (N (o733 P) E E) E))) (N (o125 P) (N (o189 P) (N (o317 P) (N (o573 P) E E) (N (o829 P) E E)) (N (o445 P) (N (o701 P) E E) E)) (N (o253 P) (N (o381 P) (N (o637 P) E E) (N (o893 P) E E)) (N (o509 P) (N (o765 P) E E) E)))))))) (N (boot_o_2 P) (N (boot_o_4 P) (N (boot_o_8 P) (N (o16 P) (N (o32 P) (N (o64 P) (N (o128 P) (N (o256 P) (N (o512 P) E E) (N (o768 P) E E)) (N (o384 P) (N (o640 P) E E) (N (o896 P) E E))) (N (o192 P) (N (o320 P) (N (o576 P) E E) (N (o832 P) E E)) (N (o448 P) (N (o704 P) E E) E))) (N (o96 P) (N (o160 P) (N (o288 P) (N (o544 P) E E) (N (o800 P) E E)) (N (o416 P) (N (o672 P) E E) E)) (N (o224 P) (N (o352 P) (N (o608 P) E E) (N (o864 P) E E)) (N (o480 P) (N (o736 P) E E) E)))) (N (o48 P) (N (o80 P) (N (o144 P) (N (o272 P) (N (o528 P) E E) (N (o784 P) E E)) (N (o400 P) (N (o656 P) E E) E)) (N (o208 P) (N (o336 P) (N (o592 P) E E) (N (o848 P) E E)) (N (o464 P) (N (o720 P) E E) E))) (N (o112 P) (N (o176 P) (N (o304 P) (N (o560 P) E E) (N (o816 P) E E)) (N (o432 P) (N (o688 P) E E) E)) (N (o240 P) (N (o368 P) (N (o624 P) E E) (N (o880 P) E E)) (N (o496 P) (N (o752 P) E E) E))))) (N (o24 P) (N (o40 P) (N (o72 P) (N (o136 P) (N (o264 P) (N (o520 P) E E) (N (o776 P) E E)) (N (o392 P) (N (o648 P) E E) E)) (N (o200 P) (N (o328 P) (N (o584 P) E E) (N (o840 P) E E)) (N (o456 P) (N (o712 P) E E) E))) (N (o104 P) (N (o168 P) (N (o296 P) (N (o552 P) E E) (N (o808 P) E E)) (N (o424 P) (N (o680 P) E E) E)) (N (oset X) (N (o360 P) (N (o616 P) E E) (N (o872 P) E E)) (N (o488 P) (N (o744 P) E E) E)))) (N (o56 P) (N (o88 P) (N (o152 P) (N (o280 P) (N (o536 P) E E) (N (o792 P) E E)) (N (o408 P) (N (o664 P) E E) E)) (N (o216 P) (N (o344 P) (N (o600 P) E E) (N (o856 P) E E)) (N (o472 P) (N (o728 P) E E) E))) (N (o120 P) (N (o184 P) (N (o312 P) (N (o568 P) E E) (N (o824 P) E E)) (N (o440 P) (N (o696 P) E E) E)) (N (o248 P) (N (o376 P) (N (o632 P) E E) (N (o888 P) E E)) (N (o504 P) (N (o760 P) E E) E)))))) (N (o12v2 P) (N (o20 P) (N (o36 P) (N (o68 P) (N (o132 P) (N (o260 P) (N (o516 P) E E) (N (o772 P) E E)) (N (o388 P) (N (o644 P) E E) E)) (N (o196 P) (N (o324 P) (N (o580 P) E E) (N (o836 P) E E)) (N (o452 P) (N (o708 P) E E) E))) (N (o100 P) (N (o164 P) (N (o292 P) (N (o548 P) E E) (N (o804 P) E E)) (N (o420 P) (N (o676 P) E E) E)) (N (o228 P) (N (o356 P) (N (o612 P) E E) (N (o868 P) E E)) (N (o484 P) (N (o740 P) E E) E)))) (N (o52 P) (N (o84 P) (N (o148 P) (N (o276 P) (N (o532 P) E E) (N (o788 P) E E)) (N (o404 P) (N (o660 P) E E) E)) (N (o212 P) (N (o340 P) (N (o596 P) E E) (N (o852 P) E E)) (N (o468 P) (N (o724 P) E E) E))) (N (o116 P) (N (o180 P) (N (o308 P) (N (o564 P) E E) (N (o820 P) E E)) (N (o436 P) (N (o692 P) E E) E)) (N (o244 P) (N (o372 P) (N (o628 P) E E) (N (o884 P) E E)) (N (o500 P) (N (o756 P) E E) E))))) (N (o28 P) (N (o44 P) (N (o76 P) (N (o140 P) (N (o268 P) (N (o524 P) E E) (N (o780 P) E E)) (N (o396 P) (N (o652 P) E E) E)) (N (o204 P) (N (o332 P) (N (o588 P) E E) (N (o844 P) E E)) (N (o460 P) (N (o716 P) E E) E))) (N (o108 P) (N (o172 P) (N (o300 P) (N (o556 P) E E) (N (o812 P) E E)) (N (o428 P) (N (o684 P) E E) E)) (N (o236 P) (N (o364 P) (N (o620 P) E E) (N (o876 P) E E)) (N (o492 P) (N (o748 P) E E) E)))) (N (o60 P) (N (o92 P) (N (o156 P) (N (o284 P) (N (o540 P) E E) (N (o796 P) E E)) (N (o412 P) (N (o668 P) E E) E)) (N (o220 P) (N (o348 P) (N (o604 P) E E) (N (o860 P) E E)) (N (o476 P) (N (o732 P) E E) E))) (N (o124 P) (N (o188 P) (N (o316 P) (N (o572 P) E E) (N (o828 P) E E)) (N (o444 P) (N (o700 P) E E) E)) (N (o252 P) (N (o380 P) (N (o636 P) E E) (N (o892 P) E E)) (N (o508 P) (N (o764 P) E E) E))))))) (N (boot_o_6 P) (N (boot_o_10 P) (N (o18 P) (N (o34 P) (N (o66 P) (N (o130 P) (N (o258 P) (N (o514 P) E E) (N (o770 P) E E)) (N (o386 P) (N (o642 P) E E) (N (o898 P) E E))) (N (o194 P) (N (o322 P) (N (o578 P) E E) (N (o834 P) E E)) (N (o450 P) (N (o706 P) E E) E))) (N (o98 P) (N (o162 P) (N (o290 P) (N (o546 P) E E) (N (o802 P) E E)) (N (o418 P) (N (o674 P) E E) E)) (N (o226 P) (N (o354 P) (N (o610 P) E E) (N (o866 P) E E)) (N (o482 P) (N (o738 P) E E) E)))) (N (o50 P) (N (o82 P) (N (o146 P) (N (o274 P) (N (o530 P) E E) (N (o786 P) E E)) (N (o402 P) (N (o658 P) E E) E)) (N (o210 P) (N (o338 P) (N (o594 P) E E) (N (o850 P) E E)) (N (o466 P) (N (o722 P) E E) E))) (N (o114 P) (N (o178 P) (N (o306 P) (N (o562 P) E E) (N (o818 P) E E)) (N (o434 P) (N (o690 P) E E) E)) (N (o242 P) (N (o370 P) (N (o626 P) E E) (N (o882 P) E E)) (N (o498 P) (N (o754 P) E E) E))))) (N (o26 P) (N (o42 P) (N (o74 P) (N (o138 P) (N (o266 P) (N (o522 P) E E) (N (o778 P) E E)) (N (o394 P) (N (o650 P) E E) E)) (N (o202 P) (N (o330 P) (N (o586 P) E E) (N (o842 P) E E)) (N (o458 P) (N (o714 P) E E) E))) (N (o106 P) (N (o170 P) (N (o298 P) (N (o554 P) E E) (N (o810 P) E E)) (N (o426 P) (N (o682 P) E E) E)) (N (o234 P) (N (o362 P) (N (o618 P) E E) (N (o874 P) E E)) (N (o490 P) (N (o746 P) E E) E)))) (N (o58 P) (N (o90 P) (N (o154 P) (N (o282 P) (N (o538 P) E E) (N (o794 P) E E)) (N (o410 P) (N (o666 P) E E) E)) (N (o218 P) (N (o346 P) (N (o602 P) E E) (N (o858 P) E E)) (N (o474 P) (N (o730 P) E E) E))) (N (o122 P) (N (o186 P) (N (o314 P) (N (o570 P) E E) (N (o826 P) E E)) (N (o442 P) (N (o698 P) E E) E)) (N (o250 P) (N (o378 P) (N (o634 P) E E) (N (o890 P) E E)) (N (o506 P) (N (o762 P) E E) E)))))) (N (o14 P) (N (o22 P) (N (o38 P) (N (o70 P) (N (o134 P) (N (o262 P) (N (o518 P) E E) (N (o774 P) E E)) (N (o390 P) (N (o646 P) E E) E)) (N (o198 P) (N (o326 P) (N (o582 P) E E) (N (o838 P) E E)) (N (o454 P) (N (o710 P) E E) E))) (N (o102 P) (N (o166 P) (N (o294 P) (N (o550 P) E E) (N (o806 P) E E)) (N (o422 P) (N (o678 P) E E) E)) (N (o230 P) (N (o358 P) (N (o614 P) E E) (N (o870 P) E E)) (N (o486 P) (N (o742 P) E E) E)))) (N (o54 P) (N (o86 P) (N (o150 P) (N (o278 P) (N (o534 P) E E) (N (o790 P) E E)) (N (o406 P) (N (o662 P) E E) E)) (N (o214 P) (N (o342 P) (N (o598 P) E E) (N (o854 P) E E)) (N (o470 P) (N (o726 P) E E) E))) (N (o118 P) (N (o182 P) (N (o310 P) (N (o566 P) E E) (N (o822 P) E E)) (N (o438 P) (N (o694 P) E E) E)) (N (o246 P) (N (o374 P) (N (o630 P) E E) (N (o886 P) E E)) (N (o502 P) (N (o758 P) E E) E))))) (N (o30 P) (N (o46 P) (N (o78 P) (N (o142 P) (N (o270 P) (N (o526 P) E E) (N (o782 P) E E)) (N (o398 P) (N (o654 P) E E) E)) (N (o206 P) (N (o334 P) (N (o590 P) E E) (N (o846 P) E E)) (N (o462 P) (N (o718 P) E E) E))) (N (o110 P) (N (o174 P) (N (o302 P) (N (o558 P) E E) (N (o814 P) E E)) (N (o430 P) (N (o686 P) E E) E)) (N (o238 P) (N (o366 P) (N (o622 P) E E) (N (o878 P) E E)) (N (o494 P) (N (o750 P) E E) E)))) (N (o62 P) (N (o94 P) (N (o158 P) (N (o286 P) (N (o542 P) E E) (N (o798 P) E E)) (N (o414 P) (N (o670 P) E E) E)) (N (o222 P) (N (o350 P) (N (o606 P) E E) (N (o862 P) E E)) (N (o478 P) (N (o734 P) E E) E))) (N (o126 P) (N (o190 P) (N (o318 P) (N (o574 P) E E) (N (o830 P) E E)) (N (o446 P) (N (o702 P) E E) E)) (N (o254 P) (N (o382 P) (N (o638 P) E E) (N (o894 P) E E)) (N (o510 P) (N (o766 P) E E) E)))))))))
noncomputable def St10 (w : World) (X : SetD) (os : OsState) : SharedT := ⟨T10 w.params X, 900, X.life, #[], drawn0, 3307, os⟩
abbrev ps10 : Pos := ⟨416, 4, 416, 7⟩
-- snapshot 10: depth 2, stack [body ⟨148, 0, 417, 167⟩, claim.caller ⟨0, 0, 0, 0⟩]; drawn 0 0 0 0; gens 0
noncomputable def o227v8 (P : Params) : Obj := ⟨(.type "dict"), none, (D P [((S "__module__"), 470, (.str (S "snowballstemmer.spanish_stemmer") 461)), ((S "__qualname__"), 472, (.str (S "SpanishStemmer") 471)), ((S "__firstlineno__"), 474, (.int (148) 473)), ((S "g_v"), 497, (.ref 232)), ((S "I_p2"), 499, (.int (0) 498)), ((S "I_p1"), 501, (.int (0) 500)), ((S "I_pV"), 503, (.int (0) 502)), ((S "r_mark_regions"), 510, (.ref 239)), ((S "r_postlude"), 517, (.ref 246)), ((S "r_RV"), 524, (.ref 253)), ((S "r_R2"), 531, (.ref 260)), ((S "r_attached_pronoun"), 539, (.ref 267)), ((S "r_standard_suffix"), 552, (.ref 274)), ((S "r_y_verb_suffix"), 560, (.ref 281)), ((S "r_verb_suffix"), 571, (.ref 288)), ((S "r_residual_suffix"), 581, (.ref 295)), ((S "_stem"), 588, (.ref 302)), ((S "a_0"), 668, (.ref 321)), ((S "a_1"), 860, (.ref 361)), ((S "a_2"), 1015, (.ref 395)), ((S "a_3"), 1075, (.ref 408)), ((S "a_4"), 1118, (.ref 418)), ((S "a_5"), 1161, (.ref 428)), ((S "a_6"), 1833, (.ref 573)), ((S "a_7"), 2002, (.ref 610)), ((S "a_8"), 3306, (.ref 899)), ((S "a_9"), 3419, (.ref 924))] 27), #[]⟩
noncomputable def o900 (P : Params) : Obj := ⟨(.type "dict"), none, (D P [((S "s"), 3316, (.str (S "a") 3307)), ((S "substring_i"), 3318, (.int (-1) 3309)), ((S "result"), 3320, (.int (1) 3310))] 3), #[]⟩
noncomputable def o901 (P : Params) : Obj := ⟨(.ref 220), some 900, .plain, #[]⟩
noncomputable def o902 (P : Params) : Obj := ⟨(.type "frame"), none, (D P [((S "self"), 3311, (.ref 901)), ((S "s"), 3312, (.str (S "a") 3307)), ((S "substring_i"), 3313, (.int (-1) 3309)), ((S "result"), 3314, (.int (1) 3310))] 4), #[]⟩
noncomputable def o903 (P : Params) : Obj := ⟨(.type "dict"), none, (D P [((S "s"), 3330, (.str (S "e") 3321)), ((S "substring_i"), 3332, (.int (-1) 3323)), ((S "result"), 3334, (.int (2) 3324))] 3), #[]⟩
noncomputable def o904 (P : Params) : Obj := ⟨(.ref 220), some 903, .plain, #[]⟩
noncomputable def o905 (P : Params) : Obj := ⟨(.type "frame"), none, (D P [((S "self"), 3325, (.ref 904)), ((S "s"), 3326, (.str (S "e") 3321)), ((S "substring_i"), 3327, (.int (-1) 3323)), ((S "result"), 3328, (.int (2) 3324))] 4), #[]⟩
noncomputable def o906 (P : Params) : Obj := ⟨(.type "dict"), none, (D P [((S "s"), 3344, (.str (S "o") 3335)), ((S "substring_i"), 3346, (.int (-1) 3337)), ((S "result"), 3348, (.int (1) 3338))] 3), #[]⟩
noncomputable def o907 (P : Params) : Obj := ⟨(.ref 220), some 906, .plain, #[]⟩
noncomputable def o908 (P : Params) : Obj := ⟨(.type "frame"), none, (D P [((S "self"), 3339, (.ref 907)), ((S "s"), 3340, (.str (S "o") 3335)), ((S "substring_i"), 3341, (.int (-1) 3337)), ((S "result"), 3342, (.int (1) 3338))] 4), #[]⟩
noncomputable def o909 (P : Params) : Obj := ⟨(.type "dict"), none, (D P [((S "s"), 3358, (.str (S "os") 3349)), ((S "substring_i"), 3360, (.int (-1) 3351)), ((S "result"), 3362, (.int (1) 3352))] 3), #[]⟩
noncomputable def o910 (P : Params) : Obj := ⟨(.ref 220), some 909, .plain, #[]⟩
noncomputable def o911 (P : Params) : Obj := ⟨(.type "frame"), none, (D P [((S "self"), 3353, (.ref 910)), ((S "s"), 3354, (.str (S "os") 3349)), ((S "substring_i"), 3355, (.int (-1) 3351)), ((S "result"), 3356, (.int (1) 3352))] 4), #[]⟩
noncomputable def o912 (P : Params) : Obj := ⟨(.type "dict"), none, (D P [((S "s"), 3372, (.str (S "á") 3363)), ((S "substring_i"), 3374, (.int (-1) 3365)), ((S "result"), 3376, (.int (1) 3366))] 3), #[]⟩
noncomputable def o913 (P : Params) : Obj := ⟨(.ref 220), some 912, .plain, #[]⟩
noncomputable def o914 (P : Params) : Obj := ⟨(.type "frame"), none, (D P [((S "self"), 3367, (.ref 913)), ((S "s"), 3368, (.str (S "á") 3363)), ((S "substring_i"), 3369, (.int (-1) 3365)), ((S "result"), 3370, (.int (1) 3366))] 4), #[]⟩
noncomputable def o915 (P : Params) : Obj := ⟨(.type "dict"), none, (D P [((S "s"), 3386, (.str (S "é") 3377)), ((S "substring_i"), 3388, (.int (-1) 3379)), ((S "result"), 3390, (.int (2) 3380))] 3), #[]⟩
noncomputable def o916 (P : Params) : Obj := ⟨(.ref 220), some 915, .plain, #[]⟩
noncomputable def o917 (P : Params) : Obj := ⟨(.type "frame"), none, (D P [((S "self"), 3381, (.ref 916)), ((S "s"), 3382, (.str (S "é") 3377)), ((S "substring_i"), 3383, (.int (-1) 3379)), ((S "result"), 3384, (.int (2) 3380))] 4), #[]⟩
noncomputable def o918 (P : Params) : Obj := ⟨(.type "dict"), none, (D P [((S "s"), 3400, (.str (S "í") 3391)), ((S "substring_i"), 3402, (.int (-1) 3393)), ((S "result"), 3404, (.int (1) 3394))] 3), #[]⟩
noncomputable def o919 (P : Params) : Obj := ⟨(.ref 220), some 918, .plain, #[]⟩
noncomputable def o920 (P : Params) : Obj := ⟨(.type "frame"), none, (D P [((S "self"), 3395, (.ref 919)), ((S "s"), 3396, (.str (S "í") 3391)), ((S "substring_i"), 3397, (.int (-1) 3393)), ((S "result"), 3398, (.int (1) 3394))] 4), #[]⟩
noncomputable def o921 (P : Params) : Obj := ⟨(.type "dict"), none, (D P [((S "s"), 3414, (.str (S "ó") 3405)), ((S "substring_i"), 3416, (.int (-1) 3407)), ((S "result"), 3418, (.int (1) 3408))] 3), #[]⟩
noncomputable def o922 (P : Params) : Obj := ⟨(.ref 220), some 921, .plain, #[]⟩
noncomputable def o923 (P : Params) : Obj := ⟨(.type "frame"), none, (D P [((S "self"), 3409, (.ref 922)), ((S "s"), 3410, (.str (S "ó") 3405)), ((S "substring_i"), 3411, (.int (-1) 3407)), ((S "result"), 3412, (.int (1) 3408))] 4), #[]⟩
noncomputable def o924 (P : Params) : Obj := ⟨(.type "list"), none, (Q [(.ref 901), (.ref 904), (.ref 907), (.ref 910), (.ref 913), (.ref 916), (.ref 919), (.ref 922)] 0), #[]⟩
noncomputable def T11 (P : Params) (X : SetD) : BT := (N (boot_o_0 P) (N (boot_o_1 P) (N (o3 P) (N (boot_o_7 P) (N (o15 P) (N (o31 P) (N (o63 P) (N (o127 P) (N (o255 P) (N (o511 P) E E) (N (o767 P) E E)) (N (o383 P) (N (o639 P) E E) (N (o895 P) E E))) (N (o191 P) (N (o319 P) (N (o575 P) E E) (N (o831 P) E E)) (N (o447 P) (N (o703 P) E E) E))) (N (o95 P) (N (o159 P) (N (o287 P) (N (o543 P) E E) (N (o799 P) E E)) (N (o415 P) (N (o671 P) E E) E)) (N (o223 P) (N (o351 P) (N (o607 P) E E) (N (o863 P) E E)) (N (o479 P) (N (o735 P) E E) E)))) (N (o47 P) (N (o79 P) (N (o143 P) (N (o271 P) (N (o527 P) E E) (N (o783 P) E E)) (N (o399 P) (N (o655 P) E E) (N (o911 P) E E))) (N (o207 P) (N (o335 P) (N (o591 P) E E) (N (o847 P) E E)) (N (o463 P) (N (o719 P) E E) E))) (N (o111 P) (N (o175 P) (N (o303 P) (N (o559 P) E E) (N (o815 P) E E)) (N (o431 P) (N (o687 P) E E) E)) (N (o239 P) (N (o367 P) (N (o623 P) E E) (N (o879 P) E E)) (N (o495 P) (N (o751 P) E E) E))))) (N (o23 P) (N (o39 P) (N (o71 P) (N (o135 P) (N (o263 P) (N (o519 P) E E) (N (o775 P) E E)) (N (o391 P) (N (o647 P) E E) (N (o903 P) E E))) (N (o199 P) (N (o327 P) (N (o583 P) E E) (N (o839 P) E E)) (N (o455 P) (N (o711 P) E E) E))) (N (o103 P) (N (o167 P) (N (o295 P) (N (o551 P) E E) (N (o807 P) E E)) (N (o423 P) (N (o679 P) E E) E)) (N (o231 P) (N (o359 P) (N (o615 P) E E) (N (o871 P) E E)) (N (o487 P) (N (o743 P) E E) E)))) (N (o55 P) (N (o87 P) (N (o151 P) (N (o279 P) (N (o535 P) E E) (N (o791 P) E E)) (N (o407 P) (N (o663 P) E E) (N (o919 P) E E))) (N (o215 P) (N (o343 P) (N (o599 P) E E) (N (o855 P) E E)) (N (o471 P) (N (o727 P) E E) E))) (N (o119 P) (N (o183 P) (N (o311 P) (N (o567 P) E E) (N (o823 P) E E)) (N (o439 P) (N (o695 P) E E) E)) (N (o247 P) (N (o375 P) (N (o631 P) E E) (N (o887 P) E E)) (N (o503 P) (N (o759 P) E E) E)))))) (N (o11 P) (N (o19 P) (N (o35 P) (N (o67 P) (N (o131 P) (N (o259 P) (N (o515 P) E E) (N (o771 P) E E)) (N (o387 P) (N (o643 P) E E) (N (o899 P) E E))) (N (o195 P) (N (o323 P) (N (o579 P) E E) (N (o835 P) E E)) (N (o451 P) (N (o707 P) E E) E))) (N (o99 P) (N (o163 P) (N (o291 P) (N (o547 P) E E) (N (o803 P) E E)) (N (o419 P) (N (o675 P) E E) E)) (N (o227v8 P) (N (o355 P) (N (o611 P) E E) (N (o867 P) E E)) (N (o483 P) (N (o739 P) E E) E)))) (N (o51 P) (N (o83 P) (N (o147 P) (N (o275 P) (N (o531 P) E E) (N (o787 P) E E)) (N (o403 P) (N (o659 P) E E) (N (o915 P) E E))) (N (o211 P) (N (o339 P) (N (o595 P) E E) (N (o851 P) E E)) (N (o467 P) (N (o723 P) E E) E))) (N (o115 P) (N (o179 P) (N (o307 P) (N (o563 P) E E) (N (o819 P) E E)) (N (o435 P) (N (o691 P) E E) E)) (N (o243 P) (N (o371 P) (N (o627 P) E E) (N (o883 P) E E)) (N (o499 P) (N (o755 P) E E) E))))) (N (o27 P) (N (o43 P) (N (o75 P) (N (o139 P) (N (o267 P) (N (o523 P) E E) (N (o779 P) E E)) (N (o395 P) (N (o651 P) E E) (N (o907 P) E E))) (N (o203 P) (N (o331 P) (N (o587 P) E E) (N (o843 P) E E)) (N (o459 P) (N (o715 P) E E) E))) (N (o107 P) (N (o171 P) (N (o299 P) (N (o555 P) E E) (N (o811 P) E E)) (N (o427 P) (N (o683 P) E E) E)) (N (o235 P) (N (o363 P) (N (o619 P) E E) (N (o875 P) E E)) (N (o491 P) (N (o747 P) E E) E)))) (N (o59 P) (N (o91 P) (N (o155 P) (N (o283 P) (N (o539 P) E E) (N (o795 P) E E)) (N (o411 P) (N (o667 P) E E) (N (o923 P) E E))) (N (o219 P) (N (o347 P) (N (o603 P) E E) (N (o859 P) E E)) (N (o475 P) (N (o731 P) E E) E))) (N (o123 P) (N (o187 P) (N (o315 P) (N (o571 P) E E) (N (o827 P) E E)) (N (o443 P) (N (o699 P) E E) E)) (N (o251 P) (N (o379 P) (N (o635 P) E E) (N (o891 P) E E)) (N (o507 P) (N (o763 P) E E) E))))))) (N (boot_o_5 P) (N (boot_o_9 P) (N (o17 P) (N (o33 P) (N (o65 P) (N (o129 P) (N (o257 P) (N (o513 P) E E) (N (o769 P) E E)) (N (o385 P) (N (o641 P) E E) (N (o897 P) E E))) (N (o193 P) (N (o321 P) (N (o577 P) E E) (N (o833 P) E E)) (N (o449 P) (N (o705 P) E E) E))) (N (o97 P) (N (o161 P) (N (o289 P) (N (o545 P) E E) (N (o801 P) E E)) (N (o417 P) (N (o673 P) E E) E)) (N (o225 P) (N (o353 P) (N (o609 P) E E) (N (o865 P) E E)) (N (o481 P) (N (o737 P) E E) E)))) (N (o49 P) (N (o81 P) (N (o145 P) (N (o273 P) (N (o529 P) E E) (N (o785 P) E E)) (N (o401 P) (N (o657 P) E E) (N (o913 P) E E))) (N (o209 P) (N (o337 P) (N (o593 P) E E) (N (o849 P) E E)) (N (o465 P) (N (o721 P) E E) E))) (N (o113 P) (N (o177 P) (N (o305 P) (N (o561 P) E E) (N (o817 P) E E)) (N (o433 P) (N (o689 P) E E) E)) (N (o241 P) (N (o369 P) (N (o625 P) E E) (N (o881 P) E E)) (N (o497 P) (N (o753 P) E E) E))))) (N (o25 P) (N (o41 P) (N (o73 P) (N (o137 P) (N (o265 P) (N (o521 P) E E) (N (o777 P) E E)) (N (o393 P) (N (o649 P) E E) (N (o905 P) E E))) (N (o201 P) (N (o329 P) (N (o585 P) E E) (N (o841 P) E E)) (N (o457 P) (N (o713 P) E E) E))) (N (o105 P) (N (o169 P) (N (o297 P) (N (o553 P) E E) (N (o809 P) E E)) (N (o425 P) (N (o681 P) E E) E)) (N (o233 P) (N (o361 P) (N (o617 P) E E) (N (o873 P) E E)) (N (o489 P) (N (o745 P) E E) E)))) (N (o57 P) (N (o89 P) (N (o153 P) (N (o281 P) (N (o537 P) E E) (N (o793 P) E E)) (N (o409 P) (N (o665 P) E E) (N (o921 P) E E))) (N (o217 P) (N (o345 P) (N (o601 P) E E) (N (o857 P) E E)) (N (o473 P) (N (o729 P) E E) E))) (N (o121 P) (N (o185 P) (N (o313 P) (N (o569 P) E E) (N (o825 P) E E)) (N (o441 P) (N (o697 P) E E) E)) (N (o249 P) (N (o377 P) (N (o633 P) E E) (N (o889 P) E E)) (N (o505 P) (N (o761 P) E E) E)))))) (N (o13 P) (N (o21 P) (N (o37 P) (N (o69 P) (N (o133 P) (N (o261 P) (N (o517 P) E E) (N (o773 P) E E)) (N (o389 P) (N (o645 P) E E) (N (o901 P) E E))) (N (o197 P) (N (o325 P) (N (o581 P) E E) (N (o837 P) E E)) (N (o453 P) (N (o709 P) E E) E))) (N (o101 P) (N (o165 P) (N (o293 P) (N (o549 P) E E) (N (o805 P) E E)) (N (o421 P) (N (o677 P) E E) E)) (N (o229v1 P) (N (o357 P) (N (o613 P) E E) (N (o869 P) E E)) (N (o485 P) (N (o741 P) E E) E)))) (N (o53 P) (N (o85 P) (N (o149 P) (N (o277 P) (N (o533 P) E E) (N (o789 P) E E)) (N (o405 P) (N (o661 P) E E) (N (o917 P) E E))) (N (o213 P) (N (o341 P) (N (o597 P) E E) (N (o853 P) E E)) (N (o469 P) (N (o725 P) E E) E))) (N (o117 P) (N (o181 P) (N (o309 P) (N (o565 P) E E) (N (o821 P) E E)) (N (o437 P) (N (o693 P) E E) E)) (N (o245 P) (N (o373 P) (N (o629 P) E E) (N (o885 P) E E)) (N (o501 P) (N (o757 P) E E) E))))) (N (o29 P) (N (o45 P) (N (o77 P) (N (o141 P) (N (o269 P) (N (o525 P) E E) (N (o781 P) E E)) (N (o397 P) (N (o653 P) E E) (N (o909 P) E E))) (N (o205 P) (N (o333 P) (N (o589 P) E E) (N (o845 P) E E)) (N (o461 P) (N (o717 P) E E) E))) (N (o109 P) (N (o173 P) (N (o301 P) (N (o557 P) E E) (N (o813 P) E E)) (N (o429 P) (N (o685 P) E E) E)) (N (o237 P) (N (o365 P) (N (o621 P) E E) (N (o877 P) E E)) (N (o493 P) (N (o749 P) E E) E)))) (N (o61 P) (N (o93 P) (N (o157 P) (N (o285 P) (N (o541 P) E E) (N (o797 P) E E)) (N (o413 P) (N (o669 P) E E) E)) (N (o221 P) (N (o349 P) (N (o605 P) E E) (N (o861 P) E E)) (N (o477 P) (N (o733 P) E E) E))) (N (o125 P) (N (o189 P) (N (o317 P) (N (o573 P) E E) (N (o829 P) E E)) (N (o445 P) (N (o701 P) E E) E)) (N (o253 P) (N (o381 P) (N (o637 P) E E) (N (o893 P) E E)) (N (o509 P) (N (o765 P) E E) E)))))))) (N (boot_o_2 P) (N (boot_o_4 P) (N (boot_o_8 P) (N (o16 P) (N (o32 P) (N (o64 P) (N (o128 P) (N (o256 P) (N (o512 P) E E) (N (o768 P) E E)) (N (o384 P) (N (o640 P) E E) (N (o896 P) E E))) (N (o192 P) (N (o320 P) (N (o576 P) E E) (N (o832 P) E E)) (N (o448 P) (N (o704 P) E E) E))) (N (o96 P) (N (o160 P) (N (o288 P) (N (o544 P) E E) (N (o800 P) E E)) (N (o416 P) (N (o672 P) E E) E)) (N (o224 P) (N (o352 P) (N (o608 P) E E) (N (o864 P) E E)) (N (o480 P) (N (o736 P) E E) E)))) (N (o48 P) (N (o80 P) (N (o144 P) (N (o272 P) (N (o528 P) E E) (N (o784 P) E E)) (N (o400 P) (N (o656 P) E E) (N (o912 P) E E))) (N (o208 P) (N (o336 P) (N (o592 P) E E) (N (o848 P) E E)) (N (o464 P) (N (o720 P) E E) E))) (N (o112 P) (N (o176 P) (N (o304 P) (N (o560 P) E E) (N (o816 P) E E)) (N (o432 P) (N (o688 P) E E) E)) (N (o240 P) (N (o368 P) (N (o624 P) E E) (N (o880 P) E E)) (N (o496 P) (N (o752 P) E E) E))))) (N (o24 P) (N (o40 P) (N (o72 P) (N (o136 P) (N (o264 P) (N (o520 P) E E) (N (o776 P) E E)) (N (o392 P) (N (o648 P) E E) (N (o904 P) E E))) (N (o200 P) (N (o328 P) (N (o584 P) E E) (N (o840 P) E E)) (N (o456 P) (N (o712 P) E E) E))) (N (o104 P) (N (o168 P) (N (o296 P) (N (o552 P) E E) (N (o808 P) E E)) (N (o424 P) (N (o680 P) E E) E)) (N (oset X) (N (o360 P) (N (o616 P) E E) (N (o872 P) E E)) (N (o488 P) (N (o744 P) E E) E)))) (N (o56 P) (N (o88 P) (N (o152 P) (N (o280 P) (N (o536 P) E E) (N (o792 P) E E)) (N (o408 P) (N (o664 P) E E) (N (o920 P) E E))) (N (o216 P) (N (o344 P) (N (o600 P) E E) (N (o856 P) E E)) (N (o472 P) (N (o728 P) E E) E))) (N (o120 P) (N (o184 P) (N (o312 P) (N (o568 P) E E) (N (o824 P) E E)) (N (o440 P) (N (o696 P) E E) E)) (N (o248 P) (N (o376 P) (N (o632 P) E E) (N (o888 P) E E)) (N (o504 P) (N (o760 P) E E) E)))))) (N (o12v2 P) (N (o20 P) (N (o36 P) (N (o68 P) (N (o132 P) (N (o260 P) (N (o516 P) E E) (N (o772 P) E E)) (N (o388 P) (N (o644 P) E E) (N (o900 P) E E))) (N (o196 P) (N (o324 P) (N (o580 P) E E) (N (o836 P) E E)) (N (o452 P) (N (o708 P) E E) E))) (N (o100 P) (N (o164 P) (N (o292 P) (N (o548 P) E E) (N (o804 P) E E)) (N (o420 P) (N (o676 P) E E) E)) (N (o228 P) (N (o356 P) (N (o612 P) E E) (N (o868 P) E E)) (N (o484 P) (N (o740 P) E E) E)))) (N (o52 P) (N (o84 P) (N (o148 P) (N (o276 P) (N (o532 P) E E) (N (o788 P) E E)) (N (o404 P) (N (o660 P) E E) (N (o916 P) E E))) (N (o212 P) (N (o340 P) (N (o596 P) E E) (N (o852 P) E E)) (N (o468 P) (N (o724 P) E E) E))) (N (o116 P) (N (o180 P) (N (o308 P) (N (o564 P) E E) (N (o820 P) E E)) (N (o436 P) (N (o692 P) E E) E)) (N (o244 P) (N (o372 P) (N (o628 P) E E) (N (o884 P) E E)) (N (o500 P) (N (o756 P) E E) E))))) (N (o28 P) (N (o44 P) (N (o76 P) (N (o140 P) (N (o268 P) (N (o524 P) E E) (N (o780 P) E E)) (N (o396 P) (N (o652 P) E E) (N (o908 P) E E))) (N (o204 P) (N (o332 P) (N (o588 P) E E) (N (o844 P) E E)) (N (o460 P) (N (o716 P) E E) E))) (N (o108 P) (N (o172 P) (N (o300 P) (N (o556 P) E E) (N (o812 P) E E)) (N (o428 P) (N (o684 P) E E) E)) (N (o236 P) (N (o364 P) (N (o620 P) E E) (N (o876 P) E E)) (N (o492 P) (N (o748 P) E E) E)))) (N (o60 P) (N (o92 P) (N (o156 P) (N (o284 P) (N (o540 P) E E) (N (o796 P) E E)) (N (o412 P) (N (o668 P) E E) (N (o924 P) E E))) (N (o220 P) (N (o348 P) (N (o604 P) E E) (N (o860 P) E E)) (N (o476 P) (N (o732 P) E E) E))) (N (o124 P) (N (o188 P) (N (o316 P) (N (o572 P) E E) (N (o828 P) E E)) (N (o444 P) (N (o700 P) E E) E)) (N (o252 P) (N (o380 P) (N (o636 P) E E) (N (o892 P) E E)) (N (o508 P) (N (o764 P) E E) E))))))) (N (boot_o_6 P) (N (boot_o_10 P) (N (o18 P) (N (o34 P) (N (o66 P) (N (o130 P) (N (o258 P) (N (o514 P) E E) (N (o770 P) E E)) (N (o386 P) (N (o642 P) E E) (N (o898 P) E E))) (N (o194 P) (N (o322 P) (N (o578 P) E E) (N (o834 P) E E)) (N (o450 P) (N (o706 P) E E) E))) (N (o98 P) (N (o162 P) (N (o290 P) (N (o546 P) E E) (N (o802 P) E E)) (N (o418 P) (N (o674 P) E E) E)) (N (o226 P) (N (o354 P) (N (o610 P) E E) (N (o866 P) E E)) (N (o482 P) (N (o738 P) E E) E)))) (N (o50 P) (N (o82 P) (N (o146 P) (N (o274 P) (N (o530 P) E E) (N (o786 P) E E)) (N (o402 P) (N (o658 P) E E) (N (o914 P) E E))) (N (o210 P) (N (o338 P) (N (o594 P) E E) (N (o850 P) E E)) (N (o466 P) (N (o722 P) E E) E))) (N (o114 P) (N (o178 P) (N (o306 P) (N (o562 P) E E) (N (o818 P) E E)) (N (o434 P) (N (o690 P) E E) E)) (N (o242 P) (N (o370 P) (N (o626 P) E E) (N (o882 P) E E)) (N (o498 P) (N (o754 P) E E) E))))) (N (o26 P) (N (o42 P) (N (o74 P) (N (o138 P) (N (o266 P) (N (o522 P) E E) (N (o778 P) E E)) (N (o394 P) (N (o650 P) E E) (N (o906 P) E E))) (N (o202 P) (N (o330 P) (N (o586 P) E E) (N (o842 P) E E)) (N (o458 P) (N (o714 P) E E) E))) (N (o106 P) (N (o170 P) (N (o298 P) (N (o554 P) E E) (N (o810 P) E E)) (N (o426 P) (N (o682 P) E E) E)) (N (o234 P) (N (o362 P) (N (o618 P) E E) (N (o874 P) E E)) (N (o490 P) (N (o746 P) E E) E)))) (N (o58 P) (N (o90 P) (N (o154 P) (N (o282 P) (N (o538 P) E E) (N (o794 P) E E)) (N (o410 P) (N (o666 P) E E) (N (o922 P) E E))) (N (o218 P) (N (o346 P) (N (o602 P) E E) (N (o858 P) E E)) (N (o474 P) (N (o730 P) E E) E))) (N (o122 P) (N (o186 P) (N (o314 P) (N (o570 P) E E) (N (o826 P) E E)) (N (o442 P) (N (o698 P) E E) E)) (N (o250 P) (N (o378 P) (N (o634 P) E E) (N (o890 P) E E)) (N (o506 P) (N (o762 P) E E) E)))))) (N (o14 P) (N (o22 P) (N (o38 P) (N (o70 P) (N (o134 P) (N (o262 P) (N (o518 P) E E) (N (o774 P) E E)) (N (o390 P) (N (o646 P) E E) (N (o902 P) E E))) (N (o198 P) (N (o326 P) (N (o582 P) E E) (N (o838 P) E E)) (N (o454 P) (N (o710 P) E E) E))) (N (o102 P) (N (o166 P) (N (o294 P) (N (o550 P) E E) (N (o806 P) E E)) (N (o422 P) (N (o678 P) E E) E)) (N (o230 P) (N (o358 P) (N (o614 P) E E) (N (o870 P) E E)) (N (o486 P) (N (o742 P) E E) E)))) (N (o54 P) (N (o86 P) (N (o150 P) (N (o278 P) (N (o534 P) E E) (N (o790 P) E E)) (N (o406 P) (N (o662 P) E E) (N (o918 P) E E))) (N (o214 P) (N (o342 P) (N (o598 P) E E) (N (o854 P) E E)) (N (o470 P) (N (o726 P) E E) E))) (N (o118 P) (N (o182 P) (N (o310 P) (N (o566 P) E E) (N (o822 P) E E)) (N (o438 P) (N (o694 P) E E) E)) (N (o246 P) (N (o374 P) (N (o630 P) E E) (N (o886 P) E E)) (N (o502 P) (N (o758 P) E E) E))))) (N (o30 P) (N (o46 P) (N (o78 P) (N (o142 P) (N (o270 P) (N (o526 P) E E) (N (o782 P) E E)) (N (o398 P) (N (o654 P) E E) (N (o910 P) E E))) (N (o206 P) (N (o334 P) (N (o590 P) E E) (N (o846 P) E E)) (N (o462 P) (N (o718 P) E E) E))) (N (o110 P) (N (o174 P) (N (o302 P) (N (o558 P) E E) (N (o814 P) E E)) (N (o430 P) (N (o686 P) E E) E)) (N (o238 P) (N (o366 P) (N (o622 P) E E) (N (o878 P) E E)) (N (o494 P) (N (o750 P) E E) E)))) (N (o62 P) (N (o94 P) (N (o158 P) (N (o286 P) (N (o542 P) E E) (N (o798 P) E E)) (N (o414 P) (N (o670 P) E E) E)) (N (o222 P) (N (o350 P) (N (o606 P) E E) (N (o862 P) E E)) (N (o478 P) (N (o734 P) E E) E))) (N (o126 P) (N (o190 P) (N (o318 P) (N (o574 P) E E) (N (o830 P) E E)) (N (o446 P) (N (o702 P) E E) E)) (N (o254 P) (N (o382 P) (N (o638 P) E E) (N (o894 P) E E)) (N (o510 P) (N (o766 P) E E) E)))))))))
noncomputable def St11 (w : World) (X : SetD) (os : OsState) : SharedT := ⟨T11 w.params X, 925, X.life, #[], drawn0, 3420, os⟩
abbrev ps11 : Pos := ⟨417, 4, 417, 7⟩
-- snapshot 11: depth 2, stack [body ⟨148, 0, 417, 167⟩, claim.caller ⟨0, 0, 0, 0⟩]; drawn 0 0 0 0; gens 0
noncomputable def o3v1 (P : Params) : Obj := ⟨(.type "dict"), none, (D P [((S "__name__"), 165, (.str (S "snowballstemmer.spanish_stemmer") 461)), ((S "__doc__"), 166, .none), ((S "__package__"), 167, .none), ((S "__loader__"), 168, (.builtin "__main__.__loader__#opaque")), ((S "__spec__"), 169, .none), ((S "__annotations__"), 170, (.ref 6)), ((S "__builtins__"), 171, (.ref 4)), ((S "__file__"), 173, (.str (S "/claim/cut.py") 172)), ((S "__cached__"), 174, .none), ((S "_wall"), 193, (.ref 21)), ((S "BaseStemmer"), 425, (.ref 199)), ((S "Among"), 460, (.ref 220)), ((S "SpanishStemmer"), 3427, (.ref 927))] 13), #[]⟩
noncomputable def o199v1 (P : Params) : Obj := ⟨(.type "type"), none, (.cls { name := (S "BaseStemmer"), bases := [(.type "object")], mro := [(.ref 199), (.type "object")], ns := 198, qualname := (S "BaseStemmer"), hasDict := true, slotNames := [], subclasses := [(.ref 927)], abstract := false, collection := none, hasDel := false }), #[none, none, some (.str (S "BaseStemmer") 196), some (.str (S "BaseStemmer") 204), some (.builtin "object.__new__"), some (.bool true)]⟩
noncomputable def o227v9 (P : Params) : Obj := ⟨(.type "dict"), none, (D P [((S "__module__"), 470, (.str (S "snowballstemmer.spanish_stemmer") 461)), ((S "__qualname__"), 472, (.str (S "SpanishStemmer") 471)), ((S "__firstlineno__"), 474, (.int (148) 473)), ((S "g_v"), 497, (.ref 232)), ((S "I_p2"), 499, (.int (0) 498)), ((S "I_p1"), 501, (.int (0) 500)), ((S "I_pV"), 503, (.int (0) 502)), ((S "r_mark_regions"), 510, (.ref 239)), ((S "r_postlude"), 517, (.ref 246)), ((S "r_RV"), 524, (.ref 253)), ((S "r_R2"), 531, (.ref 260)), ((S "r_attached_pronoun"), 539, (.ref 267)), ((S "r_standard_suffix"), 552, (.ref 274)), ((S "r_y_verb_suffix"), 560, (.ref 281)), ((S "r_verb_suffix"), 571, (.ref 288)), ((S "r_residual_suffix"), 581, (.ref 295)), ((S "_stem"), 588, (.ref 302)), ((S "a_0"), 668, (.ref 321)), ((S "a_1"), 860, (.ref 361)), ((S "a_2"), 1015, (.ref 395)), ((S "a_3"), 1075, (.ref 408)), ((S "a_4"), 1118, (.ref 418)), ((S "a_5"), 1161, (.ref 428)), ((S "a_6"), 1833, (.ref 573)), ((S "a_7"), 2002, (.ref 610)), ((S "a_8"), 3306, (.ref 899)), ((S "a_9"), 3419, (.ref 924)), ((S "__static_attributes__"), 3424, (.ref 925))] 28), #[]⟩
noncomputable def o925 (P : Params) : Obj := ⟨(.type "tuple"), none, (Q [(.str (S "bra") 3420), (.str (S "cursor") 3421), (.str (S "ket") 3422), (.str (S "limit_backward") 3423)] 0), #[]⟩
noncomputable def o926 (P : Params) : Obj := ⟨(.type "dict"), none, (D P [((S "__module__"), 470, (.str (S "snowballstemmer.spanish_stemmer") 461)), ((S "__firstlineno__"), 474, (.int (148) 473)), ((S "g_v"), 497, (.ref 232)), ((S "I_p2"), 499, (.int (0) 498)), ((S "I_p1"), 501, (.int (0) 500)), ((S "I_pV"), 503, (.int (0) 502)), ((S "r_mark_regions"), 510, (.ref 239)), ((S "r_postlude"), 517, (.ref 246)), ((S "r_RV"), 524, (.ref 253)), ((S "r_R2"), 531, (.ref 260)), ((S "r_attached_pronoun"), 539, (.ref 267)), ((S "r_standard_suffix"), 552, (.ref 274)), ((S "r_y_verb_suffix"), 560, (.ref 281)), ((S "r_verb_suffix"), 571, (.ref 288)), ((S "r_residual_suffix"), 581, (.ref 295)), ((S "_stem"), 588, (.ref 302)), ((S "a_0"), 668, (.ref 321)), ((S "a_1"), 860, (.ref 361)), ((S "a_2"), 1015, (.ref 395)), ((S "a_3"), 1075, (.ref 408)), ((S "a_4"), 1118, (.ref 418)), ((S "a_5"), 1161, (.ref 428)), ((S "a_6"), 1833, (.ref 573)), ((S "a_7"), 2002, (.ref 610)), ((S "a_8"), 3306, (.ref 899)), ((S "a_9"), 3419, (.ref 924)), ((S "__static_attributes__"), 3424, (.ref 925)), ((S "__doc__"), 3425, .none)] 2), #[]⟩
noncomputable def o927 (P : Params) : Obj := ⟨(.type "type"), none, (.cls { name := (S "SpanishStemmer"), bases := [(.ref 199)], mro := [(.ref 927), (.ref 199), (.type "object")], ns := 926, qualname := (S "SpanishStemmer"), hasDict := true, slotNames := [], subclasses := [], abstract := false, collection := none, hasDel := false }), #[some (.ref 225), none, some (.str (S "SpanishStemmer") 463), some (.str (S "SpanishStemmer") 471), some (.builtin "object.__new__"), some (.bool true)]⟩
noncomputable def o928 (P : Params) : Obj := ⟨(.type "super"), none, (F [(.ref 927), (.ref 927), (.ref 927)]), #[]⟩
noncomputable def o929 (P : Params) : Obj := ⟨(.type "builtin_function_or_method"), none, (F [(.builtin "object.__init_subclass__"), (.ref 927)]), #[]⟩
noncomputable def T12 (P : Params) (X : SetD) : BT := (N (boot_o_0 P) (N (boot_o_1 P) (N (o3v1 P) (N (boot_o_7 P) (N (o15 P) (N (o31 P) (N (o63 P) (N (o127 P) (N (o255 P) (N (o511 P) E E) (N (o767 P) E E)) (N (o383 P) (N (o639 P) E E) (N (o895 P) E E))) (N (o191 P) (N (o319 P) (N (o575 P) E E) (N (o831 P) E E)) (N (o447 P) (N (o703 P) E E) E))) (N (o95 P) (N (o159 P) (N (o287 P) (N (o543 P) E E) (N (o799 P) E E)) (N (o415 P) (N (o671 P) E E) (N (o927 P) E E))) (N (o223 P) (N (o351 P) (N (o607 P) E E) (N (o863 P) E E)) (N (o479 P) (N (o735 P) E E) E)))) (N (o47 P) (N (o79 P) (N (o143 P) (N (o271 P) (N (o527 P) E E) (N (o783 P) E E)) (N (o399 P) (N (o655 P) E E) (N (o911 P) E E))) (N (o207 P) (N (o335 P) (N (o591 P) E E) (N (o847 P) E E)) (N (o463 P) (N (o719 P) E E) E))) (N (o111 P) (N (o175 P) (N (o303 P) (N (o559 P) E E) (N (o815 P) E E)) (N (o431 P) (N (o687 P) E E) E)) (N (o239 P) (N (o367 P) (N (o623 P) E E) (N (o879 P) E E)) (N (o495 P) (N (o751 P) E E) E))))) (N (o23 P) (N (o39 P) (N (o71 P) (N (o135 P) (N (o263 P) (N (o519 P) E E) (N (o775 P) E E)) (N (o391 P) (N (o647 P) E E) (N (o903 P) E E))) (N (o199v1 P) (N (o327 P) (N (o583 P) E E) (N (o839 P) E E)) (N (o455 P) (N (o711 P) E E) E))) (N (o103 P) (N (o167 P) (N (o295 P) (N (o551 P) E E) (N (o807 P) E E)) (N (o423 P) (N (o679 P) E E) E)) (N (o231 P) (N (o359 P) (N (o615 P) E E) (N (o871 P) E E)) (N (o487 P) (N (o743 P) E E) E)))) (N (o55 P) (N (o87 P) (N (o151 P) (N (o279 P) (N (o535 P) E E) (N (o791 P) E E)) (N (o407 P) (N (o663 P) E E) (N (o919 P) E E))) (N (o215 P) (N (o343 P) (N (o599 P) E E) (N (o855 P) E E)) (N (o471 P) (N (o727 P) E E) E))) (N (o119 P) (N (o183 P) (N (o311 P) (N (o567 P) E E) (N (o823 P) E E)) (N (o439 P) (N (o695 P) E E) E)) (N (o247 P) (N (o375 P) (N (o631 P) E E) (N (o887 P) E E)) (N (o503 P) (N (o759 P) E E) E)))))) (N (o11 P) (N (o19 P) (N (o35 P) (N (o67 P) (N (o131 P) (N (o259 P) (N (o515 P) E E) (N (o771 P) E E)) (N (o387 P) (N (o643 P) E E) (N (o899 P) E E))) (N (o195 P) (N (o323 P) (N (o579 P) E E) (N (o835 P) E E)) (N (o451 P) (N (o707 P) E E) E))) (N (o99 P) (N (o163 P) (N (o291 P) (N (o547 P) E E) (N (o803 P) E E)) (N (o419 P) (N (o675 P) E E) E)) (N (o227v9 P) (N (o355 P) (N (o611 P) E E) (N (o867 P) E E)) (N (o483 P) (N (o739 P) E E) E)))) (N (o51 P) (N (o83 P) (N (o147 P) (N (o275 P) (N (o531 P) E E) (N (o787 P) E E)) (N (o403 P) (N (o659 P) E E) (N (o915 P) E E))) (N (o211 P) (N (o339 P) (N (o595 P) E E) (N (o851 P) E E)) (N (o467 P) (N (o723 P) E E) E))) (N (o115 P) (N (o179 P) (N (o307 P) (N (o563 P) E E) (N (o819 P) E E)) (N (o435 P) (N (o691 P) E E) E)) (N (o243 P) (N (o371 P) (N (o627 P) E E) (N (o883 P) E E)) (N (o499 P) (N (o755 P) E E) E))))) (N (o27 P) (N (o43 P) (N (o75 P) (N (o139 P) (N (o267 P) (N (o523 P) E E) (N (o779 P) E E)) (N (o395 P) (N (o651 P) E E) (N (o907 P) E E))) (N (o203 P) (N (o331 P) (N (o587 P) E E) (N (o843 P) E E)) (N (o459 P) (N (o715 P) E E) E))) (N (o107 P) (N (o171 P) (N (o299 P) (N (o555 P) E E) (N (o811 P) E E)) (N (o427 P) (N (o683 P) E E) E)) (N (o235 P) (N (o363 P) (N (o619 P) E E) (N (o875 P) E E)) (N (o491 P) (N (o747 P) E E) E)))) (N (o59 P) (N (o91 P) (N (o155 P) (N (o283 P) (N (o539 P) E E) (N (o795 P) E E)) (N (o411 P) (N (o667 P) E E) (N (o923 P) E E))) (N (o219 P) (N (o347 P) (N (o603 P) E E) (N (o859 P) E E)) (N (o475 P) (N (o731 P) E E) E))) (N (o123 P) (N (o187 P) (N (o315 P) (N (o571 P) E E) (N (o827 P) E E)) (N (o443 P) (N (o699 P) E E) E)) (N (o251 P) (N (o379 P) (N (o635 P) E E) (N (o891 P) E E)) (N (o507 P) (N (o763 P) E E) E))))))) (N (boot_o_5 P) (N (boot_o_9 P) (N (o17 P) (N (o33 P) (N (o65 P) (N (o129 P) (N (o257 P) (N (o513 P) E E) (N (o769 P) E E)) (N (o385 P) (N (o641 P) E E) (N (o897 P) E E))) (N (o193 P) (N (o321 P) (N (o577 P) E E) (N (o833 P) E E)) (N (o449 P) (N (o705 P) E E) E))) (N (o97 P) (N (o161 P) (N (o289 P) (N (o545 P) E E) (N (o801 P) E E)) (N (o417 P) (N (o673 P) E E) (N (o929 P) E E))) (N (o225 P) (N (o353 P) (N (o609 P) E E) (N (o865 P) E E)) (N (o481 P) (N (o737 P) E E) E)))) (N (o49 P) (N (o81 P) (N (o145 P) (N (o273 P) (N (o529 P) E E) (N (o785 P) E E)) (N (o401 P) (N (o657 P) E E) (N (o913 P) E E))) (N (o209 P) (N (o337 P) (N (o593 P) E E) (N (o849 P) E E)) (N (o465 P) (N (o721 P) E E) E))) (N (o113 P) (N (o177 P) (N (o305 P) (N (o561 P) E E) (N (o817 P) E E)) (N (o433 P) (N (o689 P) E E) E)) (N (o241 P) (N (o369 P) (N (o625 P) E E) (N (o881 P) E E)) (N (o497 P) (N (o753 P) E E) E))))) (N (o25 P) (N (o41 P) (N (o73 P) (N (o137 P) (N (o265 P) (N (o521 P) E E) (N (o777 P) E E)) (N (o393 P) (N (o649 P) E E) (N (o905 P) E E))) (N (o201 P) (N (o329 P) (N (o585 P) E E) (N (o841 P) E E)) (N (o457 P) (N (o713 P) E E) E))) (N (o105 P) (N (o169 P) (N (o297 P) (N (o553 P) E E) (N (o809 P) E E)) (N (o425 P) (N (o681 P) E E) E)) (N (o233 P) (N (o361 P) (N (o617 P) E E) (N (o873 P) E E)) (N (o489 P) (N (o745 P) E E) E)))) (N (o57 P) (N (o89 P) (N (o153 P) (N (o281 P) (N (o537 P) E E) (N (o793 P) E E)) (N (o409 P) (N (o665 P) E E) (N (o921 P) E E))) (N (o217 P) (N (o345 P) (N (o601 P) E E) (N (o857 P) E E)) (N (o473 P) (N (o729 P) E E) E))) (N (o121 P) (N (o185 P) (N (o313 P) (N (o569 P) E E) (N (o825 P) E E)) (N (o441 P) (N (o697 P) E E) E)) (N (o249 P) (N (o377 P) (N (o633 P) E E) (N (o889 P) E E)) (N (o505 P) (N (o761 P) E E) E)))))) (N (o13 P) (N (o21 P) (N (o37 P) (N (o69 P) (N (o133 P) (N (o261 P) (N (o517 P) E E) (N (o773 P) E E)) (N (o389 P) (N (o645 P) E E) (N (o901 P) E E))) (N (o197 P) (N (o325 P) (N (o581 P) E E) (N (o837 P) E E)) (N (o453 P) (N (o709 P) E E) E))) (N (o101 P) (N (o165 P) (N (o293 P) (N (o549 P) E E) (N (o805 P) E E)) (N (o421 P) (N (o677 P) E E) E)) (N (o229v1 P) (N (o357 P) (N (o613 P) E E) (N (o869 P) E E)) (N (o485 P) (N (o741 P) E E) E)))) (N (o53 P) (N (o85 P) (N (o149 P) (N (o277 P) (N (o533 P) E E) (N (o789 P) E E)) (N (o405 P) (N (o661 P) E E) (N (o917 P) E E))) (N (o213 P) (N (o341 P) (N (o597 P) E E) (N (o853 P) E E)) (N (o469 P) (N (o725 P) E E) E))) (N (o117 P) (N (o181 P) (N (o309 P) (N (o565 P) E E) (N (o821 P) E E)) (N (o437 P) (N (o693 P) E E) E)) (N (o245 P) (N (o373 P) (N (o629 P) E E) (N (o885 P) E E)) (N (o501 P) (N (o757 P) E E) E))))) (N (o29 P) (N (o45 P) (N (o77 P) (N (o141 P) (N (o269 P) (N (o525 P) E E) (N (o781 P) E E)) (N (o397 P) (N (o653 P) E E) (N (o909 P) E E))) (N (o205 P) (N (o333 P) (N (o589 P) E E) (N (o845 P) E E)) (N (o461 P) (N (o717 P) E E) E))) (N (o109 P) (N (o173 P) (N (o301 P) (N (o557 P) E E) (N (o813 P) E E)) (N (o429 P) (N (o685 P) E E) E)) (N (o237 P) (N (o365 P) (N (o621 P) E E) (N (o877 P) E E)) (N (o493 P) (N (o749 P) E E) E)))) (N (o61 P) (N (o93 P) (N (o157 P) (N (o285 P) (N (o541 P) E E) (N (o797 P) E E)) (N (o413 P) (N (o669 P) E E) (N (o925 P) E E))) (N (o221 P) (N (o349 P) (N (o605 P) E E) (N (o861 P) E E)) (N (o477 P) (N (o733 P) E E) E))) (N (o125 P) (N (o189 P) (N (o317 P) (N (o573 P) E E) (N (o829 P) E E)) (N (o445 P) (N (o701 P) E E) E)) (N (o253 P) (N (o381 P) (N (o637 P) E E) (N (o893 P) E E)) (N (o509 P) (N (o765 P) E E) E)))))))) (N (boot_o_2 P) (N (boot_o_4 P) (N (boot_o_8 P) (N (o16 P) (N (o32 P) (N (o64 P) (N (o128 P) (N (o256 P) (N (o512 P) E E) (N (o768 P) E E)) (N (o384 P) (N (o640 P) E E) (N (o896 P) E E))) (N (o192 P) (N (o320 P) (N (o576 P) E E) (N (o832 P) E E)) (N (o448 P) (N (o704 P) E E) E))) (N (o96 P) (N (o160 P) (N (o288 P) (N (o544 P) E E) (N (o800 P) E E)) (N (o416 P) (N (o672 P) E E) (N (o928 P) E E))) (N (o224 P) (N (o352 P) (N (o608 P) E E) (N (o864 P) E E)) (N (o480 P) (N (o736 P) E E) E)))) (N (o48 P) (N (o80 P) (N (o144 P) (N (o272 P) (N (o528 P) E E) (N (o784 P) E E)) (N (o400 P) (N (o656 P) E E) (N (o912 P) E E))) (N (o208 P) (N (o336 P) (N (o592 P) E E) (N (o848 P) E E)) (N (o464 P) (N (o720 P) E E) E))) (N (o112 P) (N (o176 P) (N (o304 P) (N (o560 P) E E) (N (o816 P) E E)) (N (o432 P) (N (o688 P) E E) E)) (N (o240 P) (N (o368 P) (N (o624 P) E E) (N (o880 P) E E)) (N (o496 P) (N (o752 P) E E) E))))) (N (o24 P) (N (o40 P) (N (o72 P) (N (o136 P) (N (o264 P) (N (o520 P) E E) (N (o776 P) E E)) (N (o392 P) (N (o648 P) E E) (N (o904 P) E E))) (N (o200 P) (N (o328 P) (N (o584 P) E E) (N (o840 P) E E)) (N (o456 P) (N (o712 P) E E) E))) (N (o104 P) (N (o168 P) (N (o296 P) (N (o552 P) E E) (N (o808 P) E E)) (N (o424 P) (N (o680 P) E E) E)) (N (oset X) (N (o360 P) (N (o616 P) E E) (N (o872 P) E E)) (N (o488 P) (N (o744 P) E E) E)))) (N (o56 P) (N (o88 P) (N (o152 P) (N (o280 P) (N (o536 P) E E) (N (o792 P) E E)) (N (o408 P) (N (o664 P) E E) (N (o920 P) E E))) (N (o216 P) (N (o344 P) (N (o600 P) E E) (N (o856 P) E E)) (N (o472 P) (N (o728 P) E E) E))) (N (o120 P) (N (o184 P) (N (o312 P) (N (o568 P) E E) (N (o824 P) E E)) (N (o440 P) (N (o696 P) E E) E)) (N (o248 P) (N (o376 P) (N (o632 P) E E) (N (o888 P) E E)) (N (o504 P) (N (o760 P) E E) E)))))) (N (o12v2 P) (N (o20 P) (N (o36 P) (N (o68 P) (N (o132 P) (N (o260 P) (N (o516 P) E E) (N (o772 P) E E)) (N (o388 P) (N (o644 P) E E) (N (o900 P) E E))) (N (o196 P) (N (o324 P) (N (o580 P) E E) (N (o836 P) E E)) (N (o452 P) (N (o708 P) E E) E))) (N (o100 P) (N (o164 P) (N (o292 P) (N (o548 P) E E) (N (o804 P) E E)) (N (o420 P) (N (o676 P) E E) E)) (N (o228 P) (N (o356 P) (N (o612 P) E E) (N (o868 P) E E)) (N (o484 P) (N (o740 P) E E) E)))) (N (o52 P) (N (o84 P) (N (o148 P) (N (o276 P) (N (o532 P) E E) (N (o788 P) E E)) (N (o404 P) (N (o660 P) E E) (N (o916 P) E E))) (N (o212 P) (N (o340 P) (N (o596 P) E E) (N (o852 P) E E)) (N (o468 P) (N (o724 P) E E) E))) (N (o116 P) (N (o180 P) (N (o308 P) (N (o564 P) E E) (N (o820 P) E E)) (N (o436 P) (N (o692 P) E E) E)) (N (o244 P) (N (o372 P) (N (o628 P) E E) (N (o884 P) E E)) (N (o500 P) (N (o756 P) E E) E))))) (N (o28 P) (N (o44 P) (N (o76 P) (N (o140 P) (N (o268 P) (N (o524 P) E E) (N (o780 P) E E)) (N (o396 P) (N (o652 P) E E) (N (o908 P) E E))) (N (o204 P) (N (o332 P) (N (o588 P) E E) (N (o844 P) E E)) (N (o460 P) (N (o716 P) E E) E))) (N (o108 P) (N (o172 P) (N (o300 P) (N (o556 P) E E) (N (o812 P) E E)) (N (o428 P) (N (o684 P) E E) E)) (N (o236 P) (N (o364 P) (N (o620 P) E E) (N (o876 P) E E)) (N (o492 P) (N (o748 P) E E) E)))) (N (o60 P) (N (o92 P) (N (o156 P) (N (o284 P) (N (o540 P) E E) (N (o796 P) E E)) (N (o412 P) (N (o668 P) E E) (N (o924 P) E E))) (N (o220 P) (N (o348 P) (N (o604 P) E E) (N (o860 P) E E)) (N (o476 P) (N (o732 P) E E) E))) (N (o124 P) (N (o188 P) (N (o316 P) (N (o572 P) E E) (N (o828 P) E E)) (N (o444 P) (N (o700 P) E E) E)) (N (o252 P) (N (o380 P) (N (o636 P) E E) (N (o892 P) E E)) (N (o508 P) (N (o764 P) E E) E))))))) (N (boot_o_6 P) (N (boot_o_10 P) (N (o18 P) (N (o34 P) (N (o66 P) (N (o130 P) (N (o258 P) (N (o514 P) E E) (N (o770 P) E E)) (N (o386 P) (N (o642 P) E E) (N (o898 P) E E))) (N (o194 P) (N (o322 P) (N (o578 P) E E) (N (o834 P) E E)) (N (o450 P) (N (o706 P) E E) E))) (N (o98 P) (N (o162 P) (N (o290 P) (N (o546 P) E E) (N (o802 P) E E)) (N (o418 P) (N (o674 P) E E) E)) (N (o226 P) (N (o354 P) (N (o610 P) E E) (N (o866 P) E E)) (N (o482 P) (N (o738 P) E E) E)))) (N (o50 P) (N (o82 P) (N (o146 P) (N (o274 P) (N (o530 P) E E) (N (o786 P) E E)) (N (o402 P) (N (o658 P) E E) (N (o914 P) E E))) (N (o210 P) (N (o338 P) (N (o594 P) E E) (N (o850 P) E E)) (N (o466 P) (N (o722 P) E E) E))) (N (o114 P) (N (o178 P) (N (o306 P) (N (o562 P) E E) (N (o818 P) E E)) (N (o434 P) (N (o690 P) E E) E)) (N (o242 P) (N (o370 P) (N (o626 P) E E) (N (o882 P) E E)) (N (o498 P) (N (o754 P) E E) E))))) (N (o26 P) (N (o42 P) (N (o74 P) (N (o138 P) (N (o266 P) (N (o522 P) E E) (N (o778 P) E E)) (N (o394 P) (N (o650 P) E E) (N (o906 P) E E))) (N (o202 P) (N (o330 P) (N (o586 P) E E) (N (o842 P) E E)) (N (o458 P) (N (o714 P) E E) E))) (N (o106 P) (N (o170 P) (N (o298 P) (N (o554 P) E E) (N (o810 P) E E)) (N (o426 P) (N (o682 P) E E) E)) (N (o234 P) (N (o362 P) (N (o618 P) E E) (N (o874 P) E E)) (N (o490 P) (N (o746 P) E E) E)))) (N (o58 P) (N (o90 P) (N (o154 P) (N (o282 P) (N (o538 P) E E) (N (o794 P) E E)) (N (o410 P) (N (o666 P) E E) (N (o922 P) E E))) (N (o218 P) (N (o346 P) (N (o602 P) E E) (N (o858 P) E E)) (N (o474 P) (N (o730 P) E E) E))) (N (o122 P) (N (o186 P) (N (o314 P) (N (o570 P) E E) (N (o826 P) E E)) (N (o442 P) (N (o698 P) E E) E)) (N (o250 P) (N (o378 P) (N (o634 P) E E) (N (o890 P) E E)) (N (o506 P) (N (o762 P) E E) E)))))) (N (o14 P) (N (o22 P) (N (o38 P) (N (o70 P) (N (o134 P) (N (o262 P) (N (o518 P) E E) (N (o774 P) E E)) (N (o390 P) (N (o646 P) E E) (N (o902 P) E E))) (N (o198 P) (N (o326 P) (N (o582 P) E E) (N (o838 P) E E)) (N (o454 P) (N (o710 P) E E) E))) (N (o102 P) (N (o166 P) (N (o294 P) (N (o550 P) E E) (N (o806 P) E E)) (N (o422 P) (N (o678 P) E E) E)) (N (o230 P) (N (o358 P) (N (o614 P) E E) (N (o870 P) E E)) (N (o486 P) (N (o742 P) E E) E)))) (N (o54 P) (N (o86 P) (N (o150 P) (N (o278 P) (N (o534 P) E E) (N (o790 P) E E)) (N (o406 P) (N (o662 P) E E) (N (o918 P) E E))) (N (o214 P) (N (o342 P) (N (o598 P) E E) (N (o854 P) E E)) (N (o470 P) (N (o726 P) E E) E))) (N (o118 P) (N (o182 P) (N (o310 P) (N (o566 P) E E) (N (o822 P) E E)) (N (o438 P) (N (o694 P) E E) E)) (N (o246 P) (N (o374 P) (N (o630 P) E E) (N (o886 P) E E)) (N (o502 P) (N (o758 P) E E) E))))) (N (o30 P) (N (o46 P) (N (o78 P) (N (o142 P) (N (o270 P) (N (o526 P) E E) (N (o782 P) E E)) (N (o398 P) (N (o654 P) E E) (N (o910 P) E E))) (N (o206 P) (N (o334 P) (N (o590 P) E E) (N (o846 P) E E)) (N (o462 P) (N (o718 P) E E) E))) (N (o110 P) (N (o174 P) (N (o302 P) (N (o558 P) E E) (N (o814 P) E E)) (N (o430 P) (N (o686 P) E E) E)) (N (o238 P) (N (o366 P) (N (o622 P) E E) (N (o878 P) E E)) (N (o494 P) (N (o750 P) E E) E)))) (N (o62 P) (N (o94 P) (N (o158 P) (N (o286 P) (N (o542 P) E E) (N (o798 P) E E)) (N (o414 P) (N (o670 P) E E) (N (o926 P) E E))) (N (o222 P) (N (o350 P) (N (o606 P) E E) (N (o862 P) E E)) (N (o478 P) (N (o734 P) E E) E))) (N (o126 P) (N (o190 P) (N (o318 P) (N (o574 P) E E) (N (o830 P) E E)) (N (o446 P) (N (o702 P) E E) E)) (N (o254 P) (N (o382 P) (N (o638 P) E E) (N (o894 P) E E)) (N (o510 P) (N (o766 P) E E) E)))))))))
noncomputable def St12 (w : World) (X : SetD) (os : OsState) : SharedT := ⟨T12 w.params X, 930, X.life, #[], drawn0, 3428, os⟩
abbrev ps12 : Pos := ⟨148, 0, 417, 167⟩
-- snapshot 12: depth 1, stack [claim.caller ⟨0, 0, 0, 0⟩]; drawn 0 0 0 0; gens 0
noncomputable def o2 (P : Params) : Obj := ⟨.none, none, (D P [((S "type.__subclasses__.Exception.0"), 3444, (.int (939) 0)), ((S "type.__subclasses__.Exception.n"), 3445, (.int (1) 0))] 2), #[]⟩
noncomputable def o3v2 (P : Params) : Obj := ⟨(.type "dict"), none, (D P [((S "__name__"), 165, (.str (S "law_br6030_01") 3448)), ((S "__doc__"), 166, .none), ((S "__package__"), 167, .none), ((S "__loader__"), 168, (.builtin "__main__.__loader__#opaque")), ((S "__spec__"), 169, .none), ((S "__annotations__"), 170, (.ref 6)), ((S "__builtins__"), 171, (.ref 4)), ((S "__file__"), 173, (.str (S "/claim/cut.py") 172)), ((S "__cached__"), 174, .none), ((S "_wall"), 193, (.ref 21)), ((S "BaseStemmer"), 425, (.ref 199)), ((S "Among"), 460, (.ref 220)), ((S "SpanishStemmer"), 3427, (.ref 927)), ((S "lab0"), 3447, (.ref 939)), ((S "_law_kinds"), 3498, (.ref 952)), ((S "_law_pronouns"), 3512, (.ref 953)), ((S "_law_verbals"), 3518, (.ref 960)), ((S "_law_ys"), 3531, (.ref 961)), ((S "_law_gus"), 3536, (.ref 962)), ((S "_law_verbs"), 3629, (.ref 963)), ((S "_law_residuals"), 3635, (.ref 970)), ((S "_law_pieces"), 3641, (.ref 977)), ((S "_law_letters"), 3643, (.str (S "bcdlmnprstaeiouáé") 3642)), ((S "_law_tape"), 3649, (.ref 982)), ((S "_law_next"), 3657, (.ref 989)), ((S "_law_place"), 3665, (.ref 996)), ((S "_law_end"), 3674, (.ref 1003)), ((S "_law_case"), 3689, (.ref 1010)), ((S "_law_longest"), 3703, (.ref 1017)), ((S "_law_ahead"), 3716, (.ref 1024)), ((S "_law_standard"), 3732, (.ref 1031)), ((S "_law_pronoun"), 3738, (.ref 1036)), ((S "_law_y"), 3750, (.ref 1043)), ((S "_law_verb"), 3762, (.ref 1050)), ((S "_law_residual"), 3775, (.ref 1057)), ((S "_law_due"), 3789, (.ref 1064)), ((S "_law_told"), 3797, (.ref 1071)), ((S "_law_set"), 3805, (.ref 1078)), ((S "_law_wrong"), 3817, (.ref 1085)), ((S "law"), 3831, (.ref 1092))] 40), #[]⟩
noncomputable def o12v3 (P : Params) : Obj := ⟨.none, none, (F [(.int (1) 0), (.int (0) 0), (.ref 20), (.int (5) 0), (.int (0) 0), (.ref 27), (.int (141) 0), (.int (0) 0), (.ref 209), (.int (148) 0), (.int (0) 0), (.ref 230), (.int (418) 0), (.int (0) 0), (.ref 935), (.int (423) 0), (.int (0) 0), (.ref 959), (.int (428) 0), (.int (0) 0), (.ref 969), (.int (430) 0), (.int (0) 0), (.ref 976), (.int (433) 0), (.int (0) 0), (.ref 981), (.int (436) 0), (.int (0) 0), (.ref 988), (.int (442) 0), (.int (0) 0), (.ref 995), (.int (444) 0), (.int (0) 0), (.ref 1002), (.int (457) 0), (.int (0) 0), (.ref 1009), (.int (475) 0), (.int (0) 0), (.ref 1016), (.int (485) 0), (.int (0) 0), (.ref 1023), (.int (491) 0), (.int (0) 0), (.ref 1030), (.int (513) 0), (.int (0) 0), (.ref 1035), (.int (525) 0), (.int (0) 0), (.ref 1042), (.int (531) 0), (.int (0) 0), (.ref 1049), (.int (539) 0), (.int (0) 0), (.ref 1056), (.int (548) 0), (.int (0) 0), (.ref 1063), (.int (559) 0), (.int (0) 0), (.ref 1070), (.int (569) 0), (.int (0) 0), (.ref 1077), (.int (576) 0), (.int (0) 0), (.ref 1084), (.int (585) 0), (.int (0) 0), (.ref 1091)]), #[]⟩
noncomputable def o930 (P : Params) : Obj := ⟨(.type "tuple"), none, (Q [(.type "Exception")] 0), #[]⟩
noncomputable def o931 (P : Params) : Obj := ⟨(.type "builtin_function_or_method"), none, (F [(.builtin "type.__prepare__"), (.type "type")]), #[]⟩
noncomputable def o932 (P : Params) : Obj := ⟨(.type "dict"), none, (D P [((S "__module__"), 3435, (.str (S "snowballstemmer.spanish_stemmer") 461)), ((S "__qualname__"), 3437, (.str (S "lab0") 3436)), ((S "__firstlineno__"), 3439, (.int (418) 3438)), ((S "__static_attributes__"), 3440, (.ref 937))] 4), #[]⟩
noncomputable def o933 (P : Params) : Obj := ⟨(.type "tuple"), none, (Q [] 0), #[]⟩
noncomputable def o934 (P : Params) : Obj := ⟨.none, none, (F []), #[]⟩
noncomputable def o935 (P : Params) : Obj := ⟨(.type "code"), none, (F [(.str (S "lab0") 3430), (.str (S "lab0") 3431), (.str (S "/claim/cut.py") 3432), (.int (418) 0), (.int (0) 0), (.int (0) 0), (.int (0) 0), (.int (0) 0), (.ref 933), (.bool false), (.int (181) 0), (.ref 934), .none, .none, .none, .none, (.int (3433) 0), (.int (418) 0), (.str (S "/claim/cut.py") 3434)]), #[]⟩
noncomputable def o936 (P : Params) : Obj := ⟨(.type "frame"), none, .plain, #[some (.ref 935), some (.ref 3), some (.ref 932), none, some (.str (S "snowballstemmer.spanish_stemmer") 461), none, some (.ref 0)]⟩
noncomputable def o937 (P : Params) : Obj := ⟨(.type "tuple"), none, (Q [] 0), #[]⟩
noncomputable def o938 (P : Params) : Obj := ⟨(.type "dict"), none, (D P [((S "__module__"), 3435, (.str (S "snowballstemmer.spanish_stemmer") 461)), ((S "__firstlineno__"), 3439, (.int (418) 3438)), ((S "__static_attributes__"), 3440, (.ref 937)), ((S "__weakref__"), 3442, (.ref 940)), ((S "__doc__"), 3443, .none)] 3), #[]⟩
noncomputable def o939 (P : Params) : Obj := ⟨(.type "type"), none, (.cls { name := (S "lab0"), bases := [(.type "Exception")], mro := [(.ref 939), (.type "Exception"), (.type "BaseException"), (.type "object")], ns := 938, qualname := (S "lab0"), hasDict := true, slotNames := [], subclasses := [], abstract := false, collection := none, hasDel := false }), #[some (.ref 930), none, some (.str (S "lab0") 3428), some (.str (S "lab0") 3436), some (.builtin "Exception.__new__"), some (.bool true)]⟩
noncomputable def o940 (P : Params) : Obj := ⟨(.type "getset_descriptor"), none, (F [(.str (S "__weakref__") 3441), (.ref 939), (.builtin "ExceptionGroup.__weakref__"), .none]), #[]⟩
noncomputable def o941 (P : Params) : Obj := ⟨(.type "super"), none, (F [(.ref 939), (.ref 939), (.ref 939)]), #[]⟩
noncomputable def o942 (P : Params) : Obj := ⟨(.type "builtin_function_or_method"), none, (F [(.builtin "object.__init_subclass__"), (.ref 939)]), #[]⟩
noncomputable def o943 (P : Params) : Obj := ⟨(.type "list"), none, (Q [(.str (S "ica") 3450), (.str (S "osa") 3451), (.str (S "ista") 3452), (.str (S "anza") 3453), (.str (S "able") 3454), (.str (S "ible") 3455), (.str (S "ico") 3456), (.str (S "ismo") 3457), (.str (S "oso") 3458), (.str (S "amiento") 3459), (.str (S "imiento") 3460), (.str (S "icas") 3461), (.str (S "osas") 3462), (.str (S "istas") 3463), (.str (S "anzas") 3464), (.str (S "ables") 3465), (.str (S "ibles") 3466), (.str (S "icos") 3467), (.str (S "ismos") 3468), (.str (S "osos") 3469), (.str (S "amientos") 3470), (.str (S "imientos") 3471)] 0), #[]⟩
noncomputable def o944 (P : Params) : Obj := ⟨(.type "list"), none, (Q [(.str (S "ancia") 3472), (.str (S "adora") 3473), (.str (S "ante") 3474), (.str (S "acion") 3475), (.str (S "ación") 3476), (.str (S "ador") 3477), (.str (S "ancias") 3478), (.str (S "adoras") 3479), (.str (S "aciones") 3480), (.str (S "adores") 3481), (.str (S "antes") 3482)] 0), #[]⟩
noncomputable def o945 (P : Params) : Obj := ⟨(.type "list"), none, (Q [(.str (S "logía") 3483), (.str (S "logías") 3484)] 0), #[]⟩
noncomputable def o946 (P : Params) : Obj := ⟨(.type "list"), none, (Q [(.str (S "ucion") 3485), (.str (S "ución") 3486), (.str (S "uciones") 3487)] 0), #[]⟩
noncomputable def o947 (P : Params) : Obj := ⟨(.type "list"), none, (Q [(.str (S "encia") 3488), (.str (S "encias") 3489)] 0), #[]⟩
noncomputable def o948 (P : Params) : Obj := ⟨(.type "list"), none, (Q [(.str (S "amente") 3490)] 0), #[]⟩
noncomputable def o949 (P : Params) : Obj := ⟨(.type "list"), none, (Q [(.str (S "mente") 3491)] 0), #[]⟩
noncomputable def o950 (P : Params) : Obj := ⟨(.type "list"), none, (Q [(.str (S "idad") 3492), (.str (S "idades") 3493)] 0), #[]⟩
noncomputable def o951 (P : Params) : Obj := ⟨(.type "list"), none, (Q [(.str (S "iva") 3494), (.str (S "ivo") 3495), (.str (S "ivas") 3496), (.str (S "ivos") 3497)] 0), #[]⟩
noncomputable def o952 (P : Params) : Obj := ⟨(.type "list"), none, (Q [(.ref 943), (.ref 944), (.ref 945), (.ref 946), (.ref 947), (.ref 948), (.ref 949), (.ref 950), (.ref 951)] 0), #[]⟩
noncomputable def o953 (P : Params) : Obj := ⟨(.type "list"), none, (Q [(.str (S "la") 3499), (.str (S "sela") 3500), (.str (S "le") 3501), (.str (S "me") 3502), (.str (S "se") 3503), (.str (S "lo") 3504), (.str (S "selo") 3505), (.str (S "las") 3506), (.str (S "selas") 3507), (.str (S "les") 3508), (.str (S "los") 3509), (.str (S "selos") 3510), (.str (S "nos") 3511)] 0), #[]⟩
noncomputable def o954 (P : Params) : Obj := ⟨(.type "tuple"), none, (Q [] 0), #[]⟩
noncomputable def o955 (P : Params) : Obj := ⟨.none, none, (F []), #[]⟩
noncomputable def o956 (P : Params) : Obj := ⟨(.type "tuple"), none, (Q [] 0), #[]⟩
noncomputable def o957 (P : Params) : Obj := ⟨(.type "tuple"), none, (Q [] 0), #[]⟩
noncomputable def o958 (P : Params) : Obj := ⟨.none, none, (fdata (stT 11) (S "_law_verbals") 0 .none .none 0), #[]⟩
noncomputable def o959 (P : Params) : Obj := ⟨(.type "code"), none, (F [(.str (S "_law_verbals") 3513), (.str (S "_law_verbals") 3514), (.str (S "/claim/cut.py") 3515), (.int (423) 0), (.int (0) 0), (.int (0) 0), (.int (0) 0), (.int (3) 0), (.ref 954), (.bool true), (.int (181) 0), (.ref 955), .none, (.ref 956), (.ref 957), (.ref 958), (.int (3516) 0), (.int (423) 0), (.str (S "/claim/cut.py") 3517)]), #[]⟩
noncomputable def o960 (P : Params) : Obj := ⟨(.type "function"), none, (fdata (stT 11) (S "_law_verbals") 3 (.str (S "law_br6030_01") 3448) (.ref 959) 0), #[]⟩
noncomputable def o961 (P : Params) : Obj := ⟨(.type "list"), none, (Q [(.str (S "ya") 3519), (.str (S "ye") 3520), (.str (S "yan") 3521), (.str (S "yen") 3522), (.str (S "yeron") 3523), (.str (S "yendo") 3524), (.str (S "yo") 3525), (.str (S "yas") 3526), (.str (S "yes") 3527), (.str (S "yais") 3528), (.str (S "yamos") 3529), (.str (S "yó") 3530)] 0), #[]⟩
noncomputable def o962 (P : Params) : Obj := ⟨(.type "list"), none, (Q [(.str (S "en") 3532), (.str (S "es") 3533), (.str (S "éis") 3534), (.str (S "emos") 3535)] 0), #[]⟩
noncomputable def o963 (P : Params) : Obj := ⟨(.type "list"), none, (Q [(.str (S "aba") 3537), (.str (S "ada") 3538), (.str (S "ida") 3539), (.str (S "ara") 3540), (.str (S "iera") 3541), (.str (S "ía") 3542), (.str (S "aría") 3543), (.str (S "ería") 3544), (.str (S "iría") 3545), (.str (S "ad") 3546), (.str (S "ed") 3547), (.str (S "id") 3548), (.str (S "ase") 3549), (.str (S "iese") 3550), (.str (S "aste") 3551), (.str (S "iste") 3552), (.str (S "an") 3553), (.str (S "aban") 3554), (.str (S "aran") 3555), (.str (S "ieran") 3556), (.str (S "ían") 3557), (.str (S "arían") 3558), (.str (S "erían") 3559), (.str (S "irían") 3560), (.str (S "asen") 3561), (.str (S "iesen") 3562), (.str (S "aron") 3563), (.str (S "ieron") 3564), (.str (S "arán") 3565), (.str (S "erán") 3566), (.str (S "irán") 3567), (.str (S "ado") 3568), (.str (S "ido") 3569), (.str (S "ando") 3570), (.str (S "iendo") 3571), (.str (S "ar") 3572), (.str (S "er") 3573), (.str (S "ir") 3574), (.str (S "as") 3575), (.str (S "abas") 3576), (.str (S "adas") 3577), (.str (S "idas") 3578), (.str (S "aras") 3579), (.str (S "ieras") 3580), (.str (S "ías") 3581), (.str (S "arías") 3582), (.str (S "erías") 3583), (.str (S "irías") 3584), (.str (S "ases") 3585), (.str (S "ieses") 3586), (.str (S "abais") 3587), (.str (S "arais") 3588), (.str (S "ierais") 3589), (.str (S "íais") 3590), (.str (S "aríais") 3591), (.str (S "eríais") 3592), (.str (S "iríais") 3593), (.str (S "aseis") 3594), (.str (S "ieseis") 3595), (.str (S "asteis") 3596), (.str (S "isteis") 3597), (.str (S "áis") 3598), (.str (S "aréis") 3599), (.str (S "eréis") 3600), (.str (S "iréis") 3601), (.str (S "ados") 3602), (.str (S "idos") 3603), (.str (S "amos") 3604), (.str (S "ábamos") 3605), (.str (S "áramos") 3606), (.str (S "iéramos") 3607), (.str (S "íamos") 3608), (.str (S "aríamos") 3609), (.str (S "eríamos") 3610), (.str (S "iríamos") 3611), (.str (S "aremos") 3612), (.str (S "eremos") 3613), (.str (S "iremos") 3614), (.str (S "ásemos") 3615), (.str (S "iésemos") 3616), (.str (S "imos") 3617), (.str (S "arás") 3618), (.str (S "erás") 3619), (.str (S "irás") 3620), (.str (S "ís") 3621), (.str (S "ará") 3622), (.str (S "erá") 3623), (.str (S "irá") 3624), (.str (S "aré") 3625), (.str (S "eré") 3626), (.str (S "iré") 3627), (.str (S "ió") 3628)] 0), #[]⟩
noncomputable def o964 (P : Params) : Obj := ⟨(.type "tuple"), none, (Q [] 0), #[]⟩
noncomputable def o965 (P : Params) : Obj := ⟨.none, none, (F []), #[]⟩
noncomputable def o966 (P : Params) : Obj := ⟨(.type "tuple"), none, (Q [] 0), #[]⟩
noncomputable def o967 (P : Params) : Obj := ⟨(.type "tuple"), none, (Q [] 0), #[]⟩
noncomputable def o968 (P : Params) : Obj := ⟨.none, none, (fdata (stT 15) (S "_law_residuals") 0 .none .none 0), #[]⟩
noncomputable def o969 (P : Params) : Obj := ⟨(.type "code"), none, (F [(.str (S "_law_residuals") 3630), (.str (S "_law_residuals") 3631), (.str (S "/claim/cut.py") 3632), (.int (428) 0), (.int (0) 0), (.int (0) 0), (.int (0) 0), (.int (3) 0), (.ref 964), (.bool true), (.int (181) 0), (.ref 965), .none, (.ref 966), (.ref 967), (.ref 968), (.int (3633) 0), (.int (428) 0), (.str (S "/claim/cut.py") 3634)]), #[]⟩
noncomputable def o970 (P : Params) : Obj := ⟨(.type "function"), none, (fdata (stT 15) (S "_law_residuals") 3 (.str (S "law_br6030_01") 3448) (.ref 969) 0), #[]⟩
noncomputable def o971 (P : Params) : Obj := ⟨(.type "tuple"), none, (Q [] 0), #[]⟩
noncomputable def o972 (P : Params) : Obj := ⟨.none, none, (F []), #[]⟩
noncomputable def o973 (P : Params) : Obj := ⟨(.type "tuple"), none, (Q [] 0), #[]⟩
noncomputable def o974 (P : Params) : Obj := ⟨(.type "tuple"), none, (Q [] 0), #[]⟩
noncomputable def o975 (P : Params) : Obj := ⟨.none, none, (fdata (stT 16) (S "_law_pieces") 0 .none .none 0), #[]⟩
noncomputable def o976 (P : Params) : Obj := ⟨(.type "code"), none, (F [(.str (S "_law_pieces") 3636), (.str (S "_law_pieces") 3637), (.str (S "/claim/cut.py") 3638), (.int (430) 0), (.int (0) 0), (.int (0) 0), (.int (0) 0), (.int (3) 0), (.ref 971), (.bool true), (.int (181) 0), (.ref 972), .none, (.ref 973), (.ref 974), (.ref 975), (.int (3639) 0), (.int (430) 0), (.str (S "/claim/cut.py") 3640)]), #[]⟩
noncomputable def o977 (P : Params) : Obj := ⟨(.type "function"), none, (fdata (stT 16) (S "_law_pieces") 3 (.str (S "law_br6030_01") 3448) (.ref 976) 0), #[]⟩
noncomputable def o978 (P : Params) : Obj := ⟨(.type "tuple"), none, (Q [] 0), #[]⟩
noncomputable def o979 (P : Params) : Obj := ⟨.none, none, (F []), #[]⟩
noncomputable def o980 (P : Params) : Obj := ⟨.none, none, (fdata (stT 18) (S "_law_tape") 0 .none .none 0), #[]⟩
noncomputable def o981 (P : Params) : Obj := ⟨(.type "code"), none, (F [(.str (S "_law_tape") 3644), (.str (S "_law_tape") 3645), (.str (S "/claim/cut.py") 3646), (.int (433) 0), (.int (1) 0), (.int (0) 0), (.int (0) 0), (.int (3) 0), (.ref 978), (.bool true), (.int (181) 0), (.ref 979), .none, .none, .none, (.ref 980), (.int (3647) 0), (.int (433) 0), (.str (S "/claim/cut.py") 3648)]), #[]⟩
noncomputable def o982 (P : Params) : Obj := ⟨(.type "function"), none, (fdata (stT 18) (S "_law_tape") 3 (.str (S "law_br6030_01") 3448) (.ref 981) 0), #[]⟩
noncomputable def o983 (P : Params) : Obj := ⟨(.type "tuple"), none, (Q [] 0), #[]⟩
noncomputable def o984 (P : Params) : Obj := ⟨.none, none, (F []), #[]⟩
noncomputable def o985 (P : Params) : Obj := ⟨(.type "tuple"), none, (Q [(.str (S "tape") 3653), (.str (S "many") 3654)] 0), #[]⟩
noncomputable def o986 (P : Params) : Obj := ⟨(.type "tuple"), none, (Q [] 0), #[]⟩
noncomputable def o987 (P : Params) : Obj := ⟨.none, none, (fdata (stT 19) (S "_law_next") 0 .none .none 0), #[]⟩
noncomputable def o988 (P : Params) : Obj := ⟨(.type "code"), none, (F [(.str (S "_law_next") 3650), (.str (S "_law_next") 3651), (.str (S "/claim/cut.py") 3652), (.int (436) 0), (.int (2) 0), (.int (0) 0), (.int (0) 0), (.int (3) 0), (.ref 983), (.bool true), (.int (181) 0), (.ref 984), .none, (.ref 985), (.ref 986), (.ref 987), (.int (3655) 0), (.int (436) 0), (.str (S "/claim/cut.py") 3656)]), #[]⟩
noncomputable def o989 (P : Params) : Obj := ⟨(.type "function"), none, (fdata (stT 19) (S "_law_next") 3 (.str (S "law_br6030_01") 3448) (.ref 988) 0), #[]⟩
noncomputable def o990 (P : Params) : Obj := ⟨(.type "tuple"), none, (Q [] 0), #[]⟩
noncomputable def o991 (P : Params) : Obj := ⟨.none, none, (F []), #[]⟩
noncomputable def o992 (P : Params) : Obj := ⟨(.type "tuple"), none, (Q [(.str (S "tape") 3661), (.str (S "near") 3662)] 0), #[]⟩
noncomputable def o993 (P : Params) : Obj := ⟨(.type "tuple"), none, (Q [] 0), #[]⟩
noncomputable def o994 (P : Params) : Obj := ⟨.none, none, (fdata (stT 20) (S "_law_place") 0 .none .none 0), #[]⟩
noncomputable def o995 (P : Params) : Obj := ⟨(.type "code"), none, (F [(.str (S "_law_place") 3658), (.str (S "_law_place") 3659), (.str (S "/claim/cut.py") 3660), (.int (442) 0), (.int (2) 0), (.int (0) 0), (.int (0) 0), (.int (3) 0), (.ref 990), (.bool true), (.int (181) 0), (.ref 991), .none, (.ref 992), (.ref 993), (.ref 994), (.int (3663) 0), (.int (442) 0), (.str (S "/claim/cut.py") 3664)]), #[]⟩
noncomputable def o996 (P : Params) : Obj := ⟨(.type "function"), none, (fdata (stT 20) (S "_law_place") 3 (.str (S "law_br6030_01") 3448) (.ref 995) 0), #[]⟩
noncomputable def o997 (P : Params) : Obj := ⟨(.type "tuple"), none, (Q [] 0), #[]⟩
noncomputable def o998 (P : Params) : Obj := ⟨.none, none, (F []), #[]⟩
noncomputable def o999 (P : Params) : Obj := ⟨(.type "tuple"), none, (Q [(.str (S "tape") 3669), (.str (S "step") 3670), (.str (S "row") 3671)] 0), #[]⟩
noncomputable def o1000 (P : Params) : Obj := ⟨(.type "tuple"), none, (Q [] 0), #[]⟩
noncomputable def o1001 (P : Params) : Obj := ⟨.none, none, (fdata (stT 21) (S "_law_end") 0 .none .none 0), #[]⟩
noncomputable def o1002 (P : Params) : Obj := ⟨(.type "code"), none, (F [(.str (S "_law_end") 3666), (.str (S "_law_end") 3667), (.str (S "/claim/cut.py") 3668), (.int (444) 0), (.int (2) 0), (.int (0) 0), (.int (0) 0), (.int (3) 0), (.ref 997), (.bool true), (.int (181) 0), (.ref 998), .none, (.ref 999), (.ref 1000), (.ref 1001), (.int (3672) 0), (.int (444) 0), (.str (S "/claim/cut.py") 3673)]), #[]⟩
noncomputable def o1003 (P : Params) : Obj := ⟨(.type "function"), none, (fdata (stT 21) (S "_law_end") 3 (.str (S "law_br6030_01") 3448) (.ref 1002) 0), #[]⟩
noncomputable def o1004 (P : Params) : Obj := ⟨(.type "tuple"), none, (Q [] 0), #[]⟩
noncomputable def o1005 (P : Params) : Obj := ⟨.none, none, (F []), #[]⟩
noncomputable def o1006 (P : Params) : Obj := ⟨(.type "tuple"), none, (Q [(.str (S "tape") 3678), (.str (S "step") 3679), (.str (S "end") 3680), (.str (S "head") 3681), (.str (S "k") 3682), (.str (S "piece") 3683), (.str (S "near") 3684), (.str (S "pv") 3685), (.str (S "front") 3686)] 0), #[]⟩
noncomputable def o1007 (P : Params) : Obj := ⟨(.type "tuple"), none, (Q [] 0), #[]⟩
noncomputable def o1008 (P : Params) : Obj := ⟨.none, none, (fdata (stT 22) (S "_law_case") 0 .none .none 0), #[]⟩
noncomputable def o1009 (P : Params) : Obj := ⟨(.type "code"), none, (F [(.str (S "_law_case") 3675), (.str (S "_law_case") 3676), (.str (S "/claim/cut.py") 3677), (.int (457) 0), (.int (1) 0), (.int (0) 0), (.int (0) 0), (.int (3) 0), (.ref 1004), (.bool true), (.int (181) 0), (.ref 1005), .none, (.ref 1006), (.ref 1007), (.ref 1008), (.int (3687) 0), (.int (457) 0), (.str (S "/claim/cut.py") 3688)]), #[]⟩
noncomputable def o1010 (P : Params) : Obj := ⟨(.type "function"), none, (fdata (stT 22) (S "_law_case") 3 (.str (S "law_br6030_01") 3448) (.ref 1009) 0), #[]⟩
noncomputable def o1011 (P : Params) : Obj := ⟨(.type "tuple"), none, (Q [] 0), #[]⟩
noncomputable def o1012 (P : Params) : Obj := ⟨.none, none, (F []), #[]⟩
noncomputable def o1013 (P : Params) : Obj := ⟨(.type "tuple"), none, (Q [(.str (S "text") 3693), (.str (S "front") 3694), (.str (S "rows") 3695), (.str (S "part") 3696), (.str (S "best") 3697), (.str (S "place") 3698), (.str (S "k") 3699), (.str (S "end") 3700)] 0), #[]⟩
noncomputable def o1014 (P : Params) : Obj := ⟨(.type "tuple"), none, (Q [] 0), #[]⟩
noncomputable def o1015 (P : Params) : Obj := ⟨.none, none, (fdata (stT 23) (S "_law_longest") 0 .none .none 0), #[]⟩
noncomputable def o1016 (P : Params) : Obj := ⟨(.type "code"), none, (F [(.str (S "_law_longest") 3690), (.str (S "_law_longest") 3691), (.str (S "/claim/cut.py") 3692), (.int (475) 0), (.int (3) 0), (.int (0) 0), (.int (0) 0), (.int (3) 0), (.ref 1011), (.bool true), (.int (181) 0), (.ref 1012), .none, (.ref 1013), (.ref 1014), (.ref 1015), (.int (3701) 0), (.int (475) 0), (.str (S "/claim/cut.py") 3702)]), #[]⟩
noncomputable def o1017 (P : Params) : Obj := ⟨(.type "function"), none, (fdata (stT 23) (S "_law_longest") 3 (.str (S "law_br6030_01") 3448) (.ref 1016) 0), #[]⟩
noncomputable def o1018 (P : Params) : Obj := ⟨(.type "tuple"), none, (Q [] 0), #[]⟩
noncomputable def o1019 (P : Params) : Obj := ⟨.none, none, (F []), #[]⟩
noncomputable def o1020 (P : Params) : Obj := ⟨(.type "tuple"), none, (Q [(.str (S "head") 3707), (.str (S "front") 3708), (.str (S "rows") 3709), (.str (S "p2") 3710), (.str (S "end") 3711), (.str (S "place") 3712), (.str (S "at") 3713)] 0), #[]⟩
noncomputable def o1021 (P : Params) : Obj := ⟨(.type "tuple"), none, (Q [] 0), #[]⟩
noncomputable def o1022 (P : Params) : Obj := ⟨.none, none, (fdata (stT 24) (S "_law_ahead") 0 .none .none 0), #[]⟩
noncomputable def o1023 (P : Params) : Obj := ⟨(.type "code"), none, (F [(.str (S "_law_ahead") 3704), (.str (S "_law_ahead") 3705), (.str (S "/claim/cut.py") 3706), (.int (485) 0), (.int (4) 0), (.int (0) 0), (.int (0) 0), (.int (3) 0), (.ref 1018), (.bool true), (.int (181) 0), (.ref 1019), .none, (.ref 1020), (.ref 1021), (.ref 1022), (.int (3714) 0), (.int (485) 0), (.str (S "/claim/cut.py") 3715)]), #[]⟩
noncomputable def o1024 (P : Params) : Obj := ⟨(.type "function"), none, (fdata (stT 24) (S "_law_ahead") 3 (.str (S "law_br6030_01") 3448) (.ref 1023) 0), #[]⟩
noncomputable def o1025 (P : Params) : Obj := ⟨(.type "tuple"), none, (Q [] 0), #[]⟩
noncomputable def o1026 (P : Params) : Obj := ⟨.none, none, (F []), #[]⟩
noncomputable def o1027 (P : Params) : Obj := ⟨(.type "tuple"), none, (Q [(.str (S "text") 3720), (.str (S "front") 3721), (.str (S "p1") 3722), (.str (S "p2") 3723), (.str (S "end") 3724), (.str (S "kind") 3725), (.str (S "at") 3726), (.str (S "head") 3727), (.str (S "rest") 3728), (.str (S "place") 3729)] 0), #[]⟩
noncomputable def o1028 (P : Params) : Obj := ⟨(.type "tuple"), none, (Q [] 0), #[]⟩
noncomputable def o1029 (P : Params) : Obj := ⟨.none, none, (fdata (stT 25) (S "_law_standard") 0 .none .none 0), #[]⟩
noncomputable def o1030 (P : Params) : Obj := ⟨(.type "code"), none, (F [(.str (S "_law_standard") 3717), (.str (S "_law_standard") 3718), (.str (S "/claim/cut.py") 3719), (.int (491) 0), (.int (4) 0), (.int (0) 0), (.int (0) 0), (.int (3) 0), (.ref 1025), (.bool true), (.int (181) 0), (.ref 1026), .none, (.ref 1027), (.ref 1028), (.ref 1029), (.int (3730) 0), (.int (491) 0), (.str (S "/claim/cut.py") 3731)]), #[]⟩
noncomputable def o1031 (P : Params) : Obj := ⟨(.type "function"), none, (fdata (stT 25) (S "_law_standard") 3 (.str (S "law_br6030_01") 3448) (.ref 1030) 0), #[]⟩
noncomputable def o1032 (P : Params) : Obj := ⟨(.type "tuple"), none, (Q [] 0), #[]⟩
noncomputable def o1033 (P : Params) : Obj := ⟨.none, none, (F []), #[]⟩
noncomputable def o1034 (P : Params) : Obj := ⟨.none, none, (fdata (stT 26) (S "_law_pronoun") 0 .none .none 0), #[]⟩
noncomputable def o1035 (P : Params) : Obj := ⟨(.type "code"), none, (F [(.str (S "_law_pronoun") 3733), (.str (S "_law_pronoun") 3734), (.str (S "/claim/cut.py") 3735), (.int (513) 0), (.int (3) 0), (.int (0) 0), (.int (0) 0), (.int (3) 0), (.ref 1032), (.bool true), (.int (181) 0), (.ref 1033), .none, .none, .none, (.ref 1034), (.int (3736) 0), (.int (513) 0), (.str (S "/claim/cut.py") 3737)]), #[]⟩
noncomputable def o1036 (P : Params) : Obj := ⟨(.type "function"), none, (fdata (stT 26) (S "_law_pronoun") 3 (.str (S "law_br6030_01") 3448) (.ref 1035) 0), #[]⟩
noncomputable def o1037 (P : Params) : Obj := ⟨(.type "tuple"), none, (Q [] 0), #[]⟩
noncomputable def o1038 (P : Params) : Obj := ⟨.none, none, (F []), #[]⟩
noncomputable def o1039 (P : Params) : Obj := ⟨(.type "tuple"), none, (Q [(.str (S "text") 3742), (.str (S "front") 3743), (.str (S "pv") 3744), (.str (S "end") 3745), (.str (S "place") 3746), (.str (S "at") 3747)] 0), #[]⟩
noncomputable def o1040 (P : Params) : Obj := ⟨(.type "tuple"), none, (Q [] 0), #[]⟩
noncomputable def o1041 (P : Params) : Obj := ⟨.none, none, (fdata (stT 27) (S "_law_y") 0 .none .none 0), #[]⟩
noncomputable def o1042 (P : Params) : Obj := ⟨(.type "code"), none, (F [(.str (S "_law_y") 3739), (.str (S "_law_y") 3740), (.str (S "/claim/cut.py") 3741), (.int (525) 0), (.int (3) 0), (.int (0) 0), (.int (0) 0), (.int (3) 0), (.ref 1037), (.bool true), (.int (181) 0), (.ref 1038), .none, (.ref 1039), (.ref 1040), (.ref 1041), (.int (3748) 0), (.int (525) 0), (.str (S "/claim/cut.py") 3749)]), #[]⟩
noncomputable def o1043 (P : Params) : Obj := ⟨(.type "function"), none, (fdata (stT 27) (S "_law_y") 3 (.str (S "law_br6030_01") 3448) (.ref 1042) 0), #[]⟩
noncomputable def o1044 (P : Params) : Obj := ⟨(.type "tuple"), none, (Q [] 0), #[]⟩
noncomputable def o1045 (P : Params) : Obj := ⟨.none, none, (F []), #[]⟩
noncomputable def o1046 (P : Params) : Obj := ⟨(.type "tuple"), none, (Q [(.str (S "text") 3754), (.str (S "front") 3755), (.str (S "pv") 3756), (.str (S "end") 3757), (.str (S "kind") 3758), (.str (S "head") 3759)] 0), #[]⟩
noncomputable def o1047 (P : Params) : Obj := ⟨(.type "tuple"), none, (Q [] 0), #[]⟩
noncomputable def o1048 (P : Params) : Obj := ⟨.none, none, (fdata (stT 28) (S "_law_verb") 0 .none .none 0), #[]⟩
noncomputable def o1049 (P : Params) : Obj := ⟨(.type "code"), none, (F [(.str (S "_law_verb") 3751), (.str (S "_law_verb") 3752), (.str (S "/claim/cut.py") 3753), (.int (531) 0), (.int (3) 0), (.int (0) 0), (.int (0) 0), (.int (3) 0), (.ref 1044), (.bool true), (.int (181) 0), (.ref 1045), .none, (.ref 1046), (.ref 1047), (.ref 1048), (.int (3760) 0), (.int (531) 0), (.str (S "/claim/cut.py") 3761)]), #[]⟩
noncomputable def o1050 (P : Params) : Obj := ⟨(.type "function"), none, (fdata (stT 28) (S "_law_verb") 3 (.str (S "law_br6030_01") 3448) (.ref 1049) 0), #[]⟩
noncomputable def o1051 (P : Params) : Obj := ⟨(.type "tuple"), none, (Q [] 0), #[]⟩
noncomputable def o1052 (P : Params) : Obj := ⟨.none, none, (F []), #[]⟩
noncomputable def o1053 (P : Params) : Obj := ⟨(.type "tuple"), none, (Q [(.str (S "text") 3766), (.str (S "front") 3767), (.str (S "pv") 3768), (.str (S "end") 3769), (.str (S "kind") 3770), (.str (S "at") 3771), (.str (S "head") 3772)] 0), #[]⟩
noncomputable def o1054 (P : Params) : Obj := ⟨(.type "tuple"), none, (Q [] 0), #[]⟩
noncomputable def o1055 (P : Params) : Obj := ⟨.none, none, (fdata (stT 29) (S "_law_residual") 0 .none .none 0), #[]⟩
noncomputable def o1056 (P : Params) : Obj := ⟨(.type "code"), none, (F [(.str (S "_law_residual") 3763), (.str (S "_law_residual") 3764), (.str (S "/claim/cut.py") 3765), (.int (539) 0), (.int (3) 0), (.int (0) 0), (.int (0) 0), (.int (3) 0), (.ref 1051), (.bool true), (.int (181) 0), (.ref 1052), .none, (.ref 1053), (.ref 1054), (.ref 1055), (.int (3773) 0), (.int (539) 0), (.str (S "/claim/cut.py") 3774)]), #[]⟩
noncomputable def o1057 (P : Params) : Obj := ⟨(.type "function"), none, (fdata (stT 29) (S "_law_residual") 3 (.str (S "law_br6030_01") 3448) (.ref 1056) 0), #[]⟩
noncomputable def o1058 (P : Params) : Obj := ⟨(.type "tuple"), none, (Q [] 0), #[]⟩
noncomputable def o1059 (P : Params) : Obj := ⟨.none, none, (F []), #[]⟩
noncomputable def o1060 (P : Params) : Obj := ⟨(.type "tuple"), none, (Q [(.str (S "case") 3779), (.str (S "step") 3780), (.str (S "text") 3781), (.str (S "tail") 3782), (.str (S "front") 3783), (.str (S "p1") 3784), (.str (S "p2") 3785), (.str (S "pv") 3786)] 0), #[]⟩
noncomputable def o1061 (P : Params) : Obj := ⟨(.type "tuple"), none, (Q [] 0), #[]⟩
noncomputable def o1062 (P : Params) : Obj := ⟨.none, none, (fdata (stT 30) (S "_law_due") 0 .none .none 0), #[]⟩
noncomputable def o1063 (P : Params) : Obj := ⟨(.type "code"), none, (F [(.str (S "_law_due") 3776), (.str (S "_law_due") 3777), (.str (S "/claim/cut.py") 3778), (.int (548) 0), (.int (1) 0), (.int (0) 0), (.int (0) 0), (.int (3) 0), (.ref 1058), (.bool true), (.int (181) 0), (.ref 1059), .none, (.ref 1060), (.ref 1061), (.ref 1062), (.int (3787) 0), (.int (548) 0), (.str (S "/claim/cut.py") 3788)]), #[]⟩
noncomputable def o1064 (P : Params) : Obj := ⟨(.type "function"), none, (fdata (stT 30) (S "_law_due") 3 (.str (S "law_br6030_01") 3448) (.ref 1063) 0), #[]⟩
noncomputable def o1065 (P : Params) : Obj := ⟨(.type "tuple"), none, (Q [] 0), #[]⟩
noncomputable def o1066 (P : Params) : Obj := ⟨.none, none, (F []), #[]⟩
noncomputable def o1067 (P : Params) : Obj := ⟨(.type "tuple"), none, (Q [(.str (S "stemmer") 3793), (.str (S "step") 3794)] 0), #[]⟩
noncomputable def o1068 (P : Params) : Obj := ⟨(.type "tuple"), none, (Q [] 0), #[]⟩
noncomputable def o1069 (P : Params) : Obj := ⟨.none, none, (fdata (stT 31) (S "_law_told") 0 .none .none 0), #[]⟩
noncomputable def o1070 (P : Params) : Obj := ⟨(.type "code"), none, (F [(.str (S "_law_told") 3790), (.str (S "_law_told") 3791), (.str (S "/claim/cut.py") 3792), (.int (559) 0), (.int (2) 0), (.int (0) 0), (.int (0) 0), (.int (3) 0), (.ref 1065), (.bool true), (.int (181) 0), (.ref 1066), .none, (.ref 1067), (.ref 1068), (.ref 1069), (.int (3795) 0), (.int (559) 0), (.str (S "/claim/cut.py") 3796)]), #[]⟩
noncomputable def o1071 (P : Params) : Obj := ⟨(.type "function"), none, (fdata (stT 31) (S "_law_told") 3 (.str (S "law_br6030_01") 3448) (.ref 1070) 0), #[]⟩
noncomputable def o1072 (P : Params) : Obj := ⟨(.type "tuple"), none, (Q [] 0), #[]⟩
noncomputable def o1073 (P : Params) : Obj := ⟨.none, none, (F []), #[]⟩
noncomputable def o1074 (P : Params) : Obj := ⟨(.type "tuple"), none, (Q [(.str (S "stemmer") 3801), (.str (S "case") 3802)] 0), #[]⟩
noncomputable def o1075 (P : Params) : Obj := ⟨(.type "tuple"), none, (Q [] 0), #[]⟩
noncomputable def o1076 (P : Params) : Obj := ⟨.none, none, (fdata (stT 32) (S "_law_set") 0 .none .none 0), #[]⟩
noncomputable def o1077 (P : Params) : Obj := ⟨(.type "code"), none, (F [(.str (S "_law_set") 3798), (.str (S "_law_set") 3799), (.str (S "/claim/cut.py") 3800), (.int (569) 0), (.int (2) 0), (.int (0) 0), (.int (0) 0), (.int (3) 0), (.ref 1072), (.bool true), (.int (181) 0), (.ref 1073), .none, (.ref 1074), (.ref 1075), (.ref 1076), (.int (3803) 0), (.int (569) 0), (.str (S "/claim/cut.py") 3804)]), #[]⟩
noncomputable def o1078 (P : Params) : Obj := ⟨(.type "function"), none, (fdata (stT 32) (S "_law_set") 3 (.str (S "law_br6030_01") 3448) (.ref 1077) 0), #[]⟩
noncomputable def o1079 (P : Params) : Obj := ⟨(.type "tuple"), none, (Q [] 0), #[]⟩
noncomputable def o1080 (P : Params) : Obj := ⟨.none, none, (F []), #[]⟩
noncomputable def o1081 (P : Params) : Obj := ⟨(.type "tuple"), none, (Q [(.str (S "stemmer") 3809), (.str (S "case") 3810), (.str (S "answer") 3811), (.str (S "text") 3812), (.str (S "told") 3813), (.str (S "due") 3814)] 0), #[]⟩
noncomputable def o1082 (P : Params) : Obj := ⟨(.type "tuple"), none, (Q [] 0), #[]⟩
noncomputable def o1083 (P : Params) : Obj := ⟨.none, none, (fdata (stT 33) (S "_law_wrong") 0 .none .none 0), #[]⟩
noncomputable def o1084 (P : Params) : Obj := ⟨(.type "code"), none, (F [(.str (S "_law_wrong") 3806), (.str (S "_law_wrong") 3807), (.str (S "/claim/cut.py") 3808), (.int (576) 0), (.int (2) 0), (.int (0) 0), (.int (0) 0), (.int (3) 0), (.ref 1079), (.bool true), (.int (181) 0), (.ref 1080), .none, (.ref 1081), (.ref 1082), (.ref 1083), (.int (3815) 0), (.int (576) 0), (.str (S "/claim/cut.py") 3816)]), #[]⟩
noncomputable def o1085 (P : Params) : Obj := ⟨(.type "function"), none, (fdata (stT 33) (S "_law_wrong") 3 (.str (S "law_br6030_01") 3448) (.ref 1084) 0), #[]⟩
noncomputable def o1086 (P : Params) : Obj := ⟨(.type "tuple"), none, (Q [] 0), #[]⟩
noncomputable def o1087 (P : Params) : Obj := ⟨.none, none, (F []), #[]⟩
noncomputable def o1088 (P : Params) : Obj := ⟨(.type "tuple"), none, (Q [(.str (S "script") 3821), (.str (S "tape") 3822), (.str (S "one") 3823), (.str (S "two") 3824), (.str (S "wrong") 3825), (.str (S "k") 3826), (.str (S "first") 3827), (.str (S "second") 3828)] 0), #[]⟩
noncomputable def o1089 (P : Params) : Obj := ⟨(.type "tuple"), none, (Q [] 0), #[]⟩
noncomputable def o1090 (P : Params) : Obj := ⟨.none, none, (fdata (stT 34) (S "law") 0 .none .none 0), #[]⟩
noncomputable def o1091 (P : Params) : Obj := ⟨(.type "code"), none, (F [(.str (S "law") 3818), (.str (S "law") 3819), (.str (S "/claim/cut.py") 3820), (.int (585) 0), (.int (1) 0), (.int (0) 0), (.int (0) 0), (.int (3) 0), (.ref 1086), (.bool true), (.int (181) 0), (.ref 1087), .none, (.ref 1088), (.ref 1089), (.ref 1090), (.int (3829) 0), (.int (585) 0), (.str (S "/claim/cut.py") 3830)]), #[]⟩
noncomputable def o1092 (P : Params) : Obj := ⟨(.type "function"), none, (fdata (stT 34) (S "law") 3 (.str (S "law_br6030_01") 3448) (.ref 1091) 0), #[]⟩
noncomputable def T13 (P : Params) (X : SetD) : BT := (N (boot_o_0 P) (N (boot_o_1 P) (N (o3v2 P) (N (boot_o_7 P) (N (o15 P) (N (o31 P) (N (o63 P) (N (o127 P) (N (o255 P) (N (o511 P) (N (o1023 P) E E) E) (N (o767 P) E E)) (N (o383 P) (N (o639 P) E E) (N (o895 P) E E))) (N (o191 P) (N (o319 P) (N (o575 P) (N (o1087 P) E E) E) (N (o831 P) E E)) (N (o447 P) (N (o703 P) E E) (N (o959 P) E E)))) (N (o95 P) (N (o159 P) (N (o287 P) (N (o543 P) (N (o1055 P) E E) E) (N (o799 P) E E)) (N (o415 P) (N (o671 P) E E) (N (o927 P) E E))) (N (o223 P) (N (o351 P) (N (o607 P) E E) (N (o863 P) E E)) (N (o479 P) (N (o735 P) E E) (N (o991 P) E E))))) (N (o47 P) (N (o79 P) (N (o143 P) (N (o271 P) (N (o527 P) (N (o1039 P) E E) E) (N (o783 P) E E)) (N (o399 P) (N (o655 P) E E) (N (o911 P) E E))) (N (o207 P) (N (o335 P) (N (o591 P) E E) (N (o847 P) E E)) (N (o463 P) (N (o719 P) E E) (N (o975 P) E E)))) (N (o111 P) (N (o175 P) (N (o303 P) (N (o559 P) (N (o1071 P) E E) E) (N (o815 P) E E)) (N (o431 P) (N (o687 P) E E) (N (o943 P) E E))) (N (o239 P) (N (o367 P) (N (o623 P) E E) (N (o879 P) E E)) (N (o495 P) (N (o751 P) E E) (N (o1007 P) E E)))))) (N (o23 P) (N (o39 P) (N (o71 P) (N (o135 P) (N (o263 P) (N (o519 P) (N (o1031 P) E E) E) (N (o775 P) E E)) (N (o391 P) (N (o647 P) E E) (N (o903 P) E E))) (N (o199v1 P) (N (o327 P) (N (o583 P) E E) (N (o839 P) E E)) (N (o455 P) (N (o711 P) E E) (N (o967 P) E E)))) (N (o103 P) (N (o167 P) (N (o295 P) (N (o551 P) (N (o1063 P) E E) E) (N (o807 P) E E)) (N (o423 P) (N (o679 P) E E) (N (o935 P) E E))) (N (o231 P) (N (o359 P) (N (o615 P) E E) (N (o871 P) E E)) (N (o487 P) (N (o743 P) E E) (N (o999 P) E E))))) (N (o55 P) (N (o87 P) (N (o151 P) (N (o279 P) (N (o535 P) (N (o1047 P) E E) E) (N (o791 P) E E)) (N (o407 P) (N (o663 P) E E) (N (o919 P) E E))) (N (o215 P) (N (o343 P) (N (o599 P) E E) (N (o855 P) E E)) (N (o471 P) (N (o727 P) E E) (N (o983 P) E E)))) (N (o119 P) (N (o183 P) (N (o311 P) (N (o567 P) (N (o1079 P) E E) E) (N (o823 P) E E)) (N (o439 P) (N (o695 P) E E) (N (o951 P) E E))) (N (o247 P) (N (o375 P) (N (o631 P) E E) (N (o887 P) E E)) (N (o503 P) (N (o759 P) E E) (N (o1015 P) E E))))))) (N (o11 P) (N (o19 P) (N (o35 P) (N (o67 P) (N (o131 P) (N (o259 P) (N (o515 P) (N (o1027 P) E E) E) (N (o771 P) E E)) (N (o387 P) (N (o643 P) E E) (N (o899 P) E E))) (N (o195 P) (N (o323 P) (N (o579 P) (N (o1091 P) E E) E) (N (o835 P) E E)) (N (o451 P) (N (o707 P) E E) (N (o963 P) E E)))) (N (o99 P) (N (o163 P) (N (o291 P) (N (o547 P) (N (o1059 P) E E) E) (N (o803 P) E E)) (N (o419 P) (N (o675 P) E E) (N (o931 P) E E))) (N (o227v9 P) (N (o355 P) (N (o611 P) E E) (N (o867 P) E E)) (N (o483 P) (N (o739 P) E E) (N (o995 P) E E))))) (N (o51 P) (N (o83 P) (N (o147 P) (N (o275 P) (N (o531 P) (N (o1043 P) E E) E) (N (o787 P) E E)) (N (o403 P) (N (o659 P) E E) (N (o915 P) E E))) (N (o211 P) (N (o339 P) (N (o595 P) E E) (N (o851 P) E E)) (N (o467 P) (N (o723 P) E E) (N (o979 P) E E)))) (N (o115 P) (N (o179 P) (N (o307 P) (N (o563 P) (N (o1075 P) E E) E) (N (o819 P) E E)) (N (o435 P) (N (o691 P) E E) (N (o947 P) E E))) (N (o243 P) (N (o371 P) (N (o627 P) E E) (N (o883 P) E E)) (N (o499 P) (N (o755 P) E E) (N (o1011 P) E E)))))) (N (o27 P) (N (o43 P) (N (o75 P) (N (o139 P) (N (o267 P) (N (o523 P) (N (o1035 P) E E) E) (N (o779 P) E E)) (N (o395 P) (N (o651 P) E E) (N (o907 P) E E))) (N (o203 P) (N (o331 P) (N (o587 P) E E) (N (o843 P) E E)) (N (o459 P) (N (o715 P) E E) (N (o971 P) E E)))) (N (o107 P) (N (o171 P) (N (o299 P) (N (o555 P) (N (o1067 P) E E) E) (N (o811 P) E E)) (N (o427 P) (N (o683 P) E E) (N (o939 P) E E))) (N (o235 P) (N (o363 P) (N (o619 P) E E) (N (o875 P) E E)) (N (o491 P) (N (o747 P) E E) (N (o1003 P) E E))))) (N (o59 P) (N (o91 P) (N (o155 P) (N (o283 P) (N (o539 P) (N (o1051 P) E E) E) (N (o795 P) E E)) (N (o411 P) (N (o667 P) E E) (N (o923 P) E E))) (N (o219 P) (N (o347 P) (N (o603 P) E E) (N (o859 P) E E)) (N (o475 P) (N (o731 P) E E) (N (o987 P) E E)))) (N (o123 P) (N (o187 P) (N (o315 P) (N (o571 P) (N (o1083 P) E E) E) (N (o827 P) E E)) (N (o443 P) (N (o699 P) E E) (N (o955 P) E E))) (N (o251 P) (N (o379 P) (N (o635 P) E E) (N (o891 P) E E)) (N (o507 P) (N (o763 P) E E) (N (o1019 P) E E)))))))) (N (boot_o_5 P) (N (boot_o_9 P) (N (o17 P) (N (o33 P) (N (o65 P) (N (o129 P) (N (o257 P) (N (o513 P) (N (o1025 P) E E) E) (N (o769 P) E E)) (N (o385 P) (N (o641 P) E E) (N (o897 P) E E))) (N (o193 P) (N (o321 P) (N (o577 P) (N (o1089 P) E E) E) (N (o833 P) E E)) (N (o449 P) (N (o705 P) E E) (N (o961 P) E E)))) (N (o97 P) (N (o161 P) (N (o289 P) (N (o545 P) (N (o1057 P) E E) E) (N (o801 P) E E)) (N (o417 P) (N (o673 P) E E) (N (o929 P) E E))) (N (o225 P) (N (o353 P) (N (o609 P) E E) (N (o865 P) E E)) (N (o481 P) (N (o737 P) E E) (N (o993 P) E E))))) (N (o49 P) (N (o81 P) (N (o145 P) (N (o273 P) (N (o529 P) (N (o1041 P) E E) E) (N (o785 P) E E)) (N (o401 P) (N (o657 P) E E) (N (o913 P) E E))) (N (o209 P) (N (o337 P) (N (o593 P) E E) (N (o849 P) E E)) (N (o465 P) (N (o721 P) E E) (N (o977 P) E E)))) (N (o113 P) (N (o177 P) (N (o305 P) (N (o561 P) (N (o1073 P) E E) E) (N (o817 P) E E)) (N (o433 P) (N (o689 P) E E) (N (o945 P) E E))) (N (o241 P) (N (o369 P) (N (o625 P) E E) (N (o881 P) E E)) (N (o497 P) (N (o753 P) E E) (N (o1009 P) E E)))))) (N (o25 P) (N (o41 P) (N (o73 P) (N (o137 P) (N (o265 P) (N (o521 P) (N (o1033 P) E E) E) (N (o777 P) E E)) (N (o393 P) (N (o649 P) E E) (N (o905 P) E E))) (N (o201 P) (N (o329 P) (N (o585 P) E E) (N (o841 P) E E)) (N (o457 P) (N (o713 P) E E) (N (o969 P) E E)))) (N (o105 P) (N (o169 P) (N (o297 P) (N (o553 P) (N (o1065 P) E E) E) (N (o809 P) E E)) (N (o425 P) (N (o681 P) E E) (N (o937 P) E E))) (N (o233 P) (N (o361 P) (N (o617 P) E E) (N (o873 P) E E)) (N (o489 P) (N (o745 P) E E) (N (o1001 P) E E))))) (N (o57 P) (N (o89 P) (N (o153 P) (N (o281 P) (N (o537 P) (N (o1049 P) E E) E) (N (o793 P) E E)) (N (o409 P) (N (o665 P) E E) (N (o921 P) E E))) (N (o217 P) (N (o345 P) (N (o601 P) E E) (N (o857 P) E E)) (N (o473 P) (N (o729 P) E E) (N (o985 P) E E)))) (N (o121 P) (N (o185 P) (N (o313 P) (N (o569 P) (N (o1081 P) E E) E) (N (o825 P) E E)) (N (o441 P) (N (o697 P) E E) (N (o953 P) E E))) (N (o249 P) (N (o377 P) (N (o633 P) E E) (N (o889 P) E E)) (N (o505 P) (N (o761 P) E E) (N (o1017 P) E E))))))) (N (o13 P) (N (o21 P) (N (o37 P) (N (o69 P) (N (o133 P) (N (o261 P) (N (o517 P) (N (o1029 P) E E) E) (N (o773 P) E E)) (N (o389 P) (N (o645 P) E E) (N (o901 P) E E))) (N (o197 P) (N (o325 P) (N (o581 P) E E) (N (o837 P) E E)) (N (o453 P) (N (o709 P) E E) (N (o965 P) E E)))) (N (o101 P) (N (o165 P) (N (o293 P) (N (o549 P) (N (o1061 P) E E) E) (N (o805 P) E E)) (N (o421 P) (N (o677 P) E E) (N (o933 P) E E))) (N (o229v1 P) (N (o357 P) (N (o613 P) E E) (N (o869 P) E E)) (N (o485 P) (N (o741 P) E E) (N (o997 P) E E))))) (N (o53 P) (N (o85 P) (N (o149 P) (N (o277 P) (N (o533 P) (N (o1045 P) E E) E) (N (o789 P) E E)) (N (o405 P) (N (o661 P) E E) (N (o917 P) E E))) (N (o213 P) (N (o341 P) (N (o597 P) E E) (N (o853 P) E E)) (N (o469 P) (N (o725 P) E E) (N (o981 P) E E)))) (N (o117 P) (N (o181 P) (N (o309 P) (N (o565 P) (N (o1077 P) E E) E) (N (o821 P) E E)) (N (o437 P) (N (o693 P) E E) (N (o949 P) E E))) (N (o245 P) (N (o373 P) (N (o629 P) E E) (N (o885 P) E E)) (N (o501 P) (N (o757 P) E E) (N (o1013 P) E E)))))) (N (o29 P) (N (o45 P) (N (o77 P) (N (o141 P) (N (o269 P) (N (o525 P) (N (o1037 P) E E) E) (N (o781 P) E E)) (N (o397 P) (N (o653 P) E E) (N (o909 P) E E))) (N (o205 P) (N (o333 P) (N (o589 P) E E) (N (o845 P) E E)) (N (o461 P) (N (o717 P) E E) (N (o973 P) E E)))) (N (o109 P) (N (o173 P) (N (o301 P) (N (o557 P) (N (o1069 P) E E) E) (N (o813 P) E E)) (N (o429 P) (N (o685 P) E E) (N (o941 P) E E))) (N (o237 P) (N (o365 P) (N (o621 P) E E) (N (o877 P) E E)) (N (o493 P) (N (o749 P) E E) (N (o1005 P) E E))))) (N (o61 P) (N (o93 P) (N (o157 P) (N (o285 P) (N (o541 P) (N (o1053 P) E E) E) (N (o797 P) E E)) (N (o413 P) (N (o669 P) E E) (N (o925 P) E E))) (N (o221 P) (N (o349 P) (N (o605 P) E E) (N (o861 P) E E)) (N (o477 P) (N (o733 P) E E) (N (o989 P) E E)))) (N (o125 P) (N (o189 P) (N (o317 P) (N (o573 P) (N (o1085 P) E E) E) (N (o829 P) E E)) (N (o445 P) (N (o701 P) E E) (N (o957 P) E E))) (N (o253 P) (N (o381 P) (N (o637 P) E E) (N (o893 P) E E)) (N (o509 P) (N (o765 P) E E) (N (o1021 P) E E))))))))) (N (o2 P) (N (boot_o_4 P) (N (boot_o_8 P) (N (o16 P) (N (o32 P) (N (o64 P) (N (o128 P) (N (o256 P) (N (o512 P) (N (o1024 P) E E) E) (N (o768 P) E E)) (N (o384 P) (N (o640 P) E E) (N (o896 P) E E))) (N (o192 P) (N (o320 P) (N (o576 P) (N (o1088 P) E E) E) (N (o832 P) E E)) (N (o448 P) (N (o704 P) E E) (N (o960 P) E E)))) (N (o96 P) (N (o160 P) (N (o288 P) (N (o544 P) (N (o1056 P) E E) E) (N (o800 P) E E)) (N (o416 P) (N (o672 P) E E) (N (o928 P) E E))) (N (o224 P) (N (o352 P) (N (o608 P) E E) (N (o864 P) E E)) (N (o480 P) (N (o736 P) E E) (N (o992 P) E E))))) (N (o48 P) (N (o80 P) (N (o144 P) (N (o272 P) (N (o528 P) (N (o1040 P) E E) E) (N (o784 P) E E)) (N (o400 P) (N (o656 P) E E) (N (o912 P) E E))) (N (o208 P) (N (o336 P) (N (o592 P) E E) (N (o848 P) E E)) (N (o464 P) (N (o720 P) E E) (N (o976 P) E E)))) (N (o112 P) (N (o176 P) (N (o304 P) (N (o560 P) (N (o1072 P) E E) E) (N (o816 P) E E)) (N (o432 P) (N (o688 P) E E) (N (o944 P) E E))) (N (o240 P) (N (o368 P) (N (o624 P) E E) (N (o880 P) E E)) (N (o496 P) (N (o752 P) E E) (N (o1008 P) E E)))))) (N (o24 P) (N (o40 P) (N (o72 P) (N (o136 P) (N (o264 P) (N (o520 P) (N (o1032 P) E E) E) (N (o776 P) E E)) (N (o392 P) (N (o648 P) E E) (N (o904 P) E E))) (N (o200 P) (N (o328 P) (N (o584 P) E E) (N (o840 P) E E)) (N (o456 P) (N (o712 P) E E) (N (o968 P) E E)))) (N (o104 P) (N (o168 P) (N (o296 P) (N (o552 P) (N (o1064 P) E E) E) (N (o808 P) E E)) (N (o424 P) (N (o680 P) E E) (N (o936 P) E E))) (N (oset X) (N (o360 P) (N (o616 P) E E) (N (o872 P) E E)) (N (o488 P) (N (o744 P) E E) (N (o1000 P) E E))))) (N (o56 P) (N (o88 P) (N (o152 P) (N (o280 P) (N (o536 P) (N (o1048 P) E E) E) (N (o792 P) E E)) (N (o408 P) (N (o664 P) E E) (N (o920 P) E E))) (N (o216 P) (N (o344 P) (N (o600 P) E E) (N (o856 P) E E)) (N (o472 P) (N (o728 P) E E) (N (o984 P) E E)))) (N (o120 P) (N (o184 P) (N (o312 P) (N (o568 P) (N (o1080 P) E E) E) (N (o824 P) E E)) (N (o440 P) (N (o696 P) E E) (N (o952 P) E E))) (N (o248 P) (N (o376 P) (N (o632 P) E E) (N (o888 P) E E)) (N (o504 P) (N (o760 P) E E) (N (o1016 P) E E))))))) (N (o12v3 P) (N (o20 P) (N (o36 P) (N (o68 P) (N (o132 P) (N (o260 P) (N (o516 P) (N (o1028 P) E E) E) (N (o772 P) E E)) (N (o388 P) (N (o644 P) E E) (N (o900 P) E E))) (N (o196 P) (N (o324 P) (N (o580 P) (N (o1092 P) E E) E) (N (o836 P) E E)) (N (o452 P) (N (o708 P) E E) (N (o964 P) E E)))) (N (o100 P) (N (o164 P) (N (o292 P) (N (o548 P) (N (o1060 P) E E) E) (N (o804 P) E E)) (N (o420 P) (N (o676 P) E E) (N (o932 P) E E))) (N (o228 P) (N (o356 P) (N (o612 P) E E) (N (o868 P) E E)) (N (o484 P) (N (o740 P) E E) (N (o996 P) E E))))) (N (o52 P) (N (o84 P) (N (o148 P) (N (o276 P) (N (o532 P) (N (o1044 P) E E) E) (N (o788 P) E E)) (N (o404 P) (N (o660 P) E E) (N (o916 P) E E))) (N (o212 P) (N (o340 P) (N (o596 P) E E) (N (o852 P) E E)) (N (o468 P) (N (o724 P) E E) (N (o980 P) E E)))) (N (o116 P) (N (o180 P) (N (o308 P) (N (o564 P) (N (o1076 P) E E) E) (N (o820 P) E E)) (N (o436 P) (N (o692 P) E E) (N (o948 P) E E))) (N (o244 P) (N (o372 P) (N (o628 P) E E) (N (o884 P) E E)) (N (o500 P) (N (o756 P) E E) (N (o1012 P) E E)))))) (N (o28 P) (N (o44 P) (N (o76 P) (N (o140 P) (N (o268 P) (N (o524 P) (N (o1036 P) E E) E) (N (o780 P) E E)) (N (o396 P) (N (o652 P) E E) (N (o908 P) E E))) (N (o204 P) (N (o332 P) (N (o588 P) E E) (N (o844 P) E E)) (N (o460 P) (N (o716 P) E E) (N (o972 P) E E)))) (N (o108 P) (N (o172 P) (N (o300 P) (N (o556 P) (N (o1068 P) E E) E) (N (o812 P) E E)) (N (o428 P) (N (o684 P) E E) (N (o940 P) E E))) (N (o236 P) (N (o364 P) (N (o620 P) E E) (N (o876 P) E E)) (N (o492 P) (N (o748 P) E E) (N (o1004 P) E E))))) (N (o60 P) (N (o92 P) (N (o156 P) (N (o284 P) (N (o540 P) (N (o1052 P) E E) E) (N (o796 P) E E)) (N (o412 P) (N (o668 P) E E) (N (o924 P) E E))) (N (o220 P) (N (o348 P) (N (o604 P) E E) (N (o860 P) E E)) (N (o476 P) (N (o732 P) E E) (N (o988 P) E E)))) (N (o124 P) (N (o188 P) (N (o316 P) (N (o572 P) (N (o1084 P) E E) E) (N (o828 P) E E)) (N (o444 P) (N (o700 P) E E) (N (o956 P) E E))) (N (o252 P) (N (o380 P) (N (o636 P) E E) (N (o892 P) E E)) (N (o508 P) (N (o764 P) E E) (N (o1020 P) E E)))))))) (N (boot_o_6 P) (N (boot_o_10 P) (N (o18 P) (N (o34 P) (N (o66 P) (N (o130 P) (N (o258 P) (N (o514 P) (N (o1026 P) E E) E) (N (o770 P) E E)) (N (o386 P) (N (o642 P) E E) (N (o898 P) E E))) (N (o194 P) (N (o322 P) (N (o578 P) (N (o1090 P) E E) E) (N (o834 P) E E)) (N (o450 P) (N (o706 P) E E) (N (o962 P) E E)))) (N (o98 P) (N (o162 P) (N (o290 P) (N (o546 P) (N (o1058 P) E E) E) (N (o802 P) E E)) (N (o418 P) (N (o674 P) E E) (N (o930 P) E E))) (N (o226 P) (N (o354 P) (N (o610 P) E E) (N (o866 P) E E)) (N (o482 P) (N (o738 P) E E) (N (o994 P) E E))))) (N (o50 P) (N (o82 P) (N (o146 P) (N (o274 P) (N (o530 P) (N (o1042 P) E E) E) (N (o786 P) E E)) (N (o402 P) (N (o658 P) E E) (N (o914 P) E E))) (N (o210 P) (N (o338 P) (N (o594 P) E E) (N (o850 P) E E)) (N (o466 P) (N (o722 P) E E) (N (o978 P) E E)))) (N (o114 P) (N (o178 P) (N (o306 P) (N (o562 P) (N (o1074 P) E E) E) (N (o818 P) E E)) (N (o434 P) (N (o690 P) E E) (N (o946 P) E E))) (N (o242 P) (N (o370 P) (N (o626 P) E E) (N (o882 P) E E)) (N (o498 P) (N (o754 P) E E) (N (o1010 P) E E)))))) (N (o26 P) (N (o42 P) (N (o74 P) (N (o138 P) (N (o266 P) (N (o522 P) (N (o1034 P) E E) E) (N (o778 P) E E)) (N (o394 P) (N (o650 P) E E) (N (o906 P) E E))) (N (o202 P) (N (o330 P) (N (o586 P) E E) (N (o842 P) E E)) (N (o458 P) (N (o714 P) E E) (N (o970 P) E E)))) (N (o106 P) (N (o170 P) (N (o298 P) (N (o554 P) (N (o1066 P) E E) E) (N (o810 P) E E)) (N (o426 P) (N (o682 P) E E) (N (o938 P) E E))) (N (o234 P) (N (o362 P) (N (o618 P) E E) (N (o874 P) E E)) (N (o490 P) (N (o746 P) E E) (N (o1002 P) E E))))) (N (o58 P) (N (o90 P) (N (o154 P) (N (o282 P) (N (o538 P) (N (o1050 P) E E) E) (N (o794 P) E E)) (N (o410 P) (N (o666 P) E E) (N (o922 P) E E))) (N (o218 P) (N (o346 P) (N (o602 P) E E) (N (o858 P) E E)) (N (o474 P) (N (o730 P) E E) (N (o986 P) E E)))) (N (o122 P) (N (o186 P) (N (o314 P) (N (o570 P) (N (o1082 P) E E) E) (N (o826 P) E E)) (N (o442 P) (N (o698 P) E E) (N (o954 P) E E))) (N (o250 P) (N (o378 P) (N (o634 P) E E) (N (o890 P) E E)) (N (o506 P) (N (o762 P) E E) (N (o1018 P) E E))))))) (N (o14 P) (N (o22 P) (N (o38 P) (N (o70 P) (N (o134 P) (N (o262 P) (N (o518 P) (N (o1030 P) E E) E) (N (o774 P) E E)) (N (o390 P) (N (o646 P) E E) (N (o902 P) E E))) (N (o198 P) (N (o326 P) (N (o582 P) E E) (N (o838 P) E E)) (N (o454 P) (N (o710 P) E E) (N (o966 P) E E)))) (N (o102 P) (N (o166 P) (N (o294 P) (N (o550 P) (N (o1062 P) E E) E) (N (o806 P) E E)) (N (o422 P) (N (o678 P) E E) (N (o934 P) E E))) (N (o230 P) (N (o358 P) (N (o614 P) E E) (N (o870 P) E E)) (N (o486 P) (N (o742 P) E E) (N (o998 P) E E))))) (N (o54 P) (N (o86 P) (N (o150 P) (N (o278 P) (N (o534 P) (N (o1046 P) E E) E) (N (o790 P) E E)) (N (o406 P) (N (o662 P) E E) (N (o918 P) E E))) (N (o214 P) (N (o342 P) (N (o598 P) E E) (N (o854 P) E E)) (N (o470 P) (N (o726 P) E E) (N (o982 P) E E)))) (N (o118 P) (N (o182 P) (N (o310 P) (N (o566 P) (N (o1078 P) E E) E) (N (o822 P) E E)) (N (o438 P) (N (o694 P) E E) (N (o950 P) E E))) (N (o246 P) (N (o374 P) (N (o630 P) E E) (N (o886 P) E E)) (N (o502 P) (N (o758 P) E E) (N (o1014 P) E E)))))) (N (o30 P) (N (o46 P) (N (o78 P) (N (o142 P) (N (o270 P) (N (o526 P) (N (o1038 P) E E) E) (N (o782 P) E E)) (N (o398 P) (N (o654 P) E E) (N (o910 P) E E))) (N (o206 P) (N (o334 P) (N (o590 P) E E) (N (o846 P) E E)) (N (o462 P) (N (o718 P) E E) (N (o974 P) E E)))) (N (o110 P) (N (o174 P) (N (o302 P) (N (o558 P) (N (o1070 P) E E) E) (N (o814 P) E E)) (N (o430 P) (N (o686 P) E E) (N (o942 P) E E))) (N (o238 P) (N (o366 P) (N (o622 P) E E) (N (o878 P) E E)) (N (o494 P) (N (o750 P) E E) (N (o1006 P) E E))))) (N (o62 P) (N (o94 P) (N (o158 P) (N (o286 P) (N (o542 P) (N (o1054 P) E E) E) (N (o798 P) E E)) (N (o414 P) (N (o670 P) E E) (N (o926 P) E E))) (N (o222 P) (N (o350 P) (N (o606 P) E E) (N (o862 P) E E)) (N (o478 P) (N (o734 P) E E) (N (o990 P) E E)))) (N (o126 P) (N (o190 P) (N (o318 P) (N (o574 P) (N (o1086 P) E E) E) (N (o830 P) E E)) (N (o446 P) (N (o702 P) E E) (N (o958 P) E E))) (N (o254 P) (N (o382 P) (N (o638 P) E E) (N (o894 P) E E)) (N (o510 P) (N (o766 P) E E) (N (o1022 P) E E))))))))))
noncomputable def St13 (w : World) (X : SetD) (os : OsState) : SharedT := ⟨T13 w.params X, 1093, X.life, #[], drawn0, 3832, os⟩
abbrev ps13 : Pos := ⟨585, 0, 596, 21⟩
-- snapshot 13: depth 1, stack [claim.caller ⟨0, 0, 0, 0⟩]; drawn 0 0 0 0; gens 0
end Mine

-- HPieces
namespace Mine
set_option maxRecDepth 100000
set_option maxHeartbeats 0
set_option linter.unusedVariables false
noncomputable abbrev denF : Code → Sem Fin := PySem.W.Fast.tw11892475500146522536 PySem.W.Fast.tw14364793385576792824
noncomputable abbrev calmF (c : Code) : Bool := PySem.W.Fast.tw2348191978395082540 ⟨.pure (.again c), c, default, []⟩
noncomputable abbrev execsF : List Stmt → Env → Sem Flow := PySem.W.Fast.tw12563942051412417395
noncomputable abbrev Md (w : World) : Model := ⟨denF, pg, w⟩
theorem denF_eq : denote table = denF := by
  rw [table_eq_tree, PySem.W.Fast.te14364793385576792824, PySem.W.Fast.te11892475500146522536]
theorem Md_eq (w : World) : model pg w = Md w := by
  show Model.mk (denote table) pg w = _
  rw [denF_eq]
theorem calmF_quiet (c : Code) (h : calmF c = true) : c.quiet = true := by
  refine calmB_quiet ?_
  unfold calmB
  rw [PySem.W.Fast.te2348191978395082540]
  exact h
noncomputable abbrev cl (w : World) : CallF := runC (Md w) calmF 300
theorem cl_sound (w : World) (Γ : Ctx) (p : Pos) (s : SharedT) (r : Result) (s' : SharedT) (h : cl w Γ p s = some (r, s')) : Returns (model pg w) Γ p s.abs r s'.abs := by
  rw [Md_eq]
  exact runC_sound calmF_quiet 300 Γ p s r s' h

def top : List Stmt := pg.main.body
def env0 : Env := { scope := pg.main.scope, locals := mainNs, globals := mainNs, cells := [], code := .ref 13, frame := some 14 }
def ctx0 : Ctx := ⟨.builtin "claim.caller" {}, none, none, [], none⟩
def ctx1 : Ctx := ⟨.body top env0, none, none, [(.builtin "claim.caller" {}, default)], none⟩
/-- the class statement's parts -/
def clsBody : List Stmt := match stT 6 with
  | .ClassDef _ _ _ b .. => b
  | _ => []
def clsScope : Scope := match stT 6 with
  | .ClassDef _ _ _ _ _ _ sc .. => sc
  | _ => pg.main.scope
def env2 : Env := { scope := clsScope, locals := 227, globals := 3, cells := [], qual := S "SpanishStemmer" ++ ".", code := .ref 230, frame := some 231, builtins := 0 }

noncomputable def stopA (w : World) (os : OsState) : Option (Stop Fin) := runU (Md w) (cl w) ctx0 (topStub pg).cur default (St0 w os)
noncomputable def kA (w : World) (os : OsState) : Result → Sem Fin := match stopA w os with
  | some x => x.2.2.2.2
  | none => fun _ => .unsupported ""
theorem pieceA (w : World) (os : OsState) : stopA w os = some (.body top env0, none, default, St1 w os, kA w os) := by kernel_rfl
theorem piece1 (w : World) (os : OsState) : runT (Md w) (cl w) ctx1 (execsF (top.take 6) env0) default (St1 w os) = some (.ok .next, ps2, St2 w os) := by kernel_rfl
noncomputable def stopB (w : World) (os : OsState) : Option (Stop Flow) := runU (Md w) (cl w) ctx1 (execsF [stT 6] env0) ps2 (St2 w os)
noncomputable def kB (w : World) (os : OsState) : Result → Sem Flow := match stopB w os with
  | some x => x.2.2.2.2
  | none => fun _ => .unsupported ""
abbrev posB : Pos := ⟨148, 0, 417, 167⟩
theorem pieceB (w : World) (os : OsState) : stopB w os = some (.body clsBody env2, none, posB, St3 w os, kB w os) := by kernel_rfl
def ctx2 : Ctx := ⟨.body clsBody env2, none, none, [(.body top env0, posB), (.builtin "claim.caller" {}, default)], none⟩
theorem piece5 (w : World) (X : SetD) (os : OsState) (p : Pos) : runT (Md w) (cl w) ctx2 (execsF ((clsBody.drop 1).take 13) env2) p (St4 w X os) = some (.ok .next, ps5, St5 w X os) := by kernel_rfl
theorem piece6 (w : World) (X : SetD) (os : OsState) : runT (Md w) (cl w) ctx2 (execsF ((clsBody.drop 14).take 5) env2) ps5 (St5 w X os) = some (.ok .next, ps6, St6 w X os) := by kernel_rfl
theorem piece7 (w : World) (X : SetD) (os : OsState) : runT (Md w) (cl w) ctx2 (execsF ((clsBody.drop 19).take 1) env2) ps6 (St6 w X os) = some (.ok .next, ps7, St7 w X os) := by kernel_rfl
theorem piece8 (w : World) (X : SetD) (os : OsState) : runT (Md w) (cl w) ctx2 (execsF ((clsBody.drop 20).take 1) env2) ps7 (St7 w X os) = some (.ok .next, ps8, St8 w X os) := by kernel_rfl
theorem piece9 (w : World) (X : SetD) (os : OsState) : runT (Md w) (cl w) ctx2 (execsF ((clsBody.drop 21).take 1) env2) ps8 (St8 w X os) = some (.ok .next, ps9, St9 w X os) := by kernel_rfl
theorem piece10 (w : World) (X : SetD) (os : OsState) : runT (Md w) (cl w) ctx2 (execsF ((clsBody.drop 22).take 1) env2) ps9 (St9 w X os) = some (.ok .next, ps10, St10 w X os) := by kernel_rfl
theorem piece11 (w : World) (X : SetD) (os : OsState) : runT (Md w) (cl w) ctx2 (execsF ((clsBody.drop 23).take 1) env2) ps10 (St10 w X os) = some (.ok .next, ps11, St11 w X os) := by kernel_rfl
theorem pieceC (w : World) (X : SetD) (os : OsState) : runT (Md w) (cl w) ctx1 (kB w os (.ok .next)) posB (St11 w X os) = some (.ok .next, ps12, St12 w X os) := by kernel_rfl
theorem piece13 (w : World) (X : SetD) (os : OsState) : runT (Md w) (cl w) ctx1 (execsF (top.drop 7) env0) ps12 (St12 w X os) = some (.ok .next, ps13, St13 w X os) := by kernel_rfl
theorem pieceD (w : World) (X : SetD) (os : OsState) : runT (Md w) (cl w) ctx0 (kA w os (.ok .next)) default (St13 w X os) = some (.ok (.done (.ret .none)), default, St13 w X os) := by kernel_rfl
end Mine

-- HSet
namespace Mine
set_option maxRecDepth 100000
set_option maxHeartbeats 0
set_option linter.unusedVariables false

section
variable {prog : Program} {w : World} {A : Around} {E : Value → Shared → Prop}

def numFrom : Nat → List (Str × Nat × Pos) → List (Str × Tok)
  | _, [] => []
  | t, x :: r => (x.1, t) :: numFrom (t + 1) r

theorem kdsAll_strs {env : Env} : ∀ (xs : List (Str × Nat × Pos)) (s : Shared) (Q : List Value → Shared → Prop),
    Q ((numFrom s.toks xs).map fun x => .str x.1 x.2) { s with toks := s.toks + xs.length } →
    KdsAll (model prog w) A E env (xs.map fun x => .Constant (.str x.1) x.2.1 x.2.2) Q s
  | [], s, Q, h => h
  | x :: r, s, Q, h => by
    refine Calls.Constant_str ?_
    refine kdsAll_strs r { s with toks := s.toks + 1 } (fun vs => Q (.str x.1 s.toks :: vs)) ?_
    have e : s.toks + 1 + r.length = s.toks + (x :: r).length := by rw [List.length_cons]; omega
    show Q _ { s with toks := s.toks + 1 + r.length }
    rw [e]
    exact h

theorem fillAll {hb : Heap} {a : Addr} {Q : Value → Shared → Prop} : ∀ (xs : List (Str × Tok)) (s : Shared) (S : Str → Bool) (n : Nat), Heap.SameBut a hb s.heap → s.heap.SetOf (strKind prog w) a S n → n + xs.length < scanBound →
    (∀ h' S' n', Heap.SameBut a hb h' → h'.SetOf (strKind prog w) a S' n' → Q (.ref a) { s with heap := h', toks := s.toks + xs.length }) →
    KdsFill (model prog w) A E true a Q (xs.map fun x => .str x.1 x.2) s
  | [], s, S, n, hs, hS, hn, h => by
    refine kds_fill_unled rfl ?_
    obtain ⟨o, es, ep, t, ho, hex, hd, hel, hmem, hb1, hf, hsz⟩ := hS
    have hf' : ({ t with led := false } : SetTable).fits es.size = true := by cases t; exact hf
    unfold setUnled
    refine wpAny_bind (wpAny_setState_of ho hd hf ?_)
    dsimp only
    refine wpAny_storeSet_of ho hd ?_ (fits_of_scanBound hb1)
    obtain ⟨_, hS2⟩ := SetOf_store (knd := strKind prog w) ho hex hd hel hmem hb1 hf'
    exact h _ _ _ (hs.trans (Heap.SameBut.update s.heap a _)) hS2
  | x :: r, s, S, n, hs, hS, hn, h => by
    rw [List.length_cons] at hn
    refine kds_fill_cons ?_
    unfold setAdd
    refine wpAny_holding (wpAny_bind ((strKind prog w).pyHash (strKind_is prog w x.1 x.2) ?_))
    refine wpAny_setAddHashed_of (s := { s with toks := s.toks + 1 }) (strKind_is prog w x.1 x.2) rfl hS (by omega) fun h' hsb hS' => ?_
    refine fillAll r { s with heap := h', toks := s.toks + 1 } _ _ (hs.trans hsb) hS' (by split <;> omega) fun h2 S2 n2 a b => ?_
    have e : s.toks + 1 + r.length = s.toks + (x :: r).length := by rw [List.length_cons]; omega
    have := h h2 S2 n2 a b
    show Q _ { s with heap := h2, toks := s.toks + 1 + r.length }
    rw [e]
    exact this
end

def allAlive (T : BT) (n : Nat) : Bool := (List.range n).all fun i => match T.get i with
  | some o => match alive o with
    | some _ => true
    | none => false
  | none => false
theorem alive_same {o o' : Obj} (h : alive o = some o') : o' = o := by
  obtain ⟨c, d, dt, sl⟩ := o
  cases dt <;> cases h <;> rfl
theorem get?_objs {h : Heap} {i : Nat} {o : Obj} (e : h.get? i = some o) : h.objs[i]? = some o := by
  unfold Heap.get? at e
  split at e
  · cases e
  · exact e
theorem heap_eq {T : BT} {n a : Nat} {life : Life} {h' : Heap} {o' : Obj} (hs : Heap.SameBut a (absHeap T n life) h') (ho : h'.get? a = some o') (hall : allAlive T n = true) {T' : BT}
    (hT : ∀ i, T'.get i = if i = a then some o' else T.get i) : h' = absHeap T' n h'.life := by
  obtain ⟨objs, life'⟩ := h'
  have : objs = (T'.list n).toArray := by
    apply Array.ext_getElem?
    intro i
    have e2 := absHeap_at T' n life' i
    have e3 : (absHeap T' n life').objs[i]? = (T'.list n).toArray[i]? := rfl
    rw [← e3, e2]
    by_cases hi : i < n
    · rw [if_pos hi]
      by_cases ha : i = a
      · subst ha
        rw [hT, if_pos rfl]
        exact get?_objs ho
      · rw [hT, if_neg ha]
        have al := List.all_eq_true.mp hall i (List.mem_range.mpr hi)
        cases g : T.get i with
        | none => rw [g] at al; cases al
        | some o =>
          rw [g] at al
          dsimp only at al
          cases q : alive o with
          | none => rw [q] at al; cases al
          | some o2 =>
            have := alive_same q
            subst this
            have e4 : (Heap.mk objs life').get? i = some o2 := by rw [hs.2 i ha, abs_get hi g, q]
            exact get?_objs e4
    · rw [if_neg hi]
      have sz := hs.1
      rw [absHeap_size] at sz
      exact Array.getElem?_eq_none (by show objs.size ≤ i; rw [show objs.size = n from sz]; omega)
  rw [this]
  rfl

def gvStmt : Stmt := (clsBody[0]?).getD (.Pass default)
def gvTs : List Expr := match gvStmt with | .Assign ts _ _ => ts | _ => []
def gvVal : Expr := match gvStmt with | .Assign _ v _ => v | _ => .Constant .none 0 default
def gvPos : Pos := match gvStmt with | .Assign _ _ p => p | _ => default
def gvEl : List Expr := match gvVal with | .Set es _ _ => es | _ => []
def gvK : Nat := match gvVal with | .Set _ k _ => k | _ => 0
def gvP2 : Pos := match gvVal with | .Set _ _ p => p | _ => default
def gvStrs : List (Str × Nat × Pos) := gvEl.map fun e => match e with | .Constant (.str x) k p => (x, k, p) | _ => default
theorem gv_is : gvStmt = .Assign gvTs (.Set gvEl gvK gvP2) gvPos := by kernel_rfl
theorem gvEl_is : gvEl = gvStrs.map fun x => .Constant (.str x.1) x.2.1 x.2.2 := by kernel_rfl
theorem gv_take : clsBody.take 1 = [gvStmt] := by kernel_rfl

noncomputable def set0 (led : Bool) : Obj := { cls := .type "set", dict := none, data := .set #[] 0 (.fresh 0 0 led) }
noncomputable def St3b (w : World) (X : SetD) (os : OsState) : SharedT := ⟨(T3 w.params).ins 232 (oset X), 233, X.life, #[], drawn0, 497, os⟩
theorem piece3 (w : World) (os : OsState) (p : Pos) : runT (Md w) (cl w) ctx2 (swapsWithSole gvTs (.Set gvEl gvK gvP2) gvPos.line env2) p (St3 w os) = some (.ok false, p, St3 w os) := by kernel_rfl
theorem piece4 (w : World) (X : SetD) (os : OsState) (p : Pos) : runT (Md w) (cl w) ctx2 (do assignStores env2 (.ref 232) (← swappedStores gvTs (.Set gvEl gvK gvP2) env2) ((assignEach gvTs env2).map (·.2))) p (St3b w X os) = some (.ok .next, ps4, St4 w X os) := by kernel_rfl
theorem alive3 (w : World) (led : Bool) : allAlive ((T3 w.params).ins 232 (set0 led)) 233 = true := by kernel_rfl
theorem ins3 (w : World) (o : Obj) : (((T3 w.params).ins 232 o).get 232).isSome = true := by kernel_rfl
theorem toks3 (w : World) (os : OsState) : (St3 w os).abs.toks = 475 := rfl
theorem gvLen : gvStrs.length = 11 := by kernel_rfl

abbrev A2 : Around := ⟨none, frameCount ctx2.below + ctx2.code.weight, none, none, ctx2.units⟩
theorem in2 : ctx2.In A2 := by
  refine ⟨rfl, Nat.le_refl _, ?_, ?_, Nat.le_refl _⟩
  · intro l h; cases h
  · intro l h; cases h
noncomputable def K3 (w : World) : Frag := [(230, (o230 w.params))]
theorem K3_in (w : World) (os : OsState) : (K3 w).In (St3 w os).abs.heap := by
  refine Frag.in_of (as := [230]) ?_ ?_
  · rfl
  · show [(absHeap (T3 w.params) 232 life0).get? 230] = [some (o230 w.params)]
    rw [abs_get (o := o230 w.params) (by decide) (by kernel_rfl)]
    rfl

theorem gv_core {w : World} {H : Heap} {gens : Array GenState} {drawn : Drawn} {toks : Nat} {os : OsState} {K : Frag} (hsz : H.objs.size = 232) (hK : K.In H) (hc : kdsCode K env2.code = true) :
    wpAny (model pg w) A2 (eval (.Set gvEl gvK gvP2) env2) (fun v s' => v = .ref 232 ∧ ∃ led h' S n, s' = ⟨h', gens, drawn, toks + 11 + 11, os⟩ ∧ Heap.SameBut 232 (H.push (set0 led)) h' ∧ h'.SetOf (strKind pg w) 232 S n) (fun _ _ => False) ⟨H, gens, drawn, toks, os⟩ := by
  rw [arm_eval_Set]
  with_reducible refine wpAny_bind (wpAny_standAt ?_)
  with_reducible refine wpAny_bind (kds_main hK hc fun b => ?_)
  rw [kds_star gvEl (by kernel_rfl), List.map_map]
  with_reducible refine kds_core (ts := (evalEach gvEl env2).map fun t => do let v ← t; standAt gvP2; pure v) (by kernel_rfl) ?_ ?_ ?_ fun led => ?_
  · refine List.findIdx?_eq_none_iff.mpr fun x hx => ?_
    obtain ⟨t, _, rfl⟩ := List.mem_map.mp hx
    rfl
  · rw [List.length_map, kds_len]; exact Nat.le_of_ble_eq_true (by kernel_rfl)
  · rw [List.map_map]; rfl
  · with_reducible refine kds_all gvP2 gvEl _ _ ?_
    have hu : (displayRoad gvK gvEl == DisplayRoad.unsure) = true := by kernel_rfl
    rw [hu]
    dsimp only
    rw [hsz]
    have key : ∀ s : Shared, s.heap = H.push (set0 led) → s.gens = gens → s.drawn = drawn → s.toks = toks → s.os = os →
        KdsAll (model pg w) A2 (fun _ _ => False) env2 gvEl (fun vs s' => KdsFill (model pg w) A2 (fun _ _ => False) true 232 (fun v s' => v = .ref 232 ∧ ∃ led h' S n, s' = ⟨h', gens, drawn, toks + 11 + 11, os⟩ ∧ Heap.SameBut 232 (H.push (set0 led)) h' ∧ h'.SetOf (strKind pg w) 232 S n) vs s') s := by
      intro s h1 h2 h3 h4 h5
      rw [gvEl_is]
      with_reducible refine kdsAll_strs gvStrs s _ ?_
      have hget : (H.push (set0 led)).get? 232 = some (set0 led) := by rw [← hsz]; exact Heap.get?_push_size _ rfl
      have hso : s.heap.SetOf (strKind pg w) 232 (fun _ => false) 0 := by
        rw [h1]
        exact ⟨set0 led, #[], 0, .fresh 0 0 led, hget, ⟨rfl, rfl, rfl⟩, rfl, fun e he => by simp at he, fun k => by simp, by decide, by rfl, rfl⟩
      have hn : ∀ t l, (numFrom t l).length = l.length := by
        intro t l
        induction l generalizing t with
        | nil => rfl
        | cons x r ih => show (numFrom (t + 1) r).length + 1 = r.length + 1; rw [ih]
      refine fillAll (hb := H.push (set0 led)) (numFrom s.toks gvStrs) { s with toks := s.toks + gvStrs.length } (fun _ => false) 0 (h1 ▸ Heap.SameBut.refl _ _) hso ?_ fun h' S' n' hs hS => ?_
      · rw [hn, gvLen]; decide
      · refine ⟨rfl, led, h', S', n', ?_, hs, hS⟩
        rw [hn, gvLen]
        obtain ⟨a1, a2, a3, a4, a5⟩ := s
        dsimp only at h1 h2 h3 h4 h5 ⊢
        subst h2 h3 h4 h5
        rfl
    exact key _ rfl rfl rfl rfl rfl

theorem gv_run (w : World) (os : OsState) (p : Pos) {Q : Flow → Pos → Shared → Prop} {E : Value → Pos → Shared → Prop} (h : ∀ X, Q .next ps4 (St4 w X os).abs) :
    Sem.wp (model pg w) ctx2 (exec gvStmt env2) Q E p (St3 w os).abs := by
  rw [gv_is, arm_exec_Assign, Sem.wp_bind']
  show Sem.wp _ _ _ _ _ _ _
  refine (Sem.wp_at (model pg w) ctx2 _ _ _ _ _ _).mpr ?_
  refine (Sem.wp_pure (model pg w) ctx2 _ _ _ _ _).mpr ?_
  rw [Sem.wp_bind']
  have e3 := piece3 w os gvPos
  rw [← Md_eq] at e3
  refine runT_sound (cl_sound w) _ e3 ?_
  show Sem.wp _ _ (if false = true then _ else _) _ _ _ _
  rw [if_neg Bool.false_ne_true, Sem.wp_bind']
  have main := gv_core (w := w) (gens := #[]) (drawn := drawn0) (toks := 475) (os := os) (absHeap_size (T3 w.params) 232 life0) (K3_in w os) (by kernel_rfl) ctx2 gvPos in2
  have hS3 : (St3 w os).abs = ⟨absHeap (T3 w.params) 232 life0, #[], drawn0, 475, os⟩ := rfl
  rw [hS3]
  refine Sem.wp_mono _ _ _ ?_ (fun _ _ _ x => x.elim) _ _ main
  rintro v p' s' ⟨rfl, led, h', S', n', rfl, hs, hS⟩
  rw [← absHeap_ins (ins3 w _)] at hs
  obtain ⟨o, es, ep, t, ho, ⟨hc, hd1, hsl⟩, hd, -, -, -, -, -⟩ := hS
  obtain ⟨oc, od, odt, osl⟩ := o
  dsimp only at hc hd1 hsl hd
  subst hc hd1 hsl hd
  have he := heap_eq (T' := (T3 w.params).ins 232 (oset ⟨es, ep, t, h'.life⟩)) hs ho (alive3 w led) fun i => by
    rw [BT.get_ins _ _ _ (ins3 w _), BT.get_ins _ _ _ (ins3 w _)]
    by_cases hi : i = 232
    · rw [if_pos hi, if_pos hi]; rfl
    · rw [if_neg hi, if_neg hi, if_neg hi]
  have hst : (⟨h', #[], drawn0, 475 + 11 + 11, os⟩ : Shared) = (St3b w ⟨es, ep, t, h'.life⟩ os).abs := by
    have e : (St3b w ⟨es, ep, t, h'.life⟩ os).abs = ⟨absHeap ((T3 w.params).ins 232 (oset ⟨es, ep, t, h'.life⟩)) 233 h'.life, #[], drawn0, 497, os⟩ := rfl
    rw [e, ← he]
  rw [hst]
  have e4 := piece4 w ⟨es, ep, t, h'.life⟩ os p'
  rw [← Md_eq] at e4
  exact runT_sound (cl_sound w) _ e4 (h ⟨es, ep, t, h'.life⟩)
end Mine

-- HTop
namespace Mine
set_option maxRecDepth 100000
set_option maxHeartbeats 0
set_option linter.unusedVariables false

theorem wp_execs_append {M : Model} {Γ : Ctx} {env : Env} {Q : Flow → Pos → Shared → Prop} {E : Value → Pos → Shared → Prop} (b : List Stmt) : ∀ (a : List Stmt) (p : Pos) (s : Shared),
    Sem.wp M Γ (execs a env) (fun f p s => match f with | .next => Sem.wp M Γ (execs b env) Q E p s | f => Q f p s) E p s → Sem.wp M Γ (execs (a ++ b) env) Q E p s
  | [], p, s, h => h
  | st :: a, p, s, h => by
    rw [List.cons_append, arm_execs_cons, Sem.wp_bind']
    rw [arm_execs_cons, Sem.wp_bind'] at h
    refine Sem.wp_mono _ _ _ (fun f p' s' h' => ?_) (fun _ _ _ x => x) _ _ h
    cases f with
    | next => exact wp_execs_append b a p' s' h'
    | _ => exact h'

theorem execsF_eq : execsF = execs := PySem.W.Fast.te12563942051412417395.symm
theorem run_execs {w : World} {Γ : Ctx} {sts : List Stmt} {env : Env} {p p' : Pos} {s s' : SharedT} (h : runT (Md w) (cl w) Γ (execsF sts env) p s = some (.ok .next, p', s')) {Q : Flow → Pos → Shared → Prop} {E : Value → Pos → Shared → Prop}
    (q : Q .next p' s'.abs) : Sem.wp (model pg w) Γ (execs sts env) Q E p s.abs := by
  rw [← Md_eq, execsF_eq] at h
  exact runT_sound (cl_sound w) _ h q

theorem block2 (w : World) (os : OsState) (p : Pos) : runT (Md w) (cl w) ctx2 (blockStart clsBody env2) p (St3 w os) = some (.ok (), p, St3 w os) := by kernel_rfl
theorem block1 (w : World) (os : OsState) (p : Pos) : runT (Md w) (cl w) ctx1 (blockStart top env0) p (St1 w os) = some (.ok (), p, St1 w os) := by kernel_rfl
theorem enter1 : ctx0.enter (.body top env0) none default = ctx1 := rfl
theorem enter2 : ctx1.enter (.body clsBody env2) none posB = ctx2 := rfl
theorem den_body (b : List Stmt) (env : Env) : denote table (.body b env) = (blockStart b env).bind fun _ => ((execs b env).onRaise (leaving env)).bind fun f => (Sem.pure (Fin.done f) : Sem Fin) := rfl
theorem split2 : clsBody = clsBody.take 1 ++ ((clsBody.drop 1).take 13 ++ ((clsBody.drop 14).take 5 ++ ((clsBody.drop 19).take 1 ++ ((clsBody.drop 20).take 1 ++ ((clsBody.drop 21).take 1 ++ ((clsBody.drop 22).take 1 ++ (clsBody.drop 23).take 1)))))) := by kernel_rfl
theorem split1 : top = top.take 6 ++ ([stT 6] ++ top.drop 7) := by kernel_rfl

/-- the class's block, in every world: it ends with a set of whatever layout -/
theorem body2 (w : World) (os : OsState) {Q : Flow → Pos → Shared → Prop} {E : Value → Pos → Shared → Prop} (p : Pos) (h : ∀ X, Q .next ps11 (St11 w X os).abs) :
    Sem.wp (model pg w) ctx2 (execs clsBody env2) Q E p (St3 w os).abs := by
  rw [split2]
  refine wp_execs_append _ _ _ _ ?_
  rw [gv_take, arm_execs_cons, Sem.wp_bind']
  refine gv_run w os p fun X => ?_
  show Sem.wp _ _ (execs _ _) _ _ _ _
  refine wp_execs_append _ _ _ _ (run_execs (piece5 w X os _) ?_)
  refine wp_execs_append _ _ _ _ (run_execs (piece6 w X os) ?_)
  refine wp_execs_append _ _ _ _ (run_execs (piece7 w X os) ?_)
  refine wp_execs_append _ _ _ _ (run_execs (piece8 w X os) ?_)
  refine wp_execs_append _ _ _ _ (run_execs (piece9 w X os) ?_)
  refine wp_execs_append _ _ _ _ (run_execs (piece10 w X os) ?_)
  exact run_execs (piece11 w X os) (h X)

theorem wpCode_body {w : World} {Γ : Ctx} {b : List Stmt} {env : Env} {R : Result → Shared → Prop} {p : Pos} {s : Shared} (hc : Γ.code = .body b env)
    (h : Sem.wp (model pg w) Γ (blockStart b env) (fun _ p s => Sem.wp (model pg w) Γ (execs b env) (fun f _ s => R (.ok f) s) (fun _ _ _ => False) p s) (fun _ _ _ => False) p s) : wpCode (model pg w) Γ R p s := by
  rw [wpCode_iff_wp, hc, show (model pg w).den = denote table from rfl, den_body, Sem.wp_bind]
  refine Sem.wp_mono _ _ _ (fun _ p s h => ?_) (fun _ _ _ x => x.elim) _ _ h
  rw [Sem.wp_bind, Sem.wp_onRaise]
  refine Sem.wp_mono _ _ _ (fun f p s h => ?_) (fun _ _ _ x => x.elim) _ _ h
  exact h

theorem top_wp (w : World) (os : OsState) {Q : Fin → Pos → Shared → Prop} {E : Value → Pos → Shared → Prop} (h : ∀ X, Q (.done (.ret .none)) default (St13 w X os).abs) :
    Sem.wp (model pg w) ctx0 (topStub pg).cur Q E default (St0 w os).abs := by
  have eA := pieceA w os
  unfold stopA at eA
  rw [← Md_eq] at eA
  refine runU_sound (cl_sound w) _ eA ?_
  rw [enter1]
  refine wpCode_body rfl ?_
  have eb := block1 w os default
  rw [← Md_eq] at eb
  refine runT_sound (cl_sound w) _ eb ?_
  show Sem.wp (model pg w) ctx1 (execs top env0) _ _ default (St1 w os).abs
  rw [split1]
  refine wp_execs_append _ _ _ _ (run_execs (piece1 w os) ?_)
  refine wp_execs_append _ _ _ _ ?_
  have eB := pieceB w os
  unfold stopB at eB
  rw [← Md_eq, execsF_eq] at eB
  refine runU_sound (cl_sound w) _ eB ?_
  rw [enter2]
  refine wpCode_body rfl ?_
  have eb2 := block2 w os posB
  rw [← Md_eq] at eb2
  refine runT_sound (cl_sound w) _ eb2 ?_
  show Sem.wp (model pg w) ctx2 (execs clsBody env2) _ _ posB (St3 w os).abs
  refine body2 w os posB fun X => ?_
  have eC := pieceC w X os
  rw [← Md_eq] at eC
  refine runT_sound (cl_sound w) _ eC ?_
  refine run_execs (piece13 w X os) ?_
  have eD := pieceD w X os
  rw [← Md_eq] at eD
  exact runT_sound (cl_sound w) _ eD (h X)
end Mine

-- HHead
namespace Mine
set_option maxRecDepth 100000
set_option maxHeartbeats 0
set_option linter.unusedVariables false
noncomputable abbrev h13 (w : World) (X : SetD) : Heap := absHeap (T13 w.params X) 1093 X.life
theorem boot_eq (P : Params) : boot_heap P = absHeap (T0 P) 11 life0 := by kernel_rfl
theorem boot_d : boot_drawn = drawn0 := by kernel_rfl
theorem boot_t : boot_toks = 181 := by kernel_rfl
theorem open_eq : opening pg = plainProg pg.main.scope.names := by kernel_rfl
theorem fence_eq (s : Shared) : fenceModules? pg s = some s := by kernel_rfl
theorem imp_eq : importedModules pg.main.body = [] := by kernel_rfl
theorem look1 (w : World) (X : SetD) : staticsOk [] (boot_heap w.params) (h13 w X) = true := by kernel_rfl
theorem look2 (w : World) (X : SetD) : namesBound pg (h13 w X) = true := by kernel_rfl
theorem look3 (w : World) (X : SetD) : laidKept (boot_heap w.params) (h13 w X) = true := by kernel_rfl
theorem look4 (w : World) (X : SetD) : (h13 w X).accountedOkI [] = true := by kernel_rfl
theorem look5 (w : World) (X : SetD) : (h13 w X).isNs mainGlobals = true := by kernel_rfl
theorem look6 (w : World) (X : SetD) : (h13 w X).isNs builtinsNs = true := by kernel_rfl
theorem look7 (w : World) (X : SetD) : (h13 w X).bltView = bltViewBooted := by kernel_rfl
theorem look8 (w : World) (X : SetD) : (h13 w X).bmainOk = true := by kernel_rfl

theorem old_kept (w : World) (X : SetD) (b : Nat) (hb : b < 11) (h2 : b ≠ 2) (h3 : b ≠ 3) : (T13 w.params X).get b = (T0 w.params).get b := by
  have : b = 0 ∨ b = 1 ∨ b = 4 ∨ b = 5 ∨ b = 6 ∨ b = 7 ∨ b = 8 ∨ b = 9 ∨ b = 10 := by omega
  rcases this with h | h | h | h | h | h | h | h | h <;> (subst h; kernel_rfl)

theorem some0 (w : World) (b : Nat) (hb : b < 11) (h2 : b ≠ 2) (h3 : b ≠ 3) : ((T0 w.params).get b).isSome = true := by
  have : b = 0 ∨ b = 1 ∨ b = 4 ∨ b = 5 ∨ b = 6 ∨ b = 7 ∨ b = 8 ∨ b = 9 ∨ b = 10 := by omega
  rcases this with h | h | h | h | h | h | h | h | h <;> (subst h; kernel_rfl)
theorem kept_old (w : World) (X : SetD) (b : Nat) (o : Obj) (e : (absHeap (T0 w.params) 11 life0).get? b = some o) (h2 : b ≠ 2) (h3 : b ≠ 3) : (h13 w X).get? b = some o := by
  have lt : b < 11 := by
    have := Heap.lt_size e
    rw [absHeap_size] at this
    exact this
  have k := old_kept w X b lt h2 h3
  have g := some0 w b lt h2 h3
  obtain ⟨o1, g⟩ := Option.isSome_iff_exists.mp g
  rw [abs_get lt g] at e
  rw [g] at k
  have lt2 : b < 1093 := by omega
  rw [abs_get lt2 k]
  exact e

theorem topRan (w : World) (os : OsState) : ∃ X, TopRan pg w ⟨boot_heap w.params, #[], boot_drawn, boot_toks, os⟩ (St13 w X os).abs ∧ (St13 w X os).abs.asleep := by
  have hs0 : (⟨boot_heap w.params, #[], boot_drawn, boot_toks, os⟩ : Shared) = (St0 w os).abs := by
    rw [boot_eq, boot_d, boot_t]; rfl
  have z : (St0 w os).abs.asleep := ⟨rfl, rfl⟩
  have hwp := top_wp w os (Q := fun fin p s => fin = .done (.ret .none) ∧ ∃ X, s = (St13 w X os).abs) (E := fun _ _ _ => False) fun X => ⟨rfl, X, rfl⟩
  have hctx : (Ctx.of (.builtin "claim.caller" {}) []) = ctx0 := rfl
  rw [← hctx] at hwp
  obtain ⟨n, s', σ, p', leaf, hrun, hfo, hl⟩ := wp_reaches hwp
  have hwp2 : Sem.wp (model pg w) ⟨.builtin "claim.caller" {}, none, none, [], none⟩ (topStub pg).cur (Sem.finPost (model pg w) ⟨.builtin "claim.caller" {}, none, none, [], none⟩ fun r s' => True ∧ leftWithCleanup s'.gens = false)
      (fun e _ s' => True ∧ leftWithCleanup s'.gens = false) default (St0 w os).abs := by
    refine Sem.wp_mono _ _ _ ?_ (fun _ _ _ x => x.elim) _ _ hwp
    rintro f p s ⟨rfl, X, rfl⟩
    exact ⟨trivial, by show leftWithCleanup #[] = false; simp [leftWithCleanup]⟩
  obtain ⟨m, r, s2, hn, -⟩ := (wp_iff_halts (M := model pg w) (topStub pg).cur (fun _ _ => True) default (St0 w os).abs).mp hwp2
  obtain ⟨s3, hm, -, hc⟩ := runNI_real _ _ _ hn (outcomeOf_ends r)
  have hne : ∀ k s₂, runN (model pg w).den (model pg w).prog (model pg w).w k (St0 w os).abs ⟨(topStub pg).cur, .builtin "claim.caller" {}, default, []⟩ ≠ .halted (.unsupported "lifetime:generator-with-cleanup-left-suspended") s₂ := by
    intro k s₂ hk
    have a := runN_mono _ _ _ m k _ _ _ s3 hm
    have b := runN_mono _ _ _ k m _ _ _ s₂ hk
    rw [Nat.add_comm, b] at a
    injection a with a1 _
    exact absurd (outcomeOf_ends r) (by rw [← a1]; simp [Outcome.ends])
  have hsched := (schedN_eq_runN _ _ _ (St0 w os).abs ⟨(topStub pg).cur, .builtin "claim.caller" {}, default, []⟩ z ⟨hc, hne⟩ n).trans (congrArg Run.lift hrun)
  rcases hl with ⟨a, rfl, rfl, X, rfl⟩ | ⟨e, _, x⟩
  · obtain rfl := Shared.eq_of_forget_eq hfo rfl
    have hlife := runN_life_running hrun
    refine ⟨X, ?_, Shared.asleep_of_life hlife z⟩
    rw [hs0]
    have hg5 := look5 w X
    have hh : (St13 w X os).abs.heap = h13 w X := rfl
    have hh0 : (St0 w os).abs.heap = boot_heap w.params := (boot_eq w.params).symm
    refine ⟨⟨n, _, hsched, rfl⟩, hlife, rfl, ?_, ?_, ?_, Pin.keysAreStrs_of hg5, ?_, ?_, ?_, names_of_bound (look2 w X), ?_⟩
    · intro b o e hn
      exact kept_old w X b o e (fun q => hn (.inr (.inl q))) (fun q => hn (.inl q))
    · rw [imp_eq]; exact Heap.accountedI_of_ok (look4 w X)
    · rw [imp_eq, hh0]; exact statics_of_ok (look1 w X)
    · exact fun x hx => (Pin.builtinOf_eq (look6 w X) x).trans (Heap.of_bltView (look6 w X) (look7 w X) x hx)
    · obtain ⟨bm, ob, a, _, c, d, f, _⟩ := Heap.bmainOk_spec (look8 w X)
      exact ⟨bm, ob, (Pin.globalOf_eq hg5 _).trans a, c, d, f⟩
    · intro g hg; exact absurd hg (by simp [St13, SharedT.abs])
    · rw [hh0]; exact laid_of_kept (look3 w X)
  · exact x.elim

theorem head (w : World) : (∃ s, AfterRun (opening pg) w s) ∧ ∀ s, AfterRun (opening pg) w s → ∃ s₀, fenceModules? pg s = some s₀ ∧ s₀.gens = #[] ∧ ∃ X os, TopRan pg w s₀ (St13 w X os).abs ∧ (St13 w X os).abs.asleep := by
  obtain ⟨⟨hp, gs, d, t, os⟩, e, e'⟩ := Option.map_eq_some_iff.mp (boot_open (p := pg) (N := 600) open_eq rfl fence_eq w)
  obtain ⟨rfl, rfl, rfl, rfl⟩ : hp = boot_heap w.params ∧ gs = Array.mk [] ∧ d = boot_drawn ∧ t = boot_toks := by simpa using e'
  unfold fencedOpening at e
  rw [← table_eq_tree] at e
  obtain ⟨s, h4, h5⟩ := Option.bind_eq_some_iff.mp e
  have A := AfterImport.of_importEnds h4
  refine ⟨⟨s, A⟩, fun s' hs' => ?_⟩
  obtain rfl : s' = s := AfterImport.unique hs' A
  obtain ⟨X, T, z⟩ := topRan w os
  exact ⟨_, h5, rfl, X, os, T, z⟩
end Mine

-- MLang
namespace Mine
set_option maxRecDepth 100000
set_option linter.unusedVariables false

/-! A small language with value semantics: lists are values, but for two stemmers and one tape. -/

inductive At | current | cursor | limit | lb | bra | ket | p1 | p2 | pV | s | sub | res
  deriving DecidableEq
def At.name : At → Str
  | .current => S "current" | .cursor => S "cursor" | .limit => S "limit" | .lb => S "limit_backward" | .bra => S "bra" | .ket => S "ket"
  | .p1 => S "I_p1" | .p2 => S "I_p2" | .pV => S "I_pV" | .s => S "s" | .sub => S "substring_i" | .res => S "result"

inductive V
  | none | bool (b : Bool) | int (i : Int) | str (l : List Nat) | list (xs : List V) | among (s : List Nat) (i r : Int) | stem (b : Bool) | tape

inductive Bop | add | sub | mul | mod | fdiv | shr
  deriving DecidableEq
inductive Cop | eq | ne | lt | le | gt | ge
  deriving DecidableEq

mutual
inductive ME
  | loc (i : Nat) | int (i : Int) | str (l : List Nat) | bool (b : Bool)
  | gl (g : Nat) | cls (k : Nat)
  | attr (e : ME) (a : At)
  | bin (op : Bop) (a b : ME) | neg (a : ME) | cmp (op : Cop) (a b : ME)
  | idx (a i : ME) | slLo (a lo : ME) | slHi (a hi : ME) | slBoth (a lo hi : ME)
  | len (a : ME) | ord (a : ME) | sum (a : ME) | min2 (a b : ME) | min3 (a b c : ME) | max2 (a b : ME)
  | ends (a b : ME)
  | lst (es : MEs)
  | call (f : Nat) (es : MEs) | meth (f : Nat) (o : ME) (es : MEs)
  | newStem (b : Bool) | newTape (es : MEs)
  | comp2 (src : ME)
inductive MEs
  | nil | cons (e : ME) (r : MEs)
end
mutual
inductive MT
  | val (e : ME) | cmp (op : Cop) (a b : ME) | isin (a : ME) (ns : List Int) | not (t : MT) | and (ts : MTs) | or (ts : MTs)
inductive MTs
  | nil | cons (t : MT) (r : MTs)
end
mutual
inductive MS
  | assign (i : Nat) (e : ME) | assignComp (i : Nat) (e : ME) | augLoc (i : Nat) (op : Bop) (e : ME)
  | setAttr (o : ME) (a : At) (e : ME) | augAttr (o : ME) (a : At) (op : Bop) (e : ME)
  | setItem (o i e : ME) | unpack (is : List Nat) (e : ME) | expr (e : ME)
  | ite (t : MT) (a b : MSs) | loop (b : MSs) | for1 (i : Nat) (n : ME) (b : MSs) | for3 (i : Nat) (a c d : ME) (b : MSs) | forL (i : Nat) (e : ME) (b : MSs)
  | ret (e : ME) | brk | pass | raise | tryP (b : MSs) | assert (t : MT)
inductive MSs
  | nil | cons (s : MS) (r : MSs)
end

abbrev Fields := List (At × V)
structure Gl where
  s0 : Option Fields
  s1 : Option Fields
  tape : Option (List V)
def Gl.st (g : Gl) : Bool → Option Fields
  | false => g.s0
  | true => g.s1
def Gl.setSt (g : Gl) (b : Bool) (f : Fields) : Gl := match b with
  | false => { g with s0 := some f }
  | true => { g with s1 := some f }
structure St where
  loc : List (Option V)
  g : Gl

inductive Out | next | brk | ret (v : V) | exc

def setF (a : At) (v : V) : Fields → Fields
  | [] => [(a, v)]
  | (b, w) :: r => if b = a then (b, v) :: r else (b, w) :: setF a v r
def getF (a : At) : Fields → Option V
  | [] => none
  | (b, w) :: r => if b = a then some w else getF a r

def bound : Nat := 1000000
def binV : Bop → V → V → Option V
  | .add, .int a, .int b => some (.int (a + b))
  | .add, .str a, .str b => if a.length + b.length ≤ bound then some (.str (a ++ b)) else none
  | .add, .list a, .list b => if a.length + b.length ≤ bound then some (.list (a ++ b)) else none
  | .sub, .int a, .int b => some (.int (a - b))
  | .mul, .int a, .int b => if a.natAbs < 2 ^ 62 ∧ b.natAbs < 2 ^ 62 then some (.int (a * b)) else none
  | .mod, .int a, .int b => if b = 0 then none else some (.int (a.fmod b))
  | .fdiv, .int a, .int b => if b = 0 ∨ ¬ (a.natAbs < 2 ^ 62 ∧ b.natAbs < 2 ^ 62) then none else some (.int (a.fdiv b))
  | .shr, .int a, .int b => if b = 1 then some (.int (a.fdiv 2)) else none
  | _, _, _ => none
def augV : Bop → V → V → Option V
  | .add, .int a, .int b => some (.int (a + b))
  | .sub, .int a, .int b => some (.int (a - b))
  | _, _, _ => none
def cmpI : Cop → Int → Int → Bool
  | .eq, a, b => a == b
  | .ne, a, b => a != b
  | .lt, a, b => decide (a < b)
  | .le, a, b => decide (a ≤ b)
  | .gt, a, b => decide (a > b)
  | .ge, a, b => decide (a ≥ b)
def cmpV : Cop → V → V → Option Bool
  | op, .int a, .int b => some (cmpI op a b)
  | .eq, .str a, .str b => some (a == b)
  | .ne, .str a, .str b => some (a != b)
  | .ne, .bool a, .bool b => some (a != b)
  | _, _, _ => none
def attrV (g : Gl) : V → At → Option V
  | .among s _ _, .s => some (.str s)
  | .among _ i _, .sub => some (.int i)
  | .among _ _ r, .res => some (.int r)
  | .stem b, a => (g.st b).bind (getF a)
  | _, _ => none
def idxV (g : Gl) : V → V → Option V
  | .list xs, .int i => if 0 ≤ i ∧ i ≤ bound then xs[i.toNat]? else none
  | .str l, .int i => if 0 ≤ i ∧ i ≤ bound then (l[i.toNat]?).map fun c => .str [c] else none
  | .tape, .int i => if 0 ≤ i ∧ i ≤ bound then g.tape.bind fun xs => xs[i.toNat]? else none
  | _, _ => none
/-- a bound of a slice, clamped as Python clamps it -/
def clampI (n : Nat) (i : Int) : Nat := if i < 0 then (i + n).toNat else min i.toNat n
def sliceL {α : Type} (l : List α) (lo hi : Option Int) : List α :=
  let a := match lo with | some i => clampI l.length i | none => 0
  let b := match hi with | some i => clampI l.length i | none => l.length
  (l.take b).drop a
def sliceV : V → Option Int → Option Int → Option V
  | .str l, lo, hi => if l.length ≤ bound then some (.str (sliceL l lo hi)) else none
  | .list l, lo, hi => if l.length ≤ bound then some (.list (sliceL l lo hi)) else none
  | _, _, _ => none
def lenV : V → Option V
  | .str l => if l.length ≤ bound then some (.int l.length) else none
  | .list l => if l.length ≤ bound then some (.int l.length) else none
  | _ => none
def truthV : V → Option Bool
  | .bool b => some b
  | _ => none
def intsOf : List V → Option (List Int)
  | [] => some []
  | .int i :: r => (intsOf r).map (i :: ·)
  | _ => none

def rangeDown (a : Int) : Nat → List V
  | 0 => []
  | n + 1 => .int a :: rangeDown (a - 1) n
def rangeUp (a : Int) : Nat → List V
  | 0 => []
  | n + 1 => .int a :: rangeUp (a + 1) n

abbrev CT := Nat → List V → (V → Gl → Prop) → Gl → Prop
abbrev KE := V → St → Prop
abbrev KS := Out → St → Prop

section
variable (glob : Nat → V) (cls : Nat → V) (C : CT)
mutual
def awpE : ME → KE → St → Prop
  | .loc i, Q, σ => ∃ v, (σ.loc[i]?).join = some v ∧ Q v σ
  | .int i, Q, σ => Q (.int i) σ
  | .str l, Q, σ => Q (.str l) σ
  | .bool b, Q, σ => Q (.bool b) σ
  | .gl n, Q, σ => Q (glob n) σ
  | .cls k, Q, σ => Q (cls k) σ
  | .attr e a, Q, σ => awpE e (fun v σ => ∃ r, attrV σ.g v a = some r ∧ Q r σ) σ
  | .bin op a b, Q, σ => awpE a (fun x σ => awpE b (fun y σ => ∃ r, binV op x y = some r ∧ Q r σ) σ) σ
  | .neg a, Q, σ => awpE a (fun x σ => ∃ i, x = .int i ∧ Q (.int (-i)) σ) σ
  | .cmp op a b, Q, σ => awpE a (fun x σ => awpE b (fun y σ => ∃ r, cmpV op x y = some r ∧ Q (.bool r) σ) σ) σ
  | .idx a i, Q, σ => awpE a (fun x σ => awpE i (fun y σ => ∃ r, idxV σ.g x y = some r ∧ Q r σ) σ) σ
  | .slLo a lo, Q, σ => awpE a (fun x σ => awpE lo (fun y σ => ∃ i r, y = .int i ∧ sliceV x (some i) none = some r ∧ Q r σ) σ) σ
  | .slHi a hi, Q, σ => awpE a (fun x σ => awpE hi (fun y σ => ∃ i r, y = .int i ∧ sliceV x none (some i) = some r ∧ Q r σ) σ) σ
  | .slBoth a lo hi, Q, σ => awpE a (fun x σ => awpE lo (fun y σ => awpE hi (fun z σ => ∃ i j r, y = .int i ∧ z = .int j ∧ sliceV x (some i) (some j) = some r ∧ Q r σ) σ) σ) σ
  | .len a, Q, σ => awpE a (fun x σ => ∃ r, lenV x = some r ∧ Q r σ) σ
  | .ord a, Q, σ => awpE a (fun x σ => ∃ c, x = .str [c] ∧ Q (.int c) σ) σ
  | .sum a, Q, σ => awpE a (fun x σ => ∃ ns : List Int, x = .list (ns.map .int) ∧ Q (.int ns.sum) σ) σ
  | .min2 a b, Q, σ => awpE a (fun x σ => awpE b (fun y σ => ∃ i j, x = .int i ∧ y = .int j ∧ Q (.int (min i j)) σ) σ) σ
  | .min3 a b c, Q, σ => awpE a (fun x σ => awpE b (fun y σ => awpE c (fun z σ => ∃ i j k, x = .int i ∧ y = .int j ∧ z = .int k ∧ Q (.int (min (min i j) k)) σ) σ) σ) σ
  | .max2 a b, Q, σ => awpE a (fun x σ => awpE b (fun y σ => ∃ i j, x = .int i ∧ y = .int j ∧ Q (.int (max i j)) σ) σ) σ
  | .ends a b, Q, σ => awpE a (fun x σ => ∃ l, x = .str l ∧ awpE b (fun y σ => ∃ m, y = .str m ∧ Q (.bool (decide (m <:+ l))) σ) σ) σ
  | .lst es, Q, σ => awpEs es (fun vs σ => vs.length ≤ bound ∧ Q (.list vs) σ) σ
  | .call f es, Q, σ => awpEs es (fun vs σ => C f vs (fun v g => Q v ⟨σ.loc, g⟩) σ.g) σ
  | .meth f o es, Q, σ => awpE o (fun x σ => ∃ b, x = .stem b ∧ (σ.g.st b).isSome = true ∧ awpEs es (fun vs σ => C f (.stem b :: vs) (fun v g => Q v ⟨σ.loc, g⟩) σ.g) σ) σ
  | .newStem b, Q, σ => σ.g.st b = none ∧ C 0 [.stem b] (fun v g => v = .none ∧ Q (.stem b) ⟨σ.loc, g⟩) (σ.g.setSt b [])
  | .newTape es, Q, σ => awpEs es (fun vs σ => vs.length ≤ bound ∧ σ.g.tape = none ∧ Q .tape ⟨σ.loc, { σ.g with tape := some vs }⟩) σ
  | .comp2 a, Q, σ => awpE a (fun x σ => ∃ xs, x = .list xs ∧ xs.length ≤ 100 ∧ Q (.list (xs.map fun v => .list [v])) σ) σ
def awpEs : MEs → (List V → St → Prop) → St → Prop
  | .nil, Q, σ => Q [] σ
  | .cons e r, Q, σ => awpE e (fun v σ => awpEs r (fun vs σ => Q (v :: vs) σ) σ) σ
end
mutual
def awpT : MT → (Bool → St → Prop) → St → Prop
  | .val e, Q, σ => awpE glob cls C e (fun v σ => ∃ b, truthV v = some b ∧ Q b σ) σ
  | .cmp op a b, Q, σ => awpE glob cls C a (fun x σ => awpE glob cls C b (fun y σ => ∃ r, cmpV op x y = some r ∧ Q r σ) σ) σ
  | .isin a ns, Q, σ => awpE glob cls C a (fun x σ => ∃ i, x = .int i ∧ Q (ns.contains i) σ) σ
  | .not t, Q, σ => awpT t (fun b σ => Q (!b) σ) σ
  | .and ts, Q, σ => awpAnd ts Q σ
  | .or ts, Q, σ => awpOr ts Q σ
def awpAnd : MTs → (Bool → St → Prop) → St → Prop
  | .nil, Q, σ => Q true σ
  | .cons t r, Q, σ => awpT t (fun b σ => match b with | true => awpAnd r Q σ | false => Q false σ) σ
def awpOr : MTs → (Bool → St → Prop) → St → Prop
  | .nil, Q, σ => Q false σ
  | .cons t r, Q, σ => awpT t (fun b σ => match b with | true => Q true σ | false => awpOr r Q σ) σ
end

def loopN (B : KS → St → Prop) (Q : KS) : Nat → St → Prop
  | 0, _ => False
  | n + 1, σ => B (fun o σ => match o with | .next => loopN B Q n σ | .brk => Q .next σ | .ret v => Q (.ret v) σ | .exc => False) σ
def forN (B : KS → St → Prop) (i : Nat) (Q : KS) : List V → St → Prop
  | [], σ => Q .next σ
  | x :: xs, σ => B (fun o σ => match o with | .next => forN B i Q xs σ | .brk => Q .next σ | .ret v => Q (.ret v) σ | .exc => False) ⟨σ.loc.set i (some x), σ.g⟩
def setLocs : List Nat → List V → List (Option V) → Option (List (Option V))
  | [], [], l => some l
  | i :: r, v :: vs, l => setLocs r vs (l.set i (some v))
  | _, _, _ => none

mutual
def awpS : MS → KS → St → Prop
  | .assign i e, Q, σ => awpE glob cls C e (fun v σ => Q .next ⟨σ.loc.set i (some v), σ.g⟩) σ
  | .assignComp i e, Q, σ => awpE glob cls C e (fun x σ => ∃ ns : List Int, x = .list (ns.map .int) ∧ ns.length ≤ 100 ∧ Q .next ⟨σ.loc.set i (some (.list (ns.map fun n => .int (n.fmod 1000003)))), σ.g⟩) σ
  | .augLoc i op e, Q, σ => ∃ old, (σ.loc[i]?).join = some old ∧ awpE glob cls C e (fun v σ => ∃ r, augV op old v = some r ∧ Q .next ⟨σ.loc.set i (some r), σ.g⟩) σ
  | .setAttr o a e, Q, σ => awpE glob cls C e (fun v σ => awpE glob cls C o (fun x σ => ∃ b f, x = .stem b ∧ σ.g.st b = some f ∧ f.length ≤ 100 ∧ Q .next ⟨σ.loc, σ.g.setSt b (setF a v f)⟩) σ) σ
  | .augAttr o a op e, Q, σ => awpE glob cls C o (fun x σ => ∃ b f old, x = .stem b ∧ σ.g.st b = some f ∧ getF a f = some old ∧
      awpE glob cls C e (fun v σ => ∃ f' r, σ.g.st b = some f' ∧ f'.length ≤ 100 ∧ augV op old v = some r ∧ Q .next ⟨σ.loc, σ.g.setSt b (setF a r f')⟩) σ) σ
  | .setItem o i e, Q, σ => awpE glob cls C e (fun v σ => awpE glob cls C o (fun x σ => awpE glob cls C i (fun y σ => ∃ k xs, x = .tape ∧ y = .int k ∧ σ.g.tape = some xs ∧ 0 ≤ k ∧ k ≤ bound ∧ k.toNat < xs.length ∧
      Q .next ⟨σ.loc, { σ.g with tape := some (xs.set k.toNat v) }⟩) σ) σ) σ
  | .unpack is e, Q, σ => awpE glob cls C e (fun v σ => ∃ xs l, v = .list xs ∧ setLocs is xs σ.loc = some l ∧ Q .next ⟨l, σ.g⟩) σ
  | .expr e, Q, σ => awpE glob cls C e (fun _ σ => Q .next σ) σ
  | .ite t a b, Q, σ => awpT glob cls C t (fun c σ => match c with | true => awpSs a Q σ | false => awpSs b Q σ) σ
  | .loop b, Q, σ => ∃ n, loopN (awpSs b) Q n σ
  | .for1 i n b, Q, σ => awpE glob cls C n (fun x σ => ∃ k : Nat, x = .int k ∧ k ≤ bound ∧ forN (awpSs b) i Q (rangeUp 0 k) σ) σ
  | .for3 i a c d b, Q, σ => awpE glob cls C a (fun x σ => awpE glob cls C c (fun y σ => awpE glob cls C d (fun z σ => ∃ k : Nat, x = .int ((k : Int) - 1) ∧ y = .int (-1) ∧ z = .int (-1) ∧ k ≤ bound ∧ forN (awpSs b) i Q (rangeDown (k - 1) k) σ) σ) σ) σ
  | .forL i e b, Q, σ => awpE glob cls C e (fun v σ => ∃ xs, v = .list xs ∧ forN (awpSs b) i Q xs σ) σ
  | .ret e, Q, σ => awpE glob cls C e (fun v σ => Q (.ret v) σ) σ
  | .brk, Q, σ => Q .brk σ
  | .pass, Q, σ => Q .next σ
  | .raise, Q, σ => Q .exc σ
  | .tryP b, Q, σ => awpSs b (fun o σ => match o with | .exc => Q .next σ | o => Q o σ) σ
  | .assert t, Q, σ => awpT glob cls C t (fun c σ => c = true ∧ Q .next σ) σ
def awpSs : MSs → KS → St → Prop
  | .nil, Q, σ => Q .next σ
  | .cons s r, Q, σ => awpS s (fun o σ => match o with | .next => awpSs r Q σ | o => Q o σ) σ
end
end

structure FD where
  np : Nat
  nl : Nat
  body : MSs
def callN (glob cls : Nat → V) (ftab : List FD) : Nat → CT
  | 0 => fun _ _ _ _ => False
  | d + 1 => fun f vs Q g => ∃ fd, ftab[f]? = some fd ∧ vs.length = fd.np ∧
      awpSs glob cls (callN glob cls ftab d) fd.body (fun o σ => match o with | .ret v => Q v σ.g | .next => Q .none σ.g | _ => False) ⟨vs.map some ++ List.replicate (fd.nl - fd.np) none, g⟩
end Mine

-- MProg
namespace Mine
set_option maxRecDepth 100000
set_option linter.unusedVariables false
/-- 0: __init__ -/
def m0 : MSs := (.cons (.expr (.meth 1 (.loc 0) (.cons (.str []) .nil)))
  .nil)
def n0 : List Str := [S "self"]
def w0 : Stmt := stC 2 0
def fd0 : FD := ⟨1, 1, m0⟩
/-- 1: set_current -/
def m1 : MSs := (.cons (.setAttr (.loc 0) .current (.loc 1))
  (.cons (.setAttr (.loc 0) .cursor (.int 0))
  (.cons (.setAttr (.loc 0) .limit (.len (.attr (.loc 0) .current)))
  (.cons (.setAttr (.loc 0) .lb (.int 0))
  (.cons (.setAttr (.loc 0) .bra (.attr (.loc 0) .cursor))
  (.cons (.setAttr (.loc 0) .ket (.attr (.loc 0) .limit))
  .nil))))))
def n1 : List Str := [S "self", S "value"]
def w1 : Stmt := stC 2 1
def fd1 : FD := ⟨2, 2, m1⟩
/-- 2: get_current -/
def m2 : MSs := (.cons (.ret (.attr (.loc 0) .current))
  .nil)
def n2 : List Str := [S "self"]
def w2 : Stmt := stC 2 2
def fd2 : FD := ⟨1, 1, m2⟩
/-- 3: eq_s_b -/
def m3 : MSs := (.cons (.ite (.val (.ends (.slBoth (.attr (.loc 0) .current) (.attr (.loc 0) .lb) (.attr (.loc 0) .cursor)) (.loc 1))) (.cons (.augAttr (.loc 0) .cursor .sub (.len (.loc 1)))
  (.cons (.ret (.bool true))
  .nil)) .nil)
  (.cons (.ret (.bool false))
  .nil))
def n3 : List Str := [S "self", S "s"]
def w3 : Stmt := stC 2 13
def fd3 : FD := ⟨2, 2, m3⟩
/-- 4: find_among_b -/
def m4 : MSs := (.cons (.assign 2 (.int 0))
  (.cons (.assign 3 (.len (.loc 1)))
  (.cons (.assign 4 (.attr (.loc 0) .cursor))
  (.cons (.assign 5 (.attr (.loc 0) .lb))
  (.cons (.assign 6 (.int 0))
  (.cons (.assign 7 (.int 0))
  (.cons (.assign 8 (.bool false))
  (.cons (.loop (.cons (.assign 9 (.bin .add (.loc 2) (.bin .shr (.bin .sub (.loc 3) (.loc 2)) (.int 1))))
  (.cons (.assign 10 (.int 0))
  (.cons (.assign 11 (.min2 (.loc 6) (.loc 7)))
  (.cons (.assign 12 (.idx (.loc 1) (.loc 9)))
  (.cons (.for3 13 (.bin .sub (.bin .sub (.len (.attr (.loc 12) .s)) (.int 1)) (.loc 11)) (.neg (.int 1)) (.neg (.int 1)) (.cons (.ite (.cmp .eq (.bin .sub (.loc 4) (.loc 11)) (.loc 5)) (.cons (.assign 10 (.neg (.int 1)))
  (.cons .brk
  .nil)) .nil)
  (.cons (.assign 10 (.bin .sub (.ord (.idx (.attr (.loc 0) .current) (.bin .sub (.bin .sub (.loc 4) (.int 1)) (.loc 11)))) (.ord (.idx (.attr (.loc 12) .s) (.loc 13)))))
  (.cons (.ite (.cmp .ne (.loc 10) (.int 0)) (.cons .brk
  .nil) .nil)
  (.cons (.augLoc 11 .add (.int 1))
  .nil)))))
  (.cons (.ite (.cmp .lt (.loc 10) (.int 0)) (.cons (.assign 3 (.loc 9))
  (.cons (.assign 7 (.loc 11))
  .nil)) (.cons (.assign 2 (.loc 9))
  (.cons (.assign 6 (.loc 11))
  .nil)))
  (.cons (.ite (.cmp .le (.bin .sub (.loc 3) (.loc 2)) (.int 1)) (.cons (.ite (.cmp .gt (.loc 2) (.int 0)) (.cons .brk
  .nil) .nil)
  (.cons (.ite (.cmp .eq (.loc 3) (.loc 2)) (.cons .brk
  .nil) .nil)
  (.cons (.ite (.val (.loc 8)) (.cons .brk
  .nil) .nil)
  (.cons (.assign 8 (.bool true))
  .nil)))) .nil)
  .nil))))))))
  (.cons (.loop (.cons (.assign 12 (.idx (.loc 1) (.loc 2)))
  (.cons (.ite (.cmp .ge (.loc 6) (.len (.attr (.loc 12) .s))) (.cons (.setAttr (.loc 0) .cursor (.bin .sub (.loc 4) (.len (.attr (.loc 12) .s))))
  (.cons (.ret (.attr (.loc 12) .res))
  .nil)) .nil)
  (.cons (.assign 2 (.attr (.loc 12) .sub))
  (.cons (.ite (.cmp .lt (.loc 2) (.int 0)) (.cons (.ret (.int 0))
  .nil) .nil)
  .nil)))))
  (.cons (.ret (.neg (.int 1)))
  .nil))))))))))
def n4 : List Str := [S "self", S "v", S "i", S "j", S "c", S "lb", S "common_i", S "common_j", S "first_key_inspected", S "k", S "diff", S "common", S "w", S "i2"]
def w4 : Stmt := stC 2 15
def fd4 : FD := ⟨2, 14, m4⟩
/-- 5: replace_s -/
def m5 : MSs := (.cons (.assign 4 (.bin .sub (.len (.loc 3)) (.bin .sub (.loc 2) (.loc 1))))
  (.cons (.setAttr (.loc 0) .current (.bin .add (.bin .add (.slBoth (.attr (.loc 0) .current) (.int 0) (.loc 1)) (.loc 3)) (.slLo (.attr (.loc 0) .current) (.loc 2))))
  (.cons (.augAttr (.loc 0) .limit .add (.loc 4))
  (.cons (.ite (.cmp .ge (.attr (.loc 0) .cursor) (.loc 2)) (.cons (.augAttr (.loc 0) .cursor .add (.loc 4))
  .nil) (.cons (.ite (.cmp .gt (.attr (.loc 0) .cursor) (.loc 1)) (.cons (.setAttr (.loc 0) .cursor (.loc 1))
  .nil) .nil)
  .nil))
  (.cons (.ret (.loc 4))
  .nil)))))
def n5 : List Str := [S "self", S "c_bra", S "c_ket", S "s", S "adjustment"]
def w5 : Stmt := stC 2 16
def fd5 : FD := ⟨4, 5, m5⟩
/-- 6: slice_from -/
def m6 : MSs := (.cons (.assert (.cmp .ge (.attr (.loc 0) .bra) (.int 0)))
  (.cons (.assert (.cmp .le (.attr (.loc 0) .bra) (.attr (.loc 0) .ket)))
  (.cons (.assert (.cmp .le (.attr (.loc 0) .ket) (.attr (.loc 0) .limit)))
  (.cons (.assert (.cmp .le (.attr (.loc 0) .limit) (.len (.attr (.loc 0) .current))))
  (.cons (.expr (.meth 5 (.loc 0) (.cons (.attr (.loc 0) .bra) (.cons (.attr (.loc 0) .ket) (.cons (.loc 1) .nil)))))
  (.cons (.setAttr (.loc 0) .ket (.bin .add (.attr (.loc 0) .bra) (.len (.loc 1))))
  .nil))))))
def n6 : List Str := [S "self", S "s"]
def w6 : Stmt := stC 2 17
def fd6 : FD := ⟨2, 2, m6⟩
/-- 7: slice_del -/
def m7 : MSs := (.cons (.ret (.meth 6 (.loc 0) (.cons (.str []) .nil)))
  .nil)
def n7 : List Str := [S "self"]
def w7 : Stmt := stC 2 18
def fd7 : FD := ⟨1, 1, m7⟩
/-- 8: r_RV -/
def m8 : MSs := (.cons (.ret (.cmp .le (.attr (.loc 0) .pV) (.attr (.loc 0) .cursor)))
  .nil)
def n8 : List Str := [S "self"]
def w8 : Stmt := stC 6 6
def fd8 : FD := ⟨1, 1, m8⟩
/-- 9: r_R2 -/
def m9 : MSs := (.cons (.ret (.cmp .le (.attr (.loc 0) .p2) (.attr (.loc 0) .cursor)))
  .nil)
def n9 : List Str := [S "self"]
def w9 : Stmt := stC 6 7
def fd9 : FD := ⟨1, 1, m9⟩
/-- 10: r_attached_pronoun -/
def m10 : MSs := (.cons (.setAttr (.loc 0) .ket (.attr (.loc 0) .cursor))
  (.cons (.ite (.cmp .eq (.meth 4 (.loc 0) (.cons (.cls 1) .nil)) (.int 0)) (.cons (.ret (.bool false))
  .nil) .nil)
  (.cons (.setAttr (.loc 0) .bra (.attr (.loc 0) .cursor))
  (.cons (.assign 1 (.meth 4 (.loc 0) (.cons (.cls 2) .nil)))
  (.cons (.ite (.cmp .eq (.loc 1) (.int 0)) (.cons (.ret (.bool false))
  .nil) .nil)
  (.cons (.ite (.not (.val (.meth 8 (.loc 0) .nil))) (.cons (.ret (.bool false))
  .nil) .nil)
  (.cons (.ite (.cmp .eq (.loc 1) (.int 1)) (.cons (.setAttr (.loc 0) .bra (.attr (.loc 0) .cursor))
  (.cons (.expr (.meth 6 (.loc 0) (.cons (.str [105, 101, 110, 100, 111]) .nil)))
  .nil)) (.cons (.ite (.cmp .eq (.loc 1) (.int 2)) (.cons (.setAttr (.loc 0) .bra (.attr (.loc 0) .cursor))
  (.cons (.expr (.meth 6 (.loc 0) (.cons (.str [97, 110, 100, 111]) .nil)))
  .nil)) (.cons (.ite (.cmp .eq (.loc 1) (.int 3)) (.cons (.setAttr (.loc 0) .bra (.attr (.loc 0) .cursor))
  (.cons (.expr (.meth 6 (.loc 0) (.cons (.str [97, 114]) .nil)))
  .nil)) (.cons (.ite (.cmp .eq (.loc 1) (.int 4)) (.cons (.setAttr (.loc 0) .bra (.attr (.loc 0) .cursor))
  (.cons (.expr (.meth 6 (.loc 0) (.cons (.str [101, 114]) .nil)))
  .nil)) (.cons (.ite (.cmp .eq (.loc 1) (.int 5)) (.cons (.setAttr (.loc 0) .bra (.attr (.loc 0) .cursor))
  (.cons (.expr (.meth 6 (.loc 0) (.cons (.str [105, 114]) .nil)))
  .nil)) (.cons (.ite (.cmp .eq (.loc 1) (.int 6)) (.cons (.expr (.meth 7 (.loc 0) .nil))
  .nil) (.cons (.ite (.or (.cons (.cmp .le (.attr (.loc 0) .cursor) (.attr (.loc 0) .lb)) (.cons (.cmp .ne (.idx (.attr (.loc 0) .current) (.bin .sub (.attr (.loc 0) .cursor) (.int 1))) (.str [117])) .nil))) (.cons (.ret (.bool false))
  .nil) .nil)
  (.cons (.augAttr (.loc 0) .cursor .sub (.int 1))
  (.cons (.expr (.meth 7 (.loc 0) .nil))
  .nil))))
  .nil))
  .nil))
  .nil))
  .nil))
  .nil))
  (.cons (.ret (.bool true))
  .nil))))))))
def n10 : List Str := [S "self", S "among_var"]
def w10 : Stmt := stC 6 8
def fd10 : FD := ⟨1, 2, m10⟩
/-- 11: r_standard_suffix -/
def m11 : MSs := (.cons (.setAttr (.loc 0) .ket (.attr (.loc 0) .cursor))
  (.cons (.assign 1 (.meth 4 (.loc 0) (.cons (.cls 6) .nil)))
  (.cons (.ite (.cmp .eq (.loc 1) (.int 0)) (.cons (.ret (.bool false))
  .nil) .nil)
  (.cons (.setAttr (.loc 0) .bra (.attr (.loc 0) .cursor))
  (.cons (.ite (.cmp .eq (.loc 1) (.int 1)) (.cons (.ite (.not (.val (.meth 9 (.loc 0) .nil))) (.cons (.ret (.bool false))
  .nil) .nil)
  (.cons (.expr (.meth 7 (.loc 0) .nil))
  .nil)) (.cons (.ite (.cmp .eq (.loc 1) (.int 2)) (.cons (.ite (.not (.val (.meth 9 (.loc 0) .nil))) (.cons (.ret (.bool false))
  .nil) .nil)
  (.cons (.expr (.meth 7 (.loc 0) .nil))
  (.cons (.assign 2 (.bin .sub (.attr (.loc 0) .limit) (.attr (.loc 0) .cursor)))
  (.cons (.tryP (.cons (.setAttr (.loc 0) .ket (.attr (.loc 0) .cursor))
  (.cons (.ite (.not (.val (.meth 3 (.loc 0) (.cons (.str [105, 99]) .nil)))) (.cons (.setAttr (.loc 0) .cursor (.bin .sub (.attr (.loc 0) .limit) (.loc 2)))
  (.cons .raise
  .nil)) .nil)
  (.cons (.setAttr (.loc 0) .bra (.attr (.loc 0) .cursor))
  (.cons (.ite (.not (.val (.meth 9 (.loc 0) .nil))) (.cons (.setAttr (.loc 0) .cursor (.bin .sub (.attr (.loc 0) .limit) (.loc 2)))
  (.cons .raise
  .nil)) .nil)
  (.cons (.expr (.meth 7 (.loc 0) .nil))
  .nil))))))
  .nil)))) (.cons (.ite (.cmp .eq (.loc 1) (.int 3)) (.cons (.ite (.not (.val (.meth 9 (.loc 0) .nil))) (.cons (.ret (.bool false))
  .nil) .nil)
  (.cons (.expr (.meth 6 (.loc 0) (.cons (.str [108, 111, 103]) .nil)))
  .nil)) (.cons (.ite (.cmp .eq (.loc 1) (.int 4)) (.cons (.ite (.not (.val (.meth 9 (.loc 0) .nil))) (.cons (.ret (.bool false))
  .nil) .nil)
  (.cons (.expr (.meth 6 (.loc 0) (.cons (.str [117]) .nil)))
  .nil)) (.cons (.ite (.cmp .eq (.loc 1) (.int 5)) (.cons (.ite (.not (.val (.meth 9 (.loc 0) .nil))) (.cons (.ret (.bool false))
  .nil) .nil)
  (.cons (.expr (.meth 6 (.loc 0) (.cons (.str [101, 110, 116, 101]) .nil)))
  .nil)) (.cons (.ite (.cmp .eq (.loc 1) (.int 6)) (.cons (.ite (.cmp .gt (.attr (.loc 0) .p1) (.attr (.loc 0) .cursor)) (.cons (.ret (.bool false))
  .nil) .nil)
  (.cons (.expr (.meth 7 (.loc 0) .nil))
  (.cons (.assign 3 (.bin .sub (.attr (.loc 0) .limit) (.attr (.loc 0) .cursor)))
  (.cons (.tryP (.cons (.setAttr (.loc 0) .ket (.attr (.loc 0) .cursor))
  (.cons (.assign 1 (.meth 4 (.loc 0) (.cons (.cls 3) .nil)))
  (.cons (.ite (.cmp .eq (.loc 1) (.int 0)) (.cons (.setAttr (.loc 0) .cursor (.bin .sub (.attr (.loc 0) .limit) (.loc 3)))
  (.cons .raise
  .nil)) .nil)
  (.cons (.setAttr (.loc 0) .bra (.attr (.loc 0) .cursor))
  (.cons (.ite (.not (.val (.meth 9 (.loc 0) .nil))) (.cons (.setAttr (.loc 0) .cursor (.bin .sub (.attr (.loc 0) .limit) (.loc 3)))
  (.cons .raise
  .nil)) .nil)
  (.cons (.expr (.meth 7 (.loc 0) .nil))
  (.cons (.ite (.cmp .eq (.loc 1) (.int 1)) (.cons (.setAttr (.loc 0) .ket (.attr (.loc 0) .cursor))
  (.cons (.ite (.not (.val (.meth 3 (.loc 0) (.cons (.str [97, 116]) .nil)))) (.cons (.setAttr (.loc 0) .cursor (.bin .sub (.attr (.loc 0) .limit) (.loc 3)))
  (.cons .raise
  .nil)) .nil)
  (.cons (.setAttr (.loc 0) .bra (.attr (.loc 0) .cursor))
  (.cons (.ite (.not (.val (.meth 9 (.loc 0) .nil))) (.cons (.setAttr (.loc 0) .cursor (.bin .sub (.attr (.loc 0) .limit) (.loc 3)))
  (.cons .raise
  .nil)) .nil)
  (.cons (.expr (.meth 7 (.loc 0) .nil))
  .nil))))) .nil)
  .nil))))))))
  .nil)))) (.cons (.ite (.cmp .eq (.loc 1) (.int 7)) (.cons (.ite (.not (.val (.meth 9 (.loc 0) .nil))) (.cons (.ret (.bool false))
  .nil) .nil)
  (.cons (.expr (.meth 7 (.loc 0) .nil))
  (.cons (.assign 4 (.bin .sub (.attr (.loc 0) .limit) (.attr (.loc 0) .cursor)))
  (.cons (.tryP (.cons (.setAttr (.loc 0) .ket (.attr (.loc 0) .cursor))
  (.cons (.ite (.cmp .eq (.meth 4 (.loc 0) (.cons (.cls 4) .nil)) (.int 0)) (.cons (.setAttr (.loc 0) .cursor (.bin .sub (.attr (.loc 0) .limit) (.loc 4)))
  (.cons .raise
  .nil)) .nil)
  (.cons (.setAttr (.loc 0) .bra (.attr (.loc 0) .cursor))
  (.cons (.ite (.not (.val (.meth 9 (.loc 0) .nil))) (.cons (.setAttr (.loc 0) .cursor (.bin .sub (.attr (.loc 0) .limit) (.loc 4)))
  (.cons .raise
  .nil)) .nil)
  (.cons (.expr (.meth 7 (.loc 0) .nil))
  .nil))))))
  .nil)))) (.cons (.ite (.cmp .eq (.loc 1) (.int 8)) (.cons (.ite (.not (.val (.meth 9 (.loc 0) .nil))) (.cons (.ret (.bool false))
  .nil) .nil)
  (.cons (.expr (.meth 7 (.loc 0) .nil))
  (.cons (.assign 5 (.bin .sub (.attr (.loc 0) .limit) (.attr (.loc 0) .cursor)))
  (.cons (.tryP (.cons (.setAttr (.loc 0) .ket (.attr (.loc 0) .cursor))
  (.cons (.ite (.cmp .eq (.meth 4 (.loc 0) (.cons (.cls 5) .nil)) (.int 0)) (.cons (.setAttr (.loc 0) .cursor (.bin .sub (.attr (.loc 0) .limit) (.loc 5)))
  (.cons .raise
  .nil)) .nil)
  (.cons (.setAttr (.loc 0) .bra (.attr (.loc 0) .cursor))
  (.cons (.ite (.not (.val (.meth 9 (.loc 0) .nil))) (.cons (.setAttr (.loc 0) .cursor (.bin .sub (.attr (.loc 0) .limit) (.loc 5)))
  (.cons .raise
  .nil)) .nil)
  (.cons (.expr (.meth 7 (.loc 0) .nil))
  .nil))))))
  .nil)))) (.cons (.ite (.not (.val (.meth 9 (.loc 0) .nil))) (.cons (.ret (.bool false))
  .nil) .nil)
  (.cons (.expr (.meth 7 (.loc 0) .nil))
  (.cons (.assign 6 (.bin .sub (.attr (.loc 0) .limit) (.attr (.loc 0) .cursor)))
  (.cons (.tryP (.cons (.setAttr (.loc 0) .ket (.attr (.loc 0) .cursor))
  (.cons (.ite (.not (.val (.meth 3 (.loc 0) (.cons (.str [97, 116]) .nil)))) (.cons (.setAttr (.loc 0) .cursor (.bin .sub (.attr (.loc 0) .limit) (.loc 6)))
  (.cons .raise
  .nil)) .nil)
  (.cons (.setAttr (.loc 0) .bra (.attr (.loc 0) .cursor))
  (.cons (.ite (.not (.val (.meth 9 (.loc 0) .nil))) (.cons (.setAttr (.loc 0) .cursor (.bin .sub (.attr (.loc 0) .limit) (.loc 6)))
  (.cons .raise
  .nil)) .nil)
  (.cons (.expr (.meth 7 (.loc 0) .nil))
  .nil))))))
  .nil)))))
  .nil))
  .nil))
  .nil))
  .nil))
  .nil))
  .nil))
  .nil))
  (.cons (.ret (.bool true))
  .nil))))))
def n11 : List Str := [S "self", S "among_var", S "v_1", S "v_2", S "v_3", S "v_4", S "v_5"]
def w11 : Stmt := stC 6 9
def fd11 : FD := ⟨1, 7, m11⟩
/-- 12: r_y_verb_suffix -/
def m12 : MSs := (.cons (.ite (.cmp .lt (.attr (.loc 0) .cursor) (.attr (.loc 0) .pV)) (.cons (.ret (.bool false))
  .nil) .nil)
  (.cons (.assign 1 (.attr (.loc 0) .lb))
  (.cons (.setAttr (.loc 0) .lb (.attr (.loc 0) .pV))
  (.cons (.setAttr (.loc 0) .ket (.attr (.loc 0) .cursor))
  (.cons (.ite (.cmp .eq (.meth 4 (.loc 0) (.cons (.cls 7) .nil)) (.int 0)) (.cons (.setAttr (.loc 0) .lb (.loc 1))
  (.cons (.ret (.bool false))
  .nil)) .nil)
  (.cons (.setAttr (.loc 0) .bra (.attr (.loc 0) .cursor))
  (.cons (.setAttr (.loc 0) .lb (.loc 1))
  (.cons (.ite (.or (.cons (.cmp .le (.attr (.loc 0) .cursor) (.attr (.loc 0) .lb)) (.cons (.cmp .ne (.idx (.attr (.loc 0) .current) (.bin .sub (.attr (.loc 0) .cursor) (.int 1))) (.str [117])) .nil))) (.cons (.ret (.bool false))
  .nil) .nil)
  (.cons (.augAttr (.loc 0) .cursor .sub (.int 1))
  (.cons (.expr (.meth 7 (.loc 0) .nil))
  (.cons (.ret (.bool true))
  .nil)))))))))))
def n12 : List Str := [S "self", S "v_2"]
def w12 : Stmt := stC 6 10
def fd12 : FD := ⟨1, 2, m12⟩
/-- 13: r_verb_suffix -/
def m13 : MSs := (.cons (.ite (.cmp .lt (.attr (.loc 0) .cursor) (.attr (.loc 0) .pV)) (.cons (.ret (.bool false))
  .nil) .nil)
  (.cons (.assign 1 (.attr (.loc 0) .lb))
  (.cons (.setAttr (.loc 0) .lb (.attr (.loc 0) .pV))
  (.cons (.setAttr (.loc 0) .ket (.attr (.loc 0) .cursor))
  (.cons (.assign 2 (.meth 4 (.loc 0) (.cons (.cls 8) .nil)))
  (.cons (.ite (.cmp .eq (.loc 2) (.int 0)) (.cons (.setAttr (.loc 0) .lb (.loc 1))
  (.cons (.ret (.bool false))
  .nil)) .nil)
  (.cons (.setAttr (.loc 0) .bra (.attr (.loc 0) .cursor))
  (.cons (.setAttr (.loc 0) .lb (.loc 1))
  (.cons (.ite (.cmp .eq (.loc 2) (.int 1)) (.cons (.assign 3 (.bin .sub (.attr (.loc 0) .limit) (.attr (.loc 0) .cursor)))
  (.cons (.tryP (.cons (.ite (.or (.cons (.cmp .le (.attr (.loc 0) .cursor) (.attr (.loc 0) .lb)) (.cons (.cmp .ne (.idx (.attr (.loc 0) .current) (.bin .sub (.attr (.loc 0) .cursor) (.int 1))) (.str [117])) .nil))) (.cons (.setAttr (.loc 0) .cursor (.bin .sub (.attr (.loc 0) .limit) (.loc 3)))
  (.cons .raise
  .nil)) .nil)
  (.cons (.augAttr (.loc 0) .cursor .sub (.int 1))
  (.cons (.assign 4 (.bin .sub (.attr (.loc 0) .limit) (.attr (.loc 0) .cursor)))
  (.cons (.ite (.or (.cons (.cmp .le (.attr (.loc 0) .cursor) (.attr (.loc 0) .lb)) (.cons (.cmp .ne (.idx (.attr (.loc 0) .current) (.bin .sub (.attr (.loc 0) .cursor) (.int 1))) (.str [103])) .nil))) (.cons (.setAttr (.loc 0) .cursor (.bin .sub (.attr (.loc 0) .limit) (.loc 3)))
  (.cons .raise
  .nil)) .nil)
  (.cons (.augAttr (.loc 0) .cursor .sub (.int 1))
  (.cons (.setAttr (.loc 0) .cursor (.bin .sub (.attr (.loc 0) .limit) (.loc 4)))
  .nil)))))))
  (.cons (.setAttr (.loc 0) .bra (.attr (.loc 0) .cursor))
  (.cons (.expr (.meth 7 (.loc 0) .nil))
  .nil)))) (.cons (.expr (.meth 7 (.loc 0) .nil))
  .nil))
  (.cons (.ret (.bool true))
  .nil))))))))))
def n13 : List Str := [S "self", S "v_2", S "among_var", S "v_3", S "v_4"]
def w13 : Stmt := stC 6 11
def fd13 : FD := ⟨1, 5, m13⟩
/-- 14: r_residual_suffix -/
def m14 : MSs := (.cons (.setAttr (.loc 0) .ket (.attr (.loc 0) .cursor))
  (.cons (.assign 1 (.meth 4 (.loc 0) (.cons (.cls 9) .nil)))
  (.cons (.ite (.cmp .eq (.loc 1) (.int 0)) (.cons (.ret (.bool false))
  .nil) .nil)
  (.cons (.setAttr (.loc 0) .bra (.attr (.loc 0) .cursor))
  (.cons (.ite (.cmp .eq (.loc 1) (.int 1)) (.cons (.ite (.not (.val (.meth 8 (.loc 0) .nil))) (.cons (.ret (.bool false))
  .nil) .nil)
  (.cons (.expr (.meth 7 (.loc 0) .nil))
  .nil)) (.cons (.ite (.not (.val (.meth 8 (.loc 0) .nil))) (.cons (.ret (.bool false))
  .nil) .nil)
  (.cons (.expr (.meth 7 (.loc 0) .nil))
  (.cons (.assign 2 (.bin .sub (.attr (.loc 0) .limit) (.attr (.loc 0) .cursor)))
  (.cons (.tryP (.cons (.setAttr (.loc 0) .ket (.attr (.loc 0) .cursor))
  (.cons (.ite (.or (.cons (.cmp .le (.attr (.loc 0) .cursor) (.attr (.loc 0) .lb)) (.cons (.cmp .ne (.idx (.attr (.loc 0) .current) (.bin .sub (.attr (.loc 0) .cursor) (.int 1))) (.str [117])) .nil))) (.cons (.setAttr (.loc 0) .cursor (.bin .sub (.attr (.loc 0) .limit) (.loc 2)))
  (.cons .raise
  .nil)) .nil)
  (.cons (.augAttr (.loc 0) .cursor .sub (.int 1))
  (.cons (.setAttr (.loc 0) .bra (.attr (.loc 0) .cursor))
  (.cons (.assign 3 (.bin .sub (.attr (.loc 0) .limit) (.attr (.loc 0) .cursor)))
  (.cons (.ite (.or (.cons (.cmp .le (.attr (.loc 0) .cursor) (.attr (.loc 0) .lb)) (.cons (.cmp .ne (.idx (.attr (.loc 0) .current) (.bin .sub (.attr (.loc 0) .cursor) (.int 1))) (.str [103])) .nil))) (.cons (.setAttr (.loc 0) .cursor (.bin .sub (.attr (.loc 0) .limit) (.loc 2)))
  (.cons .raise
  .nil)) .nil)
  (.cons (.augAttr (.loc 0) .cursor .sub (.int 1))
  (.cons (.setAttr (.loc 0) .cursor (.bin .sub (.attr (.loc 0) .limit) (.loc 3)))
  (.cons (.ite (.not (.val (.meth 8 (.loc 0) .nil))) (.cons (.setAttr (.loc 0) .cursor (.bin .sub (.attr (.loc 0) .limit) (.loc 2)))
  (.cons .raise
  .nil)) .nil)
  (.cons (.expr (.meth 7 (.loc 0) .nil))
  .nil)))))))))))
  .nil)))))
  (.cons (.ret (.bool true))
  .nil))))))
def n14 : List Str := [S "self", S "among_var", S "v_1", S "v_2"]
def w14 : Stmt := stC 6 12
def fd14 : FD := ⟨1, 4, m14⟩
/-- 15: _law_tape -/
def m15 : MSs := (.cons (.assignComp 1 (.slHi (.loc 0) (.int 40)))
  (.cons (.ret (.newTape (.cons (.int 0) (.cons (.loc 1) (.cons (.bin .add (.bin .mod (.bin .add (.bin .mul (.sum (.loc 1)) (.int 7)) (.len (.loc 1))) (.int 1000003)) (.int 1)) .nil)))))
  .nil))
def n15 : List Str := [S "script", S "numbers"]
def w15 : Stmt := stT 18
def fd15 : FD := ⟨1, 2, m15⟩
/-- 16: _law_next -/
def m16 : MSs := (.cons (.setItem (.loc 0) (.int 0) (.bin .add (.idx (.loc 0) (.int 0)) (.int 1)))
  (.cons (.ite (.cmp .le (.idx (.loc 0) (.int 0)) (.len (.idx (.loc 0) (.int 1)))) (.cons (.ret (.bin .mod (.idx (.idx (.loc 0) (.int 1)) (.bin .sub (.idx (.loc 0) (.int 0)) (.int 1))) (.loc 1)))
  .nil) .nil)
  (.cons (.setItem (.loc 0) (.int 2) (.bin .mod (.bin .mul (.idx (.loc 0) (.int 2)) (.int 48271)) (.int 2147483647)))
  (.cons (.ret (.bin .mod (.bin .fdiv (.idx (.loc 0) (.int 2)) (.int 31)) (.loc 1)))
  .nil))))
def n16 : List Str := [S "tape", S "many"]
def w16 : Stmt := stT 19
def fd16 : FD := ⟨2, 2, m16⟩
/-- 17: _law_place -/
def m17 : MSs := (.cons (.ret (.max2 (.int 0) (.bin .sub (.bin .add (.loc 1) (.call 16 (.cons (.loc 0) (.cons (.int 9) .nil)))) (.int 6))))
  .nil)
def n17 : List Str := [S "tape", S "near"]
def w17 : Stmt := stT 20
def fd17 : FD := ⟨2, 2, m17⟩
/-- 18: _law_verbals -/
def m18 : MSs := (.cons (.ret (.lst (.cons (.str [105, 233, 110, 100, 111]) (.cons (.str [225, 110, 100, 111]) (.cons (.str [225, 114]) (.cons (.str [233, 114]) (.cons (.str [237, 114]) (.cons (.str [97, 110, 100, 111]) (.cons (.str [105, 101, 110, 100, 111]) (.cons (.str [97, 114]) (.cons (.str [101, 114]) (.cons (.str [105, 114]) (.cons (.str [121, 101, 110, 100, 111]) .nil)))))))))))))
  .nil)
def n18 : List Str := []
def w18 : Stmt := stT 11
def fd18 : FD := ⟨0, 0, m18⟩
/-- 19: _law_residuals -/
def m19 : MSs := (.cons (.ret (.lst (.cons (.str [97]) (.cons (.str [111]) (.cons (.str [111, 115]) (.cons (.str [225]) (.cons (.str [237]) (.cons (.str [243]) (.cons (.str [101]) (.cons (.str [233]) .nil))))))))))
  .nil)
def n19 : List Str := []
def w19 : Stmt := stT 15
def fd19 : FD := ⟨0, 0, m19⟩
/-- 20: _law_pieces -/
def m20 : MSs := (.cons (.ret (.lst (.cons (.str [105, 99]) (.cons (.str [97, 116]) (.cons (.str [105, 118]) (.cons (.str [97, 116, 105, 118]) (.cons (.str [97, 100]) (.cons (.str [111, 115]) (.cons (.str [97, 98, 108, 101]) (.cons (.str [105, 98, 108, 101]) (.cons (.str [97, 110, 116, 101]) (.cons (.str [97, 98, 105, 108]) (.cons (.str [117]) (.cons (.str [103, 117]) (.cons (.str [103]) (.cons (.str [98]) (.cons (.str [110]) (.cons (.str [97]) (.cons (.str []) (.cons (.str []) (.cons (.str []) .nil)))))))))))))))))))))
  .nil)
def n20 : List Str := []
def w20 : Stmt := stT 16
def fd20 : FD := ⟨0, 0, m20⟩
/-- 21: _law_end -/
def m21 : MSs := (.cons (.ite (.cmp .eq (.loc 1) (.int 0)) (.cons (.assign 2 (.idx (.gl 0) (.call 16 (.cons (.loc 0) (.cons (.int 9) .nil)))))
  (.cons (.ret (.idx (.loc 2) (.call 16 (.cons (.loc 0) (.cons (.len (.loc 2)) .nil)))))
  .nil)) .nil)
  (.cons (.ite (.cmp .eq (.loc 1) (.int 1)) (.cons (.ret (.bin .add (.idx (.call 18 .nil) (.call 16 (.cons (.loc 0) (.cons (.int 11) .nil)))) (.idx (.gl 1) (.call 16 (.cons (.loc 0) (.cons (.int 13) .nil))))))
  .nil) .nil)
  (.cons (.ite (.cmp .eq (.loc 1) (.int 2)) (.cons (.ret (.idx (.gl 2) (.call 16 (.cons (.loc 0) (.cons (.int 12) .nil)))))
  .nil) .nil)
  (.cons (.ite (.cmp .eq (.loc 1) (.int 3)) (.cons (.ite (.cmp .eq (.call 16 (.cons (.loc 0) (.cons (.int 2) .nil))) (.int 0)) (.cons (.ret (.idx (.gl 3) (.call 16 (.cons (.loc 0) (.cons (.int 4) .nil)))))
  .nil) .nil)
  (.cons (.ret (.idx (.gl 4) (.call 16 (.cons (.loc 0) (.cons (.int 92) .nil)))))
  .nil)) .nil)
  (.cons (.ret (.idx (.call 19 .nil) (.call 16 (.cons (.loc 0) (.cons (.int 8) .nil)))))
  .nil)))))
def n21 : List Str := [S "tape", S "step", S "row"]
def w21 : Stmt := stT 21
def fd21 : FD := ⟨2, 3, m21⟩
/-- 22: _law_case -/
def m22 : MSs := (.cons (.assign 1 (.idx (.lst (.cons (.int 0) (.cons (.int 0) (.cons (.int 0) (.cons (.int 0) (.cons (.int 1) (.cons (.int 2) (.cons (.int 3) (.cons (.int 4) .nil))))))))) (.call 16 (.cons (.loc 0) (.cons (.int 8) .nil)))))
  (.cons (.assign 2 (.call 21 (.cons (.loc 0) (.cons (.loc 1) .nil))))
  (.cons (.ite (.cmp .eq (.call 16 (.cons (.loc 0) (.cons (.int 8) .nil))) (.int 0)) (.cons (.assign 2 (.idx (.gl 5) (.call 16 (.cons (.loc 0) (.cons (.int 17) .nil)))))
  .nil) .nil)
  (.cons (.assign 3 (.str []))
  (.cons (.for1 4 (.call 16 (.cons (.loc 0) (.cons (.int 4) .nil))) (.cons (.assign 3 (.bin .add (.loc 3) (.idx (.gl 5) (.call 16 (.cons (.loc 0) (.cons (.int 17) .nil))))))
  .nil))
  (.cons (.assign 5 (.idx (.call 20 .nil) (.call 16 (.cons (.loc 0) (.cons (.int 19) .nil)))))
  (.cons (.ite (.and (.cons (.cmp .gt (.loc 1) (.int 0)) (.cons (.cmp .eq (.call 16 (.cons (.loc 0) (.cons (.int 2) .nil))) (.int 0)) .nil))) (.cons (.assign 5 (.idx (.lst (.cons (.str [117]) (.cons (.str [103, 117]) .nil))) (.call 16 (.cons (.loc 0) (.cons (.int 2) .nil)))))
  .nil) .nil)
  (.cons (.assign 3 (.bin .add (.loc 3) (.loc 5)))
  (.cons (.assign 6 (.len (.loc 3)))
  (.cons (.assign 7 (.call 17 (.cons (.loc 0) (.cons (.loc 6) .nil))))
  (.cons (.assign 8 (.int 0))
  (.cons (.ite (.cmp .eq (.call 16 (.cons (.loc 0) (.cons (.int 3) .nil))) (.int 0)) (.cons (.assign 8 (.min3 (.call 17 (.cons (.loc 0) (.cons (.loc 6) .nil))) (.loc 7) (.len (.bin .add (.loc 3) (.loc 2)))))
  .nil) .nil)
  (.cons (.ret (.lst (.cons (.loc 1) (.cons (.bin .add (.loc 3) (.loc 2)) (.cons (.idx (.lst (.cons (.str []) (.cons (.str []) (.cons (.str []) (.cons (.str []) (.cons (.str []) (.cons (.str [115]) (.cons (.str [101]) (.cons (.str [109, 101]) .nil))))))))) (.call 16 (.cons (.loc 0) (.cons (.int 8) .nil)))) (.cons (.loc 8) (.cons (.call 17 (.cons (.loc 0) (.cons (.loc 6) .nil))) (.cons (.call 17 (.cons (.loc 0) (.cons (.loc 6) .nil))) (.cons (.loc 7) .nil)))))))))
  .nil)))))))))))))
def n22 : List Str := [S "tape", S "step", S "end", S "head", S "k", S "piece", S "near", S "pv", S "front"]
def w22 : Stmt := stT 22
def fd22 : FD := ⟨1, 9, m22⟩
/-- 23: _law_longest -/
def m23 : MSs := (.cons (.assign 3 (.slLo (.loc 0) (.loc 1)))
  (.cons (.assign 4 (.str []))
  (.cons (.assign 5 (.neg (.int 1)))
  (.cons (.for1 6 (.len (.loc 2)) (.cons (.forL 7 (.idx (.loc 2) (.loc 6)) (.cons (.ite (.and (.cons (.cmp .gt (.len (.loc 7)) (.len (.loc 4))) (.cons (.val (.ends (.loc 3) (.loc 7))) .nil))) (.cons (.assign 4 (.loc 7))
  (.cons (.assign 5 (.loc 6))
  .nil)) .nil)
  .nil))
  .nil))
  (.cons (.ret (.lst (.cons (.loc 4) (.cons (.loc 5) .nil))))
  .nil)))))
def n23 : List Str := [S "text", S "front", S "rows", S "part", S "best", S "place", S "k", S "end"]
def w23 : Stmt := stT 23
def fd23 : FD := ⟨3, 8, m23⟩
/-- 24: _law_ahead -/
def m24 : MSs := (.cons (.unpack [4, 5] (.call 23 (.cons (.loc 0) (.cons (.loc 1) (.cons (.loc 2) .nil)))))
  (.cons (.assign 6 (.bin .sub (.len (.loc 0)) (.len (.loc 4))))
  (.cons (.ite (.and (.cons (.cmp .ge (.loc 5) (.int 0)) (.cons (.cmp .le (.loc 3) (.loc 6)) .nil))) (.cons (.ret (.lst (.cons (.slHi (.loc 0) (.loc 6)) (.cons (.loc 5) .nil))))
  .nil) .nil)
  (.cons (.ret (.lst (.cons (.loc 0) (.cons (.neg (.int 1)) .nil))))
  .nil))))
def n24 : List Str := [S "head", S "front", S "rows", S "p2", S "end", S "place", S "at"]
def w24 : Stmt := stT 24
def fd24 : FD := ⟨4, 7, m24⟩
/-- 25: _law_standard -/
def m25 : MSs := (.cons (.unpack [4, 5] (.call 23 (.cons (.loc 0) (.cons (.loc 1) (.cons (.gl 0) .nil)))))
  (.cons (.assign 6 (.bin .sub (.len (.loc 0)) (.len (.loc 4))))
  (.cons (.assign 7 (.slHi (.loc 0) (.loc 6)))
  (.cons (.ite (.or (.cons (.cmp .lt (.loc 5) (.int 0)) (.cons (.and (.cons (.cmp .eq (.loc 5) (.int 5)) (.cons (.cmp .gt (.loc 2) (.loc 6)) .nil))) (.cons (.and (.cons (.cmp .ne (.loc 5) (.int 5)) (.cons (.cmp .gt (.loc 3) (.loc 6)) .nil))) .nil)))) (.cons (.ret (.lst (.cons (.bool false) (.cons (.loc 0) .nil))))
  .nil) .nil)
  (.cons (.ite (.cmp .eq (.loc 5) (.int 0)) (.cons (.ret (.lst (.cons (.bool true) (.cons (.loc 7) .nil))))
  .nil) .nil)
  (.cons (.ite (.cmp .eq (.loc 5) (.int 1)) (.cons (.ret (.lst (.cons (.bool true) (.cons (.idx (.call 24 (.cons (.loc 7) (.cons (.loc 1) (.cons (.lst (.cons (.lst (.cons (.str [105, 99]) .nil)) .nil)) (.cons (.loc 3) .nil))))) (.int 0)) .nil))))
  .nil) .nil)
  (.cons (.ite (.isin (.loc 5) [2, 3, 4]) (.cons (.ret (.lst (.cons (.bool true) (.cons (.bin .add (.loc 7) (.idx (.lst (.cons (.str [108, 111, 103]) (.cons (.str [117]) (.cons (.str [101, 110, 116, 101]) .nil)))) (.bin .sub (.loc 5) (.int 2)))) .nil))))
  .nil) .nil)
  (.cons (.ite (.cmp .eq (.loc 5) (.int 5)) (.cons (.unpack [8, 9] (.call 24 (.cons (.loc 7) (.cons (.loc 1) (.cons (.lst (.cons (.lst (.cons (.str [105, 118]) .nil)) (.cons (.lst (.cons (.str [105, 99]) (.cons (.str [97, 100]) (.cons (.str [111, 115]) .nil)))) .nil))) (.cons (.loc 3) .nil))))))
  (.cons (.ite (.cmp .eq (.loc 9) (.int 0)) (.cons (.assign 8 (.idx (.call 24 (.cons (.loc 8) (.cons (.loc 1) (.cons (.lst (.cons (.lst (.cons (.str [97, 116]) .nil)) .nil)) (.cons (.loc 3) .nil))))) (.int 0)))
  .nil) .nil)
  (.cons (.ret (.lst (.cons (.bool true) (.cons (.loc 8) .nil))))
  .nil))) .nil)
  (.cons (.ite (.cmp .eq (.loc 5) (.int 6)) (.cons (.ret (.lst (.cons (.bool true) (.cons (.idx (.call 24 (.cons (.loc 7) (.cons (.loc 1) (.cons (.lst (.cons (.lst (.cons (.str [97, 98, 108, 101]) (.cons (.str [105, 98, 108, 101]) (.cons (.str [97, 110, 116, 101]) .nil)))) .nil)) (.cons (.loc 3) .nil))))) (.int 0)) .nil))))
  .nil) .nil)
  (.cons (.ite (.cmp .eq (.loc 5) (.int 7)) (.cons (.ret (.lst (.cons (.bool true) (.cons (.idx (.call 24 (.cons (.loc 7) (.cons (.loc 1) (.cons (.lst (.cons (.lst (.cons (.str [105, 99]) (.cons (.str [97, 98, 105, 108]) (.cons (.str [105, 118]) .nil)))) .nil)) (.cons (.loc 3) .nil))))) (.int 0)) .nil))))
  .nil) .nil)
  (.cons (.ret (.lst (.cons (.bool true) (.cons (.idx (.call 24 (.cons (.loc 7) (.cons (.loc 1) (.cons (.lst (.cons (.lst (.cons (.str [97, 116]) .nil)) .nil)) (.cons (.loc 3) .nil))))) (.int 0)) .nil))))
  .nil)))))))))))
def n25 : List Str := [S "text", S "front", S "p1", S "p2", S "end", S "kind", S "at", S "head", S "rest", S "place"]
def w25 : Stmt := stT 25
def fd25 : FD := ⟨4, 10, m25⟩
/-- 26: _law_pronoun -/
def m26 : MSs := (.cons (.unpack [3, 4] (.call 23 (.cons (.loc 0) (.cons (.loc 1) (.cons (.lst (.cons (.gl 1) .nil)) .nil)))))
  (.cons (.assign 5 (.slHi (.loc 0) (.bin .sub (.len (.loc 0)) (.len (.loc 3)))))
  (.cons (.unpack [6, 7] (.call 23 (.cons (.loc 5) (.cons (.loc 1) (.cons (.bin .add (.comp2 (.slHi (.call 18 .nil) (.int 5))) (.lst (.cons (.slBoth (.call 18 .nil) (.int 5) (.int 10)) (.cons (.lst (.cons (.str [121, 101, 110, 100, 111]) .nil)) .nil)))) .nil)))))
  (.cons (.assign 8 (.bin .sub (.len (.loc 5)) (.len (.loc 6))))
  (.cons (.ite (.or (.cons (.cmp .lt (.loc 4) (.int 0)) (.cons (.cmp .lt (.loc 7) (.int 0)) (.cons (.cmp .gt (.loc 2) (.loc 8)) .nil)))) (.cons (.ret (.lst (.cons (.bool false) (.cons (.loc 0) .nil))))
  .nil) .nil)
  (.cons (.ite (.cmp .lt (.loc 7) (.int 5)) (.cons (.ret (.lst (.cons (.bool true) (.cons (.bin .add (.slHi (.loc 5) (.loc 8)) (.idx (.lst (.cons (.str [105, 101, 110, 100, 111]) (.cons (.str [97, 110, 100, 111]) (.cons (.str [97, 114]) (.cons (.str [101, 114]) (.cons (.str [105, 114]) .nil)))))) (.loc 7))) .nil))))
  .nil) .nil)
  (.cons (.ite (.or (.cons (.cmp .eq (.loc 7) (.int 5)) (.cons (.and (.cons (.cmp .gt (.loc 8) (.loc 1)) (.cons (.cmp .eq (.idx (.loc 5) (.bin .sub (.loc 8) (.int 1))) (.str [117])) .nil))) .nil))) (.cons (.ret (.lst (.cons (.bool true) (.cons (.loc 5) .nil))))
  .nil) .nil)
  (.cons (.ret (.lst (.cons (.bool false) (.cons (.loc 0) .nil))))
  .nil))))))))
def n26 : List Str := [S "text", S "front", S "pv", S "end", S "place", S "head", S "verbal", S "kind", S "at"]
def w26 : Stmt := stT 26
def fd26 : FD := ⟨3, 9, m26⟩
/-- 27: _law_y -/
def m27 : MSs := (.cons (.unpack [3, 4] (.call 23 (.cons (.loc 0) (.cons (.loc 2) (.cons (.lst (.cons (.gl 2) .nil)) .nil)))))
  (.cons (.assign 5 (.bin .sub (.len (.loc 0)) (.len (.loc 3))))
  (.cons (.ite (.or (.cons (.cmp .lt (.loc 4) (.int 0)) (.cons (.cmp .le (.loc 5) (.loc 1)) (.cons (.cmp .ne (.idx (.loc 0) (.bin .sub (.loc 5) (.int 1))) (.str [117])) .nil)))) (.cons (.ret (.lst (.cons (.bool false) (.cons (.loc 0) .nil))))
  .nil) .nil)
  (.cons (.ret (.lst (.cons (.bool true) (.cons (.slHi (.loc 0) (.loc 5)) .nil))))
  .nil))))
def n27 : List Str := [S "text", S "front", S "pv", S "end", S "place", S "at"]
def w27 : Stmt := stT 27
def fd27 : FD := ⟨3, 6, m27⟩
/-- 28: _law_verb -/
def m28 : MSs := (.cons (.unpack [3, 4] (.call 23 (.cons (.loc 0) (.cons (.loc 2) (.cons (.lst (.cons (.gl 3) (.cons (.gl 4) .nil))) .nil)))))
  (.cons (.assign 5 (.slHi (.loc 0) (.bin .sub (.len (.loc 0)) (.len (.loc 3)))))
  (.cons (.ite (.cmp .lt (.loc 4) (.int 0)) (.cons (.ret (.lst (.cons (.bool false) (.cons (.loc 0) .nil))))
  .nil) .nil)
  (.cons (.ite (.and (.cons (.cmp .eq (.loc 4) (.int 0)) (.cons (.val (.ends (.slLo (.loc 5) (.loc 1)) (.str [103, 117]))) .nil))) (.cons (.ret (.lst (.cons (.bool true) (.cons (.slHi (.loc 5) (.neg (.int 1))) .nil))))
  .nil) .nil)
  (.cons (.ret (.lst (.cons (.bool true) (.cons (.loc 5) .nil))))
  .nil)))))
def n28 : List Str := [S "text", S "front", S "pv", S "end", S "kind", S "head"]
def w28 : Stmt := stT 28
def fd28 : FD := ⟨3, 6, m28⟩
/-- 29: _law_residual -/
def m29 : MSs := (.cons (.unpack [3, 4] (.call 23 (.cons (.loc 0) (.cons (.loc 1) (.cons (.lst (.cons (.slHi (.call 19 .nil) (.int 6)) (.cons (.slLo (.call 19 .nil) (.int 6)) .nil))) .nil)))))
  (.cons (.assign 5 (.bin .sub (.len (.loc 0)) (.len (.loc 3))))
  (.cons (.assign 6 (.slHi (.loc 0) (.loc 5)))
  (.cons (.ite (.or (.cons (.cmp .lt (.loc 4) (.int 0)) (.cons (.cmp .gt (.loc 2) (.loc 5)) .nil))) (.cons (.ret (.lst (.cons (.bool false) (.cons (.loc 0) .nil))))
  .nil) .nil)
  (.cons (.ite (.and (.cons (.cmp .eq (.loc 4) (.int 1)) (.cons (.val (.ends (.slLo (.loc 6) (.loc 1)) (.str [103, 117]))) (.cons (.cmp .le (.loc 2) (.bin .sub (.loc 5) (.int 1))) .nil)))) (.cons (.ret (.lst (.cons (.bool true) (.cons (.slHi (.loc 6) (.neg (.int 1))) .nil))))
  .nil) .nil)
  (.cons (.ret (.lst (.cons (.bool true) (.cons (.loc 6) .nil))))
  .nil))))))
def n29 : List Str := [S "text", S "front", S "pv", S "end", S "kind", S "at", S "head"]
def w29 : Stmt := stT 29
def fd29 : FD := ⟨3, 7, m29⟩
/-- 30: _law_due -/
def m30 : MSs := (.cons (.unpack [1, 2, 3, 4, 5, 6, 7] (.loc 0))
  (.cons (.ite (.cmp .eq (.loc 1) (.int 0)) (.cons (.ret (.call 25 (.cons (.loc 2) (.cons (.loc 4) (.cons (.loc 5) (.cons (.loc 6) .nil))))))
  .nil) .nil)
  (.cons (.ite (.cmp .eq (.loc 1) (.int 1)) (.cons (.ret (.call 26 (.cons (.loc 2) (.cons (.loc 4) (.cons (.loc 7) .nil)))))
  .nil) .nil)
  (.cons (.ite (.cmp .eq (.loc 1) (.int 2)) (.cons (.ret (.call 27 (.cons (.loc 2) (.cons (.loc 4) (.cons (.loc 7) .nil)))))
  .nil) .nil)
  (.cons (.ite (.cmp .eq (.loc 1) (.int 3)) (.cons (.ret (.call 28 (.cons (.loc 2) (.cons (.loc 4) (.cons (.loc 7) .nil)))))
  .nil) .nil)
  (.cons (.ret (.call 29 (.cons (.loc 2) (.cons (.loc 4) (.cons (.loc 7) .nil)))))
  .nil))))))
def n30 : List Str := [S "case", S "step", S "text", S "tail", S "front", S "p1", S "p2", S "pv"]
def w30 : Stmt := stT 30
def fd30 : FD := ⟨1, 8, m30⟩
/-- 31: _law_told -/
def m31 : MSs := (.cons (.ite (.cmp .eq (.loc 1) (.int 0)) (.cons (.ret (.meth 11 (.loc 0) .nil))
  .nil) .nil)
  (.cons (.ite (.cmp .eq (.loc 1) (.int 1)) (.cons (.ret (.meth 10 (.loc 0) .nil))
  .nil) .nil)
  (.cons (.ite (.cmp .eq (.loc 1) (.int 2)) (.cons (.ret (.meth 12 (.loc 0) .nil))
  .nil) .nil)
  (.cons (.ite (.cmp .eq (.loc 1) (.int 3)) (.cons (.ret (.meth 13 (.loc 0) .nil))
  .nil) .nil)
  (.cons (.ret (.meth 14 (.loc 0) .nil))
  .nil)))))
def n31 : List Str := [S "stemmer", S "step"]
def w31 : Stmt := stT 31
def fd31 : FD := ⟨2, 2, m31⟩
/-- 32: _law_set -/
def m32 : MSs := (.cons (.expr (.meth 1 (.loc 0) (.cons (.bin .add (.idx (.loc 1) (.int 1)) (.idx (.loc 1) (.int 2))) .nil)))
  (.cons (.setAttr (.loc 0) .cursor (.len (.idx (.loc 1) (.int 1))))
  (.cons (.setAttr (.loc 0) .lb (.idx (.loc 1) (.int 3)))
  (.cons (.setAttr (.loc 0) .p1 (.idx (.loc 1) (.int 4)))
  (.cons (.setAttr (.loc 0) .p2 (.idx (.loc 1) (.int 5)))
  (.cons (.setAttr (.loc 0) .pV (.idx (.loc 1) (.int 6)))
  .nil))))))
def n32 : List Str := [S "stemmer", S "case"]
def w32 : Stmt := stT 32
def fd32 : FD := ⟨2, 2, m32⟩
/-- 33: _law_wrong -/
def m33 : MSs := (.cons (.unpack [2, 3] (.call 30 (.cons (.loc 1) .nil)))
  (.cons (.assign 4 (.call 31 (.cons (.loc 0) (.cons (.idx (.loc 1) (.int 0)) .nil))))
  (.cons (.assign 5 (.bin .add (.loc 3) (.idx (.loc 1) (.int 2))))
  (.cons (.ite (.or (.cons (.cmp .ne (.loc 4) (.loc 2)) (.cons (.cmp .ne (.meth 2 (.loc 0) .nil) (.loc 5)) (.cons (.cmp .ne (.attr (.loc 0) .limit) (.len (.loc 5))) .nil)))) (.cons (.ret (.int 1))
  .nil) .nil)
  (.cons (.ite (.or (.cons (.cmp .ne (.attr (.loc 0) .lb) (.idx (.loc 1) (.int 3))) (.cons (.cmp .ne (.attr (.loc 0) .p1) (.idx (.loc 1) (.int 4))) (.cons (.cmp .ne (.attr (.loc 0) .p2) (.idx (.loc 1) (.int 5))) (.cons (.cmp .ne (.attr (.loc 0) .pV) (.idx (.loc 1) (.int 6))) .nil))))) (.cons (.ret (.int 1))
  .nil) .nil)
  (.cons (.ret (.int 0))
  .nil))))))
def n33 : List Str := [S "stemmer", S "case", S "answer", S "text", S "told", S "due"]
def w33 : Stmt := stT 33
def fd33 : FD := ⟨2, 6, m33⟩
/-- 34: law -/
def m34 : MSs := (.cons (.assign 1 (.call 15 (.cons (.loc 0) .nil)))
  (.cons (.assign 2 (.newStem false))
  (.cons (.assign 3 (.newStem true))
  (.cons (.assign 4 (.int 0))
  (.cons (.for1 5 (.int 4) (.cons (.assign 6 (.call 22 (.cons (.loc 1) .nil)))
  (.cons (.assign 7 (.call 22 (.cons (.loc 1) .nil)))
  (.cons (.expr (.call 32 (.cons (.loc 2) (.cons (.loc 6) .nil))))
  (.cons (.expr (.call 32 (.cons (.loc 3) (.cons (.loc 7) .nil))))
  (.cons (.assign 4 (.bin .add (.bin .add (.loc 4) (.call 33 (.cons (.loc 3) (.cons (.loc 7) .nil)))) (.call 33 (.cons (.loc 2) (.cons (.loc 6) .nil)))))
  .nil))))))
  (.cons (.ret (.cmp .eq (.loc 4) (.int 0)))
  .nil))))))
def n34 : List Str := [S "script", S "tape", S "one", S "two", S "wrong", S "k", S "first", S "second"]
def w34 : Stmt := stT 34
def fd34 : FD := ⟨1, 8, m34⟩
def ftab : List FD := [fd0, fd1, fd2, fd3, fd4, fd5, fd6, fd7, fd8, fd9, fd10, fd11, fd12, fd13, fd14, fd15, fd16, fd17, fd18, fd19, fd20, fd21, fd22, fd23, fd24, fd25, fd26, fd27, fd28, fd29, fd30, fd31, fd32, fd33, fd34]
def fname : Nat → Str
  | 0 => S "__init__"
  | 1 => S "set_current"
  | 2 => S "get_current"
  | 3 => S "eq_s_b"
  | 4 => S "find_among_b"
  | 5 => S "replace_s"
  | 6 => S "slice_from"
  | 7 => S "slice_del"
  | 8 => S "r_RV"
  | 9 => S "r_R2"
  | 10 => S "r_attached_pronoun"
  | 11 => S "r_standard_suffix"
  | 12 => S "r_y_verb_suffix"
  | 13 => S "r_verb_suffix"
  | 14 => S "r_residual_suffix"
  | 15 => S "_law_tape"
  | 16 => S "_law_next"
  | 17 => S "_law_place"
  | 18 => S "_law_verbals"
  | 19 => S "_law_residuals"
  | 20 => S "_law_pieces"
  | 21 => S "_law_end"
  | 22 => S "_law_case"
  | 23 => S "_law_longest"
  | 24 => S "_law_ahead"
  | 25 => S "_law_standard"
  | 26 => S "_law_pronoun"
  | 27 => S "_law_y"
  | 28 => S "_law_verb"
  | 29 => S "_law_residual"
  | 30 => S "_law_due"
  | 31 => S "_law_told"
  | 32 => S "_law_set"
  | 33 => S "_law_wrong"
  | 34 => S "law"
  | _ => S ""
def glname : Nat → Str
  | 0 => S "_law_kinds"
  | 1 => S "_law_pronouns"
  | 2 => S "_law_ys"
  | 3 => S "_law_gus"
  | 4 => S "_law_verbs"
  | 5 => S "_law_letters"
  | _ => S ""
end Mine

-- MCheck
namespace Mine
set_option maxRecDepth 100000
set_option linter.unusedVariables false

def bopIs : Bop → Operator → Bool
  | .add, .Add => true | .sub, .Sub => true | .mul, .Mult => true | .mod, .Mod => true | .fdiv, .FloorDiv => true | .shr, .RShift => true
  | _, _ => false
def copIs : Cop → CmpOp → Bool
  | .eq, .Eq => true | .ne, .NotEq => true | .lt, .Lt => true | .le, .LtE => true | .gt, .Gt => true | .ge, .GtE => true
  | _, _ => false
def clsname (k : Nat) : Str := S ("a_" ++ toString k)
/-- a global name of the scope -/
def isG (sc : Scope) (x y : Str) : Bool := x == y && sc.names.lookup x == some .globalImplicit && x != S "__debug__"
def compOk (cs : Scope) (x : Str) : Bool := cs.kind == .function && cs.names.all (fun y => y.2 != .free && y.2 != .cell && (y.2 != .local || cs.names.lookup y.1 == some .local)) && cs.names.lookup x == some .local
def notComp : Expr → Bool
  | .ListComp .. => false
  | _ => true
def notCall : Expr → Bool
  | .Call .. => false
  | _ => true
def argIs (x : Str) (a : Arg) : Bool := a.arg == x
section
variable (ns : List Str) (sc : Scope)
mutual
def okE : ME → Expr → Bool
  | .loc i, .Name x _ => ns[i]? == some x && sc.names.lookup x == some .local && x != S "__debug__"
  | .int i, .Constant (.int j) _ _ => i == j
  | .str l, .Constant (.str x) _ _ => x.cps.toList == l
  | .bool b, .Constant (.bool c) _ _ => b == c
  | .gl g, .Name x _ => Nat.blt g 6 && isG sc x (glname g)
  | .cls k, .Attribute (.Name c _) a _ => Nat.ble 1 k && Nat.ble k 9 && isG sc c (S "SpanishStemmer") && a == clsname k
  | .attr e a, .Attribute v x _ => x == a.name && notCall v && okE e v
  | .bin op a b, .BinOp l o r _ => bopIs op o && okE a l && okE b r
  | .neg a, .UnaryOp .USub x _ => okE a x
  | .cmp op a b, .Compare l [o] [r] _ => copIs op o && okE a l && okE b r
  | .idx a i, .Subscript v s _ => okE a v && okE i s
  | .slLo a lo, .Subscript v (.Slice (some l) none none _) _ => okE a v && okE lo l
  | .slHi a hi, .Subscript v (.Slice none (some h) none _) _ => okE a v && okE hi h
  | .slBoth a lo hi, .Subscript v (.Slice (some l) (some h) none _) _ => okE a v && okE lo l && okE hi h
  | .len a, .Call (.Name f _) [x] [] _ => isG sc f (S "len") && okE a x
  | .ord a, .Call (.Name f _) [x] [] _ => isG sc f (S "ord") && okE a x
  | .sum a, .Call (.Name f _) [x] [] _ => isG sc f (S "sum") && okE a x
  | .min2 a b, .Call (.Name f _) [x, y] [] _ => isG sc f (S "min") && okE a x && okE b y
  | .min3 a b c, .Call (.Name f _) [x, y, z] [] _ => isG sc f (S "min") && okE a x && okE b y && okE c z
  | .max2 a b, .Call (.Name f _) [x, y] [] _ => isG sc f (S "max") && okE a x && okE b y
  | .ends a b, .Call (.Attribute v n apos) [x] [] pos => n == S "endswith" && notCall v && (apos.endLine == pos.line) && okE a v && okE b x
  | .lst es, .List xs _ => okEs es xs
  | .call f es, .Call (.Name x _) xs [] _ => Nat.ble 15 f && Nat.blt f 35 && isG sc x (fname f) && okEs es xs
  | .meth f o es, .Call (.Attribute v n apos) xs [] pos => Nat.blt f 15 && n == fname f && notCall v && (apos.endLine == pos.line) && decide (xs.length < 30) && okE o v && okEs es xs
  | .newStem _, .Call (.Name c _) [] [] _ => isG sc c (S "SpanishStemmer")
  | .newTape es, .List xs _ => okEs es xs
  | .comp2 a, .ListComp (.List [.Name x _] _) [⟨.Name y _, it, [], 0⟩] cs _ => x == S "word" && y == S "word" && compOk cs (S "word") && okE a it
  | _, _ => false
def okEs : MEs → List Expr → Bool
  | .nil, [] => true
  | .cons e r, x :: xs => okE e x && okEs r xs
  | _, _ => false
end
def intIs (i : Int) : Expr → Bool
  | .Constant (.int j) _ _ => i == j
  | _ => false
def intsAre : List Int → List Expr → Bool
  | [], [] => true
  | i :: r, x :: xs => intIs i x && intsAre r xs
  | _, _ => false
/-- an expression that is read as a value where a test stands -/
def plainTest : Expr → Bool
  | .UnaryOp .Not _ _ => false
  | .BoolOp .. => false
  | .IfExp .. => false
  | .Compare .. => false
  | _ => true
mutual
def okT : MT → Expr → Bool
  | .val e, x => plainTest x && okE ns sc e x
  | .cmp op a b, .Compare l [o] [r] _ => copIs op o && okE ns sc a l && okE ns sc b r
  | .isin a is, .Compare l [.In] [.List es _] _ => okE ns sc a l && intsAre is es && Nat.ble is.length 100
  | .not t, .UnaryOp .Not x _ => okT t x
  | .and ts, .BoolOp .And xs _ => okTs ts xs
  | .or ts, .BoolOp .Or xs _ => okTs ts xs
  | _, _ => false
def okTs : MTs → List Expr → Bool
  | .nil, [] => true
  | .cons t r, x :: xs => okT t x && okTs r xs
  | _, _ => false
end
def slotIs (i : Nat) (x : Str) : Bool := ns[i]? == some x && sc.names.lookup x == some .local
def slotsAre : List Nat → List Expr → Bool
  | [], [] => true
  | i :: r, .Name x _ :: xs => slotIs ns sc i x && slotsAre r xs
  | _, _ => false
mutual
def okS : MS → Stmt → Bool
  | .assign i e, .Assign [.Name x _] v _ => notComp v && slotIs ns sc i x && okE ns sc e v
  | .assignComp i e, .Assign [.Name z zp] (.ListComp (.BinOp (.Name x _) .Mod (.Constant (.int 1000003) _ _) _) [⟨.Name y _, it, [], 0⟩] cs lp) _ => slotIs ns sc i z && x == S "number" && y == S "number" && compOk cs (S "number") && (zp.line == lp.line) &&
      !(cs.names.any fun (n, k) => n == z && (k == .local || k == .cell)) && okE ns sc e it
  | .augLoc i op e, .AugAssign (.Name x _) o v _ => slotIs ns sc i x && bopIs op o && okE ns sc e v
  | .setAttr o a e, .Assign [.Attribute t x _] v _ => x == a.name && okE ns sc o t && okE ns sc e v
  | .augAttr o a op e, .AugAssign (.Attribute t x _) p v _ => x == a.name && bopIs op p && okE ns sc o t && okE ns sc e v
  | .setItem o i e, .Assign [.Subscript t j _] v _ => okE ns sc o t && okE ns sc i j && okE ns sc e v
  | .unpack is e, .Assign [.Tuple ts _ _] v _ => slotsAre ns sc is ts && okE ns sc e v
  | .expr e, .Expr v _ => notComp v && okE ns sc e v
  | .ite t a b, .If c x y _ => okT ns sc t c && okSs a x && okSs b y
  | .loop b, .While (.Constant (.bool true) _ _) x [] _ => okSs b x
  | .for1 i n b, .For (.Name x _) (.Call (.Name f _) [c] [] _) body [] _ => slotIs ns sc i x && isG sc f (S "range") && okE ns sc n c && okSs b body
  | .for3 i a c d b, .For (.Name x _) (.Call (.Name f _) [p, q, r] [] _) body [] _ => slotIs ns sc i x && isG sc f (S "range") && okE ns sc a p && okE ns sc c q && okE ns sc d r && okSs b body
  | .forL i e b, .For (.Name x _) it body [] _ => slotIs ns sc i x && okE ns sc e it && okSs b body
  | .ret e, .Return (some v) _ => okE ns sc e v
  | .brk, .Break _ => true
  | .pass, .Pass _ => true
  | .raise, .Raise (some (.Call (.Name c _) [] [] _)) none _ => isG sc c (S "lab0")
  | .tryP b, .Try body [.ExceptHandler (some (.Name c _)) none [.Pass _] _] [] [] _ => isG sc c (S "lab0") && okSs b body
  | .assert t, .Assert c none _ => okT ns sc t c
  | _, _ => false
def okSs : MSs → List Stmt → Bool
  | .nil, [] => true
  | .cons s r, x :: xs => okS s x && okSs r xs
  | _, _ => false
end
end
def argsAre : List Str → List Arg → Bool
  | _, [] => true
  | n :: ns, a :: as => a.arg == n && argsAre ns as
  | [], _ => false
def okF (k : Nat) (ns : List Str) (st : Stmt) (fd : FD) : Bool := match st with
  | .FunctionDef n a body _ _ _ sc _ _ _ => n == fname k && a.posonlyargs.isEmpty && a.vararg.isNone && a.kwonlyargs.isEmpty && a.kwarg.isNone && a.defaults.isEmpty && a.kw_defaults.isEmpty &&
      a.args.length == fd.np && argsAre ns a.args && ns.length == fd.nl && decide ns.Nodup && ns.all (fun x => sc.names.lookup x == some .local) && sc.kind == .function && !sc.isGenerator && !sc.isCoroutine &&
      sc.names.all (fun x => x.2 != .cell) && okSs ns sc fd.body body
  | _ => false
theorem ok0 : okF 0 n0 w0 fd0 = true := by kernel_rfl
theorem ok1 : okF 1 n1 w1 fd1 = true := by kernel_rfl
theorem ok2 : okF 2 n2 w2 fd2 = true := by kernel_rfl
theorem ok3 : okF 3 n3 w3 fd3 = true := by kernel_rfl
theorem ok4 : okF 4 n4 w4 fd4 = true := by kernel_rfl
theorem ok5 : okF 5 n5 w5 fd5 = true := by kernel_rfl
theorem ok6 : okF 6 n6 w6 fd6 = true := by kernel_rfl
theorem ok7 : okF 7 n7 w7 fd7 = true := by kernel_rfl
theorem ok8 : okF 8 n8 w8 fd8 = true := by kernel_rfl
theorem ok9 : okF 9 n9 w9 fd9 = true := by kernel_rfl
theorem ok10 : okF 10 n10 w10 fd10 = true := by kernel_rfl
theorem ok11 : okF 11 n11 w11 fd11 = true := by kernel_rfl
theorem ok12 : okF 12 n12 w12 fd12 = true := by kernel_rfl
theorem ok13 : okF 13 n13 w13 fd13 = true := by kernel_rfl
theorem ok14 : okF 14 n14 w14 fd14 = true := by kernel_rfl
theorem ok15 : okF 15 n15 w15 fd15 = true := by kernel_rfl
theorem ok16 : okF 16 n16 w16 fd16 = true := by kernel_rfl
theorem ok17 : okF 17 n17 w17 fd17 = true := by kernel_rfl
theorem ok18 : okF 18 n18 w18 fd18 = true := by kernel_rfl
theorem ok19 : okF 19 n19 w19 fd19 = true := by kernel_rfl
theorem ok20 : okF 20 n20 w20 fd20 = true := by kernel_rfl
theorem ok21 : okF 21 n21 w21 fd21 = true := by kernel_rfl
theorem ok22 : okF 22 n22 w22 fd22 = true := by kernel_rfl
theorem ok23 : okF 23 n23 w23 fd23 = true := by kernel_rfl
theorem ok24 : okF 24 n24 w24 fd24 = true := by kernel_rfl
theorem ok25 : okF 25 n25 w25 fd25 = true := by kernel_rfl
theorem ok26 : okF 26 n26 w26 fd26 = true := by kernel_rfl
theorem ok27 : okF 27 n27 w27 fd27 = true := by kernel_rfl
theorem ok28 : okF 28 n28 w28 fd28 = true := by kernel_rfl
theorem ok29 : okF 29 n29 w29 fd29 = true := by kernel_rfl
theorem ok30 : okF 30 n30 w30 fd30 = true := by kernel_rfl
theorem ok31 : okF 31 n31 w31 fd31 = true := by kernel_rfl
theorem ok32 : okF 32 n32 w32 fd32 = true := by kernel_rfl
theorem ok33 : okF 33 n33 w33 fd33 = true := by kernel_rfl
theorem ok34 : okF 34 n34 w34 fd34 = true := by kernel_rfl
end Mine

-- MRel
namespace Mine
set_option maxRecDepth 100000
set_option maxHeartbeats 0
set_option linter.unusedVariables false

theorem At.name_inj : ∀ a b : At, a.name = b.name → a = b := by
  intro a b h
  cases a <;> cases b <;> first | rfl | (exfalso; revert h; decide)

structure Lay where
  tA : Option Addr
  sA : Bool → Option (Addr × Addr)
def Lay.mut (ρ : Lay) (a : Addr) : Prop := ρ.tA = some a ∨ ∃ b i, ρ.sA b = some (i, a)
structure Lay.le (ρ ρ' : Lay) : Prop where
  t : ∀ a, ρ.tA = some a → ρ'.tA = some a
  s : ∀ b p, ρ.sA b = some p → ρ'.sA b = some p
theorem Lay.le.refl {ρ : Lay} : ρ.le ρ := ⟨fun _ h => h, fun _ _ h => h⟩
theorem Lay.le.trans {ρ ρ' ρ'' : Lay} (a : ρ.le ρ') (b : ρ'.le ρ'') : ρ.le ρ'' := ⟨fun _ h => b.t _ (a.t _ h), fun _ _ h => b.s _ _ (a.s _ _ h)⟩

/-- an Among of the top -/
def AmAt (h : Heap) (a : Addr) (s : List Nat) (i r : Int) : Prop :=
  ∃ es n dx sl t1 t2 t3, h.get? a = some ⟨.ref 220, some dx, .plain, sl⟩ ∧ h.get? dx = some (dictOf es n) ∧ getL (S "s") es = some (some (.str ⟨s.toArray⟩ t1)) ∧
    getL (S "substring_i") es = some (some (.int i t2)) ∧ getL (S "result") es = some (some (.int r t3))

mutual
inductive VR (hB : Heap) (ρ : Lay) (h : Heap) : V → Value → Prop
  | none : VR hB ρ h .none .none
  | bool (b : Bool) : VR hB ρ h (.bool b) (.bool b)
  | int (i : Int) (t : Tok) : VR hB ρ h (.int i) (.int i t)
  | str (l : List Nat) (t : Tok) : VR hB ρ h (.str l) (.str ⟨l.toArray⟩ t)
  | list {vs : List V} {xs : List Value} {a : Addr} : h.IsList a xs.toArray → ¬ ρ.mut a → VRs hB ρ h vs xs → VR hB ρ h (.list vs) (.ref a)
  | among {s : List Nat} {i r : Int} {a : Addr} : AmAt hB a s i r → VR hB ρ h (.among s i r) (.ref a)
  | stem {b : Bool} {a dx : Addr} : ρ.sA b = some (a, dx) → VR hB ρ h (.stem b) (.ref a)
  | tape {a : Addr} : ρ.tA = some a → VR hB ρ h .tape (.ref a)
inductive VRs (hB : Heap) (ρ : Lay) (h : Heap) : List V → List Value → Prop
  | nil : VRs hB ρ h [] []
  | cons {v : V} {c : Value} {vs : List V} {cs : List Value} : VR hB ρ h v c → VRs hB ρ h vs cs → VRs hB ρ h (v :: vs) (c :: cs)
end

inductive FR (hB : Heap) (ρ : Lay) (h : Heap) : Fields → List DictEntry → Prop
  | nil : FR hB ρ h [] []
  | cons {a : At} {v : V} {hs : Int} {t : Tok} {c : Value} {f : Fields} {es : List DictEntry} : VR hB ρ h v c → FR hB ρ h f es → FR hB ρ h ((a, v) :: f) (⟨hs, .str a.name t, c⟩ :: es)

/-- an object stands as it stood, up to its slots if it has no fields -/
def Stands (h' : Heap) (b : Addr) (o : Obj) : Prop := ∃ sl, h'.get? b = some { o with slots := sl } ∧ ∀ vs, o.data = .fields vs → sl = o.slots
theorem Stands.of {h' : Heap} {b : Addr} {o : Obj} (e : h'.get? b = some o) : Stands h' b o := ⟨o.slots, e, fun _ _ => rfl⟩
theorem Stands.slotted {h' : Heap} {b : Addr} {o : Obj} (x : Stands h' b o) : ∃ sl, h'.get? b = some { o with slots := sl } := let ⟨sl, e, _⟩ := x; ⟨sl, e⟩
theorem Stands.exact {h' : Heap} {b : Addr} {o : Obj} (x : Stands h' b o) {vs : Array Value} (hd : o.data = .fields vs) : h'.get? b = some o := by
  obtain ⟨sl, e, r⟩ := x
  rw [r vs hd] at e; exact e
structure Ext (L : Addr) (ρ : Lay) (h : Heap) (ρ' : Lay) (h' : Heap) : Prop where
  keep : ∀ b o, b ≠ L → ¬ ρ.mut b → h.get? b = some o → Stands h' b o ∧ ¬ ρ'.mut b
  le : ρ.le ρ'
theorem Ext.refl {L : Addr} {ρ : Lay} {h : Heap} : Ext L ρ h ρ h := ⟨fun b o _ hm e => ⟨.of e, hm⟩, .refl⟩
theorem Ext.trans {L : Addr} {ρ ρ1 ρ2 : Lay} {h h1 h2 : Heap} (x : Ext L ρ h ρ1 h1) (y : Ext L ρ1 h1 ρ2 h2) : Ext L ρ h ρ2 h2 :=
  ⟨fun b o bl hm e => by
    obtain ⟨⟨sl, e1, r1⟩, m1⟩ := x.keep b o bl hm e
    obtain ⟨⟨sl2, e2, r2⟩, m2⟩ := y.keep b _ bl m1 e1
    exact ⟨⟨sl2, e2, fun vs hd => (r2 vs hd).trans (r1 vs hd)⟩, m2⟩, x.le.trans y.le⟩
theorem Ext.of_keep {L : Addr} {ρ : Lay} {h h' : Heap} (k : ∀ b o, h.get? b = some o → h'.get? b = some o) : Ext L ρ h ρ h' := ⟨fun b o _ hm e => ⟨.of (k b o e), hm⟩, .refl⟩
theorem Ext.of_keepL {L : Addr} {ρ : Lay} {h h' : Heap} (k : ∀ b o, b ≠ L → h.get? b = some o → h'.get? b = some o) : Ext L ρ h ρ h' := ⟨fun b o bl hm e => ⟨.of (k b o bl e), hm⟩, .refl⟩

theorem isList_slots {h h' : Heap} {a : Addr} {xs : Array Value} (hl : h.IsList a xs) (k : ∀ o, h.get? a = some o → ∃ sl, h'.get? a = some { o with slots := sl }) : h'.IsList a xs := by
  obtain ⟨o, e, hc, n, hd⟩ := hl
  obtain ⟨sl, e'⟩ := k o e
  exact ⟨_, e', hc, n, hd⟩
theorem ns_slots {h h' : Heap} {a : Addr} {m : Str → Option Value} (hl : h.Ns a m) (k : ∀ o, h.get? a = some o → ∃ sl, h'.get? a = some { o with slots := sl }) : h'.Ns a m := by
  obtain ⟨o, es, ep, e, hd, r⟩ := hl
  obtain ⟨sl, e'⟩ := k o e
  exact ⟨_, es, ep, e', hd, r⟩
theorem list_ne_ns {h : Heap} {a L : Addr} {xs : Array Value} {m : Str → Option Value} (hl : h.IsList a xs) (hn : h.Ns L m) : a ≠ L := by
  rintro rfl
  obtain ⟨o, e, hc, n, hd⟩ := hl
  obtain ⟨o', es, ep, e', hd', r⟩ := hn
  rw [e] at e'
  cases e'
  rw [hd] at hd'
  cases hd'

section
variable {hB : Heap} {L : Addr} {ρ ρ' : Lay} {h h' : Heap}
def Apart (L : Addr) (h : Heap) : Prop := ∃ m, h.Ns L m
mutual
theorem VR.mono (A : Apart L h) (x : Ext L ρ h ρ' h') : ∀ {v : V} {c : Value}, VR hB ρ h v c → VR hB ρ' h' v c
  | _, _, .none => .none
  | _, _, .bool b => .bool b
  | _, _, .int i t => .int i t
  | _, _, .str l t => .str l t
  | _, _, .list (a := a) hl hm hv => by
    obtain ⟨m, hn⟩ := A
    have hne := list_ne_ns hl hn
    have hl' := isList_slots (h' := h') hl fun o e => (x.keep a o hne hm e).1.slotted
    obtain ⟨o, e, _⟩ := hl
    exact .list hl' (x.keep a o hne hm e).2 (VRs.mono ⟨m, hn⟩ x hv)
  | _, _, .among h => .among h
  | _, _, .stem h => .stem (x.le.s _ _ h)
  | _, _, .tape h => .tape (x.le.t _ h)
theorem VRs.mono (A : Apart L h) (x : Ext L ρ h ρ' h') : ∀ {v : List V} {c : List Value}, VRs hB ρ h v c → VRs hB ρ' h' v c
  | _, _, .nil => .nil
  | _, _, .cons a b => .cons (VR.mono A x a) (VRs.mono A x b)
end
theorem FR.mono (A : Apart L h) (x : Ext L ρ h ρ' h') : ∀ {f : Fields} {es : List DictEntry}, FR hB ρ h f es → FR hB ρ' h' f es
  | _, _, .nil => .nil
  | _, _, .cons a b => .cons (a.mono A x) (FR.mono A x b)
theorem VRs.length {vs : List V} {cs : List Value} (r : VRs hB ρ h vs cs) : vs.length = cs.length := by
  induction vs generalizing cs with
  | nil => cases r; rfl
  | cons v vs ih => cases r with | cons a b => rw [List.length_cons, List.length_cons, ih b]
theorem VRs.get {vs : List V} {cs : List Value} (r : VRs hB ρ h vs cs) {i : Nat} {v : V} (e : vs[i]? = some v) : ∃ c, cs[i]? = some c ∧ VR hB ρ h v c := by
  induction vs generalizing cs i with
  | nil => cases e
  | cons v' vs ih =>
    cases r with
    | cons a b =>
      cases i with
      | zero => cases e; exact ⟨_, rfl, a⟩
      | succ i => exact ih b e
theorem VRs.app {vs vs' : List V} {cs cs' : List Value} (r : VRs hB ρ h vs cs) (r' : VRs hB ρ h vs' cs') : VRs hB ρ h (vs ++ vs') (cs ++ cs') := by
  induction vs generalizing cs with
  | nil => cases r; exact r'
  | cons v' vs ih => cases r with | cons a b => exact .cons a (ih b)
theorem VRs.take {vs : List V} {cs : List Value} (r : VRs hB ρ h vs cs) (n : Nat) : VRs hB ρ h (vs.take n) (cs.take n) := by
  induction vs generalizing cs n with
  | nil => cases r; simpa using VRs.nil
  | cons v' vs ih =>
    cases r with
    | cons a b =>
      cases n with
      | zero => exact .nil
      | succ n => exact .cons a (ih b n)
theorem VRs.drop {vs : List V} {cs : List Value} (r : VRs hB ρ h vs cs) (n : Nat) : VRs hB ρ h (vs.drop n) (cs.drop n) := by
  induction vs generalizing cs n with
  | nil => cases r; simpa using VRs.nil
  | cons v' vs ih =>
    cases r with
    | cons a b =>
      cases n with
      | zero => exact .cons a b
      | succ n => exact ih b n
theorem VRs.set {vs : List V} {cs : List Value} (r : VRs hB ρ h vs cs) {v : V} {c : Value} (hv : VR hB ρ h v c) (n : Nat) : VRs hB ρ h (vs.set n v) (cs.set n c) := by
  induction vs generalizing cs n with
  | nil => cases r; exact .nil
  | cons v' vs ih =>
    cases r with
    | cons a b =>
      cases n with
      | zero => exact .cons hv b
      | succ n => exact .cons a (ih b n)
theorem VRs.ints {ns : List Int} {cs : List Value} (r : VRs hB ρ h (ns.map .int) cs) : IntsAre cs ns := by
  induction ns generalizing cs with
  | nil => cases r; exact .nil
  | cons n ns ih => cases r with | cons a b => cases a; exact .cons _ _ (ih b)

theorem FR.get {f : Fields} {es : List DictEntry} (r : FR hB ρ h f es) (a : At) : (∃ v c, getF a f = some v ∧ getL a.name es = some (some c) ∧ VR hB ρ h v c) ∨ (getF a f = none ∧ getL a.name es = some none) := by
  have key : ∀ {f es}, FR hB ρ h f es → (∃ v e, getF a f = some v ∧ es.find? (·.key.isStr a.name) = some e ∧ VR hB ρ h v e.val) ∨ (getF a f = none ∧ es.find? (·.key.isStr a.name) = none ∧ es.any (·.refKey) = false) := by
    intro f es r
    induction r with
    | nil => exact .inr ⟨rfl, rfl, rfl⟩
    | @cons b v hs t c f es hv hr ih =>
      by_cases hb : b = a
      · subst hb
        refine .inl ⟨v, ⟨hs, .str b.name t, c⟩, by simp [getF], ?_, hv⟩
        rw [List.find?_cons, show (DictEntry.mk hs (.str b.name t) c).key.isStr b.name = true from by simp [Value.isStr]]
      · have hf : (DictEntry.mk hs (.str b.name t) c).key.isStr a.name = false := by
          show (b.name == a.name) = false
          rw [beq_eq_false_iff_ne]
          exact fun h => hb (At.name_inj _ _ h)
        rcases ih with ⟨v', e, h1, h2, h3⟩ | ⟨h1, h2, h3⟩
        · refine .inl ⟨v', e, by simp [getF, hb, h1], ?_, h3⟩
          rw [List.find?_cons, hf]; exact h2
        · refine .inr ⟨by simp [getF, hb, h1], ?_, ?_⟩
          · rw [List.find?_cons, hf]; exact h2
          · rw [List.any_cons, h3]; rfl
  rcases key r with ⟨v, e, h1, h2, h3⟩ | ⟨h1, h2, h3⟩
  · exact .inl ⟨v, e.val, h1, by unfold getL; rw [h2], h3⟩
  · exact .inr ⟨h1, by unfold getL; rw [h2, h3]; rfl⟩
theorem FR.put {f : Fields} {es : List DictEntry} (r : FR hB ρ h f es) {a : At} {v : V} {c : Value} (hv : VR hB ρ h v c) (hs : Int) (t : Tok) : FR hB ρ h (setF a v f) (putL a.name hs (.str a.name t) c es) := by
  induction r with
  | nil => exact .cons hv .nil
  | @cons b v' hs' t' c' f es hv' hr ih =>
    by_cases hb : b = a
    · subst hb
      simp only [setF, putL, if_true]
      rw [show (DictEntry.mk hs' (.str b.name t') c').key.isStr b.name = true from by simp [Value.isStr]]
      exact .cons hv hr
    · have hf : (DictEntry.mk hs' (.str b.name t') c').key.isStr a.name = false := by
        show (b.name == a.name) = false
        rw [beq_eq_false_iff_ne]
        exact fun h => hb (At.name_inj _ _ h)
      simp only [setF, putL, if_neg hb, hf]
      exact .cons hv' ih
theorem FR.length {f : Fields} {es : List DictEntry} (r : FR hB ρ h f es) : f.length = es.length := by
  induction r with
  | nil => rfl
  | cons _ _ ih => simp [ih]
end

structure GlR (hB h₀ : Heap) (ρ : Lay) (g : Gl) (h : Heap) : Prop where
  tape : (g.tape = none ∧ ρ.tA = none) ∨ ∃ vs a xs, g.tape = some vs ∧ ρ.tA = some a ∧ h.IsList a xs.toArray ∧ VRs hB ρ h vs xs
  stem : ∀ b, (g.st b = none ∧ ρ.sA b = none) ∨ ∃ f a dx sl es n, g.st b = some f ∧ ρ.sA b = some (a, dx) ∧ h.get? a = some ⟨.ref 927, some dx, .plain, sl⟩ ∧ h.get? dx = some (dictOf es n) ∧ FR hB ρ h f es
  apart : ∀ b b' i i' a, ρ.sA b = some (i, a) → ρ.sA b' = some (i', a) → b = b'
  new : ∀ a, ρ.mut a → h₀.get? a = none

structure GInv (hB : Heap) (s₀ : Shared) (fl : List Env) (ρ : Lay) (g : Gl) (s : Shared) : Prop where
  keep : ∀ b o, s₀.heap.get? b = some o → s.heap.get? b = some o
  gl : GlR hB s₀.heap ρ g s.heap
  frames : s.heap.FunFrames s₀.heap fl
  fmut : ∀ env ∈ fl, ∀ L, env.frame = some L → ¬ ρ.mut L
  gens : s.gens = s₀.gens
  drawn : s.drawn = s₀.drawn
  os : s.os = s₀.os

structure InvF (hB : Heap) (s₀ : Shared) (fl : List Env) (L : Addr) (ns : List Str) (ρ : Lay) (σ : St) (s : Shared) : Prop where
  g : GInv hB s₀ fl ρ σ.g s
  loc : ∃ m, s.heap.Ns L m ∧ ∀ (i : Nat) (x : Str) (v : V), ns[i]? = some x → (σ.loc[i]?).join = some v → ∃ cv, m x = some cv ∧ VR hB ρ s.heap v cv
  len : σ.loc.length = ns.length
  above : s₀.heap.objs.size ≤ L
  lmut : ¬ ρ.mut L

theorem InvF.apart {hB s₀ fl L ns ρ σ s} (I : InvF hB s₀ fl L ns ρ σ s) : Apart L s.heap := let ⟨m, h, _⟩ := I.loc; ⟨m, h⟩
theorem InvF.fr {hB s₀ fl L ns ρ σ s} (I : InvF hB s₀ fl L ns ρ σ s) : ∃ m, Fr s₀.heap L s.heap m ∧ ∀ (i : Nat) (x : Str) (v : V), ns[i]? = some x → (σ.loc[i]?).join = some v → ∃ cv, m x = some cv ∧ VR hB ρ s.heap v cv :=
  let ⟨m, h, k⟩ := I.loc; ⟨m, ⟨h, I.g.keep, I.above⟩, k⟩

theorem funFrames_mono {h h' base : Heap} : ∀ {l : List Env}, (∀ env ∈ l, ∀ L, env.frame = some L → ∀ o, h.get? L = some o → ∃ o', h'.get? L = some o' ∧ ∀ vs, o'.data = .fields vs → o.data = .fields vs) → h.FunFrames base l → h'.FunFrames base l
  | [], _, _ => trivial
  | env :: r, k, ⟨hk, ⟨L, o, hf, hn, ho, hd⟩, hr⟩ => by
    obtain ⟨o', ho', hd'⟩ := k env (.head _) L hf o ho
    exact ⟨hk, ⟨L, o', hf, hn, ho', fun vs e => hd vs (hd' vs e)⟩, funFrames_mono (fun e he => k e (.tail _ he)) hr⟩

/-- all that stands stays: growth -/
theorem GInv.grow {hB s₀ fl ρ g s} (I : GInv hB s₀ fl ρ g s) {L : Addr} (A : Apart L s.heap) {h' : Heap} {tk : Nat} (k : ∀ b o, s.heap.get? b = some o → h'.get? b = some o) : GInv hB s₀ fl ρ g { s with heap := h', toks := tk } := by
  have X : Ext L ρ s.heap ρ h' := .of_keep k
  refine ⟨fun b o e => k b o (I.keep b o e), ⟨?_, fun b => ?_, I.gl.apart, I.gl.new⟩, funFrames_mono (fun env he L hL o ho => ⟨o, k _ _ ho, fun _ h => h⟩) I.frames, I.fmut, I.gens, I.drawn, I.os⟩
  · rcases I.gl.tape with h | ⟨vs, a, xs, h1, h2, ⟨o, ho, hc, hd⟩, h4⟩
    · exact .inl h
    · exact .inr ⟨vs, a, xs, h1, h2, ⟨o, k _ _ ho, hc, hd⟩, h4.mono A X⟩
  · rcases I.gl.stem b with h | ⟨f, a, dx, sl, es, n, h1, h2, h3, h4, h5⟩
    · exact .inl h
    · exact .inr ⟨f, a, dx, sl, es, n, h1, h2, k _ _ h3, k _ _ h4, h5.mono A X⟩
theorem InvF.grow {hB s₀ fl L ns ρ σ s} (I : InvF hB s₀ fl L ns ρ σ s) {h' : Heap} {tk : Nat} (k : ∀ b o, s.heap.get? b = some o → h'.get? b = some o) : InvF hB s₀ fl L ns ρ σ { s with heap := h', toks := tk } := by
  obtain ⟨m, hn, hl⟩ := I.loc
  refine ⟨I.g.grow ⟨m, hn⟩ k, ⟨m, ?_, fun i x v e1 e2 => ?_⟩, I.len, I.above, I.lmut⟩
  · obtain ⟨o, es, ep, ho, hr⟩ := hn
    exact ⟨o, es, ep, k _ _ ho, hr⟩
  · obtain ⟨cv, h1, h2⟩ := hl i x v e1 e2
    exact ⟨cv, h1, h2.mono ⟨m, hn⟩ (.of_keep k)⟩
theorem InvF.toks {hB s₀ fl L ns ρ σ s} (I : InvF hB s₀ fl L ns ρ σ s) (tk : Nat) : InvF hB s₀ fl L ns ρ σ { s with toks := tk } := I.grow (h' := s.heap) (fun _ _ e => e)
theorem keep_push {h : Heap} {o : Obj} : ∀ b o', h.get? b = some o' → (h.push o).get? b = some o' := fun b o' e => Heap.get?_push_of_some _ e
theorem GlR.mut_some {hB h₀ ρ g h} (I : GlR hB h₀ ρ g h) {a : Addr} (m : ρ.mut a) : ∃ o, h.get? a = some o := by
  rcases m with m | ⟨b, i, m⟩
  · rcases I.tape with ⟨_, h2⟩ | ⟨vs, a', xs, h1, h2, ⟨o, ho, _⟩, h4⟩
    · rw [h2] at m; cases m
    · rw [h2] at m; cases m; exact ⟨o, ho⟩
  · rcases I.stem b with ⟨_, h2⟩ | ⟨f, a', dx, sl, es, n, h1, h2, h3, h4, h5⟩
    · rw [h2] at m; cases m
    · rw [h2] at m; cases m; exact ⟨_, h4⟩
theorem GlR.fresh {hB h₀ ρ g h} (I : GlR hB h₀ ρ g h) : ¬ ρ.mut h.objs.size := fun m => by
  obtain ⟨o, ho⟩ := I.mut_some m
  exact absurd (Heap.lt_size ho) (Nat.lt_irrefl _)
end Mine

-- MOps
namespace Mine
set_option maxRecDepth 100000
set_option maxHeartbeats 400000
set_option linter.unusedVariables false

section
variable {prog : Program} {w : World} {A : Around} {E : Value → Shared → Prop} {s : Shared} {hB : Heap} {ρ : Lay}

/-- what an operation leaves: a grown heap, and a value related to r -/
def Gives (hB : Heap) (ρ : Lay) (s : Shared) (r : V) (Q : Value → Shared → Prop) : Prop :=
  ∀ h' tk c, (∀ b o, s.heap.get? b = some o → h'.get? b = some o) → VR hB ρ h' r c → Q c { s with heap := h', toks := tk }
theorem Gives.here {r : V} {Q : Value → Shared → Prop} (k : Gives hB ρ s r Q) {c : Value} (h : VR hB ρ s.heap r c) : Q c s := k s.heap s.toks c (fun _ _ e => e) h
theorem Gives.tok {r : V} {Q : Value → Shared → Prop} (k : Gives hB ρ s r Q) {c : Value} {tk : Nat} (h : VR hB ρ s.heap r c) : Q c { s with toks := tk } := k s.heap tk c (fun _ _ e => e) h

theorem str_app (a b : List Nat) : (⟨a.toArray⟩ ++ ⟨b.toArray⟩ : Str) = ⟨(a ++ b).toArray⟩ := by
  show Str.mk (a.toArray ++ b.toArray) = _
  simp
theorem str_len (a : List Nat) : (⟨a.toArray⟩ : Str).length = a.length := rfl

theorem vr_list {L : Addr} {vs : List V} {xs : List Value} {a : Addr} {h h' : Heap} (hl : h'.IsList a xs.toArray) (hm : ¬ ρ.mut a) (A : Apart L h) (k : ∀ b o, h.get? b = some o → h'.get? b = some o) (r : VRs hB ρ h vs xs) : VR hB ρ h' (.list vs) (.ref a) :=
  .list hl hm (r.mono A (.of_keep k))

theorem bin_sound {L : Addr} (Ap : Apart L s.heap) (fresh : ¬ ρ.mut s.heap.objs.size) {op : Bop} {o : Operator} (ho : bopIs op o = true) {x y r : V} {cx cy : Value} {Q : Value → Shared → Prop} (e : binV op x y = some r)
    (Rx : VR hB ρ s.heap x cx) (Ry : VR hB ρ s.heap y cy) (k : Gives hB ρ s r Q) : wpAny (model prog w) A (binaryOp o cx cy) Q E s := by
  cases op <;> cases o <;> first | cases ho | skip
  · cases Rx <;> cases Ry <;> first | cases e | skip
    · exact PyProof.Rows.add_int (k.tok (.int _ _))
    · rename_i a t b u
      simp only [binV] at e
      split at e <;> cases e
      rename_i hb
      refine PyProof.Rows.add_str (fun t' tk => ?_) (by rw [str_len, str_len, sizeLine_eq]; unfold bound at hb; omega)
      rw [str_app]
      exact k.tok (.str _ _)
    · rename_i vs xs a hl hm hv ws ys b hl2 hm2 hv2
      simp only [binV] at e
      split at e <;> cases e
      rename_i hb
      obtain ⟨⟨cls, dd, data, sl⟩, ho, hc, n, hd⟩ := id hl
      obtain ⟨⟨cls2, dd2, data2, sl2⟩, ho2, hc2, n2, hd2⟩ := id hl2
      simp only at hc hd hc2 hd2
      subst hc hd hc2 hd2
      have e : xs.toArray ++ ys.toArray = (xs ++ ys).toArray := by simp
      refine concat_meets ⟨_, ho, rfl⟩ ⟨_, ho2, rfl⟩ noFill_list_add seq_list_add PySem.F.slot_list_add PySem.F.entry_list_add (PySem.F.args_list_add_2 _ _) (list_addW a b xs.toArray ys.toArray n n2 dd dd2 sl sl2 ?_) ⟨ho, ho2, ?_⟩
      · rw [sizeLine_eq]; unfold bound at hb
        have := hv.length; have := hv2.length
        simp; omega
      · rw [e]
        exact k _ _ _ keep_push (vr_list ⟨_, Heap.get?_push_size _ rfl, rfl, _, rfl⟩ fresh Ap keep_push (hv.app hv2))
  · cases Rx <;> cases Ry <;> first | cases e | skip
    exact PyProof.Rows.sub_int (k.tok (.int _ _))
  · cases Rx <;> cases Ry <;> first | cases e | skip
    simp only [binV] at e
    split at e <;> cases e
    rename_i hb
    refine PyProof.Rows.mul_int (k.tok (.int _ _)) (IntMulOk.of_left (intBits_le_64 ?_ ?_)) <;> omega
  · cases Rx <;> cases Ry <;> first | cases e | skip
    simp only [binV] at e
    split at e <;> cases e
    exact PyProof.Rows.mod_int' ‹_› (k.tok (.int _ _))
  · cases Rx <;> cases Ry <;> first | cases e | skip
    simp only [binV] at e
    rename_i a t b u
    split at e <;> cases e
    rename_i hb
    refine PyProof.Rows.floordiv_int (fun q => hb (.inl q)) (k.tok (.int _ _)) (.inl ?_)
    have hb2 : b.natAbs < 2 ^ 62 := by
      have : ¬ ¬ (a.natAbs < 2 ^ 62 ∧ b.natAbs < 2 ^ 62) := fun q => hb (.inr q)
      exact (Classical.not_not.mp this).2
    unfold Builtin.divisionGoesByPylong
    dsimp only
    rw [Bool.and_eq_false_iff]
    left
    rw [decide_eq_false_iff_not]
    split
    · omega
    · have : b.natAbs.log2 < 62 := by
        rcases Nat.eq_zero_or_pos b.natAbs with z | z
        · rw [z]; decide
        · exact (Nat.log2_lt (by omega)).mpr hb2
      omega
  · cases Rx <;> cases Ry <;> first | cases e | skip
    simp only [binV] at e
    split at e <;> cases e
    rename_i hb
    subst hb
    exact PyProof.Rows.rshift_int (by decide) (k.tok (.int _ _))

theorem aug_sound {op : Bop} {o : Operator} (ho : bopIs op o = true) {x y r : V} {cx cy : Value} {Q : Value → Shared → Prop} (e : augV op x y = some r)
    (Rx : VR hB ρ s.heap x cx) (Ry : VR hB ρ s.heap y cy) (k : Gives hB ρ s r Q) : wpAny (model prog w) A (inplaceOp o cx cy) Q E s := by
  cases op <;> cases o <;> first | cases ho | skip
  all_goals (cases Rx <;> cases Ry <;> first | cases e | skip)
  · exact PyProof.Rows.iadd_int (k.tok (.int _ _))
  · exact PyProof.Rows.isub_int (k.tok (.int _ _))

theorem beq_arr (a b : List Nat) : ((⟨a.toArray⟩ : Str) == ⟨b.toArray⟩) = (a == b) := by
  rw [Bool.eq_iff_iff, beq_iff_eq, beq_iff_eq, Str.mk.injEq]
  exact ⟨fun h => by simpa using h, fun h => by rw [h]⟩
theorem bne_arr (a b : List Nat) : ((⟨a.toArray⟩ : Str) != ⟨b.toArray⟩) = (a != b) := by
  show (!((⟨a.toArray⟩ : Str) == ⟨b.toArray⟩)) = (!(a == b))
  rw [beq_arr]

theorem cmp_sound {op : Cop} {o : CmpOp} (ho : copIs op o = true) {x y : V} {r : Bool} {cx cy : Value} {Q : Value → Shared → Prop} (e : cmpV op x y = some r)
    (Rx : VR hB ρ s.heap x cx) (Ry : VR hB ρ s.heap y cy) (k : Q (.bool r) s) : wpAny (model prog w) A (compareOp o cx cy) Q E s := by
  cases op <;> cases o <;> first | cases ho | skip
  all_goals (cases Rx <;> cases Ry <;> first | cases e | skip)
  · exact PyProof.Rows.eq_int k
  · exact PyProof.Rows.eq_str (by rw [beq_arr]; exact k)
  · exact EqBoolInt.of_rcne (SeqAt.RcNeAt.bool_bool _ _) k
  · exact PyProof.Rows.ne_int k
  · exact PyProof.Rows.ne_str (by rw [bne_arr]; exact k)
  · exact PyProof.Rows.lt_int k
  · exact PyProof.Rows.le_int k
  · exact PyProof.Rows.gt_int k
  · exact PyProof.Rows.ge_int k
end
end Mine

-- MOps2
namespace Mine
set_option maxRecDepth 100000
set_option maxHeartbeats 400000
set_option linter.unusedVariables false

theorem pick_n {α : Type} (l : List α) (a : Nat) : ∀ n, a + n ≤ l.length → ((List.range n).map fun k => a + k).filterMap (fun i => l[i]?) = (l.drop a).take n
  | 0, _ => by simp
  | n + 1, h => by
    rw [List.range_succ, List.map_append, List.filterMap_append, pick_n l a n (by omega), List.take_succ]
    congr 1
    have : a + n < l.length := by omega
    simp [List.getElem?_drop, List.getElem?_eq_getElem this]

theorem range_one {a b : Nat} : sliceRange (a : Int) (b : Int) 1 = (List.range (b - a)).map fun k => a + k := by
  unfold sliceRange
  by_cases h : a < b
  · have h' : (a : Int) < b := by omega
    have e : (((b : Int) - a + 1 - 1) / 1).toNat = b - a := by omega
    simp only [gt_iff_lt, show (0 : Int) < 1 from by decide, if_true, h', e, Int.one_mul]
    apply List.map_congr_left
    intro k _
    omega
  · have h' : ¬ (a : Int) < b := by omega
    have e : b - a = 0 := by omega
    simp only [gt_iff_lt, show (0 : Int) < 1 from by decide, if_true, h', if_false, e]
    rfl
theorem clip_eq (n : Nat) (i : Int) : (max 0 (min (if i < 0 then i + n else i) (n : Int))) = ((clampI n i : Nat) : Int) := by
  unfold clampI
  split <;> omega
theorem clamp_le (n : Nat) (i : Int) : clampI n i ≤ n := by
  unfold clampI
  split <;> omega
def loOf (n : Nat) : Option Int → Nat
  | some i => clampI n i
  | none => 0
def hiOf (n : Nat) : Option Int → Nat
  | some i => clampI n i
  | none => n
theorem sliceL_eq {α : Type} (l : List α) (lo hi : Option Int) : sliceL l lo hi = (l.take (hiOf l.length hi)).drop (loOf l.length lo) := by
  cases lo <;> cases hi <;> rfl
theorem hi_le (n : Nat) (hi : Option Int) : hiOf n hi ≤ n := by
  cases hi with
  | none => exact Nat.le_refl _
  | some i => exact clamp_le _ _
theorem pick_eq {α : Type} (l : List α) (a b : Nat) (hb : b ≤ l.length) : (sliceRange (a : Int) (b : Int) 1).filterMap (fun i => l[i]?) = (l.take b).drop a := by
  rw [range_one]
  by_cases h : a ≤ b
  · rw [pick_n l a (b - a) (by omega), List.drop_take]
  · have e : b - a = 0 := by omega
    rw [e]
    have : (l.take b).drop a = [] := List.drop_eq_nil_of_le (by rw [List.length_take]; omega)
    rw [this]; rfl
theorem idx_str (lo hi : Option Int) (n : Nat) : Builtin.Str.strSliceIndices lo hi 1 n = sliceRange ((loOf n lo : Nat) : Int) ((hiOf n hi : Nat) : Int) 1 := by
  unfold Builtin.Str.strSliceIndices
  simp only [gt_iff_lt, show (0 : Int) < 1 from by decide, if_true]
  cases lo <;> cases hi <;> simp only [clip_eq, loOf, hiOf] <;> rfl
theorem idx_list (lo hi : Option Int) (n : Nat) : sliceRange (sliceBounds lo hi none n).1 (sliceBounds lo hi none n).2.1 (sliceBounds lo hi none n).2.2 = sliceRange ((loOf n lo : Nat) : Int) ((hiOf n hi : Nat) : Int) 1 := by
  unfold sliceBounds
  simp only [Option.getD_none, gt_iff_lt, show (0 : Int) < 1 from by decide, if_true]
  cases lo <;> cases hi <;> simp only [clip_eq, loOf, hiOf] <;> rfl
theorem pick_list (xs : List Value) (lo hi : Option Int) : slicePick xs.toArray lo hi none = (sliceL xs lo hi).toArray := by
  unfold slicePick
  rw [List.size_toArray, idx_list, sliceL_eq, ← pick_eq xs _ _ (hi_le _ _)]
  simp
theorem sliceL_le {α : Type} (l : List α) (lo hi : Option Int) : (sliceL l lo hi).length ≤ l.length := by
  rw [sliceL_eq, List.length_drop, List.length_take]; omega
theorem VRs.slice {hB : Heap} {ρ : Lay} {h : Heap} {vs : List V} {cs : List Value} (r : VRs hB ρ h vs cs) (lo hi : Option Int) : VRs hB ρ h (sliceL vs lo hi) (sliceL cs lo hi) := by
  rw [sliceL_eq, sliceL_eq, r.length]
  exact (r.take _).drop _

section
variable {prog : Program} {w : World} {A : Around} {E : Value → Shared → Prop} {s : Shared} {hB : Heap} {ρ : Lay}
theorem sub_ops (slice : Expr) (o i : Value) : ∃ ops, subscripted slice false o i = operate ops (getItem o i) := by
  unfold subscripted
  split
  · exact ⟨_, rfl⟩
  · rename_i h; cases h
  · exact ⟨_, rfl⟩
theorem tail_of {value slice : Expr} {o i : Value} {T id : String} {Q : Value → Shared → Prop} (hT : s.TypeIs o T)
    (hl : typeLookup (.type T) "__getitem__" = pure (some (.builtin id))) (h : wpAny (model prog w) A (getItem o i) Q E s) :
    wpAny (model prog w) A (subscriptTail value slice o i) Q E s := by
  unfold subscriptTail
  refine wpAny_bind ?_
  rw [getitemInPython_of_ne hT.not_modules]
  refine wpAny_bind (wpAny_specialOf hT hl ?_)
  obtain ⟨ops, hs⟩ := sub_ops slice o i
  have fin : wpAny (model prog w) A (subscripted slice false o i) (fun r s₃ => wpAny (model prog w) A (letTemporaryGo value o r >>= fun _ => pure r) Q E s₃) E s := by
    rw [hs]
    exact wpAny_operating (wpAny_mono h (fun r s₃ h₃ => wpAny_bind (wpAny_letTemporaryGo (wpAny_pure h₃))) fun _ _ x => x)
  first
    | exact wpAny_pure (wpAny_bind fin)
    | exact wpAny_bind (wpAny_pure (wpAny_bind fin))
    | exact wpAny_bind fin

theorem idx_sound {value slice : Expr} {h₀ : Heap} {g : Gl} (G : GlR hB h₀ ρ g s.heap) {x y r : V} {cx cy : Value} {Q : Value → Shared → Prop} (e : idxV g x y = some r)
    (Rx : VR hB ρ s.heap x cx) (Ry : VR hB ρ s.heap y cy) (k : Gives hB ρ s r Q) : wpAny (model prog w) A (subscriptTail value slice cx cy) Q E s := by
  cases Rx <;> cases Ry <;> first | cases e | skip
  · rename_i l t i u
    simp only [idxV] at e
    split at e
    · rename_i hb
      obtain ⟨c, hc, rfl⟩ := Option.map_eq_some_iff.mp e
      have hlt : i.toNat < l.length := (List.getElem?_eq_some_iff.mp hc).1
      refine tail_of (typeIs_str s _ _) PySem.F.slot_str_getitem.lookup (PyProof.Rows.getItem_str (c := c) ?_ ?_ (k.tok (.str [c] _)))
      · unfold bound at hb
        rw [Bool.or_eq_false_iff, decide_eq_false_iff_not, decide_eq_false_iff_not]
        omega
      · show (seqIndex? i l.length).bind (l.toArray[·]?) = some c
        have : seqIndex? i l.length = some i.toNat := by
          unfold seqIndex?
          simp only [show ¬ i < 0 from by omega, if_false]
          simp [show i < (l.length : Int) from by omega, hb.1]
        rw [this]
        simpa using hc
    · cases e
  · rename_i vs xs a hl hm hv i u
    simp only [idxV] at e
    split at e
    · rename_i hb
      obtain ⟨c, hc, hr⟩ := hv.get e
      exact tail_of hl.typeIs list_getitem_lookup (wpAny_getItem_list hl hb.1 (by unfold bound at hb; omega) (by simpa using hc) (k.here hr))
    · cases e
  · rename_i a hA i u
    simp only [idxV] at e
    split at e
    · rename_i hb
      obtain ⟨xs, hx, hc⟩ := Option.bind_eq_some_iff.mp e
      rcases G.tape with ⟨_, h2⟩ | ⟨vs, a', ys, h1, h2, hl, hv⟩
      · rw [h2] at hA; cases hA
      · rw [h2] at hA; cases hA
        rw [h1] at hx; cases hx
        obtain ⟨c, hc, hr⟩ := hv.get hc
        exact tail_of hl.typeIs list_getitem_lookup (wpAny_getItem_list hl hb.1 (by unfold bound at hb; omega) (by simpa using hc) (k.here hr))
    · cases e

theorem slice_sound {L : Addr} (Ap : Apart L s.heap) (fresh : ¬ ρ.mut (s.heap.objs.size + 1)) {value slice : Expr} {x r : V} {cx vl vu : Value} {lo hi : Option Int} {Q : Value → Shared → Prop} (e : sliceV x lo hi = some r)
    (Rx : VR hB ρ s.heap x cx) (pl : IsPart vl lo) (pu : IsPart vu hi) (k : Gives hB ρ s r Q) :
    wpAny (model prog w) A (subscriptTail value slice cx (.ref s.heap.objs.size)) Q E { s with heap := s.heap.push { cls := .type "slice", data := .fields #[vl, vu, .none] } } := by
  cases Rx <;> first | cases e | skip
  · rename_i l t
    simp only [sliceV] at e
    split at e <;> cases e
    rename_i hb
    obtain ⟨pl', rfl, hpl⟩ : ∃ l' : Option (Int × Tok), vl = partValue l' ∧ l'.map (·.1) = lo := by cases pl with | none => exact ⟨none, rfl, rfl⟩ | int i t => exact ⟨some (i, t), rfl, rfl⟩
    obtain ⟨pu', rfl, hpu⟩ : ∃ l' : Option (Int × Tok), vu = partValue l' ∧ l'.map (·.1) = hi := by cases pu with | none => exact ⟨none, rfl, rfl⟩ | int i t => exact ⟨some (i, t), rfl, rfl⟩
    refine tail_of (typeIs_str _ _ _) PySem.F.slot_str_getitem.lookup (wpAny_getItem_str_slice (l := pl') (u := pu') (st := none) ⟨_, Heap.get?_push_size _ rfl, rfl, rfl⟩ rfl ?_)
    have hp : slicePicked ⟨l.toArray⟩ pl' pu' none = sliceRange ((loOf l.length lo : Nat) : Int) ((hiOf l.length hi : Nat) : Int) 1 := by
      unfold slicePicked
      rw [hpl, hpu]
      exact idx_str lo hi l.length
    have hq : ((slicePicked ⟨l.toArray⟩ pl' pu' none).filterMap (l.toArray[·]?)) = sliceL l lo hi := by
      rw [hp, sliceL_eq, ← pick_eq l _ _ (hi_le _ _)]
      simp
    unfold sliceMade
    split
    · rename_i hc
      have hlen : (slicePicked ⟨l.toArray⟩ pl' pu' none).length = l.length := by
        simp only [Bool.and_eq_true, beq_iff_eq] at hc
        exact hc.2
      have he : sliceL l lo hi = l := by
        rw [hp, range_one, List.length_map, List.length_range] at hlen
        have h1 := hi_le l.length hi
        rw [sliceL_eq]
        by_cases hz : l.length = 0
        · have : l = [] := List.length_eq_zero_iff.mp hz
          subst this; simp
        · have e1 : hiOf l.length hi = l.length := by omega
          have e2 : loOf l.length lo = 0 := by omega
          rw [e1, e2]; simp
      show Q (.str ⟨l.toArray⟩ t) _
      refine k _ s.toks _ keep_push ?_
      rw [he]
      exact .str l t
    · refine And.intro ?_ ?_
      · show (((slicePicked ⟨l.toArray⟩ pl' pu' none).filterMap (l.toArray[·]?)).toArray).size ≤ _
        rw [hq, List.size_toArray, sizeLine_eq]
        have := sliceL_le l lo hi
        unfold bound at hb; omega
      · show Q (.str ⟨((slicePicked ⟨l.toArray⟩ pl' pu' none).filterMap (l.toArray[·]?)).toArray⟩ _) _
        rw [hq]
        exact k _ _ _ keep_push (.str _ _)
  · rename_i vs xs a hl hm hv
    simp only [sliceV] at e
    split at e <;> cases e
    rename_i hb
    refine tail_of (Heap.IsList.typeIs (s := { s with heap := s.heap.push { cls := .type "slice", data := .fields #[vl, vu, .none] } }) (hl.push _)) list_getitem_lookup
      (wpAny_getItem_list_slice (hl.push _) (Heap.IsSliceOf.new ..) pl pu .none (by simp) ?_ (by rw [List.size_toArray, sizeLine_eq, ← hv.length]; unfold bound at hb; omega))
    rw [pick_list]
    have k2 : ∀ b o, s.heap.get? b = some o → ((s.heap.push { cls := .type "slice", data := .fields #[vl, vu, .none] }).push { cls := .type "list", data := .seq (sliceL xs lo hi).toArray }).get? b = some o := fun b o e => keep_push _ _ (keep_push _ _ e)
    refine k _ s.toks _ k2 (vr_list (L := L) ⟨_, Heap.get?_push_size _ rfl, rfl, _, rfl⟩ ?_ Ap k2 (hv.slice lo hi))
    show ¬ ρ.mut (s.heap.push _).objs.size
    rw [Heap.size_push]; exact fresh
end
end Mine

-- MFrag
namespace Mine
set_option maxRecDepth 100000
set_option maxHeartbeats 0
set_option linter.unusedVariables false

def fa : Nat → Addr
  | 0 => 35 | 1 => 42 | 2 => 49 | 3 => 126 | 4 => 140 | 5 => 147 | 6 => 154 | 7 => 161 | 8 => 253 | 9 => 260 | 10 => 267 | 11 => 274 | 12 => 281 | 13 => 288 | 14 => 295
  | 15 => 982 | 16 => 989 | 17 => 996 | 18 => 960 | 19 => 970 | 20 => 977 | 21 => 1003 | 22 => 1010 | 23 => 1017 | 24 => 1024 | 25 => 1031 | 26 => 1036 | 27 => 1043 | 28 => 1050 | 29 => 1057 | 30 => 1064
  | 31 => 1071 | 32 => 1078 | 33 => 1085 | 34 => 1092 | _ => 1092
def ks : List Addr := [0, 2, 3, 361, 395, 408, 418, 428, 573, 610, 899, 924, 198, 199, 219, 220, 926, 927, 938, 939] ++ (List.range 35).map fa ++ (List.range 35).map fun f => fa f - 1
noncomputable def at13 (w : World) (X : SetD) (a : Addr) : Obj := ((T13 w.params X).get a).getD emptyDict
noncomputable def KK (w : World) (X : SetD) : Frag := ks.map fun a => (a, at13 w X a)
def liveAt (T : BT) (a : Addr) : Bool := decide (a < 1093) && match T.get a with
  | some o => (alive o).isSome
  | none => false
theorem live_get {w : World} {X : SetD} {a : Addr} (h : liveAt (T13 w.params X) a = true) : (h13 w X).get? a = some (at13 w X a) := by
  unfold liveAt at h
  obtain ⟨h1, h2⟩ := Bool.and_eq_true_iff.mp h
  have lt := of_decide_eq_true h1
  split at h2
  · rename_i o e
    obtain ⟨o', e'⟩ := Option.isSome_iff_exists.mp h2
    have := alive_same e'
    subst this
    rw [abs_get lt e, e']
    unfold at13
    rw [e]; rfl
  · cases h2
theorem ks_live (w : World) (X : SetD) : (ks.all fun a => liveAt (T13 w.params X) a) = true := by kernel_rfl
theorem KK_in (w : World) (X : SetD) : (KK w X).In (h13 w X) := by
  refine Frag.in_of (as := ks) ?_ ?_
  · unfold KK; rw [List.map_map]; exact (List.map_id _).symm
  · unfold KK; rw [List.map_map]
    refine List.map_congr_left fun a ha => ?_
    exact live_get (List.all_eq_true.mp (ks_live w X) a ha)

section
variable (w : World) (X : SetD)
theorem k_ga (b : Bool) : findIn (KK w X) (.ref (if b then 927 else 220)) "__getattribute__" = some (some (.builtin "object.__getattribute__")) := by cases b <;> kernel_rfl
theorem k_plain1 (n : Str) : plainGet (KK w X) 927 n = true := by kernel_rfl
theorem k_plain2 (n : Str) : plainGet (KK w X) 220 n = true := by kernel_rfl
theorem k_has1 : hasDictIn (KK w X) 927 = true := by kernel_rfl
theorem k_has2 : hasDictIn (KK w X) 220 = true := by kernel_rfl
noncomputable def ckAttr (a : At) : Bool := match findIn (KK w X) (.ref 927) a.name with
  | some attr => noGet (KK w X) attr
  | none => false
theorem k_find1 (a : At) : ∃ attr, findIn (KK w X) (.ref 927) a.name = some attr ∧ noGet (KK w X) attr = true := by
  have : ckAttr w X a = true := by cases a <;> kernel_rfl
  unfold ckAttr at this
  split at this
  · exact ⟨_, ‹_›, this⟩
  · cases this
theorem k_find2 (a : At) : findIn (KK w X) (.ref 220) a.name = some none := by cases a <;> kernel_rfl
theorem k_sa : findIn (KK w X) (.ref 927) "__setattr__" = some (some (.builtin "object.__setattr__")) := by kernel_rfl
theorem k_over : plainOver (KK w X) 927 = true := by kernel_rfl
theorem k_taker (a : At) : takerIn (KK w X) 927 a.name = some none := by cases a <;> kernel_rfl
theorem k_makes : makesIn (KK w X) 927 = true := by kernel_rfl
theorem k_init : findIn (KK w X) (.ref 927) "__init__" = some (some (.ref 35)) := by kernel_rfl
theorem k_type0 : typeIn (KK w X) (.ref 35) = some (.type "function") := by kernel_rfl
def isMeth (f : Nat) : Bool := Nat.ble f 14
theorem k_meth (f : Fin 15) : findIn (KK w X) (.ref 927) (fname f) = some (some (.ref (fa f))) := by
  obtain ⟨f, hf⟩ := f
  have : f = 0 ∨ f = 1 ∨ f = 2 ∨ f = 3 ∨ f = 4 ∨ f = 5 ∨ f = 6 ∨ f = 7 ∨ f = 8 ∨ f = 9 ∨ f = 10 ∨ f = 11 ∨ f = 12 ∨ f = 13 ∨ f = 14 := by omega
  rcases this with h | h | h | h | h | h | h | h | h | h | h | h | h | h | h <;> (subst h; kernel_rfl)
theorem k_fn (f : Fin 35) : isFn (KK w X) (.ref (fa f)) = true ∧ keepIn (KK w X) (.ref (fa f)) = true := by
  obtain ⟨f, hf⟩ := f
  have : (List.range 35).all (fun f => isFn (KK w X) (.ref (fa f)) && keepIn (KK w X) (.ref (fa f))) = true := by kernel_rfl
  have := List.all_eq_true.mp this f (List.mem_range.mpr hf)
  exact Bool.and_eq_true_iff.mp this
theorem k_keepT : keepIn (KK w X) (.ref 927) = true := by kernel_rfl
theorem k_law (f : Nat) (h1 : 15 ≤ f) (h2 : f < 35) : nsIn (KK w X) mainGlobals (fname f) = some (some (.ref (fa f))) := by
  have : f = 15 ∨ f = 16 ∨ f = 17 ∨ f = 18 ∨ f = 19 ∨ f = 20 ∨ f = 21 ∨ f = 22 ∨ f = 23 ∨ f = 24 ∨ f = 25 ∨ f = 26 ∨ f = 27 ∨ f = 28 ∨ f = 29 ∨ f = 30 ∨ f = 31 ∨ f = 32 ∨ f = 33 ∨ f = 34 := by omega
  rcases this with h | h | h | h | h | h | h | h | h | h | h | h | h | h | h | h | h | h | h | h <;> (subst h; kernel_rfl)
theorem k_stemmer : nsIn (KK w X) mainGlobals (S "SpanishStemmer") = some (some (.ref 927)) := by kernel_rfl
theorem k_lab0 : nsIn (KK w X) mainGlobals (S "lab0") = some (some (.ref 939)) := by kernel_rfl
theorem k_bi (n : String) (h : n = "len" ∨ n = "ord" ∨ n = "sum" ∨ n = "min" ∨ n = "max") : nsIn (KK w X) mainGlobals (S n) = some none ∧ nsIn (KK w X) builtinsNs (S n) = some (some (.builtin n)) := by
  rcases h with h | h | h | h | h <;> (subst h; exact ⟨by kernel_rfl, by kernel_rfl⟩)
theorem k_range : nsIn (KK w X) mainGlobals (S "range") = some none ∧ nsIn (KK w X) builtinsNs (S "range") = some (some (.type "range")) := ⟨by kernel_rfl, by kernel_rfl⟩
def clA : Nat → Addr
  | 1 => 361 | 2 => 395 | 3 => 408 | 4 => 418 | 5 => 428 | 6 => 573 | 7 => 610 | 8 => 899 | _ => 924
theorem k_cls (k : Nat) (h : 1 ≤ k) (h2 : k ≤ 9) : findCls (KK w X) (.ref 927) (.type "type") (clsname k) = some (.val (.ref (clA k))) := by
  have : k = 1 ∨ k = 2 ∨ k = 3 ∨ k = 4 ∨ k = 5 ∨ k = 6 ∨ k = 7 ∨ k = 8 ∨ k = 9 := by omega
  rcases this with h | h | h | h | h | h | h | h | h <;> (subst h; kernel_rfl)
theorem k_clsT : typeIn (KK w X) (.ref 927) = some (.type "type") := by kernel_rfl
theorem k_clsR : readsIn (KK w X) 927 (.type "type") = true := by kernel_rfl
end
end Mine

-- MExp
namespace Mine
set_option maxRecDepth 100000
set_option maxHeartbeats 400000
set_option linter.unusedVariables false

structure AOk (A : Around) (fl : List Env) (d : Nat) : Prop where
  handled : A.handled = none
  frames : A.frames = some fl
  depth : A.depth + 4 * d + 4 ≤ 1000
structure AOk0 (A : Around) (fl : List Env) (d : Nat) : Prop where
  handled : A.handled = none
  frames : A.frames = some fl
  depth : A.depth + 4 * d + 2 ≤ 1000
theorem AOk.weak {A fl d} (a : AOk A fl d) : AOk0 A fl d := ⟨a.handled, a.frames, by have := a.depth; omega⟩

/-- growth but for the mutable ones, up to slots -/
structure Ext0 (ρ : Lay) (h : Heap) (ρ' : Lay) (h' : Heap) : Prop where
  keep : ∀ b o, ¬ ρ.mut b → h.get? b = some o → Stands h' b o ∧ ¬ ρ'.mut b
  le : ρ.le ρ'
theorem Ext0.to {ρ h ρ' h'} (x : Ext0 ρ h ρ' h') (L : Addr) : Ext L ρ h ρ' h' := ⟨fun b o _ m e => x.keep b o m e, x.le⟩

structure Fx where
  name : Str
  sc : Scope
  L : Addr
  a : Addr
  cd : Value
  outer : List Env
def Fx.env (x : Fx) : Env := envOf x.name x.sc x.L x.a x.cd
def Fx.fl (x : Fx) : List Env := x.env :: x.outer

section
variable (w : World) (X : SetD) (s₀ : Shared)
def SCode (fl : List Env) (d : Nat) (C : CT) : Prop := ∀ {f : Nat} {vs : List V} {Qa : V → Gl → Prop} {g : Gl} {ρ : Lay} {s : Shared} {A : Around} {R : Result → Shared → Prop} {cvs : List Value}, f < 35 → AOk0 A fl d → GInv (h13 w X) s₀ fl ρ g s → C f vs Qa g → VRs (h13 w X) ρ s.heap vs cvs →
  (∀ ρ' v g' cv s', Ext0 ρ s.heap ρ' s'.heap → GInv (h13 w X) s₀ fl ρ' g' s' → VR (h13 w X) ρ' s'.heap v cv → Qa v g' → R (.ok (.ret cv)) s') →
  codeAny (model pg w) A (.call (.ref (fa f)) ⟨cvs, []⟩) R s

structure GlOk (glob cls : Nat → V) : Prop where
  gl : ∀ n, n < 6 → ∃ cv, nsIn (KK w X) mainGlobals (glname n) = some (some cv) ∧ ∀ ρ h, (∀ b o, (h13 w X).get? b = some o → h.get? b = some o) → (∀ b, ρ.mut b → (h13 w X).get? b = none) → VR (h13 w X) ρ h (glob n) cv
  cls : ∀ k, 1 ≤ k → k ≤ 9 → ∀ ρ h, (∀ b o, (h13 w X).get? b = some o → h.get? b = some o) → (∀ b, ρ.mut b → (h13 w X).get? b = none) → VR (h13 w X) ρ h (cls k) (.ref (clA k))
end

/-- what is fixed in a frame -/
structure Cx where
  w : World
  X : SetD
  s₀ : Shared
  st : (h13 w X).StaysIn s₀.heap
  glob : Nat → V
  cls : Nat → V
  gok : GlOk w X glob cls
  C : CT
  d : Nat
  F : Fx
  ns : List Str
  sck : F.sc.kind = .function
  sc : SCode w X s₀ F.fl d C
  nd : ns.Nodup

section
variable (c : Cx)
noncomputable abbrev Cx.hB : Heap := h13 c.w c.X
abbrev Cx.M : Model := model pg c.w
abbrev Cx.Inv (ρ : Lay) (σ : St) (s : Shared) : Prop := InvF c.hB c.s₀ c.F.fl c.F.L c.ns ρ σ s
def Cx.Aft (ρ : Lay) (s : Shared) (Qa : V → St → Prop) (Qc : Value → Shared → Prop) : Prop :=
  ∀ ρ' v σ' cv s', Ext c.F.L ρ s.heap ρ' s'.heap → c.Inv ρ' σ' s' → VR c.hB ρ' s'.heap v cv → Qa v σ' → Qc cv s'
def Cx.AftS (ρ : Lay) (s : Shared) (Qa : List V → St → Prop) (Qc : List Value → Shared → Prop) : Prop :=
  ∀ ρ' v σ' cv s', Ext c.F.L ρ s.heap ρ' s'.heap → c.Inv ρ' σ' s' → VRs c.hB ρ' s'.heap v cv → Qa v σ' → Qc cv s'
def Cx.SE (e : ME) (x : Expr) : Prop := ∀ ⦃A : Around⦄ ⦃ρ : Lay⦄ ⦃σ : St⦄ ⦃s : Shared⦄ ⦃Qa : V → St → Prop⦄ ⦃Qc : Value → Shared → Prop⦄ ⦃E : Value → Shared → Prop⦄, AOk A c.F.fl c.d → c.Inv ρ σ s → awpE c.glob c.cls c.C e Qa σ → c.Aft ρ s Qa Qc →
  wpAny c.M A (eval x c.F.env) Qc E s
def Cx.SEs (es : MEs) (xs : List Expr) : Prop := ∀ ⦃pos : Pos⦄ ⦃A : Around⦄ ⦃ρ : Lay⦄ ⦃σ : St⦄ ⦃s : Shared⦄ ⦃Qa : List V → St → Prop⦄ ⦃Qc : List Value → Shared → Prop⦄ ⦃E : Value → Shared → Prop⦄, AOk A c.F.fl c.d → c.Inv ρ σ s → awpEs c.glob c.cls c.C es Qa σ → c.AftS ρ s Qa Qc →
  wpAny c.M A (spliced (backTo pos (starEach xs c.F.env))) Qc E s
variable {c}
variable {A : Around} {ρ ρ1 : Lay} {σ σ1 : St} {s s1 : Shared} {Qa : V → St → Prop} {Qc : Value → Shared → Prop} {E : Value → Shared → Prop}

theorem Cx.stays {ρ : Lay} {σ : St} {s : Shared} (I : c.Inv ρ σ s) : ∀ b o, c.hB.get? b = some o → s.heap.get? b = some o := fun b o e => I.g.keep b o (c.st b o e)
theorem Cx.newB {ρ : Lay} {σ : St} {s : Shared} (I : c.Inv ρ σ s) : ∀ b, ρ.mut b → c.hB.get? b = none := fun b m => by
  cases e : c.hB.get? b with
  | none => rfl
  | some o => have := I.g.gl.new b m; rw [c.st b o e] at this; cases this
theorem Cx.K (c : Cx) : (KK c.w c.X).In c.s₀.heap := (KK_in c.w c.X).keeps c.st
theorem Cx.Ks {ρ : Lay} {σ : St} {s : Shared} (I : c.Inv ρ σ s) : (KK c.w c.X).In s.heap := (KK_in c.w c.X).keeps (Cx.stays I)

theorem Cx.Aft.gives {r : V} (k : c.Aft ρ s Qa Qc) (x : Ext c.F.L ρ s.heap ρ1 s1.heap) (I : c.Inv ρ1 σ1 s1) (hq : Qa r σ1) : Gives c.hB ρ1 s1 r Qc :=
  fun h' tk cv kk rr => k ρ1 r σ1 cv _ (x.trans (.of_keep kk)) (I.grow kk) rr hq
theorem Cx.Aft.val {r : V} {cv : Value} (k : c.Aft ρ s Qa Qc) (x : Ext c.F.L ρ s.heap ρ1 s1.heap) (I : c.Inv ρ1 σ1 s1) (rr : VR c.hB ρ1 s1.heap r cv) (hq : Qa r σ1) : Qc cv s1 := k ρ1 r σ1 cv _ x I rr hq

theorem ns_globals (w : World) (X : SetD) : ∃ mg, (h13 w X).Ns mainGlobals mg := by
  have e := look5 w X
  unfold Heap.isNs at e
  split at e
  · rename_i o ho
    split at e
    · rename_i es ep hd
      refine ⟨nsFind es, o, es, ep, ho, hd, fun en hen => ?_, fun _ => rfl⟩
      have := Array.all_eq_true_iff_forall_mem.mp e en hen
      split at this
      · exact ⟨_, _, ‹_›⟩
      · cases this
    · cases e
  · cases e
theorem ns_builtins (w : World) (X : SetD) : ∃ mg, (h13 w X).Ns builtinsNs mg := by
  have e := look6 w X
  unfold Heap.isNs at e
  split at e
  · rename_i o ho
    split at e
    · rename_i es ep hd
      refine ⟨nsFind es, o, es, ep, ho, hd, fun en hen => ?_, fun _ => rfl⟩
      have := Array.all_eq_true_iff_forall_mem.mp e en hen
      split at this
      · exact ⟨_, _, ‹_›⟩
      · cases this
    · cases e
  · cases e
theorem ns_of {K : Frag} {h : Heap} {mg : Str → Option Value} {a : Addr} {n : Str} {v : Value} (X : K.In h) (G : h.Ns a mg) (e : nsIn K a n = some (some v)) : mg n = some v := by
  obtain ⟨o, es, ep, ho, hd, _, hf⟩ := G
  unfold nsIn at e
  split at e
  · rename_i c d es' n' sl q
    have := X _ _ q
    rw [ho] at this
    cases this
    cases hd
    split at e
    · rename_i en he
      cases e
      rw [← hf]
      unfold nsFind findBy
      rw [← Array.find?_toList, he]
      rfl
    · split at e <;> cases e
  · cases e

theorem isG_of {sc : Scope} {x y : Str} (h : isG sc x y = true) : x = y ∧ sc.names.lookup x = some .globalImplicit ∧ (x == ("__debug__" : Str)) = false := by
  unfold isG at h
  simp only [Bool.and_eq_true, beq_iff_eq, bne_iff_ne, ne_eq] at h
  exact ⟨h.1.1, h.1.2, beq_eq_false_iff_ne.mpr h.2⟩
theorem glob_at {x y : Str} {pos : Pos} {v : Value} (I : c.Inv ρ σ s) (hg : isG c.F.sc x y = true) (e : nsIn (KK c.w c.X) mainGlobals y = some (some v)) (h : Qc v s) :
    wpAny c.M A (eval (.Name x pos) c.F.env) Qc E s := by
  obtain ⟨rfl, h1, h2⟩ := isG_of hg
  obtain ⟨mg, G⟩ := ns_globals c.w c.X
  obtain ⟨m, F, _⟩ := I.fr
  exact ld_global_at F (G.keeps c.st) (ns_of (KK_in c.w c.X) G e) h c.sck h1 h2
theorem builtin_at {x y : Str} {pos : Pos} {v : Value} (I : c.Inv ρ σ s) (hg : isG c.F.sc x y = true) (e : nsIn (KK c.w c.X) mainGlobals y = some none ∧ nsIn (KK c.w c.X) builtinsNs y = some (some v)) (h : Qc v s) :
    wpAny c.M A (eval (.Name x pos) c.F.env) Qc E s := by
  obtain ⟨rfl, h1, h2⟩ := isG_of hg
  obtain ⟨mg, G⟩ := ns_globals c.w c.X
  obtain ⟨mb, B⟩ := ns_builtins c.w c.X
  obtain ⟨m, F, _⟩ := I.fr
  exact ld_builtin_at F (G.keeps c.st) (mg_none_of (KK_in c.w c.X) G e.1) (B.keeps c.st) (ns_of (KK_in c.w c.X) B e.2) h c.sck h1 h2

theorem e_loc {i : Nat} {x : Expr} (h : okE c.ns c.F.sc (.loc i) x = true) : c.SE (.loc i) x := by
  intro A ρ σ s Qa Qc E hA I hw k
  cases x <;> try simp only [okE, Bool.false_eq_true] at h
  rename_i x pos
  simp only [Bool.and_eq_true, beq_iff_eq, bne_iff_ne, ne_eq] at h
  unfold awpE at hw
  obtain ⟨v, hv, hq⟩ := hw
  obtain ⟨m, F, hl⟩ := I.fr
  obtain ⟨cv, h1, h2⟩ := hl i x v h.1.1 hv
  exact ld F h1 (k.val .refl I h2 hq) c.sck h.1.2 (beq_eq_false_iff_ne.mpr h.2)

theorem e_int {i : Int} {x : Expr} (h : okE c.ns c.F.sc (.int i) x = true) : c.SE (.int i) x := by
  intro A ρ σ s Qa Qc E hA I hw k
  cases x <;> try simp only [okE, Bool.false_eq_true] at h
  rename_i cc pos kk
  cases cc <;> try simp only [okE, Bool.false_eq_true, beq_iff_eq] at h
  subst h
  unfold awpE at hw
  exact wpAny_Constant_int ((k.gives .refl I hw).tok (.int _ _))
theorem e_bool {i : Bool} {x : Expr} (h : okE c.ns c.F.sc (.bool i) x = true) : c.SE (.bool i) x := by
  intro A ρ σ s Qa Qc E hA I hw k
  cases x <;> try simp only [okE, Bool.false_eq_true] at h
  rename_i cc pos kk
  cases cc <;> try simp only [okE, Bool.false_eq_true, beq_iff_eq] at h
  subst h
  unfold awpE at hw
  exact wpAny_Constant_bool (k.val .refl I (.bool _) hw)
theorem e_str {i : List Nat} {x : Expr} (h : okE c.ns c.F.sc (.str i) x = true) : c.SE (.str i) x := by
  intro A ρ σ s Qa Qc E hA I hw k
  cases x <;> try simp only [okE, Bool.false_eq_true] at h
  rename_i cc pos kk
  cases cc <;> try simp only [okE, Bool.false_eq_true, beq_iff_eq] at h
  rename_i y
  obtain ⟨y⟩ := y
  subst h
  unfold awpE at hw
  have := (k.gives .refl I hw).tok (tk := s.toks + 1) (.str _ s.toks)
  exact wpAny_Constant_str this
theorem e_gl {i : Nat} {x : Expr} (h : okE c.ns c.F.sc (.gl i) x = true) : c.SE (.gl i) x := by
  intro A ρ σ s Qa Qc E hA I hw k
  cases x <;> try simp only [okE, Bool.false_eq_true] at h
  rename_i x pos
  simp only [Bool.and_eq_true] at h
  unfold awpE at hw
  obtain ⟨cv, h1, h2⟩ := c.gok.gl i (Nat.lt_of_lt_of_le (Nat.lt_succ_of_le (Nat.le_of_ble_eq_true (by have := h.1; unfold Nat.blt at this; exact this))) (Nat.le_refl _))
  exact glob_at I h.2 h1 (k.val .refl I (h2 _ _ (Cx.stays I) (Cx.newB I)) hw)
end
end Mine

-- MExp2
namespace Mine
set_option maxRecDepth 100000
set_option maxHeartbeats 400000
set_option linter.unusedVariables false

theorem base_of {o : Expr} {attr : Str} {env : Env} {whole : Sem Value} (h : notCall o = true) : attributeBase o attr env whole = whole := by
  unfold attributeBase
  split
  · cases h
  · rfl
section
variable {prog : Program} {w : World} {A : Around} {E : Value → Shared → Prop} {s : Shared} {env : Env}
theorem Attr_ {v : Expr} {attr : Str} {pos : Pos} {Q : Value → Shared → Prop} (hn : notCall v = true) (h : wpAny (model prog w) A (eval v env) (fun o s1 => wpAny (model prog w) A (getAttr o attr true) Q E s1) E s) :
    wpAny (model prog w) A (eval (.Attribute v attr pos) env) Q E s := by
  rw [arm_eval_Attribute, base_of hn]
  exact wpAny_bind (wpAny_mono h (fun o s1 h1 => wpAny_bind (wpAny_standAt (wpAny_bind (wpAny_holding (wpAny_mono h1 (fun r s2 h2 => wpAny_bind (wpAny_letTemporaryGo (wpAny_pure h2))) fun _ _ x => x))))) fun _ _ x => x)

theorem Meth_ {o : Expr} {name : Str} {apos pos : Pos} {args : List Expr} {Q : Value → Shared → Prop} (hn : notCall o = true) (hl : (apos.endLine == pos.line) = true) (hlen : args.length < 30)
    (hst : (backTo pos (starEach args env)).all (fun x => !x.1) = true)
    (h : wpAny (model prog w) A (eval o env) (fun ov s₁ => ∀ pl, wpAny (model prog w) A (getMethod ov name pl) (fun fx s₂ => wpAny (model prog w) A (callWith pos fx.1 fx.2 (backTo pos (starEach args env)) []) Q E s₂) E s₁) E s) :
    wpAny (model prog w) A (eval (.Call (.Attribute o name apos) args [] pos) env) Q E s := by
  rw [arm_eval_Call, base_of hn]
  refine wpAny_bind (wpAny_mono h (fun ov s1 h1 => wpAny_bind (wpAny_standAt ?_)) fun _ _ x => x)
  have e1 : methodCallForm (args.length + ([] : List Keyword).length) (backTo pos (starEach args env)) (backToKw pos (keywordEach [] env)) = true := by
    unfold methodCallForm
    rw [hst]
    show (true && true && decide (args.length + 0 + 0 < 30)) = true
    simp [hlen]
  unfold methodCall
  rw [e1]
  refine wpAny_bind (wpAny_holding (wpAny_mono (h1 _) (fun fx s2 h2 => ?_) fun _ _ x => x))
  have e2 : methodCallPos true o env apos pos = pure pos := by
    unfold methodCallPos
    rw [hl]; rfl
  show wpAny _ _ (methodCallPos true o env apos pos >>= fun callPos => callWith callPos fx.1 fx.2 (backTo pos (starEach args env)) []) _ _ _
  rw [e2]
  exact wpAny_bind (wpAny_pure h2)
theorem args_nil {pos : Pos} {Q : List Value → Shared → Prop} (h : Q [] s) : wpAny (model prog w) A (spliced (backTo pos (starEach [] env))) Q E s := wpAny_pure h
end

theorem VR.handed {hB : Heap} {ρ : Lay} {h : Heap} {v : V} {cv : Value} (r : VR hB ρ h v cv) : handedIn cv = true := by cases r <;> rfl
theorem GlR.lt {hB h₀ ρ g h} (I : GlR hB h₀ ρ g h) {a : Addr} (m : ρ.mut a) : a < h.objs.size := by
  obtain ⟨o, ho⟩ := I.mut_some m
  exact Heap.lt_size ho
theorem GlR.fresh1 {hB h₀ ρ g h} (I : GlR hB h₀ ρ g h) : ¬ ρ.mut (h.objs.size + 1) := fun m => by
  have := I.lt m
  exact absurd this (Nat.not_lt.mpr (Nat.le_succ _))

theorem star_okE {ns : List Str} {sc : Scope} {e : ME} {x : Expr} (h : okE ns sc e x = true) (rest : List Expr) (env : Env) : starEach (x :: rest) env = (false, eval x env) :: starEach rest env := by
  cases x <;> try rfl
  exfalso
  cases e <;> simp only [okE, Bool.false_eq_true] at h
theorem marks_okE {ns : List Str} {sc : Scope} {e : ME} {x : Expr} (h : okE ns sc e x = true) (op : CmpOp) : behindInMarks op x = false := by
  cases x <;> try rfl
  exfalso
  cases e <;> simp only [okE, Bool.false_eq_true] at h
theorem stars_okEs {ns : List Str} {sc : Scope} {pos : Pos} {env : Env} : ∀ {es : MEs} {xs : List Expr}, okEs ns sc es xs = true → (backTo pos (starEach xs env)).all (fun x => !x.1) = true ∧ (backTo pos (starEach xs env)).any (·.1) = false
  | _, [], _ => ⟨rfl, rfl⟩
  | .nil, x :: xs, h => by simp only [okEs, Bool.false_eq_true] at h
  | .cons e r, x :: xs, h => by
    simp only [okEs, Bool.and_eq_true] at h
    obtain ⟨h1, h2⟩ := stars_okEs (pos := pos) (env := env) h.2
    rw [star_okE h.1]
    unfold backTo at h1 h2 ⊢
    rw [List.map_cons, List.all_cons, List.any_cons, h1, h2]
    exact ⟨rfl, rfl⟩

section
variable {c : Cx} {A : Around} {ρ ρ1 : Lay} {σ σ1 : St} {s s1 : Shared} {Qa : V → St → Prop} {Qc : Value → Shared → Prop} {E : Value → Shared → Prop}

theorem getAttr_sound {v r : V} {cv : Value} {a : At} (I : c.Inv ρ σ s) (rv : VR c.hB ρ s.heap v cv) (e : attrV σ.g v a = some r) (k : Gives c.hB ρ s r Qc) : wpAny c.M A (getAttr cv a.name true) Qc E s := by
  obtain ⟨m, F, _⟩ := I.fr
  cases rv <;> try (cases a <;> cases e; done)
  · rename_i sx i r' ad hA
    obtain ⟨es, n, dx, sl, t1, t2, t3, g1, g2, g3, g4, g5⟩ := hA
    have IA : PySem.W.InstAt s.heap ad ⟨.ref 220, some dx, .plain, sl⟩ 220 (some (dictOf es n)) := ⟨Cx.stays I _ _ g1, rfl, rfl, Cx.stays I _ _ g2⟩
    cases a <;> first | cases e | skip
    · exact get_own F c.K IA (k_plain2 _ _ _) (k_has2 _ _) (k_find2 _ _ .s) rfl g3 rfl (k.tok (.str _ _))
    · exact get_own F c.K IA (k_plain2 _ _ _) (k_has2 _ _) (k_find2 _ _ .sub) rfl g4 rfl (k.tok (.int _ _))
    · exact get_own F c.K IA (k_plain2 _ _ _) (k_has2 _ _) (k_find2 _ _ .res) rfl g5 rfl (k.tok (.int _ _))
  · rename_i b ad dx hA
    have e' : (σ.g.st b).bind (getF a) = some r := by cases a <;> exact e
    obtain ⟨f, hf, hg⟩ := Option.bind_eq_some_iff.mp e'
    rcases I.g.gl.stem b with ⟨h1, _⟩ | ⟨f', a', dx', sl, es, n, h1, h2, h3, h4, h5⟩
    · rw [h1] at hf; cases hf
    · rw [h1] at hf; cases hf
      rw [h2] at hA; cases hA
      rcases h5.get a with ⟨v', cv, q1, q2, q3⟩ | ⟨q1, _⟩
      · rw [q1] at hg; cases hg
        obtain ⟨attr, f1, f2⟩ := k_find1 c.w c.X a
        exact get_own F c.K ⟨h3, rfl, rfl, h4⟩ (k_plain1 _ _ _) (k_has1 _ _) f1 f2 q2 q3.handed (k.tok q3)
      · rw [q1] at hg; cases hg

theorem e_attr {e : ME} {a : At} {v : Expr} {x : Str} {pos : Pos} (h : okE c.ns c.F.sc (.attr e a) (.Attribute v x pos) = true) (he : okE c.ns c.F.sc e v = true → c.SE e v) : c.SE (.attr e a) (.Attribute v x pos) := by
  intro A ρ σ s Qa Qc E hA I hw k
  simp only [okE, Bool.and_eq_true, beq_iff_eq] at h
  unfold awpE at hw
  obtain ⟨⟨rfl, hn⟩, hv⟩ := h
  refine Attr_ hn (he hv hA I hw fun ρ1 v σ1 c1 s1 x1 I1 r1 h1 => ?_)
  obtain ⟨r, e1, hq⟩ := h1
  exact getAttr_sound I1 r1 e1 (k.gives x1 I1 hq)

theorem e_cls {i : Nat} {c' : Str} {p : Pos} {x : Str} {pos : Pos} (h : okE c.ns c.F.sc (.cls i) (.Attribute (.Name c' p) x pos) = true) : c.SE (.cls i) (.Attribute (.Name c' p) x pos) := by
  intro A ρ σ s Qa Qc E hA I hw k
  simp only [okE, Bool.and_eq_true, beq_iff_eq] at h
  unfold awpE at hw
  obtain ⟨⟨⟨h1, h2⟩, h3⟩, rfl⟩ := h
  have h1 := Nat.le_of_ble_eq_true h1
  have h2 := Nat.le_of_ble_eq_true h2
  refine Attr_ rfl (glob_at I h3 (k_stemmer _ _) ?_)
  obtain ⟨m, F, _⟩ := I.fr
  exact cls_val F c.K (k_clsT _ _) (k_clsR _ _) (k_cls _ _ i h1 h2) rfl ((k.gives .refl I hw).tok (c.gok.cls i h1 h2 _ _ (Cx.stays I) (Cx.newB I)))

theorem e_bin {op : Bop} {a b : ME} {l r : Expr} {o : Operator} {pos : Pos} (h : okE c.ns c.F.sc (.bin op a b) (.BinOp l o r pos) = true) (ha : okE c.ns c.F.sc a l = true → c.SE a l) (hb : okE c.ns c.F.sc b r = true → c.SE b r) : c.SE (.bin op a b) (.BinOp l o r pos) := by
  intro A ρ σ s Qa Qc E hA I hw k
  simp only [okE, Bool.and_eq_true] at h
  unfold awpE at hw
  refine wpAny_BinOp (ha h.1.2 hA I hw fun ρ1 x σ1 c1 s1 x1 I1 r1 h1 => hb h.2 hA I1 h1 fun ρ2 y σ2 c2 s2 x2 I2 r2 h2 => ?_)
  obtain ⟨rr, e, hq⟩ := h2
  exact bin_sound I2.apart I2.g.gl.fresh h.1.1 e (r1.mono I1.apart x2) r2 (k.gives (x1.trans x2) I2 hq)

theorem e_neg {a : ME} {l : Expr} {pos : Pos} (h : okE c.ns c.F.sc (.neg a) (.UnaryOp .USub l pos) = true) (ha : okE c.ns c.F.sc a l = true → c.SE a l) : c.SE (.neg a) (.UnaryOp .USub l pos) := by
  intro A ρ σ s Qa Qc E hA I hw k
  simp only [okE] at h
  unfold awpE at hw
  refine wpAny_UnaryOp (ha h hA I hw fun ρ1 x σ1 c1 s1 x1 I1 r1 h1 => ?_)
  obtain ⟨i, rfl, hq⟩ := h1
  cases r1
  exact PyProof.Rows.neg_int ((k.gives x1 I1 hq).tok (.int _ _))

theorem e_cmp {op : Cop} {a b : ME} {l r : Expr} {o : CmpOp} {pos : Pos} (h : okE c.ns c.F.sc (.cmp op a b) (.Compare l [o] [r] pos) = true) (ha : okE c.ns c.F.sc a l = true → c.SE a l) (hb : okE c.ns c.F.sc b r = true → c.SE b r) : c.SE (.cmp op a b) (.Compare l [o] [r] pos) := by
  intro A ρ σ s Qa Qc E hA I hw k
  simp only [okE, Bool.and_eq_true] at h
  unfold awpE at hw
  refine wpAny_Compare1 (ha h.1.2 hA I hw fun ρ1 x σ1 c1 s1 x1 I1 r1 h1 => hb h.2 hA I1 h1 fun ρ2 y σ2 c2 s2 x2 I2 r2 h2 => ?_) (marks_okE h.2 _)
  obtain ⟨rr, e, hq⟩ := h2
  exact cmp_sound h.1.1 e (r1.mono I1.apart x2) r2 (k.val (x1.trans x2) I2 (.bool _) hq)

theorem e_idx {a b : ME} {l r : Expr} {pos : Pos} (h : okE c.ns c.F.sc (.idx a b) (.Subscript l r pos) = true) (ha : okE c.ns c.F.sc a l = true → c.SE a l) (hb : okE c.ns c.F.sc b r = true → c.SE b r) : c.SE (.idx a b) (.Subscript l r pos) := by
  intro A ρ σ s Qa Qc E hA I hw k
  simp only [okE, Bool.and_eq_true] at h
  unfold awpE at hw
  refine Subscript_ (ha h.1 hA I hw fun ρ1 x σ1 c1 s1 x1 I1 r1 h1 => hb h.2 hA I1 h1 fun ρ2 y σ2 c2 s2 x2 I2 r2 h2 => ?_)
  obtain ⟨rr, e, hq⟩ := h2
  exact idx_sound I2.g.gl e (r1.mono I1.apart x2) r2 (k.gives (x1.trans x2) I2 hq)

theorem e_slLo {a b : ME} {l r : Expr} {p pos : Pos} (h : okE c.ns c.F.sc (.slLo a b) (.Subscript l (.Slice (some r) none none p) pos) = true) (ha : okE c.ns c.F.sc a l = true → c.SE a l) (hb : okE c.ns c.F.sc b r = true → c.SE b r) :
    c.SE (.slLo a b) (.Subscript l (.Slice (some r) none none p) pos) := by
  intro A ρ σ s Qa Qc E hA I hw k
  simp only [okE, Bool.and_eq_true] at h
  unfold awpE at hw
  refine Subscript_ (ha h.1 hA I hw fun ρ1 x σ1 c1 s1 x1 I1 r1 h1 => wpAny_Slice (wpAny_evalPart_some (hb h.2 hA I1 h1 fun ρ2 y σ2 c2 s2 x2 I2 r2 h2 => wpAny_evalPart_none (wpAny_evalPart_none ?_))))
  obtain ⟨i, rr, rfl, e, hq⟩ := h2
  cases r2
  exact slice_sound I2.apart I2.g.gl.fresh1 e (r1.mono I1.apart x2) (.int _ _) .none (k.gives (x1.trans x2) I2 hq)
theorem e_slHi {a b : ME} {l r : Expr} {p pos : Pos} (h : okE c.ns c.F.sc (.slHi a b) (.Subscript l (.Slice none (some r) none p) pos) = true) (ha : okE c.ns c.F.sc a l = true → c.SE a l) (hb : okE c.ns c.F.sc b r = true → c.SE b r) :
    c.SE (.slHi a b) (.Subscript l (.Slice none (some r) none p) pos) := by
  intro A ρ σ s Qa Qc E hA I hw k
  simp only [okE, Bool.and_eq_true] at h
  unfold awpE at hw
  refine Subscript_ (ha h.1 hA I hw fun ρ1 x σ1 c1 s1 x1 I1 r1 h1 => wpAny_Slice (wpAny_evalPart_none (wpAny_evalPart_some (hb h.2 hA I1 h1 fun ρ2 y σ2 c2 s2 x2 I2 r2 h2 => wpAny_evalPart_none ?_))))
  obtain ⟨i, rr, rfl, e, hq⟩ := h2
  cases r2
  exact slice_sound I2.apart I2.g.gl.fresh1 e (r1.mono I1.apart x2) .none (.int _ _) (k.gives (x1.trans x2) I2 hq)
theorem e_slBoth {a b d : ME} {l r u : Expr} {p pos : Pos} (h : okE c.ns c.F.sc (.slBoth a b d) (.Subscript l (.Slice (some r) (some u) none p) pos) = true) (ha : okE c.ns c.F.sc a l = true → c.SE a l) (hb : okE c.ns c.F.sc b r = true → c.SE b r) (hd : okE c.ns c.F.sc d u = true → c.SE d u) :
    c.SE (.slBoth a b d) (.Subscript l (.Slice (some r) (some u) none p) pos) := by
  intro A ρ σ s Qa Qc E hA I hw k
  simp only [okE, Bool.and_eq_true] at h
  unfold awpE at hw
  refine Subscript_ (ha h.1.1 hA I hw fun ρ1 x σ1 c1 s1 x1 I1 r1 h1 => wpAny_Slice (wpAny_evalPart_some (hb h.1.2 hA I1 h1 fun ρ2 y σ2 c2 s2 x2 I2 r2 h2 => wpAny_evalPart_some (hd h.2 hA I2 h2 fun ρ3 z σ3 c3 s3 x3 I3 r3 h3 => wpAny_evalPart_none ?_))))
  obtain ⟨i, j, rr, rfl, rfl, e, hq⟩ := h3
  cases r2
  cases r3
  exact slice_sound I3.apart I3.g.gl.fresh1 e (r1.mono I1.apart (x2.trans x3)) (.int _ _) (.int _ _) (k.gives ((x1.trans x2).trans x3) I3 hq)

theorem es_nil : c.SEs .nil [] := by
  intro pos A ρ σ s Qa Qc E hA I hw k
  unfold awpEs at hw
  exact args_nil (k _ _ _ _ _ .refl I .nil hw)
theorem es_cons {e : ME} {r : MEs} {x : Expr} {xs : List Expr} (h : okEs c.ns c.F.sc (.cons e r) (x :: xs) = true) (ha : okE c.ns c.F.sc e x = true → c.SE e x) (hb : okEs c.ns c.F.sc r xs = true → c.SEs r xs) : c.SEs (.cons e r) (x :: xs) := by
  intro pos A ρ σ s Qa Qc E hA I hw k
  simp only [okEs, Bool.and_eq_true] at h
  unfold awpEs at hw
  refine args_cons (ha h.1 hA I hw fun ρ1 x σ1 c1 s1 x1 I1 r1 h1 => hb h.2 hA I1 h1 fun ρ2 y σ2 c2 s2 x2 I2 r2 h2 => ?_) (star_okE h.1 _ _)
  exact k _ _ _ _ _ (x1.trans x2) I2 (.cons (r1.mono I1.apart x2) r2) h2

theorem e_lst {es : MEs} {xs : List Expr} {pos : Pos} (h : okE c.ns c.F.sc (.lst es) (.List xs pos) = true) (ha : okEs c.ns c.F.sc es xs = true → c.SEs es xs) : c.SE (.lst es) (.List xs pos) := by
  intro A ρ σ s Qa Qc E hA I hw k
  simp only [okE] at h
  unfold awpE at hw
  refine wpAny_List (ha h hA I hw fun ρ1 vs σ1 cvs s1 x1 I1 r1 h1 => ⟨?_, ?_⟩)
  · rw [← r1.length, sizeLine_eq]; have := h1.1; unfold bound at this; omega
  · exact (k.gives x1 I1 h1.2) _ s1.toks _ keep_push (vr_list ⟨_, Heap.get?_push_size _ rfl, rfl, _, rfl⟩ I1.g.gl.fresh I1.apart keep_push r1)
end
end Mine

-- MExp3
namespace Mine
set_option maxRecDepth 100000
set_option maxHeartbeats 400000
set_option linter.unusedVariables false

theorem InvF.back {hB s₀ fl L ns} {ρ ρ' : Lay} {σ : St} {s s' : Shared} {g' : Gl} (I : InvF hB s₀ fl L ns ρ σ s) (x : Ext0 ρ s.heap ρ' s'.heap) (G : GInv hB s₀ fl ρ' g' s') : InvF hB s₀ fl L ns ρ' ⟨σ.loc, g'⟩ s' := by
  obtain ⟨m, hn, hl⟩ := I.loc
  obtain ⟨o, es, ep, ho, hr⟩ := id hn
  refine ⟨G, ⟨m, ns_slots hn fun o e => (x.keep L o I.lmut e).1.slotted, fun i x' v e1 e2 => ?_⟩, I.len, I.above, (x.keep L o I.lmut ho).2⟩
  obtain ⟨cv, h1, h2⟩ := hl i x' v e1 e2
  exact ⟨cv, h1, h2.mono ⟨m, hn⟩ (x.to L)⟩

section
variable {c : Cx} {A : Around} {ρ ρ1 : Lay} {σ σ1 : St} {s s1 : Shared} {Qc : Value → Shared → Prop} {E : Value → Shared → Prop}

theorem args_of {es : MEs} {xs : List Expr} {pos : Pos} {f : Value} {Qa : List V → St → Prop} {Q : Args → Shared → Prop} (h : okEs c.ns c.F.sc es xs = true) (hs : c.SEs es xs) (hA : AOk A c.F.fl c.d) (I : c.Inv ρ σ s) (hw : awpEs c.glob c.cls c.C es Qa σ)
    (post : c.AftS ρ s Qa (fun vs s' => Q ⟨vs, []⟩ s')) : wpAny c.M A (evalArgs f true (backTo pos (starEach xs c.F.env)) []) Q E s := by
  cases es with
  | nil =>
    cases xs with
    | nil =>
      unfold awpEs at hw
      exact evalArgs_nil3 (post _ _ _ _ _ .refl I .nil hw)
    | cons x xs => simp only [okEs, Bool.false_eq_true] at h
  | cons e r =>
    cases xs with
    | nil => simp only [okEs, Bool.false_eq_true] at h
    | cons x xs =>
      have h' := h
      simp only [okEs, Bool.and_eq_true] at h'
      have := hs (pos := pos) (E := E) hA I hw post
      rw [star_okE h'.1] at this ⊢
      exact Calls.evalArgs_plain this

theorem callWith_sound {es : MEs} {xs : List Expr} {pos : Pos} {f : Value} {first : List Value} {Qa : List V → St → Prop} {P : Heap → Prop} (h : okEs c.ns c.F.sc es xs = true) (hs : c.SEs es xs) (hA : AOk A c.F.fl c.d) (I : c.Inv ρ σ s) (hw : awpEs c.glob c.cls c.C es Qa σ)
    (hk : ∀ h, P h → ∃ k, (k = Keeper.frame ∨ k = Keeper.machine ∨ k = Keeper.boundFrame) ∧ Looks c.M h (keeperOf f) k)
    (post : c.AftS ρ s Qa (fun vs s' => P s'.heap ∧ wpAny c.M A (call f (first ++ vs)) Qc E s')) : wpAny c.M A (callWith pos f first (backTo pos (starEach xs c.F.env)) []) Qc E s := by
  refine callWith_of (P := P) ?_ hk (args_of h hs hA I hw post)
  rw [(stars_okEs h).2]; rfl

theorem keeps_bi (n : String) : ∀ h : Heap, True → ∃ k, (k = Keeper.frame ∨ k = Keeper.machine ∨ k = Keeper.boundFrame) ∧ Looks c.M h (keeperOf (.builtin n)) k := fun h _ => ⟨.machine, .inr (.inl rfl), Looks.of_pure rfl⟩

def one (Q : V → St → Prop) : List V → St → Prop
  | [v], σ => Q v σ
  | _, _ => False
def two (Q : V → V → St → Prop) : List V → St → Prop
  | [v, u], σ => Q v u σ
  | _, _ => False
def three (Q : V → V → V → St → Prop) : List V → St → Prop
  | [v, u, x], σ => Q v u x σ
  | _, _ => False
theorem one_of {Q : V → St → Prop} {vs : List V} {σ : St} (h : one Q vs σ) : ∃ v, vs = [v] ∧ Q v σ := by
  match vs, h with
  | [v], h => exact ⟨v, rfl, h⟩
theorem two_of {Q : V → V → St → Prop} {vs : List V} {σ : St} (h : two Q vs σ) : ∃ v u, vs = [v, u] ∧ Q v u σ := by
  match vs, h with
  | [v, u], h => exact ⟨v, u, rfl, h⟩
theorem three_of {Q : V → V → V → St → Prop} {vs : List V} {σ : St} (h : three Q vs σ) : ∃ v u x, vs = [v, u, x] ∧ Q v u x σ := by
  match vs, h with
  | [v, u, x], h => exact ⟨v, u, x, rfl, h⟩
theorem awp1 {glob cls : Nat → V} {C : CT} {a : ME} {Q : V → St → Prop} (h : awpE glob cls C a Q σ) : awpEs glob cls C (.cons a .nil) (one Q) σ := by
  simp only [awpEs]; exact h
theorem awp2 {glob cls : Nat → V} {C : CT} {a b : ME} {Q : V → V → St → Prop} (h : awpE glob cls C a (fun x σ => awpE glob cls C b (fun y σ => Q x y σ) σ) σ) : awpEs glob cls C (.cons a (.cons b .nil)) (two Q) σ := by
  simp only [awpEs]; exact h
theorem awp3 {glob cls : Nat → V} {C : CT} {a b d : ME} {Q : V → V → V → St → Prop} (h : awpE glob cls C a (fun x σ => awpE glob cls C b (fun y σ => awpE glob cls C d (fun z σ => Q x y z σ) σ) σ) σ) : awpEs glob cls C (.cons a (.cons b (.cons d .nil))) (three Q) σ := by
  simp only [awpEs]; exact h

/-- a call of a built-in by its name -/
theorem bi_sound {es : MEs} {xs : List Expr} {fn : Str} {p pos : Pos} {n : String} {Qa : List V → St → Prop} (hn : n = "len" ∨ n = "ord" ∨ n = "sum" ∨ n = "min" ∨ n = "max") (hg : isG c.F.sc fn (S n) = true) (h : okEs c.ns c.F.sc es xs = true) (hs : c.SEs es xs) (hA : AOk A c.F.fl c.d) (I : c.Inv ρ σ s) (hw : awpEs c.glob c.cls c.C es Qa σ)
    (post : c.AftS ρ s Qa (fun vs s' => wpAny c.M A (call (.builtin n) vs) Qc E s')) : wpAny c.M A (eval (.Call (.Name fn p) xs [] pos) c.F.env) Qc E s := by
  refine Call_ (builtin_at I hg (k_bi _ _ n hn) ?_)
  exact callWith_sound h hs hA I hw (keeps_bi n) fun ρ' v σ' cv s' x I' r q => ⟨trivial, post ρ' v σ' cv s' x I' r q⟩

theorem len_sound {v r : V} {cv : Value} {hB : Heap} (rv : VR hB ρ s.heap v cv) (e : lenV v = some r) (k : Gives hB ρ s r Qc) : wpAny c.M A (call (.builtin "len") [cv]) Qc E s := by
  cases rv <;> try (cases e; done)
  · rename_i l t
    simp only [lenV] at e
    split at e <;> cases e
    rename_i hb
    refine PyProof.Rows.len_str ?_ (k.tok (.int _ _))
    show ¬ (l.length : Int) ≥ 2 ^ 63
    unfold bound at hb; omega
  · rename_i vs xs a hl hm hv
    simp only [lenV] at e
    split at e <;> cases e
    rename_i hb
    have := hv.length
    refine PyProof.Rows.len_list hl ?_ ?_
    · rw [List.size_toArray]; unfold bound at hb; omega
    · rw [List.size_toArray, ← this]
      exact k.tok (.int _ _)

theorem sum_sound {ns : List Int} {cv : Value} {hB : Heap} (hh : A.handled = none) (rv : VR hB ρ s.heap (.list (ns.map .int)) cv) (k : Gives hB ρ s (.int ns.sum) Qc) : wpAny c.M A (call (.builtin "sum") [cv]) Qc E s := by
  cases rv
  rename_i xs a hl hm hv
  have hi := hv.ints
  obtain ⟨ys, hx⟩ := hi.allInts.items
  have hn : numsOf xs.toArray.toList = ns := by rw [show xs.toArray.toList = xs from rfl, hi.numsOf]
  rw [hx] at hl hn
  rw [nums_intItems] at hn
  refine sum_intListG hh hl fun h' tk t' hk => ?_
  rw [preSum_eq, List.take_of_length_le (by simp), hn]
  exact k _ _ _ hk (.int _ _)

theorem e_len {a : ME} {x : Expr} {fn : Str} {p pos : Pos} (h : okE c.ns c.F.sc (.len a) (.Call (.Name fn p) [x] [] pos) = true) (ha : okE c.ns c.F.sc a x = true → c.SE a x) : c.SE (.len a) (.Call (.Name fn p) [x] [] pos) := by
  intro A ρ σ s Qa Qc E hA I hw k
  simp only [okE, Bool.and_eq_true] at h
  unfold awpE at hw
  have ho : okEs c.ns c.F.sc (.cons a .nil) [x] = true := by simp only [okEs, h.2, Bool.and_self]
  refine bi_sound (es := .cons a .nil) (Qa := one fun v σ => ∃ r, lenV v = some r ∧ Qa r σ) (.inl rfl) h.1 ho (es_cons ho ha fun _ => es_nil) hA I (awp1 hw) fun ρ' vs σ' cv s' x I' r q => ?_
  obtain ⟨v, rfl, r', e, hq⟩ := one_of q
  cases r with | cons r1 r2 => cases r2; exact len_sound r1 e (k.gives x I' hq)

theorem e_ord {a : ME} {x : Expr} {fn : Str} {p pos : Pos} (h : okE c.ns c.F.sc (.ord a) (.Call (.Name fn p) [x] [] pos) = true) (ha : okE c.ns c.F.sc a x = true → c.SE a x) : c.SE (.ord a) (.Call (.Name fn p) [x] [] pos) := by
  intro A ρ σ s Qa Qc E hA I hw k
  simp only [okE, Bool.and_eq_true] at h
  unfold awpE at hw
  have ho : okEs c.ns c.F.sc (.cons a .nil) [x] = true := by simp only [okEs, h.2, Bool.and_self]
  refine bi_sound (es := .cons a .nil) (Qa := one fun v σ => ∃ c, v = .str [c] ∧ Qa (.int c) σ) (.inr (.inl rfl)) h.1 ho (es_cons ho ha fun _ => es_nil) hA I (awp1 hw) fun ρ' vs σ' cv s' x I' r q => ?_
  obtain ⟨v, rfl, ch, rfl, hq⟩ := one_of q
  cases r with | cons r1 r2 => cases r2; cases r1; exact P.ord_of_char ((k.gives x I' hq).tok (.int _ _))

theorem e_sum {a : ME} {x : Expr} {fn : Str} {p pos : Pos} (h : okE c.ns c.F.sc (.sum a) (.Call (.Name fn p) [x] [] pos) = true) (ha : okE c.ns c.F.sc a x = true → c.SE a x) : c.SE (.sum a) (.Call (.Name fn p) [x] [] pos) := by
  intro A ρ σ s Qa Qc E hA I hw k
  simp only [okE, Bool.and_eq_true] at h
  unfold awpE at hw
  have ho : okEs c.ns c.F.sc (.cons a .nil) [x] = true := by simp only [okEs, h.2, Bool.and_self]
  refine bi_sound (es := .cons a .nil) (Qa := one fun v σ => ∃ ns : List Int, v = .list (ns.map .int) ∧ Qa (.int ns.sum) σ) (.inr (.inr (.inl rfl))) h.1 ho (es_cons ho ha fun _ => es_nil) hA I (awp1 hw) fun ρ' vs σ' cv s' x I' r q => ?_
  obtain ⟨v, rfl, ns, rfl, hq⟩ := one_of q
  cases r with | cons r1 r2 => cases r2; exact sum_sound hA.handled r1 (k.gives x I' hq)

theorem VRs.one {hB : Heap} {h : Heap} {v : V} {cs : List Value} (r : VRs hB ρ h [v] cs) : ∃ c, cs = [c] ∧ VR hB ρ h v c := by
  cases r with | cons r1 r2 => cases r2; exact ⟨_, rfl, r1⟩
theorem VRs.two {hB : Heap} {h : Heap} {v u : V} {cs : List Value} (r : VRs hB ρ h [v, u] cs) : ∃ c d, cs = [c, d] ∧ VR hB ρ h v c ∧ VR hB ρ h u d := by
  cases r with | cons r1 rr => obtain ⟨d, rfl, r2⟩ := rr.one; exact ⟨_, _, rfl, r1, r2⟩
theorem VRs.three {hB : Heap} {h : Heap} {v u z : V} {cs : List Value} (r : VRs hB ρ h [v, u, z] cs) : ∃ c d e, cs = [c, d, e] ∧ VR hB ρ h v c ∧ VR hB ρ h u d ∧ VR hB ρ h z e := by
  cases r with | cons r1 rr => obtain ⟨d, e, rfl, r2, r3⟩ := rr.two; exact ⟨_, _, _, rfl, r1, r2, r3⟩

theorem min2_sound {i j : Int} {ci cj : Value} {hB : Heap} (hh : A.handled = none) (r1 : VR hB ρ s.heap (.int i) ci) (r2 : VR hB ρ s.heap (.int j) cj) (k : Gives hB ρ s (.int (min i j)) Qc) : wpAny c.M A (call (.builtin "min") [ci, cj]) Qc E s := by
  cases r1; cases r2
  refine min_two_ints hh fun h' tk kk => ?_
  split
  · rw [show min i j = j from by omega] at k
    exact k _ _ _ kk (.int _ _)
  · rw [show min i j = i from by omega] at k
    exact k _ _ _ kk (.int _ _)
theorem max2_sound {i j : Int} {ci cj : Value} {hB : Heap} (hh : A.handled = none) (r1 : VR hB ρ s.heap (.int i) ci) (r2 : VR hB ρ s.heap (.int j) cj) (k : Gives hB ρ s (.int (max i j)) Qc) : wpAny c.M A (call (.builtin "max") [ci, cj]) Qc E s := by
  cases r1; cases r2
  refine max_two_ints hh fun h' tk kk => ?_
  split
  · rw [show max i j = j from by omega] at k
    exact k _ _ _ kk (.int _ _)
  · rw [show max i j = i from by omega] at k
    exact k _ _ _ kk (.int _ _)
theorem min3_sound {i j l : Int} {ci cj cl : Value} {hB : Heap} (hh : A.handled = none) (r1 : VR hB ρ s.heap (.int i) ci) (r2 : VR hB ρ s.heap (.int j) cj) (r3 : VR hB ρ s.heap (.int l) cl) (k : Gives hB ρ s (.int (min (min i j) l)) Qc) :
    wpAny c.M A (call (.builtin "min") [ci, cj, cl]) Qc E s := by
  cases r1; cases r2; cases r3
  refine min_three_ints hh fun h' tk kk => ?_
  split
  · split
    · rw [show min (min i j) l = l from by omega] at k
      exact k _ _ _ kk (.int _ _)
    · rw [show min (min i j) l = j from by omega] at k
      exact k _ _ _ kk (.int _ _)
  · split
    · rw [show min (min i j) l = l from by omega] at k
      exact k _ _ _ kk (.int _ _)
    · rw [show min (min i j) l = i from by omega] at k
      exact k _ _ _ kk (.int _ _)

theorem e_min2 {a b : ME} {x y : Expr} {fn : Str} {p pos : Pos} (h : okE c.ns c.F.sc (.min2 a b) (.Call (.Name fn p) [x, y] [] pos) = true) (ha : okE c.ns c.F.sc a x = true → c.SE a x) (hb : okE c.ns c.F.sc b y = true → c.SE b y) : c.SE (.min2 a b) (.Call (.Name fn p) [x, y] [] pos) := by
  intro A ρ σ s Qa Qc E hA I hw k
  simp only [okE, Bool.and_eq_true] at h
  unfold awpE at hw
  have ho2 : okEs c.ns c.F.sc (.cons b .nil) [y] = true := by simp only [okEs, h.2, Bool.and_self]
  have ho : okEs c.ns c.F.sc (.cons a (.cons b .nil)) [x, y] = true := by simp only [okEs, h.1.2, h.2, Bool.and_self]
  refine bi_sound (es := .cons a (.cons b .nil)) (Qa := two fun x y σ => ∃ i j, x = .int i ∧ y = .int j ∧ Qa (.int (min i j)) σ) (.inr (.inr (.inr (.inl rfl)))) h.1.1 ho (es_cons ho ha fun _ => es_cons ho2 hb fun _ => es_nil) hA I (awp2 hw) fun ρ' vs σ' cv s' x I' r q => ?_
  obtain ⟨v, v2, rfl, i, j, rfl, rfl, hq⟩ := two_of q
  obtain ⟨ci, cj, rfl, r1, r2⟩ := r.two
  exact min2_sound hA.handled r1 r2 (k.gives x I' hq)
theorem e_max2 {a b : ME} {x y : Expr} {fn : Str} {p pos : Pos} (h : okE c.ns c.F.sc (.max2 a b) (.Call (.Name fn p) [x, y] [] pos) = true) (ha : okE c.ns c.F.sc a x = true → c.SE a x) (hb : okE c.ns c.F.sc b y = true → c.SE b y) : c.SE (.max2 a b) (.Call (.Name fn p) [x, y] [] pos) := by
  intro A ρ σ s Qa Qc E hA I hw k
  simp only [okE, Bool.and_eq_true] at h
  unfold awpE at hw
  have ho2 : okEs c.ns c.F.sc (.cons b .nil) [y] = true := by simp only [okEs, h.2, Bool.and_self]
  have ho : okEs c.ns c.F.sc (.cons a (.cons b .nil)) [x, y] = true := by simp only [okEs, h.1.2, h.2, Bool.and_self]
  refine bi_sound (es := .cons a (.cons b .nil)) (Qa := two fun x y σ => ∃ i j, x = .int i ∧ y = .int j ∧ Qa (.int (max i j)) σ) (.inr (.inr (.inr (.inr rfl)))) h.1.1 ho (es_cons ho ha fun _ => es_cons ho2 hb fun _ => es_nil) hA I (awp2 hw) fun ρ' vs σ' cv s' x I' r q => ?_
  obtain ⟨v, v2, rfl, i, j, rfl, rfl, hq⟩ := two_of q
  obtain ⟨ci, cj, rfl, r1, r2⟩ := r.two
  exact max2_sound hA.handled r1 r2 (k.gives x I' hq)
theorem e_min3 {a b d : ME} {x y z : Expr} {fn : Str} {p pos : Pos} (h : okE c.ns c.F.sc (.min3 a b d) (.Call (.Name fn p) [x, y, z] [] pos) = true) (ha : okE c.ns c.F.sc a x = true → c.SE a x) (hb : okE c.ns c.F.sc b y = true → c.SE b y) (hd : okE c.ns c.F.sc d z = true → c.SE d z) :
    c.SE (.min3 a b d) (.Call (.Name fn p) [x, y, z] [] pos) := by
  intro A ρ σ s Qa Qc E hA I hw k
  simp only [okE, Bool.and_eq_true] at h
  unfold awpE at hw
  have ho3 : okEs c.ns c.F.sc (.cons d .nil) [z] = true := by simp only [okEs, h.2, Bool.and_self]
  have ho2 : okEs c.ns c.F.sc (.cons b (.cons d .nil)) [y, z] = true := by simp only [okEs, h.1.2, h.2, Bool.and_self]
  have ho : okEs c.ns c.F.sc (.cons a (.cons b (.cons d .nil))) [x, y, z] = true := by simp only [okEs, h.1.1.2, h.1.2, h.2, Bool.and_self]
  refine bi_sound (es := .cons a (.cons b (.cons d .nil))) (Qa := three fun x y z σ => ∃ i j k, x = .int i ∧ y = .int j ∧ z = .int k ∧ Qa (.int (min (min i j) k)) σ) (.inr (.inr (.inr (.inl rfl)))) h.1.1.1 ho (es_cons ho ha fun _ => es_cons ho2 hb fun _ => es_cons ho3 hd fun _ => es_nil) hA I (awp3 hw) fun ρ' vs σ' cv s' x I' r q => ?_
  obtain ⟨v, v2, v3, rfl, i, j, l, rfl, rfl, rfl, hq⟩ := three_of q
  obtain ⟨ci, cj, cl, rfl, r1, r2, r3⟩ := r.three
  exact min3_sound hA.handled r1 r2 r3 (k.gives x I' hq)

open PySem.Txt PySem.Builtin.Str in
theorem ends_eq (l m : List Nat) : PySem.Txt.endswith ⟨l.toArray⟩ ⟨m.toArray⟩ = decide (m <:+ l) := by
  unfold PySem.Txt.endswith
  rw [StrLaws.subAt_eq]
  show (decide (0 + m.length ≤ l.length) && ((l.drop (l.length - m.length)).take m.length == m)) = _
  rw [Bool.eq_iff_iff, Bool.and_eq_true, decide_eq_true_iff, decide_eq_true_iff, beq_iff_eq, List.suffix_iff_eq_drop]
  constructor
  · rintro ⟨h1, h2⟩
    rw [List.take_of_length_le (by rw [List.length_drop]; omega)] at h2
    exact h2.symm
  · intro h
    have hl : m.length ≤ l.length := by
      have := congrArg List.length h
      rw [List.length_drop] at this; omega
    refine ⟨by omega, ?_⟩
    rw [List.take_of_length_le (by rw [List.length_drop]; omega)]
    exact h.symm
theorem e_ends {a b : ME} {v x : Expr} {n : Str} {apos pos : Pos} (h : okE c.ns c.F.sc (.ends a b) (.Call (.Attribute v n apos) [x] [] pos) = true) (ha : okE c.ns c.F.sc a v = true → c.SE a v) (hb : okE c.ns c.F.sc b x = true → c.SE b x) : c.SE (.ends a b) (.Call (.Attribute v n apos) [x] [] pos) := by
  intro A ρ σ s Qa Qc E hA I hw k
  simp only [okE, Bool.and_eq_true] at h
  unfold awpE at hw
  obtain ⟨⟨⟨⟨hn, hc⟩, hp⟩, h1⟩, h2⟩ := h
  have hn := beq_iff_eq.mp hn
  subst hn
  have ho : okEs c.ns c.F.sc (.cons b .nil) [x] = true := by simp only [okEs, h2, Bool.and_self]
  refine Meth_ hc hp (show 1 < 30 by decide) (stars_okEs ho).1 (ha h1 hA I hw fun ρ1 x1 σ1 c1 s1 e1 I1 r1 q1 pl => ?_)
  obtain ⟨l, rfl, q1⟩ := q1
  cases r1
  refine GM.endswith ?_
  refine callWith_sound (es := .cons b .nil) (Qa := one fun y σ => ∃ m, y = .str m ∧ Qa (.bool (decide (m <:+ l))) σ) ho (es_cons ho hb fun _ => es_nil) hA I1 (awp1 q1) (keeps_bi _) fun ρ' vs σ' cv s' x I' r q => ⟨trivial, ?_⟩
  obtain ⟨y, rfl, m, rfl, hq⟩ := one_of q
  obtain ⟨cy, rfl, r1⟩ := r.one
  cases r1
  refine SC.endswith ?_
  rw [ends_eq]
  exact k.val (e1.trans x) I' (.bool _) hq

theorem keeps_fa {f : Nat} (hf : f < 35) (h : Heap) (X : (KK c.w c.X).In h) : ∃ k, (k = Keeper.frame ∨ k = Keeper.machine ∨ k = Keeper.boundFrame) ∧ Looks c.M h (keeperOf (.ref (fa f))) k := keeps_K (k_fn c.w c.X ⟨f, hf⟩).2 h X
theorem blt_lt {a b : Nat} (h : Nat.blt a b = true) : a < b := Nat.le_of_ble_eq_true h

theorem e_call {f : Nat} {es : MEs} {xs : List Expr} {fn : Str} {p pos : Pos} (h : okE c.ns c.F.sc (.call f es) (.Call (.Name fn p) xs [] pos) = true) (hs : okEs c.ns c.F.sc es xs = true → c.SEs es xs) : c.SE (.call f es) (.Call (.Name fn p) xs [] pos) := by
  intro A ρ σ s Qa Qc E hA I hw k
  simp only [okE, Bool.and_eq_true] at h
  unfold awpE at hw
  obtain ⟨⟨⟨h15, h35⟩, hg⟩, ho⟩ := h
  refine Call_ (glob_at I hg (k_law _ _ f (Nat.le_of_ble_eq_true h15) (blt_lt h35)) ?_)
  refine callWith_sound ho (hs ho) hA I hw (keeps_fa (blt_lt h35)) fun ρ' vs σ' cv s' x I' r q => ⟨Cx.Ks I', wpAny_call ?_⟩
  exact c.sc (blt_lt h35) hA.weak I'.g q r fun ρ2 v g2 cv s2 x2 G2 r2 q2 => k.val (x.trans (x2.to _)) (I'.back x2 G2) r2 q2

theorem FR.other {hB : Heap} {h : Heap} {f : Fields} {es : List DictEntry} (r : FR hB ρ h f es) {n : Str} (hn : ∀ a : At, a.name ≠ n) : getL n es = some none := by
  have key : es.find? (·.key.isStr n) = none ∧ es.any (·.refKey) = false := by
    induction r with
    | nil => exact ⟨rfl, rfl⟩
    | @cons b v hs t c f es hv hr ih =>
      have hf : (DictEntry.mk hs (.str b.name t) c).key.isStr n = false := by
        show (b.name == n) = false
        rw [beq_eq_false_iff_ne]
        exact hn b
      refine ⟨?_, ?_⟩
      · rw [List.find?_cons, hf]; exact ih.1
      · rw [List.any_cons, ih.2]; rfl
  unfold getL; rw [key.1, key.2]; rfl
theorem names_apart (a : At) (f : Fin 15) : a.name ≠ fname f := by
  have : ∀ a : At, (List.range 15).all (fun f => a.name != fname f) = true := by intro a; cases a <;> decide
  have := List.all_eq_true.mp (this a) f.1 (List.mem_range.mpr f.2)
  exact bne_iff_ne.mp this

theorem e_meth {f : Nat} {o : ME} {es : MEs} {v : Expr} {xs : List Expr} {n : Str} {apos pos : Pos} (h : okE c.ns c.F.sc (.meth f o es) (.Call (.Attribute v n apos) xs [] pos) = true) (ha : okE c.ns c.F.sc o v = true → c.SE o v) (hs : okEs c.ns c.F.sc es xs = true → c.SEs es xs) :
    c.SE (.meth f o es) (.Call (.Attribute v n apos) xs [] pos) := by
  intro A ρ σ s Qa Qc E hA I hw k
  simp only [okE, Bool.and_eq_true] at h
  unfold awpE at hw
  obtain ⟨⟨⟨⟨⟨⟨h15, hn⟩, hc⟩, hp⟩, hl⟩, h1⟩, ho⟩ := h
  have hn := beq_iff_eq.mp hn
  subst hn
  have h15 := blt_lt h15
  refine Meth_ hc hp (of_decide_eq_true hl) (stars_okEs ho).1 (ha h1 hA I hw fun ρ1 x1 σ1 c1 s1 e1 I1 r1 q1 pl => ?_)
  obtain ⟨b, rfl, hsome, q1⟩ := q1
  cases r1
  rename_i ad dx hA'
  obtain ⟨m, F, _⟩ := I1.fr
  rcases I1.g.gl.stem b with ⟨z1, _⟩ | ⟨fl, a', dx', sl, ees, nn, z1, z2, z3, z4, z5⟩
  · rw [z1] at hsome; cases hsome
  · rw [z2] at hA'; cases hA'
    have IA : PySem.W.InstAt s1.heap ad ⟨.ref 927, some dx, .plain, sl⟩ 927 (some (dictOf ees nn)) := ⟨z3, rfl, rfl, z4⟩
    refine method_inst F c.K IA (k_plain1 _ _ _) (k_meth _ _ ⟨f, h15⟩) (k_fn _ _ ⟨f, by omega⟩).1 (z5.other fun a => names_apart a ⟨f, h15⟩) ?_
    refine callWith_sound ho (hs ho) hA I1 q1 (keeps_fa (by omega)) fun ρ' vs σ' cv s' x I' r q => ⟨Cx.Ks I', wpAny_call ?_⟩
    exact c.sc (by omega) hA.weak I'.g q (.cons (.stem (x.le.s _ _ z2)) r) fun ρ2 v g2 cv s2 x2 G2 r2 q2 => k.val ((e1.trans x).trans (x2.to _)) (I'.back x2 G2) r2 q2
end
end Mine

-- MExp4
namespace Mine
set_option maxRecDepth 100000
set_option maxHeartbeats 400000
set_option linter.unusedVariables false

theorem funFrames_some {h base : Heap} : ∀ {l : List Env}, h.FunFrames base l → ∀ env ∈ l, ∀ L, env.frame = some L → ∃ o, h.get? L = some o
  | env :: r, ⟨hk, ⟨L, o, hf, hn, ho, hd⟩, hr⟩, e, he, L', hL => by
    rcases List.mem_cons.mp he with rfl | he
    · rw [hf] at hL; cases hL; exact ⟨o, ho⟩
    · exact funFrames_some hr e he L' hL

/-- the layout changes, all that stood stays -/
theorem GInv.relay {hB s₀ fl ρ g s} (I : GInv hB s₀ fl ρ g s) {ρ' : Lay} {g' : Gl} {h' : Heap} {tk : Nat} (k : ∀ b o, s.heap.get? b = some o → h'.get? b = some o)
    (G : GlR hB s₀.heap ρ' g' h') (hm : ∀ b o, s.heap.get? b = some o → ¬ ρ.mut b → ¬ ρ'.mut b) : GInv hB s₀ fl ρ' g' { s with heap := h', toks := tk } := by
  refine ⟨fun b o e => k b o (I.keep b o e), G, funFrames_mono (fun env he L hL o ho => ⟨o, k _ _ ho, fun _ h => h⟩) I.frames, fun env he L hL => ?_, I.gens, I.drawn, I.os⟩
  obtain ⟨o, ho⟩ := funFrames_some I.frames env he L hL
  exact hm L o ho (I.fmut env he L hL)

section
variable {c : Cx} {A : Around} {ρ ρ1 : Lay} {σ σ1 : St} {s s1 : Shared} {Qa : V → St → Prop} {Qc : Value → Shared → Prop} {E : Value → Shared → Prop}

theorem none_size {s : Shared} {s₀ : Shared} (k : ∀ b o, s₀.heap.get? b = some o → s.heap.get? b = some o) {a : Addr} (h : s.heap.objs.size ≤ a) : s₀.heap.get? a = none := by
  cases e : s₀.heap.get? a with
  | none => rfl
  | some o => exact absurd (Heap.lt_size (k _ _ e)) (Nat.not_lt.mpr h)

theorem tape_made (I : c.Inv ρ σ s) (hg : σ.g.tape = none) {vs : List V} {cvs : List Value} (r : VRs c.hB ρ s.heap vs cvs) :
    ∃ ρ', Ext0 ρ s.heap ρ' (s.heap.push { cls := .type "list", data := .seq cvs.toArray }) ∧ c.Inv ρ' ⟨σ.loc, { σ.g with tape := some vs }⟩ { s with heap := s.heap.push { cls := .type "list", data := .seq cvs.toArray } } ∧ ρ'.tA = some s.heap.objs.size := by
  have ht : ρ.tA = none := by
    rcases I.g.gl.tape with ⟨_, h⟩ | ⟨vs, a, xs, h, _⟩
    · exact h
    · rw [hg] at h; cases h
  have hm : ∀ b o, s.heap.get? b = some o → ¬ ρ.mut b → ¬ Lay.mut ⟨some s.heap.objs.size, ρ.sA⟩ b := by
    rintro b o e h (h2 | h2)
    · cases h2; exact absurd (Heap.lt_size e) (Nat.lt_irrefl _)
    · exact h (.inr h2)
  have X : Ext0 ρ s.heap ⟨some s.heap.objs.size, ρ.sA⟩ (s.heap.push { cls := .type "list", data := .seq cvs.toArray }) :=
    ⟨fun b o hb e => ⟨.of (keep_push _ _ e), hm b o e hb⟩, ⟨(fun a h => by rw [ht] at h; cases h), fun _ _ h => h⟩⟩
  refine ⟨_, X, ?_, rfl⟩
  have A := I.apart
  have G : GlR c.hB c.s₀.heap ⟨some s.heap.objs.size, ρ.sA⟩ { σ.g with tape := some vs } (s.heap.push { cls := .type "list", data := .seq cvs.toArray }) := by
    refine ⟨.inr ⟨vs, _, cvs, rfl, rfl, ⟨_, Heap.get?_push_size _ rfl, rfl, _, rfl⟩, r.mono A (X.to _)⟩, fun b => ?_, I.g.gl.apart, ?_⟩
    · have hst : ({ σ.g with tape := some vs } : Gl).st b = σ.g.st b := by cases b <;> rfl
      rcases I.g.gl.stem b with h | ⟨f, a, dx, sl, es, n, h1, h2, h3, h4, h5⟩
      · exact .inl (by rw [hst]; exact h)
      · exact .inr ⟨f, a, dx, sl, es, n, by rw [hst]; exact h1, h2, keep_push _ _ h3, keep_push _ _ h4, h5.mono A (X.to _)⟩
    · rintro a (h | h)
      · cases h; exact none_size I.g.keep (Nat.le_refl _)
      · exact I.g.gl.new a (.inr h)
  exact I.back X (I.g.relay keep_push G hm)

theorem e_newTape {es : MEs} {xs : List Expr} {pos : Pos} (h : okE c.ns c.F.sc (.newTape es) (.List xs pos) = true) (ha : okEs c.ns c.F.sc es xs = true → c.SEs es xs) : c.SE (.newTape es) (.List xs pos) := by
  intro A ρ σ s Qa Qc E hA I hw k
  simp only [okE] at h
  unfold awpE at hw
  refine wpAny_List (ha h hA I hw fun ρ1 vs σ1 cvs s1 x1 I1 r1 h1 => ⟨?_, ?_⟩)
  · rw [← r1.length, sizeLine_eq]; have := h1.1; unfold bound at this; omega
  · obtain ⟨ρ2, x2, I2, t2⟩ := tape_made I1 h1.2.1 r1
    exact k.val (x1.trans (x2.to _)) I2 (.tape t2) h1.2.2

theorem stem_made (I : c.Inv ρ σ s) {b : Bool} (hg : σ.g.st b = none) :
    ∃ ρ', Ext0 ρ s.heap ρ' ((s.heap.push emptyDict).push (instObj 927 s.heap.objs.size)) ∧ c.Inv ρ' ⟨σ.loc, σ.g.setSt b []⟩ { s with heap := (s.heap.push emptyDict).push (instObj 927 s.heap.objs.size) } ∧ ρ'.sA b = some (s.heap.objs.size + 1, s.heap.objs.size) := by
  have ht : ρ.sA b = none := by
    rcases I.g.gl.stem b with ⟨_, h⟩ | ⟨vs, a, xs, _, _, _, h, _⟩
    · exact h
    · rw [hg] at h; cases h
  have kk : ∀ b o, s.heap.get? b = some o → ((s.heap.push emptyDict).push (instObj 927 s.heap.objs.size)).get? b = some o := fun b o e => keep_push _ _ (keep_push _ _ e)
  have hm : ∀ a o, s.heap.get? a = some o → ¬ ρ.mut a → ¬ Lay.mut ⟨ρ.tA, fun b' => if b' = b then some (s.heap.objs.size + 1, s.heap.objs.size) else ρ.sA b'⟩ a := by
    rintro a o e h (h2 | ⟨b', i, h2⟩)
    · exact h (.inl h2)
    · dsimp only at h2
      split at h2
      · cases h2; exact absurd (Heap.lt_size e) (Nat.lt_irrefl _)
      · exact h (.inr ⟨b', i, h2⟩)
  have X : Ext0 ρ s.heap ⟨ρ.tA, fun b' => if b' = b then some (s.heap.objs.size + 1, s.heap.objs.size) else ρ.sA b'⟩ ((s.heap.push emptyDict).push (instObj 927 s.heap.objs.size)) :=
    ⟨fun a o ha e => ⟨.of (kk _ _ e), hm a o e ha⟩, ⟨(fun a h => h), fun b' p h => by
      show (if b' = b then _ else ρ.sA b') = some p
      rw [if_neg (by rintro rfl; rw [ht] at h; cases h)]; exact h⟩⟩
  refine ⟨_, X, ?_, by show (if b = b then _ else _) = _; rw [if_pos rfl]⟩
  have A := I.apart
  have G : GlR c.hB c.s₀.heap ⟨ρ.tA, fun b' => if b' = b then some (s.heap.objs.size + 1, s.heap.objs.size) else ρ.sA b'⟩ (σ.g.setSt b []) ((s.heap.push emptyDict).push (instObj 927 s.heap.objs.size)) := by
    refine ⟨?_, fun b' => ?_, ?_, ?_⟩
    · have hst : (σ.g.setSt b []).tape = σ.g.tape := by cases b <;> rfl
      rcases I.g.gl.tape with h | ⟨vs, a, xs, h1, h2, ⟨o, ho, hc, hd⟩, h4⟩
      · exact .inl (by rw [hst]; exact h)
      · exact .inr ⟨vs, a, xs, by rw [hst]; exact h1, h2, ⟨o, kk _ _ ho, hc, hd⟩, h4.mono A (X.to _)⟩
    · by_cases hb : b' = b
      · subst hb
        refine .inr ⟨[], s.heap.objs.size + 1, s.heap.objs.size, #[], [], 0, by cases b' <;> rfl, by show (if b' = b' then _ else _) = _; rw [if_pos rfl], ?_, ?_, .nil⟩
        · have := Heap.get?_push_size (s.heap.push emptyDict) (o := instObj 927 s.heap.objs.size) rfl
          rw [Heap.size_push] at this; exact this
        · exact keep_push _ _ (Heap.get?_push_size _ rfl)
      · have hst : (σ.g.setSt b []).st b' = σ.g.st b' := by cases b <;> cases b' <;> first | rfl | exact absurd rfl hb
        have hsa : (if b' = b then some (s.heap.objs.size + 1, s.heap.objs.size) else ρ.sA b') = ρ.sA b' := if_neg hb
        rcases I.g.gl.stem b' with h | ⟨f, a, dx, sl, es, n, h1, h2, h3, h4, h5⟩
        · exact .inl ⟨by rw [hst]; exact h.1, by show (if b' = b then _ else ρ.sA b') = _; rw [hsa]; exact h.2⟩
        · exact .inr ⟨f, a, dx, sl, es, n, by rw [hst]; exact h1, by show (if b' = b then _ else ρ.sA b') = _; rw [hsa]; exact h2, kk _ _ h3, kk _ _ h4, h5.mono A (X.to _)⟩
    · intro b1 b2 i1 i2 a h1 h2
      have old : ∀ b3 i3, ρ.sA b3 = some (i3, s.heap.objs.size) → False := fun b3 i3 h => I.g.gl.fresh (.inr ⟨b3, i3, h⟩)
      dsimp only at h1 h2
      split at h1 <;> split at h2
      · rename_i e1 e2; rw [e1, e2]
      · cases h1; exact (old _ _ h2).elim
      · cases h2; exact (old _ _ h1).elim
      · exact I.g.gl.apart _ _ _ _ _ h1 h2
    · rintro a (h | ⟨b', i, h⟩)
      · exact I.g.gl.new a (.inl h)
      · dsimp only at h
        split at h
        · cases h; exact none_size I.g.keep (Nat.le_refl _)
        · exact I.g.gl.new a (.inr ⟨b', i, h⟩)
  exact I.back X (I.g.relay kk G hm)

theorem e_newStem {b : Bool} {fn : Str} {p pos : Pos} (h : okE c.ns c.F.sc (.newStem b) (.Call (.Name fn p) [] [] pos) = true) : c.SE (.newStem b) (.Call (.Name fn p) [] [] pos) := by
  intro A ρ σ s Qa Qc E hA I hw k
  simp only [okE] at h
  unfold awpE at hw
  refine Call_ (glob_at I h (k_stemmer _ _) ?_)
  refine callWith_of (P := (KK c.w c.X).In) rfl (keeps_K (k_keepT _ _)) (evalArgs_nil3 ⟨Cx.Ks I, wpAny_call ?_⟩)
  obtain ⟨ρ2, x2, I2, t2⟩ := stem_made I hw.1
  have X := Cx.Ks I
  obtain ⟨hh, g, dr, tk, os⟩ := s
  refine make_core (makes_of X (k_makes _ _)) (looks_findIn X (k_init _ _)) (fun self => bind_fn X self (k_type0 _ _)) (.inl rfl) ?_
  have hA2 : AOk0 (A.under (.builtin "type.__call__" ⟨[.ref 927], []⟩)) c.F.fl c.d := by
    refine ⟨hA.handled, ?_, ?_⟩
    · have e : (A.under (.builtin "type.__call__" ⟨[.ref 927], []⟩)).frames = pushEnvs (Code.envs (.builtin "type.__call__" ⟨[.ref 927], []⟩)) A.frames := rfl
      rw [e, hA.frames]; rfl
    · show A.depth + 1 + 4 * c.d + 2 ≤ 1000
      have := hA.depth; omega
  refine c.sc (f := 0) (by decide) hA2 I2.g hw.2 (.cons (.stem t2) .nil) fun ρ3 v g3 cv s3 x3 G3 r3 q3 => ?_
  obtain ⟨rfl, q3⟩ := q3
  cases r3
  refine And.intro rfl ?_
  exact k.val ((x2.to _).trans (x3.to _)) (I2.back x3 G3) (.stem (x3.le.s _ _ t2)) q3
end
end Mine

-- MExp5
namespace Mine
set_option maxRecDepth 100000
set_option maxHeartbeats 400000
set_option linter.unusedVariables false

structure CompOk (cs : Scope) (x : Str) : Prop where
  kind : cs.kind = .function
  free : ∀ y ∈ cs.names, y.2 ≠ .free
  cell : ∀ y ∈ cs.names, y.2 ≠ .cell
  loc : ∀ y ∈ cs.names, y.2 = .local → cs.names.lookup y.1 = some .local
  x : cs.names.lookup x = some .local
theorem compOk_of {cs : Scope} {x : Str} (h : compOk cs x = true) : CompOk cs x := by
  unfold compOk at h
  simp only [Bool.and_eq_true, beq_iff_eq, List.all_eq_true, bne_iff_ne, ne_eq, Bool.or_eq_true] at h
  obtain ⟨⟨h1, h2⟩, h3⟩ := h
  refine ⟨h1, fun y hy => (h2 y hy).1.1, fun y hy => (h2 y hy).1.2, fun y hy e => ?_, h3⟩
  rcases (h2 y hy).2 with h | h
  · exact absurd e h
  · exact h

theorem folded_okE {ns : List Str} {sc : Scope} {e : ME} {x : Expr} (h : okE ns sc e x = true) (env : Env) (v : Value) : foldedSetIterable x env v = pure v := by
  cases x <;> try rfl
  exfalso
  cases e <;> simp only [okE, Bool.false_eq_true] at h

section
variable {c : Cx} {A : Around} {ρ ρ1 : Lay} {σ σ1 : St} {s s1 : Shared} {Qa : V → St → Prop} {Qc : Value → Shared → Prop} {E : Value → Shared → Prop}

theorem pair_vrs {hB : Heap} {h h' : Heap} : ∀ {cs ys : List Value} {vs : List V}, Paired (LstIs h (fun v its => its = #[v]) h') cs ys → VRs hB ρ h' vs cs → (∀ T, h.get? T = none → ¬ ρ.mut T) → VRs hB ρ h' (vs.map fun v => .list [v]) ys
  | _, _, _, .nil, .nil, _ => .nil
  | _, _, _, .cons hF r, .cons a b, k => by
    obtain ⟨T, its, rfl, h1, h2, rfl⟩ := hF
    exact .cons (.list (xs := [_]) h2 (k T h1) (.cons a .nil)) (pair_vrs r b k)

theorem e_comp2 {a : ME} {x y : Str} {px py lp pos : Pos} {it : Expr} {cs : Scope} (h : okE c.ns c.F.sc (.comp2 a) (.ListComp (.List [.Name x px] lp) [⟨.Name y py, it, [], 0⟩] cs pos) = true) (ha : okE c.ns c.F.sc a it = true → c.SE a it) :
    c.SE (.comp2 a) (.ListComp (.List [.Name x px] lp) [⟨.Name y py, it, [], 0⟩] cs pos) := by
  intro A ρ σ s Qa Qc E hA I hw k
  simp only [okE, Bool.and_eq_true, beq_iff_eq] at h
  unfold awpE at hw
  obtain ⟨⟨⟨rfl, rfl⟩, hc⟩, h1⟩ := h
  have ok := compOk_of hc
  refine wpAny_ListComp_freeO (cl := []) (fun _ => true) (fun v its => its = #[v]) (closureFor_none ok.free) ok.cell ok.kind ok.loc ok.x (ha h1 hA I hw fun ρ1 x σ1 c1 s1 e1 I1 r1 q1 => ?_) (folded_okE h1 _)
  obtain ⟨xs, rfl, hlen, hq⟩ := q1
  cases r1
  rename_i its ad hl hm hv
  have hlt : ad < s1.heap.objs.size := by obtain ⟨o, ho, _⟩ := id hl; exact Heap.lt_size ho
  have hsz : its.toArray.size ≤ 100 := by rw [List.size_toArray, ← hv.length]; exact hlen
  refine wpAny_pyIter_list hl ⟨_, _, _, _, _, _, rfl, Walks.list hA.handled s1.heap.objs.size ad (Nat.ne_of_lt hlt) its.toArray, by rw [sizeLine_eq]; omega, ?_, ⟨⟨_, Heap.get?_push_size _ rfl, rfl, rfl⟩, hl.push _⟩, ?_, ⟨?_, ?_⟩, ?_⟩
  · rintro i h ⟨⟨o, ho, _⟩, _⟩ b hb
    obtain rfl := List.mem_singleton.mp hb
    exact ⟨o, ho⟩
  · intro b hb
    dsimp only
    rw [Heap.size_push]
    rcases List.mem_cons.mp hb with rfl | hb
    · exact Nat.lt_succ_self _
    · obtain rfl := List.mem_singleton.mp hb
      exact Nat.lt_succ_of_lt hlt
  · intro C i v s3 m3 E' _ _ _ _ _ _
    exact wpAny_pure ⟨rfl, s3.heap, s3.toks, rfl, fun _ _ e => e⟩
  · intro C i v s3 m3 E' _ _ _ hn hmv _ _
    refine wpAny_List (args_cons (wpAny_Name (wpAny_loadName_local ok.kind (lookup_relabel_local ok.x) hn hmv (args_nil ?_))))
    refine ⟨by rw [sizeLine_eq]; simp, ⟨_, #[v], rfl, ?_, ⟨_, Heap.get?_push_size _ rfl, rfl, _, rfl⟩, rfl⟩, ⟨_, _, rfl, keep_push⟩⟩
    exact none_size (s := s3) (s₀ := s3) (fun _ _ e => e) (Nat.le_refl _)
  · intro D h' tk ys vs hD hl' _ hn hP hF _ _ hk
    have kk : ∀ b o, s1.heap.get? b = some o → h'.get? b = some o := fun b o e => hk b o (by
      intro hb; obtain rfl := List.mem_singleton.mp hb; exact absurd (Heap.lt_size e) (Nat.lt_irrefl _)) (keep_push _ _ e)
    have hvs : vs = its := by
      apply List.ext_getElem?
      intro j
      by_cases hj : j < vs.length
      · have := hP j _ (List.getElem?_eq_getElem hj)
        rw [List.getElem?_eq_getElem hj]
        simpa using this.symm
      · rw [List.getElem?_eq_none (by omega), List.getElem?_eq_none (by rw [hn, List.size_toArray] at hj; omega)]
    subst hvs
    have hmut : ∀ T, (s1.heap.push { cls := .type "list_iterator", data := .fields #[.ref ad, .int 0 0] }).get? T = none → ¬ ρ1.mut T := fun T hT m => by
      obtain ⟨o, ho⟩ := I1.g.gl.mut_some m
      rw [keep_push _ _ ho] at hT; cases hT
    rw [List.filter_eq_self.mpr (by intro _ _; rfl)] at hF
    have rr := pair_vrs hF (hv.mono I1.apart (.of_keep kk)) hmut
    exact k.gives e1 I1 hq _ _ _ kk (.list (xs := ys.toList) (by simpa using hl') (hmut D hD) rr)
end

end Mine

-- MExp6
namespace Mine
set_option maxRecDepth 100000
set_option maxHeartbeats 4000000
set_option linter.unusedVariables false
section
variable {c : Cx}
theorem xe_bin {op : Bop} {a b : ME} {x : Expr} (h : okE c.ns c.F.sc (.bin op a b) x = true) (ha : ∀ y, okE c.ns c.F.sc a y = true → c.SE a y) (hb : ∀ y, okE c.ns c.F.sc b y = true → c.SE b y) : c.SE (.bin op a b) x := by
  have h' := h
  unfold okE at h'
  split at h' <;> first | contradiction | skip
  rename_i heq
  cases heq
  exact e_bin h (ha _) (hb _)
theorem xe_neg {a : ME} {x : Expr} (h : okE c.ns c.F.sc (.neg a) x = true) (ha : ∀ y, okE c.ns c.F.sc a y = true → c.SE a y) : c.SE (.neg a) x := by
  have h' := h
  unfold okE at h'
  split at h' <;> first | contradiction | skip
  rename_i heq
  cases heq
  exact e_neg h (ha _)
theorem xe_cmp {op : Cop} {a b : ME} {x : Expr} (h : okE c.ns c.F.sc (.cmp op a b) x = true) (ha : ∀ y, okE c.ns c.F.sc a y = true → c.SE a y) (hb : ∀ y, okE c.ns c.F.sc b y = true → c.SE b y) : c.SE (.cmp op a b) x := by
  have h' := h
  unfold okE at h'
  split at h' <;> first | contradiction | skip
  rename_i heq
  cases heq
  exact e_cmp h (ha _) (hb _)
theorem xe_attr {at' : At} {a : ME} {x : Expr} (h : okE c.ns c.F.sc (.attr a at') x = true) (ha : ∀ y, okE c.ns c.F.sc a y = true → c.SE a y) : c.SE (.attr a at') x := by
  have h' := h
  unfold okE at h'
  split at h' <;> first | contradiction | skip
  rename_i heq
  cases heq
  exact e_attr h (ha _)
theorem xe_cls {k : Nat} {x : Expr} (h : okE c.ns c.F.sc (.cls k) x = true) : c.SE (.cls k) x := by
  have h' := h
  unfold okE at h'
  split at h' <;> first | contradiction | skip
  rename_i heq
  cases heq
  exact e_cls h
theorem xe_idx {a b : ME} {x : Expr} (h : okE c.ns c.F.sc (.idx a b) x = true) (ha : ∀ y, okE c.ns c.F.sc a y = true → c.SE a y) (hb : ∀ y, okE c.ns c.F.sc b y = true → c.SE b y) : c.SE (.idx a b) x := by
  have h' := h
  unfold okE at h'
  split at h' <;> first | contradiction | skip
  rename_i heq
  cases heq
  exact e_idx h (ha _) (hb _)
theorem xe_slLo {a b : ME} {x : Expr} (h : okE c.ns c.F.sc (.slLo a b) x = true) (ha : ∀ y, okE c.ns c.F.sc a y = true → c.SE a y) (hb : ∀ y, okE c.ns c.F.sc b y = true → c.SE b y) : c.SE (.slLo a b) x := by
  have h' := h
  unfold okE at h'
  split at h' <;> first | contradiction | skip
  rename_i heq
  cases heq
  exact e_slLo h (ha _) (hb _)
theorem xe_slHi {a b : ME} {x : Expr} (h : okE c.ns c.F.sc (.slHi a b) x = true) (ha : ∀ y, okE c.ns c.F.sc a y = true → c.SE a y) (hb : ∀ y, okE c.ns c.F.sc b y = true → c.SE b y) : c.SE (.slHi a b) x := by
  have h' := h
  unfold okE at h'
  split at h' <;> first | contradiction | skip
  rename_i heq
  cases heq
  exact e_slHi h (ha _) (hb _)
theorem xe_slBoth {a b d : ME} {x : Expr} (h : okE c.ns c.F.sc (.slBoth a b d) x = true) (ha : ∀ y, okE c.ns c.F.sc a y = true → c.SE a y) (hb : ∀ y, okE c.ns c.F.sc b y = true → c.SE b y) (hd : ∀ y, okE c.ns c.F.sc d y = true → c.SE d y) : c.SE (.slBoth a b d) x := by
  have h' := h
  unfold okE at h'
  split at h' <;> first | contradiction | skip
  rename_i heq
  cases heq
  exact e_slBoth h (ha _) (hb _) (hd _)
theorem xe_len {a : ME} {x : Expr} (h : okE c.ns c.F.sc (.len a) x = true) (ha : ∀ y, okE c.ns c.F.sc a y = true → c.SE a y) : c.SE (.len a) x := by
  have h' := h
  unfold okE at h'
  split at h' <;> first | contradiction | skip
  rename_i heq
  cases heq
  exact e_len h (ha _)
theorem xe_ord {a : ME} {x : Expr} (h : okE c.ns c.F.sc (.ord a) x = true) (ha : ∀ y, okE c.ns c.F.sc a y = true → c.SE a y) : c.SE (.ord a) x := by
  have h' := h
  unfold okE at h'
  split at h' <;> first | contradiction | skip
  rename_i heq
  cases heq
  exact e_ord h (ha _)
theorem xe_sum {a : ME} {x : Expr} (h : okE c.ns c.F.sc (.sum a) x = true) (ha : ∀ y, okE c.ns c.F.sc a y = true → c.SE a y) : c.SE (.sum a) x := by
  have h' := h
  unfold okE at h'
  split at h' <;> first | contradiction | skip
  rename_i heq
  cases heq
  exact e_sum h (ha _)
theorem xe_min2 {a b : ME} {x : Expr} (h : okE c.ns c.F.sc (.min2 a b) x = true) (ha : ∀ y, okE c.ns c.F.sc a y = true → c.SE a y) (hb : ∀ y, okE c.ns c.F.sc b y = true → c.SE b y) : c.SE (.min2 a b) x := by
  have h' := h
  unfold okE at h'
  split at h' <;> first | contradiction | skip
  rename_i heq
  cases heq
  exact e_min2 h (ha _) (hb _)
theorem xe_min3 {a b d : ME} {x : Expr} (h : okE c.ns c.F.sc (.min3 a b d) x = true) (ha : ∀ y, okE c.ns c.F.sc a y = true → c.SE a y) (hb : ∀ y, okE c.ns c.F.sc b y = true → c.SE b y) (hd : ∀ y, okE c.ns c.F.sc d y = true → c.SE d y) : c.SE (.min3 a b d) x := by
  have h' := h
  unfold okE at h'
  split at h' <;> first | contradiction | skip
  rename_i heq
  cases heq
  exact e_min3 h (ha _) (hb _) (hd _)
theorem xe_max2 {a b : ME} {x : Expr} (h : okE c.ns c.F.sc (.max2 a b) x = true) (ha : ∀ y, okE c.ns c.F.sc a y = true → c.SE a y) (hb : ∀ y, okE c.ns c.F.sc b y = true → c.SE b y) : c.SE (.max2 a b) x := by
  have h' := h
  unfold okE at h'
  split at h' <;> first | contradiction | skip
  rename_i heq
  cases heq
  exact e_max2 h (ha _) (hb _)
theorem xe_ends {a b : ME} {x : Expr} (h : okE c.ns c.F.sc (.ends a b) x = true) (ha : ∀ y, okE c.ns c.F.sc a y = true → c.SE a y) (hb : ∀ y, okE c.ns c.F.sc b y = true → c.SE b y) : c.SE (.ends a b) x := by
  have h' := h
  unfold okE at h'
  split at h' <;> first | contradiction | skip
  rename_i heq
  cases heq
  exact e_ends h (ha _) (hb _)
theorem xe_lst {es : MEs} {x : Expr} (h : okE c.ns c.F.sc (.lst es) x = true) (hes : ∀ y, okEs c.ns c.F.sc es y = true → c.SEs es y) : c.SE (.lst es) x := by
  have h' := h
  unfold okE at h'
  split at h' <;> first | contradiction | skip
  rename_i heq
  cases heq
  exact e_lst h (hes _)
theorem xe_call {f : Nat} {es : MEs} {x : Expr} (h : okE c.ns c.F.sc (.call f es) x = true) (hes : ∀ y, okEs c.ns c.F.sc es y = true → c.SEs es y) : c.SE (.call f es) x := by
  have h' := h
  unfold okE at h'
  split at h' <;> first | contradiction | skip
  rename_i heq
  cases heq
  exact e_call h (hes _)
theorem xe_meth {f : Nat} {o : ME} {es : MEs} {x : Expr} (h : okE c.ns c.F.sc (.meth f o es) x = true) (ho : ∀ y, okE c.ns c.F.sc o y = true → c.SE o y) (hes : ∀ y, okEs c.ns c.F.sc es y = true → c.SEs es y) : c.SE (.meth f o es) x := by
  have h' := h
  unfold okE at h'
  split at h' <;> first | contradiction | skip
  rename_i heq
  cases heq
  exact e_meth h (ho _) (hes _)
theorem xe_newStem {b : Bool} {x : Expr} (h : okE c.ns c.F.sc (.newStem b) x = true) : c.SE (.newStem b) x := by
  have h' := h
  unfold okE at h'
  split at h' <;> first | contradiction | skip
  rename_i heq
  cases heq
  exact e_newStem h
theorem xe_newTape {es : MEs} {x : Expr} (h : okE c.ns c.F.sc (.newTape es) x = true) (hes : ∀ y, okEs c.ns c.F.sc es y = true → c.SEs es y) : c.SE (.newTape es) x := by
  have h' := h
  unfold okE at h'
  split at h' <;> first | contradiction | skip
  rename_i heq
  cases heq
  exact e_newTape h (hes _)
theorem xe_comp2 {a : ME} {x : Expr} (h : okE c.ns c.F.sc (.comp2 a) x = true) (ha : ∀ y, okE c.ns c.F.sc a y = true → c.SE a y) : c.SE (.comp2 a) x := by
  have h' := h
  unfold okE at h'
  split at h' <;> first | contradiction | skip
  rename_i heq
  cases heq
  exact e_comp2 h (ha _)
end
section
variable (c : Cx)
mutual
theorem soundE : ∀ (e : ME) (x : Expr), okE c.ns c.F.sc e x = true → c.SE e x
  | .loc i, x, h => e_loc h
  | .int i, x, h => e_int h
  | .str i, x, h => e_str h
  | .bool i, x, h => e_bool h
  | .gl i, x, h => e_gl h
  | .bin op a b, x, h => xe_bin h (fun y => soundE a y) (fun y => soundE b y)
  | .neg a, x, h => xe_neg h (fun y => soundE a y)
  | .cmp op a b, x, h => xe_cmp h (fun y => soundE a y) (fun y => soundE b y)
  | .attr a at', x, h => xe_attr h (fun y => soundE a y)
  | .cls k, x, h => xe_cls h
  | .idx a b, x, h => xe_idx h (fun y => soundE a y) (fun y => soundE b y)
  | .slLo a b, x, h => xe_slLo h (fun y => soundE a y) (fun y => soundE b y)
  | .slHi a b, x, h => xe_slHi h (fun y => soundE a y) (fun y => soundE b y)
  | .slBoth a b d, x, h => xe_slBoth h (fun y => soundE a y) (fun y => soundE b y) (fun y => soundE d y)
  | .len a, x, h => xe_len h (fun y => soundE a y)
  | .ord a, x, h => xe_ord h (fun y => soundE a y)
  | .sum a, x, h => xe_sum h (fun y => soundE a y)
  | .min2 a b, x, h => xe_min2 h (fun y => soundE a y) (fun y => soundE b y)
  | .min3 a b d, x, h => xe_min3 h (fun y => soundE a y) (fun y => soundE b y) (fun y => soundE d y)
  | .max2 a b, x, h => xe_max2 h (fun y => soundE a y) (fun y => soundE b y)
  | .ends a b, x, h => xe_ends h (fun y => soundE a y) (fun y => soundE b y)
  | .lst es, x, h => xe_lst h (fun y => soundEs es y)
  | .call f es, x, h => xe_call h (fun y => soundEs es y)
  | .meth f o es, x, h => xe_meth h (fun y => soundE o y) (fun y => soundEs es y)
  | .newStem b, x, h => xe_newStem h
  | .newTape es, x, h => xe_newTape h (fun y => soundEs es y)
  | .comp2 a, x, h => xe_comp2 h (fun y => soundE a y)
theorem soundEs : ∀ (es : MEs) (xs : List Expr), okEs c.ns c.F.sc es xs = true → c.SEs es xs
  | .nil, [], _ => es_nil
  | .nil, x :: xs, h => by simp only [okEs, Bool.false_eq_true] at h
  | .cons e r, [], h => by simp only [okEs, Bool.false_eq_true] at h
  | .cons e r, x :: xs, h => es_cons h (soundE e x) (soundEs r xs)
end
end
end Mine

-- MStm1
namespace Mine
set_option maxRecDepth 100000
set_option maxHeartbeats 400000
set_option linter.unusedVariables false

section
variable (c : Cx)
def Cx.ST (t : MT) (x : Expr) : Prop := ∀ ⦃A : Around⦄ ⦃ρ : Lay⦄ ⦃σ : St⦄ ⦃s : Shared⦄ ⦃Qa : Bool → St → Prop⦄ ⦃Qc : Bool → Shared → Prop⦄ ⦃E : Value → Shared → Prop⦄, AOk A c.F.fl c.d → c.Inv ρ σ s → awpT c.glob c.cls c.C t Qa σ →
  (∀ ρ' b σ' s', Ext c.F.L ρ s.heap ρ' s'.heap → c.Inv ρ' σ' s' → Qa b σ' → Qc b s') → wpAny c.M A (isTrue x c.F.env (eval x c.F.env)) Qc E s
def Cx.STa (ts : MTs) (xs : List Expr) : Prop := ∀ ⦃A : Around⦄ ⦃ρ : Lay⦄ ⦃σ : St⦄ ⦃s : Shared⦄ ⦃Qa : Bool → St → Prop⦄ ⦃Qc : Bool → Shared → Prop⦄ ⦃E : Value → Shared → Prop⦄, AOk A c.F.fl c.d → c.Inv ρ σ s → awpAnd c.glob c.cls c.C ts Qa σ →
  (∀ ρ' b σ' s', Ext c.F.L ρ s.heap ρ' s'.heap → c.Inv ρ' σ' s' → Qa b σ' → Qc b s') → wpAny c.M A (allTrue .And xs c.F.env) Qc E s
def Cx.STo (ts : MTs) (xs : List Expr) : Prop := ∀ ⦃A : Around⦄ ⦃ρ : Lay⦄ ⦃σ : St⦄ ⦃s : Shared⦄ ⦃Qa : Bool → St → Prop⦄ ⦃Qc : Bool → Shared → Prop⦄ ⦃E : Value → Shared → Prop⦄, AOk A c.F.fl c.d → c.Inv ρ σ s → awpOr c.glob c.cls c.C ts Qa σ →
  (∀ ρ' b σ' s', Ext c.F.L ρ s.heap ρ' s'.heap → c.Inv ρ' σ' s' → Qa b σ' → Qc b s') → wpAny c.M A (allTrue .Or xs c.F.env) Qc E s
variable {c}

theorem plain_isTrue {e : Expr} {env : Env} {whole : Sem Value} (h : plainTest e = true) : isTrue e env whole = (do let v ← whole; standAt e.pos; holding [v] (truthy v)) := by
  cases e <;> first
    | rfl
    | (rename_i op _ _; cases op <;> first | rfl | cases h)
    | cases h

theorem t_val {e : ME} {x : Expr} (h : okT c.ns c.F.sc (.val e) x = true) : c.ST (.val e) x := by
  intro A ρ σ s Qa Qc E hA I hw k
  simp only [okT, Bool.and_eq_true] at h
  unfold awpT at hw
  refine wpAny_isTrue_value (soundE c e x h.2 hA I hw fun ρ1 v σ1 c1 s1 x1 I1 r1 h1 => ?_) (plain_isTrue h.1)
  obtain ⟨b, hb, hq⟩ := h1
  cases r1 <;> first | cases hb | skip
  exact wpAny_truthy_bool (k _ _ _ _ x1 I1 hq)

theorem t_cmp {op : Cop} {a b : ME} {l r : Expr} {o : CmpOp} {pos : Pos} (h : okT c.ns c.F.sc (.cmp op a b) (.Compare l [o] [r] pos) = true) : c.ST (.cmp op a b) (.Compare l [o] [r] pos) := by
  intro A ρ σ s Qa Qc E hA I hw k
  simp only [okT, Bool.and_eq_true] at h
  unfold awpT at hw
  refine wpAny_isTrue_Compare1 (soundE c a l h.1.2 hA I hw fun ρ1 x σ1 c1 s1 x1 I1 r1 h1 => soundE c b r h.2 hA I1 h1 fun ρ2 y σ2 c2 s2 x2 I2 r2 h2 => ?_) (marks_okE h.2 _)
  obtain ⟨rr, e, hq⟩ := h2
  exact cmp_sound h.1.1 e (r1.mono I1.apart x2) r2 (wpAny_truthy_bool (k _ _ _ _ (x1.trans x2) I2 hq))

def intMEs : List Int → MEs
  | [] => .nil
  | i :: r => .cons (.int i) (intMEs r)
theorem ints_ok : ∀ {ns : List Int} {es : List Expr}, intsAre ns es = true → okEs c.ns c.F.sc (intMEs ns) es = true
  | [], [], _ => rfl
  | [], x :: xs, h => by simp only [intsAre, Bool.false_eq_true] at h
  | i :: r, [], h => by simp only [intsAre, Bool.false_eq_true] at h
  | i :: r, x :: xs, h => by
    simp only [intsAre, Bool.and_eq_true] at h
    simp only [intMEs, okEs, Bool.and_eq_true]
    refine ⟨?_, ints_ok h.2⟩
    have h1 := h.1
    unfold intIs at h1
    split at h1
    · exact h1
    · cases h1
theorem ints_awp {glob cls : Nat → V} {C : CT} : ∀ {ns : List Int} {Q : List V → St → Prop} {σ : St}, Q (ns.map .int) σ → awpEs glob cls C (intMEs ns) Q σ
  | [], Q, σ, h => by simp only [intMEs, awpEs]; exact h
  | i :: r, Q, σ, h => by simp only [intMEs, awpEs, awpE]; exact ints_awp h
theorem intsAre_len : ∀ {ns : List Int} {es : List Expr}, intsAre ns es = true → ns.length = es.length
  | [], [], _ => rfl
  | [], x :: xs, h => by simp only [intsAre, Bool.false_eq_true] at h
  | i :: r, [], h => by simp only [intsAre, Bool.false_eq_true] at h
  | i :: r, x :: xs, h => by
    simp only [intsAre, Bool.and_eq_true] at h
    rw [List.length_cons, List.length_cons, intsAre_len h.2]

theorem t_isin {a : ME} {ns : List Int} {l : Expr} {es : List Expr} {p pos : Pos} (h : okT c.ns c.F.sc (.isin a ns) (.Compare l [.In] [.List es p] pos) = true) : c.ST (.isin a ns) (.Compare l [.In] [.List es p] pos) := by
  intro A ρ σ s Qa Qc E hA I hw k
  simp only [okT, Bool.and_eq_true] at h
  obtain ⟨h, hsz⟩ := h
  have hsz := Nat.le_of_ble_eq_true hsz
  unfold awpT at hw
  refine wpAny_isTrue_Compare1 (soundE c a l h.1 hA I hw fun ρ1 x σ1 c1 s1 x1 I1 r1 h1 => wpAny_List (soundEs c _ _ (ints_ok h.2) hA I1 (Qa := fun vs σ => vs = ns.map .int ∧ σ = σ1) (ints_awp ⟨rfl, rfl⟩) fun ρ2 y σ2 c2 s2 x2 I2 r2 h2 => ?_)) rfl
  obtain ⟨i, rfl, hq⟩ := h1
  obtain ⟨rfl, rfl⟩ := h2
  cases r1
  refine ⟨by rw [← r2.length, List.length_map, sizeLine_eq]; omega, PyProof.Rows.in_list_ints ⟨_, Heap.get?_push_size _ rfl, rfl, _, rfl⟩ r2.ints (wpAny_truthy_bool ?_)⟩
  have e : ns.any (fun x => x == i) = ns.contains i := by
    rw [List.contains_eq_any_beq]
    congr 1
    funext x
    rw [Bool.eq_iff_iff, beq_iff_eq, beq_iff_eq]
    exact eq_comm
  rw [e]
  exact k _ _ _ _ ((x1.trans x2).trans (.of_keep keep_push)) (I2.grow keep_push) hq

theorem t_not {t : MT} {x : Expr} {pos : Pos} (ht : c.ST t x) : c.ST (.not t) (.UnaryOp .Not x pos) := by
  intro A ρ σ s Qa Qc E hA I hw k
  unfold awpT at hw
  exact wpAny_isTrue_Not (ht hA I hw fun ρ1 b σ1 s1 x1 I1 h1 => k _ _ _ _ x1 I1 h1)
theorem t_and {ts : MTs} {xs : List Expr} {pos : Pos} (ht : c.STa ts xs) : c.ST (.and ts) (.BoolOp .And xs pos) := by
  intro A ρ σ s Qa Qc E hA I hw k
  unfold awpT at hw
  exact wpAny_isTrue_BoolOp (ht hA I hw k)
theorem t_or {ts : MTs} {xs : List Expr} {pos : Pos} (ht : c.STo ts xs) : c.ST (.or ts) (.BoolOp .Or xs pos) := by
  intro A ρ σ s Qa Qc E hA I hw k
  unfold awpT at hw
  exact wpAny_isTrue_BoolOp (ht hA I hw k)
theorem ta_nil : c.STa .nil [] := by
  intro A ρ σ s Qa Qc E hA I hw k
  unfold awpAnd at hw
  exact wpAny_allTrue_And_nil (k _ _ _ _ .refl I hw)
theorem to_nil : c.STo .nil [] := by
  intro A ρ σ s Qa Qc E hA I hw k
  unfold awpOr at hw
  exact wpAny_allTrue_Or_nil (k _ _ _ _ .refl I hw)
theorem ta_cons {t : MT} {ts : MTs} {x : Expr} {xs : List Expr} (h1 : c.ST t x) (h2 : c.STa ts xs) : c.STa (.cons t ts) (x :: xs) := by
  intro A ρ σ s Qa Qc E hA I hw k
  unfold awpAnd at hw
  refine wpAny_allTrue_And_cons (h1 hA I hw fun ρ1 b σ1 s1 x1 I1 q1 => ?_)
  cases b with
  | true => exact h2 hA I1 q1 fun ρ2 b σ2 s2 x2 I2 q2 => k _ _ _ _ (x1.trans x2) I2 q2
  | false => exact k _ _ _ _ x1 I1 q1
theorem to_cons {t : MT} {ts : MTs} {x : Expr} {xs : List Expr} (h1 : c.ST t x) (h2 : c.STo ts xs) : c.STo (.cons t ts) (x :: xs) := by
  intro A ρ σ s Qa Qc E hA I hw k
  unfold awpOr at hw
  refine wpAny_allTrue_Or_cons (h1 hA I hw fun ρ1 b σ1 s1 x1 I1 q1 => ?_)
  cases b with
  | true => exact k _ _ _ _ x1 I1 q1
  | false => exact h2 hA I1 q1 fun ρ2 b σ2 s2 x2 I2 q2 => k _ _ _ _ (x1.trans x2) I2 q2

variable (c)
mutual
theorem soundT : ∀ (t : MT) (x : Expr), okT c.ns c.F.sc t x = true → c.ST t x
  | .val e, x, h => t_val h
  | .cmp op a b, x, h => by
    have h' := h
    unfold okT at h'
    split at h' <;> first | contradiction | skip
    rename_i heq; cases heq
    exact t_cmp h
  | .isin a ns, x, h => by
    have h' := h
    unfold okT at h'
    split at h' <;> first | contradiction | skip
    rename_i heq; cases heq
    exact t_isin h
  | .not t, x, h => by
    have h' := h
    unfold okT at h'
    split at h' <;> first | contradiction | skip
    rename_i heq; cases heq
    exact t_not (soundT t _ h')
  | .and ts, x, h => by
    have h' := h
    unfold okT at h'
    split at h' <;> first | contradiction | skip
    rename_i heq; cases heq
    exact t_and (soundTa ts _ h')
  | .or ts, x, h => by
    have h' := h
    unfold okT at h'
    split at h' <;> first | contradiction | skip
    rename_i heq; cases heq
    exact t_or (soundTo ts _ h')
theorem soundTa : ∀ (ts : MTs) (xs : List Expr), okTs c.ns c.F.sc ts xs = true → c.STa ts xs
  | .nil, [], _ => ta_nil
  | .nil, x :: xs, h => by simp only [okTs, Bool.false_eq_true] at h
  | .cons e r, [], h => by simp only [okTs, Bool.false_eq_true] at h
  | .cons t r, x :: xs, h => by
    simp only [okTs, Bool.and_eq_true] at h
    exact ta_cons (soundT t x h.1) (soundTa r xs h.2)
theorem soundTo : ∀ (ts : MTs) (xs : List Expr), okTs c.ns c.F.sc ts xs = true → c.STo ts xs
  | .nil, [], _ => to_nil
  | .nil, x :: xs, h => by simp only [okTs, Bool.false_eq_true] at h
  | .cons e r, [], h => by simp only [okTs, Bool.false_eq_true] at h
  | .cons t r, x :: xs, h => by
    simp only [okTs, Bool.and_eq_true] at h
    exact to_cons (soundT t x h.1) (soundTo r xs h.2)
end
end
end Mine

-- MStm2
namespace Mine
set_option maxRecDepth 100000
set_option maxHeartbeats 400000
set_option linter.unusedVariables false

theorem plain_ne_ns {h : Heap} {a L : Addr} {o : Obj} {m : Str → Option Value} (ho : h.get? a = some o) (hd : ∀ es n, o.data ≠ .dict es n) (hn : h.Ns L m) : a ≠ L := by
  rintro rfl
  obtain ⟨o', es, ep, e', hd', r⟩ := hn
  rw [ho] at e'
  cases e'
  exact hd _ _ hd'

/-- the own dict of the frame changes -/
theorem InvF.store {hB s₀ fl L ns ρ σ s} (I : InvF hB s₀ fl L ns ρ σ s) (nd : ns.Nodup) {h' : Heap} {tk : Nat} {i : Nat} {x : Str} {v : V} {cv : Value} {m : Str → Option Value}
    (hm : ∀ (j : Nat) (y : Str) (u : V), ns[j]? = some y → (σ.loc[j]?).join = some u → ∃ cu, m y = some cu ∧ VR hB ρ s.heap u cu)
    (hn : h'.Ns L fun y => if y = x then some cv else m y) (hs : Heap.SameBut L s.heap h') (hx : ns[i]? = some x) (hv : VR hB ρ s.heap v cv) :
    Ext L ρ s.heap ρ h' ∧ InvF hB s₀ fl L ns ρ ⟨σ.loc.set i (some v), σ.g⟩ { s with heap := h', toks := tk } := by
  have X : Ext L ρ s.heap ρ h' := .of_keepL fun b o hb e => (hs.2 b hb).trans e
  have A := I.apart
  obtain ⟨mm, hmm⟩ := A
  refine ⟨X, ⟨fun b o e => (hs.2 b (Nat.ne_of_lt (Nat.lt_of_lt_of_le (Heap.lt_size e) I.above))).trans (I.g.keep b o e), ⟨?_, fun b => ?_, I.g.gl.apart, I.g.gl.new⟩, ?_, I.g.fmut, I.g.gens, I.g.drawn, I.g.os⟩, ⟨_, hn, fun j y u e1 e2 => ?_⟩, ?_, I.above, I.lmut⟩
  · rcases I.g.gl.tape with h | ⟨vs, a, xs, h1, h2, hl, h4⟩
    · exact .inl h
    · have hne := list_ne_ns hl hmm
      obtain ⟨o, ho, hc, hd⟩ := hl
      exact .inr ⟨vs, a, xs, h1, h2, ⟨o, (hs.2 a hne).trans ho, hc, hd⟩, h4.mono ⟨mm, hmm⟩ X⟩
  · rcases I.g.gl.stem b with h | ⟨f, a, dx, sl, es, n, h1, h2, h3, h4, h5⟩
    · exact .inl h
    · have hne := plain_ne_ns h3 (fun es n q => by cases q) hmm
      have hne2 : dx ≠ L := fun q => I.lmut (by rw [← q]; exact .inr ⟨b, a, h2⟩)
      exact .inr ⟨f, a, dx, sl, es, n, h1, h2, (hs.2 _ hne).trans h3, (hs.2 _ hne2).trans h4, h5.mono ⟨mm, hmm⟩ X⟩
  · refine funFrames_mono (fun env he L' hL o ho => ?_) I.g.frames
    by_cases hq : L' = L
    · subst hq
      obtain ⟨o', es, ep, ho', hd', _⟩ := hn
      exact ⟨o', ho', fun vs q => by rw [hd'] at q; cases q⟩
    · exact ⟨o, (hs.2 _ hq).trans ho, fun _ q => q⟩
  · by_cases hji : i = j
    · subst hji
      rw [hx] at e1; cases e1
      have hlt : i < σ.loc.length := by rw [I.len]; exact (List.getElem?_eq_some_iff.mp hx).1
      dsimp only at e2
      rw [List.getElem?_set_self hlt] at e2
      cases e2
      exact ⟨cv, by simp, hv.mono ⟨mm, hmm⟩ X⟩
    · dsimp only at e2
      rw [List.getElem?_set_ne hji] at e2
      obtain ⟨cu, h1, h2⟩ := hm j y u e1 e2
      have hne : y ≠ x := by
        rintro rfl
        obtain ⟨p1, p2⟩ := List.getElem?_eq_some_iff.mp hx
        obtain ⟨p3, p4⟩ := List.getElem?_eq_some_iff.mp e1
        exact hji ((List.getElem_inj nd).mp (p2.trans p4.symm))
      exact ⟨cu, by simp [hne, h1], h2.mono ⟨mm, hmm⟩ X⟩
  · show (σ.loc.set i (some v)).length = _
    rw [List.length_set]; exact I.len

/-- a mutable object changes -/
theorem InvF.mutate {hB s₀ fl L ns ρ σ s} (I : InvF hB s₀ fl L ns ρ σ s) {h' : Heap} {tk : Nat} {d : Addr} {g' : Gl} (hd : ρ.mut d) (hs : Heap.SameBut d s.heap h') (G : Ext L ρ s.heap ρ h' → GlR hB s₀.heap ρ g' h') :
    Ext L ρ s.heap ρ h' ∧ InvF hB s₀ fl L ns ρ ⟨σ.loc, g'⟩ { s with heap := h', toks := tk } := by
  have X : Ext L ρ s.heap ρ h' := ⟨fun b o _ hm e => ⟨.of ((hs.2 b (fun q => hm (q ▸ hd))).trans e), hm⟩, .refl⟩
  obtain ⟨m, hn, hl⟩ := I.loc
  have hLd : L ≠ d := fun q => I.lmut (q ▸ hd)
  refine ⟨X, ⟨fun b o e => (hs.2 b ?_).trans (I.g.keep b o e), G X, funFrames_mono (fun env he L' hL o ho => ?_) I.g.frames, I.g.fmut, I.g.gens, I.g.drawn, I.g.os⟩, ⟨m, ?_, fun i x v e1 e2 => ?_⟩, I.len, I.above, I.lmut⟩
  · rintro rfl
    rw [I.g.gl.new _ hd] at e; cases e
  · exact ⟨o, (hs.2 L' (fun q => I.g.fmut env he L' hL (by rw [q]; exact hd))).trans ho, fun _ q => q⟩
  · obtain ⟨o, es, ep, ho, hr⟩ := hn
    exact ⟨o, es, ep, (hs.2 _ hLd).trans ho, hr⟩
  · obtain ⟨cv, h1, h2⟩ := hl i x v e1 e2
    exact ⟨cv, h1, h2.mono ⟨m, hn⟩ X⟩

theorem InvF.setTape {hB s₀ fl L ns ρ σ s} (I : InvF hB s₀ fl L ns ρ σ s) {h' : Heap} {tk : Nat} {a : Addr} {vs : List V} {xs : List Value} {k : Nat} {v : V} {cv : Value} (ht : ρ.tA = some a) (hg : σ.g.tape = some vs)
    (hr : VRs hB ρ s.heap vs xs) (hl : h'.IsList a (xs.set k cv).toArray) (hs : Heap.SameBut a s.heap h') (hv : VR hB ρ s.heap v cv) :
    Ext L ρ s.heap ρ h' ∧ InvF hB s₀ fl L ns ρ ⟨σ.loc, { σ.g with tape := some (vs.set k v) }⟩ { s with heap := h', toks := tk } := by
  have hd : ρ.mut a := .inl ht
  have A := I.apart
  refine I.mutate hd hs fun X => ⟨.inr ⟨_, a, _, rfl, ht, hl, (hr.mono A X).set (hv.mono A X) k⟩, fun b => ?_, I.g.gl.apart, I.g.gl.new⟩
  have hst : ({ σ.g with tape := some (vs.set k v) } : Gl).st b = σ.g.st b := by cases b <;> rfl
  rcases I.g.gl.stem b with h | ⟨f, ad, dx, sl, es, n, h1, h2, h3, h4, h5⟩
  · exact .inl (by rw [hst]; exact h)
  · have hlist : ∃ o, s.heap.get? a = some o ∧ (∃ ys n, o.data = .seq ys n) := by
      rcases I.g.gl.tape with ⟨_, h⟩ | ⟨_, a', _, _, h2, ⟨o, ho, _, n, hd⟩, _⟩
      · rw [h] at ht; cases ht
      · rw [h2] at ht; cases ht; exact ⟨o, ho, _, n, hd⟩
    obtain ⟨o, ho, ys, nn, hdat⟩ := hlist
    have e1 : ad ≠ a := by rintro rfl; rw [ho] at h3; cases h3; cases hdat
    have e2 : dx ≠ a := by rintro rfl; rw [ho] at h4; cases h4; cases hdat
    exact .inr ⟨f, ad, dx, sl, es, n, by rw [hst]; exact h1, h2, (hs.2 _ e1).trans h3, (hs.2 _ e2).trans h4, h5.mono A X⟩

theorem InvF.setStem {hB s₀ fl L ns ρ σ s} (I : InvF hB s₀ fl L ns ρ σ s) {h' : Heap} {tk : Nat} {b : Bool} {ad dx : Addr} {f' : Fields} {es' : List DictEntry} {n' : Nat} (hA : ρ.sA b = some (ad, dx))
    (hr : FR hB ρ s.heap f' es') (hl : h'.get? dx = some (dictOf es' n')) (hs : Heap.SameBut dx s.heap h') :
    Ext L ρ s.heap ρ h' ∧ InvF hB s₀ fl L ns ρ ⟨σ.loc, σ.g.setSt b f'⟩ { s with heap := h', toks := tk } := by
  have hd : ρ.mut dx := .inr ⟨b, ad, hA⟩
  have A := I.apart
  refine I.mutate hd hs fun X => ⟨?_, fun b' => ?_, I.g.gl.apart, I.g.gl.new⟩
  · have hst : (σ.g.setSt b f').tape = σ.g.tape := by cases b <;> rfl
    rcases I.g.gl.tape with h | ⟨vs, a, xs, h1, h2, hl', h4⟩
    · exact .inl (by rw [hst]; exact h)
    · refine .inr ⟨vs, a, xs, by rw [hst]; exact h1, h2, ?_, h4.mono A X⟩
      obtain ⟨o, ho, hc, nn, hdat⟩ := hl'
      have e1 : a ≠ dx := by
        rintro rfl
        rcases I.g.gl.stem b with ⟨_, h⟩ | ⟨_, _, _, _, _, _, _, h2, _, h4, _⟩
        · rw [h] at hA; cases hA
        · rw [h2] at hA; cases hA; rw [ho] at h4; cases h4; cases hdat
      exact ⟨o, (hs.2 _ e1).trans ho, hc, nn, hdat⟩
  · have stem_inst : ∀ b2 ad2 dx2, ρ.sA b2 = some (ad2, dx2) → ad2 ≠ dx := by
      rintro b2 ad2 dx2 h rfl
      rcases I.g.gl.stem b with ⟨_, q⟩ | ⟨_, _, _, _, _, _, _, q2, _, q4, _⟩
      · rw [q] at hA; cases hA
      · rw [q2] at hA; cases hA
        rcases I.g.gl.stem b2 with ⟨_, q⟩ | ⟨_, _, _, _, _, _, _, p2, p3, _, _⟩
        · rw [q] at h; cases h
        · rw [p2] at h; cases h; rw [q4] at p3; cases p3
    by_cases hb : b' = b
    · subst hb
      rcases I.g.gl.stem b' with ⟨_, h⟩ | ⟨f0, ad', dx', sl, es, n, h1, h2, h3, h4, h5⟩
      · rw [h] at hA; cases hA
      · rw [h2] at hA; cases hA
        exact .inr ⟨f', ad, dx, sl, es', n', by cases b' <;> rfl, h2, (hs.2 _ (stem_inst _ _ _ h2)).trans h3, hl, hr.mono A X⟩
    · have hst : (σ.g.setSt b f').st b' = σ.g.st b' := by cases b <;> cases b' <;> first | rfl | exact absurd rfl hb
      rcases I.g.gl.stem b' with h | ⟨f0, ad', dx', sl, es, n, h1, h2, h3, h4, h5⟩
      · exact .inl (by rw [hst]; exact h)
      · have e2 : dx' ≠ dx := by rintro rfl; exact hb (I.g.gl.apart _ _ _ _ _ h2 hA)
        exact .inr ⟨f0, ad', dx', sl, es, n, by rw [hst]; exact h1, h2, (hs.2 _ (stem_inst _ _ _ h2)).trans h3, (hs.2 _ e2).trans h4, h5.mono A X⟩
end Mine

-- MStm3
namespace Mine
set_option maxRecDepth 100000
set_option maxHeartbeats 400000
set_option linter.unusedVariables false

section
variable (c : Cx)
def Cx.Done (ρ' : Lay) (s' : Shared) (Qc : Flow → Shared → Prop) (E : Value → Shared → Prop) : Out → Prop
  | .next => Qc .next s'
  | .brk => Qc .brk s'
  | .ret v => ∀ cv, VR c.hB ρ' s'.heap v cv → Qc (.ret cv) s'
  | .exc => ∀ e h', Heap.MadeExcOf s'.heap h' e (.ref 939) [] → E (.ref e) { s' with heap := h' }
def Cx.Post (ρ : Lay) (s : Shared) (Qa : Out → St → Prop) (Qc : Flow → Shared → Prop) (E : Value → Shared → Prop) : Prop :=
  ∀ ρ' o σ' s', Ext c.F.L ρ s.heap ρ' s'.heap → c.Inv ρ' σ' s' → Qa o σ' → c.Done ρ' s' Qc E o
def Cx.SS (m : MS) (st : Stmt) : Prop := ∀ ⦃A : Around⦄ ⦃ρ : Lay⦄ ⦃σ : St⦄ ⦃s : Shared⦄ ⦃Qa : Out → St → Prop⦄ ⦃Qc : Flow → Shared → Prop⦄ ⦃E : Value → Shared → Prop⦄, AOk A c.F.fl c.d → c.Inv ρ σ s → awpS c.glob c.cls c.C m Qa σ → c.Post ρ s Qa Qc E →
  wpAny c.M A (exec st c.F.env) Qc E s
def Cx.SSs (m : MSs) (st : List Stmt) : Prop := ∀ ⦃A : Around⦄ ⦃ρ : Lay⦄ ⦃σ : St⦄ ⦃s : Shared⦄ ⦃Qa : Out → St → Prop⦄ ⦃Qc : Flow → Shared → Prop⦄ ⦃E : Value → Shared → Prop⦄, AOk A c.F.fl c.d → c.Inv ρ σ s → awpSs c.glob c.cls c.C m Qa σ → c.Post ρ s Qa Qc E →
  wpAny c.M A (execs st c.F.env) Qc E s
end

section
variable {c : Cx} {A : Around} {ρ ρ1 : Lay} {σ σ1 : St} {s s1 : Shared} {E : Value → Shared → Prop}

theorem slot_of {i : Nat} {x : Str} (h : slotIs c.ns c.F.sc i x = true) : c.ns[i]? = some x ∧ c.F.env.kindOf x = some .local := by
  unfold slotIs at h
  simp only [Bool.and_eq_true, beq_iff_eq] at h
  exact h
theorem cls_no : (c.F.env.scope.kind == .class || (c.F.env.scope.kind == .module && c.F.env.locals != c.F.env.globals)) = false := by
  have e : c.F.env.scope.kind = .function := c.sck
  rw [e]; rfl

theorem store_sound {i : Nat} {x : Str} {v : V} {cv : Value} {Qc : Unit → Shared → Prop} (I : c.Inv ρ σ s) (hx : slotIs c.ns c.F.sc i x = true) (rv : VR c.hB ρ s.heap v cv)
    (k : ∀ s', Ext c.F.L ρ s.heap ρ s'.heap → c.Inv ρ ⟨σ.loc.set i (some v), σ.g⟩ s' → Qc () s') : wpAny c.M A (storeName c.F.env x cv) Qc E s := by
  obtain ⟨h1, h2⟩ := slot_of hx
  obtain ⟨m, hn, hl⟩ := I.loc
  refine wpAny_storeName_local h2 hn (fun h' hn' hs => ?_) cls_no
  obtain ⟨x1, I1⟩ := I.store c.nd (tk := s.toks + 1) hl hn' hs h1 rv
  exact k _ x1 I1

theorem swaps_no {value : Expr} {t : Option Expr} {l : Nat} {env : Env} (h : notComp value = true) (e : ME) {ns : List Str} {sc : Scope} (h2 : okE ns sc e value = true) : swapsWith value t l env = pure false := by
  cases value <;> first
    | rfl
    | contradiction
    | (exfalso; cases e <;> simp only [okE, Bool.false_eq_true] at h2)

theorem s_assign {i : Nat} {e : ME} {x : Str} {p pos : Pos} {v : Expr} (h : okS c.ns c.F.sc (.assign i e) (.Assign [.Name x p] v pos) = true) : c.SS (.assign i e) (.Assign [.Name x p] v pos) := by
  intro A ρ σ s Qa Qc E hA I hw k
  simp only [okS, Bool.and_eq_true] at h
  unfold awpS at hw
  refine wpAny_Assign_Name (soundE c e v h.2 hA I hw fun ρ1 v σ1 c1 s1 x1 I1 r1 h1 => store_sound I1 h.1.2 r1 fun s2 x2 I2 => ?_) (swaps_no h.1.1 e h.2)
  exact k _ _ _ _ (x1.trans x2) I2 h1

theorem s_augLoc {i : Nat} {op : Bop} {e : ME} {x : Str} {o : Operator} {p pos : Pos} {v : Expr} (h : okS c.ns c.F.sc (.augLoc i op e) (.AugAssign (.Name x p) o v pos) = true) : c.SS (.augLoc i op e) (.AugAssign (.Name x p) o v pos) := by
  intro A ρ σ s Qa Qc E hA I hw k
  simp only [okS, Bool.and_eq_true] at h
  unfold awpS at hw
  obtain ⟨old, ho, hw⟩ := hw
  obtain ⟨m, F, hl⟩ := I.fr
  obtain ⟨q1, q2⟩ := slot_of h.1.1
  obtain ⟨co, e1, r0⟩ := hl i x old q1 ho
  refine wpAny_AugAssign_Name (ldn F e1 (soundE c e v h.2 hA I hw fun ρ1 v σ1 c1 s1 x1 I1 r1 h1 => ?_) c.sck q2)
  obtain ⟨r, er, hq⟩ := h1
  refine aug_sound h.1.2 er (r0.mono I.apart x1) r1 fun h' tk cv kk rr => store_sound (I1.grow kk) h.1.1 rr fun s2 x2 I2 => ?_
  exact k _ _ _ _ ((x1.trans (.of_keep kk)).trans x2) I2 hq

theorem setAttr_sound {b : Bool} {ad dx : Addr} {f : Fields} {a : At} {v : V} {cv : Value} {Qc : Unit → Shared → Prop} (I : c.Inv ρ σ s) (hA : ρ.sA b = some (ad, dx)) (hf : σ.g.st b = some f) (hlen : f.length ≤ 100) (rv : VR c.hB ρ s.heap v cv)
    (k : ∀ s', Ext c.F.L ρ s.heap ρ s'.heap → c.Inv ρ ⟨σ.loc, σ.g.setSt b (setF a v f)⟩ s' → Qc () s') : wpAny c.M A (setAttr (.ref ad) a.name cv) Qc E s := by
  rcases I.g.gl.stem b with ⟨h, _⟩ | ⟨f', ad', dx', sl, es, n, h1, h2, h3, h4, h5⟩
  · rw [h] at hf; cases hf
  rw [h1] at hf; cases hf
  rw [h2] at hA; cases hA
  have X := Cx.Ks I
  have IA : PySem.W.InstAt s.heap ad ⟨.ref 927, some dx, .plain, sl⟩ 927 (some (dictOf es n)) := ⟨h3, rfl, rfl, h4⟩
  refine set_plain X IA (k_sa _ _) ?_
  refine osa_open (s := { s with toks := s.toks + 1 }) X IA (k_over _ _) (k_taker _ _ a) fun bb => ?_
  obtain ⟨cd, hc, hd'⟩ := any_some (k_has1 c.w c.X)
  refine wpAny_bind (wpAny_pure (wpAny_bind (wpAny_bind (wpAny_loadPart (o := ⟨.ref 927, some dx, .plain, sl⟩) h3 (wpAny_bind (Looks.here (s := { s with toks := s.toks + 1 }) (looks_clsIn X hc) ?_))))))
  rw [hd']
  refine wpAny_pure (a := some dx) (wpAny_bind (wpAny_pure (wpAny_bind ?_)))
  unfold nsSet
  refine wpAny_bind (wpAny_bind (wpAny_askSetting (wpAny_pure (wpAny_bind (wpAny_mkText (wpAny_bind (wpAny_loadPart (o := dictOf es n) h4 ?_)))))))
  dsimp only
  have hsome : (getL a.name es).isSome = true := by
    rcases h5.get a with ⟨v', c', _, q, _⟩ | ⟨_, q⟩ <;> rw [q] <;> rfl
  have cc : (!es.toArray.any (·.key.isStr a.name) && es.toArray.any (·.refKey)) = false := by
    rw [List.any_toArray, List.any_toArray]
    unfold getL at hsome
    split at hsome
    · rename_i en he
      rw [List.any_eq_true.mpr ⟨en, List.mem_of_find?_eq_some he, List.find?_some he⟩]; rfl
    · split at hsome
      · cases hsome
      · rename_i z; rw [Bool.not_eq_true] at z; rw [z, Bool.and_false]
  rw [aRefKeyMayBeTheName_at, cc]
  refine wpAny_updatePart (o := dictOf es n) h4 ?_
  dsimp only
  have hput := putName_dict a.name (PyData.keyHash c.w.params a.name) (.str a.name (s.toks + 1)) cv es n
  have hget := Heap.get?_update_self (h := s.heap) (Obj.putName a.name (PyData.keyHash c.w.params a.name) (.str a.name (s.toks + 1)) cv) h4 (by rw [hput]; rfl)
  rw [hput] at hget
  refine wpAny_bind (wpAny_lookBehind (o := dictOf (putL a.name (PyData.keyHash c.w.params a.name) (.str a.name (s.toks + 1)) cv es) (putN a.name es n)) hget (pastItsLine_dict ?_) ?_)
  · have e1 := (h5.put (a := a) rv (PyData.keyHash c.w.params a.name) (s.toks + 1)).length
    rw [List.size_toArray, ← e1, sizeLine_eq]
    have e2 : ∀ f : Fields, (setF a v f).length ≤ f.length + 1 := by
      intro f
      induction f with
      | nil => exact Nat.le_refl _
      | cons p r ih =>
        obtain ⟨b', w'⟩ := p
        unfold setF
        split
        · exact Nat.le_succ _
        · exact Nat.succ_le_succ ih
    have := e2 f; omega
  · obtain ⟨x1, I1⟩ := I.setStem (tk := s.toks + 1 + 1) h2 (h5.put (a := a) rv (PyData.keyHash c.w.params a.name) (s.toks + 1)) hget (Heap.SameBut.update _ _ _)
    exact wpAny_pure (k _ x1 I1)
end
end Mine

-- MStm4
namespace Mine
set_option maxRecDepth 100000
set_option maxHeartbeats 400000
set_option linter.unusedVariables false

section
variable {prog : Program} {w : World} {A : Around} {E : Value → Shared → Prop} {s : Shared}
theorem draw_list {it t : Addr} {items : Array Value} (hne : t ≠ it) : ∀ (n i : Nat) (s : Shared) (Q : List Value → Shared → Prop), s.heap.IsListIter it t i → s.heap.IsList t items → i + n ≤ items.size →
    (∀ h', h'.IsListIter it t (i + n) → Heap.SameBut it s.heap h' → Q ((items.toList.drop i).take n) { s with heap := h' }) → wpAny (model prog w) A (draw (.ref it) n) Q E s
  | 0, i, s, Q, hit, _, _, hQ => by
    show wpAny _ _ (pure []) Q E s
    exact wpAny_pure (by simpa using hQ s.heap hit (Heap.SameBut.refl ..))
  | n + 1, i, s, Q, hit, ht, hle, hQ => by
    have hlt : i < items.size := by omega
    show wpAny _ _ (pyNext (.ref it) >>= _) Q E s
    refine wpAny_bind (wpAny_pyNext_list_item hit ht (x := items[i]) (by simp [hlt]) fun h₁ hit₁ hs₁ => ?_)
    refine wpAny_bind (wpAny_holding (draw_list hne n (i + 1) _ _ hit₁ (ht.extBut hs₁.extBut hne) (by omega) fun h₂ hit₂ hs₂ => wpAny_pure ?_))
    have hd : items.toList.drop i = items[i] :: items.toList.drop (i + 1) := by simp [List.drop_eq_getElem_cons, hlt]
    have := hQ h₂ (by rw [show i + (n + 1) = i + 1 + n by omega]; exact hit₂) (hs₁.trans hs₂)
    rw [hd, List.take_succ_cons] at this
    exact this
theorem unpack_list {t : Addr} {items : Array Value} {targets : List (Bool × (Value → Sem Unit))} {Q : Unit → Shared → Prop} (hh : A.handled = none) (ht : s.heap.IsList t items)
    (hn : targets.length = items.size) (hstar : targets.findIdx? (·.1) = none)
    (h : ∀ h', Heap.ExtBut s.heap.objs.size s.heap h' → wpAny (model prog w) A (assignInOrder (targets.map (·.2)) items.toList) Q E { s with heap := h' }) :
    wpAny (model prog w) A (unpack (.ref t) targets) Q E s := by
  unfold unpack
  rw [hn, hstar]
  refine wpAny_bind (wpAny_holding ?_)
  have hlt : t ≠ s.heap.objs.size := by obtain ⟨o, ho, _⟩ := ht; exact Nat.ne_of_lt (Heap.lt_size ho)
  unfold unpackItems
  refine wpAny_bind ?_
  · unfold notIterableAtAll
    refine wpAny_bind (wpAny_specialOf ht.typeIs PySem.F.slot_list_iter.lookup ?_)
    refine wpAny_pure ?_
    simp only [Bool.false_eq_true, if_false]
    refine wpAny_bind (wpAny_holding (wpAny_pyIter_list ht ?_))
    refine wpAny_bind (wpAny_holding (draw_list hlt items.size 0 _ _ ⟨_, Heap.get?_push_size _ rfl, rfl, rfl⟩ (ht.push _) (by omega) fun h₁ hit₁ hs₁ => ?_))
    have hall : List.take items.size (List.drop 0 items.toList) = items.toList := by
      rw [List.drop_zero]; exact List.take_of_length_le (by simp)
    rw [hall]
    rw [if_neg (by simp)]
    have ht₁ : h₁.IsList t items := (ht.push _).extBut hs₁.extBut hlt
    refine wpAny_bind (wpAny_holding (wpAny_pyNext_list_end hh hit₁ ht₁ (by simp) fun h₂ he₂ => ?_))
    simp only [Option.isSome_none, Bool.false_eq_true, if_false]
    refine wpAny_pure (h h₂ fun b o hb e => he₂ b o hb (hs₁.extBut b o hb (Heap.get?_push_of_some _ e)))
end

section
variable {c : Cx} {A : Around} {ρ ρ1 : Lay} {σ σ1 : St} {s s1 : Shared} {E : Value → Shared → Prop}

theorem sole_no {t value : Expr} {l : Nat} {env : Env} (h : match t with | .Name .. => False | _ => True) : swapsWithSole [t] value l env = pure false := by
  cases value <;> first | rfl | (cases t <;> first | rfl | exact h.elim)
theorem swapped_no {t value : Expr} {env : Env} {e : ME} {ns : List Str} {sc : Scope} (h2 : okE ns sc e value = true) : swappedStores [t] value env = pure none := by
  cases value <;> first
    | (exfalso; cases e <;> simp only [okE, Bool.false_eq_true] at h2; done)
    | (cases t <;> rfl)

theorem s_setAttr {o e : ME} {a : At} {t v : Expr} {x : Str} {p pos : Pos} (h : okS c.ns c.F.sc (.setAttr o a e) (.Assign [.Attribute t x p] v pos) = true) : c.SS (.setAttr o a e) (.Assign [.Attribute t x p] v pos) := by
  intro A ρ σ s Qa Qc E hA I hw k
  simp only [okS, Bool.and_eq_true, beq_iff_eq] at h
  unfold awpS at hw
  obtain ⟨⟨rfl, ho⟩, he⟩ := h
  refine wpAny_Assign_stores (soundE c e v he hA I hw fun ρ1 v1 σ1 c1 s1 x1 I1 r1 h1 => ?_) (sole_no trivial) (swapped_no he)
  show wpAny _ _ (assign (.Attribute t a.name p) c.F.env c1) _ _ _
  rw [arm_assign_Attribute]
  refine wpAny_bind (wpAny_holding (soundE c o t ho hA I1 h1 fun ρ2 v2 σ2 c2 s2 x2 I2 r2 h2 => wpAny_bind (wpAny_standAt (wpAny_bind (wpAny_holding ?_)))))
  obtain ⟨b, f, rfl, hf, hlen, hq⟩ := h2
  cases r2
  rename_i ad dx hA'
  refine setAttr_sound I2 hA' hf hlen (r1.mono I1.apart x2) fun s3 x3 I3 => wpAny_release ?_
  exact k _ _ _ _ ((x1.trans x2).trans x3) I3 hq

theorem s_augAttr {o e : ME} {a : At} {op : Bop} {t v : Expr} {x : Str} {oo : Operator} {p pos : Pos} (h : okS c.ns c.F.sc (.augAttr o a op e) (.AugAssign (.Attribute t x p) oo v pos) = true) : c.SS (.augAttr o a op e) (.AugAssign (.Attribute t x p) oo v pos) := by
  intro A ρ σ s Qa Qc E hA I hw k
  simp only [okS, Bool.and_eq_true, beq_iff_eq] at h
  unfold awpS at hw
  obtain ⟨⟨⟨rfl, hop⟩, ho⟩, he⟩ := h
  refine wpAny_AugAssign_AttributeAny (soundE c o t ho hA I hw fun ρ1 v1 σ1 c1 s1 x1 I1 r1 h1 => ?_)
  obtain ⟨b, f, old, rfl, hf, hg, h1⟩ := h1
  cases r1
  rename_i ad dx hA'
  have hatt : attrV σ1.g (.stem b) a = some old := by
    have : (σ1.g.st b).bind (getF a) = some old := by rw [hf]; exact hg
    cases a <;> exact this
  refine getAttr_sound I1 (.stem hA') hatt fun h' tk co kk ro => ?_
  refine soundE c e v he hA (I1.grow kk) h1 fun ρ2 v2 σ2 c2 s2 x2 I2 r2 h2 => ?_
  obtain ⟨f', r, hf', hlen, er, hq⟩ := h2
  refine aug_sound hop er (ro.mono (I1.grow (tk := tk) kk).apart x2) r2 fun h3 tk3 c3 kk3 r3 => ?_
  have I3 := I2.grow (tk := tk3) kk3
  refine setAttr_sound I3 (x2.le.s _ _ hA') hf' hlen r3 fun s4 x4 I4 => ?_
  exact k _ _ _ _ (((x1.trans (.of_keep kk)).trans x2).trans ((Ext.of_keep kk3).trans x4)) I4 hq

theorem s_setItem {o i e : ME} {t j v : Expr} {p pos : Pos} (h : okS c.ns c.F.sc (.setItem o i e) (.Assign [.Subscript t j p] v pos) = true) : c.SS (.setItem o i e) (.Assign [.Subscript t j p] v pos) := by
  intro A ρ σ s Qa Qc E hA I hw k
  simp only [okS, Bool.and_eq_true] at h
  unfold awpS at hw
  obtain ⟨⟨ho, hi⟩, he⟩ := h
  refine wpAny_Assign_Subscript (soundE c e v he hA I hw fun ρ1 v1 σ1 c1 s1 x1 I1 r1 h1 => soundE c o t ho hA I1 h1 fun ρ2 v2 σ2 c2 s2 x2 I2 r2 h2 => soundE c i j hi hA I2 h2 fun ρ3 v3 σ3 c3 s3 x3 I3 r3 h3 => ?_) (sole_no (t := .Subscript t j p) (l := pos.line) (env := c.F.env) trivial)
  obtain ⟨kk, xs, rfl, rfl, hg, h0, hbd, hlt, hq⟩ := h3
  cases r3
  cases r2
  rename_i ta htA
  have hA3 := x3.le.t _ htA
  rcases I3.g.gl.tape with ⟨q, _⟩ | ⟨vs, a', ys, q1, q2, hl, hv⟩
  · rw [q] at hg; cases hg
  rw [q1] at hg; cases hg
  rw [q2] at hA3; cases hA3
  refine wpAny_setItem_list hl h0 ?_ ?_ fun h' hl' hs => ?_
  · unfold bound at hbd; omega
  · rw [List.size_toArray, ← hv.length]; omega
  · rw [show ys.toArray.setIfInBounds kk.toNat c1 = (ys.set kk.toNat c1).toArray from by simp] at hl'
    obtain ⟨x4, I4⟩ := I3.setTape (tk := s3.toks) q2 q1 hv hl' hs ((r1.mono I1.apart x2).mono I2.apart x3)
    exact k _ _ _ _ (((x1.trans x2).trans x3).trans x4) I4 hq

theorem targets_ok {env : Env} : ∀ {is : List Nat} {ts : List Expr}, slotsAre c.ns c.F.sc is ts = true → (assignEach ts env).length = is.length ∧ (assignEach ts env).findIdx? (·.1) = none
  | [], [], _ => ⟨rfl, rfl⟩
  | [], x :: xs, h => by simp only [slotsAre, Bool.false_eq_true] at h
  | i :: is, [], h => by simp only [slotsAre, Bool.false_eq_true] at h
  | i :: is, x :: xs, h => by
    cases x <;> try simp only [slotsAre, Bool.false_eq_true] at h
    rename_i x p
    simp only [Bool.and_eq_true] at h
    obtain ⟨h1, h2⟩ := targets_ok (env := env) h.2
    show ((false, assign (.Name x p) env) :: assignEach xs env).length = _ ∧ ((false, assign (.Name x p) env) :: assignEach xs env).findIdx? (·.1) = none
    rw [List.length_cons, List.findIdx?_cons, h1, h2]
    exact ⟨rfl, rfl⟩

theorem inOrder_sound {l' : List (Option V)} {Qc : Unit → Shared → Prop} : ∀ {is : List Nat} {ts : List Expr} {vs : List V} {cs : List Value} {σ : St} {s : Shared}, slotsAre c.ns c.F.sc is ts = true → setLocs is vs σ.loc = some l' → c.Inv ρ σ s → VRs c.hB ρ s.heap vs cs →
    (∀ s', Ext c.F.L ρ s.heap ρ s'.heap → c.Inv ρ ⟨l', σ.g⟩ s' → Qc () s') → wpAny c.M A (assignInOrder ((assignEach ts c.F.env).map (·.2)) cs) Qc E s
  | [], [], [], _, σ, s, _, hl, I, .nil, k => by
    cases hl
    exact wpAny_assignInOrder_none (k s .refl I)
  | [], x :: xs, _, _, _, _, h, _, _, _, _ => by simp only [slotsAre, Bool.false_eq_true] at h
  | i :: is, [], _, _, _, _, h, _, _, _, _ => by simp only [slotsAre, Bool.false_eq_true] at h
  | [], [], v :: vs, _, σ, s, _, hl, _, _, _ => by cases hl
  | i :: is, x :: xs, [], _, σ, s, _, hl, _, _, _ => by cases hl
  | i :: is, x :: xs, v :: vs, _, σ, s, h, hl, I, .cons rv rr, k => by
    cases x <;> try simp only [slotsAre, Bool.false_eq_true] at h
    rename_i x p
    simp only [Bool.and_eq_true] at h
    refine wpAny_assignInOrder_more (wpAny_assign_Name (store_sound I h.1 rv fun s2 x2 I2 => ?_))
    exact inOrder_sound (σ := ⟨σ.loc.set i (some v), σ.g⟩) h.2 hl I2 (rr.mono I.apart x2) fun s3 x3 I3 => k s3 (x2.trans x3) I3

theorem setLocs_len : ∀ {is : List Nat} {vs : List V} {l l' : List (Option V)}, setLocs is vs l = some l' → is.length = vs.length
  | [], [], _, _, _ => rfl
  | [], _ :: _, _, _, h => by cases h
  | _ :: _, [], _, _, h => by cases h
  | i :: is, v :: vs, l, l', h => by
    rw [List.length_cons, List.length_cons, setLocs_len (is := is) (vs := vs) h]

theorem s_unpack {is : List Nat} {e : ME} {ts : List Expr} {kt : Nat} {p pos : Pos} {v : Expr} (h : okS c.ns c.F.sc (.unpack is e) (.Assign [.Tuple ts kt p] v pos) = true) : c.SS (.unpack is e) (.Assign [.Tuple ts kt p] v pos) := by
  intro A ρ σ s Qa Qc E hA I hw k
  simp only [okS, Bool.and_eq_true] at h
  unfold awpS at hw
  obtain ⟨ht, he⟩ := h
  refine wpAny_Assign_stores (soundE c e v he hA I hw fun ρ1 v1 σ1 c1 s1 x1 I1 r1 h1 => ?_) (sole_no trivial) (swapped_no he)
  obtain ⟨xs, l, rfl, hl, hq⟩ := h1
  show wpAny _ _ (assign (.Tuple ts kt p) c.F.env c1) _ _ _
  rw [arm_assign_Tuple]
  refine wpAny_bind (wpAny_standAt ?_)
  cases r1
  rename_i ys a hls hm hv
  obtain ⟨t1, t2⟩ := targets_ok (env := c.F.env) ht
  refine unpack_list hA.handled hls ?_ t2 fun h' he' => ?_
  · rw [t1, setLocs_len hl, hv.length, List.size_toArray]
  · have kk : ∀ b o, s1.heap.get? b = some o → h'.get? b = some o := fun b o e => he' b o (Nat.ne_of_lt (Heap.lt_size e)) e
    exact inOrder_sound (s := { s1 with heap := h' }) ht hl (I1.grow (tk := s1.toks) kk) (hv.mono I1.apart (.of_keep kk)) (fun s2 x2 I2 => k _ _ _ _ ((x1.trans (.of_keep kk)).trans x2) I2 hq)

theorem s_expr {e : ME} {pos : Pos} {v : Expr} (h : okS c.ns c.F.sc (.expr e) (.Expr v pos) = true) : c.SS (.expr e) (.Expr v pos) := by
  intro A ρ σ s Qa Qc E hA I hw k
  simp only [okS, Bool.and_eq_true] at h
  unfold awpS at hw
  refine wpAny_Expr_any (soundE c e v h.2 hA I hw fun ρ1 v1 σ1 c1 s1 x1 I1 r1 h1 => k _ _ _ _ x1 I1 h1) ?_ (swaps_no h.1 e h.2)
  have e : c.F.env.scope.kind = .function := c.sck
  unfold interactive
  rw [e]; rfl
theorem s_ret {e : ME} {pos : Pos} {v : Expr} (h : okS c.ns c.F.sc (.ret e) (.Return (some v) pos) = true) : c.SS (.ret e) (.Return (some v) pos) := by
  intro A ρ σ s Qa Qc E hA I hw k
  simp only [okS] at h
  unfold awpS at hw
  exact wpAny_Return_some (soundE c e v h hA I hw fun ρ1 v1 σ1 c1 s1 x1 I1 r1 h1 => k _ _ _ _ x1 I1 h1 c1 r1)
theorem s_brk {pos : Pos} : c.SS .brk (.Break pos) := by
  intro A ρ σ s Qa Qc E hA I hw k
  unfold awpS at hw
  exact wpAny_Break (k _ _ _ _ .refl I hw)
theorem s_pass {pos : Pos} : c.SS .pass (.Pass pos) := by
  intro A ρ σ s Qa Qc E hA I hw k
  unfold awpS at hw
  exact wpAny_Pass (k _ _ _ _ .refl I hw)
theorem s_assert {t : MT} {pos : Pos} {v : Expr} (h : okS c.ns c.F.sc (.assert t) (.Assert v none pos) = true) : c.SS (.assert t) (.Assert v none pos) := by
  intro A ρ σ s Qa Qc E hA I hw k
  simp only [okS] at h
  unfold awpS at hw
  exact wpAny_Assert_holds (soundT c t v h hA I hw fun ρ1 b σ1 s1 x1 I1 h1 => ⟨h1.1, k _ _ _ _ x1 I1 h1.2⟩)
theorem s_ite {t : MT} {a b : MSs} {x : Expr} {y z : List Stmt} {pos : Pos} (h : okT c.ns c.F.sc t x = true) (ha : c.SSs a y) (hb : c.SSs b z) : c.SS (.ite t a b) (.If x y z pos) := by
  intro A ρ σ s Qa Qc E hA I hw k
  unfold awpS at hw
  refine wpAny_If (soundT c t x h hA I hw fun ρ1 bb σ1 s1 x1 I1 h1 => ?_)
  cases bb with
  | true => exact ha hA I1 h1 fun ρ2 o σ2 s2 x2 I2 h2 => k _ _ _ _ (x1.trans x2) I2 h2
  | false => exact hb hA I1 h1 fun ρ2 o σ2 s2 x2 I2 h2 => k _ _ _ _ (x1.trans x2) I2 h2
theorem ss_nil : c.SSs .nil [] := by
  intro A ρ σ s Qa Qc E hA I hw k
  unfold awpSs at hw
  exact wpAny_execs_nil (k _ _ _ _ .refl I hw)
theorem ss_cons {m : MS} {r : MSs} {x : Stmt} {xs : List Stmt} (h1 : c.SS m x) (h2 : c.SSs r xs) : c.SSs (.cons m r) (x :: xs) := by
  intro A ρ σ s Qa Qc E hA I hw k
  unfold awpSs at hw
  refine wpAny_execs_cons (h1 hA I hw fun ρ1 o σ1 s1 x1 I1 q1 => ?_)
  cases o with
  | next => exact h2 hA I1 q1 fun ρ2 o σ2 s2 x2 I2 q2 => k _ _ _ _ (x1.trans x2) I2 q2
  | brk => exact k _ _ _ _ x1 I1 q1
  | ret v => exact k _ _ _ _ x1 I1 q1
  | exc => exact k _ _ _ _ x1 I1 q1

/-- while True -/
theorem s_loop {b : MSs} {xs : List Stmt} {cp pos : Pos} {kk : Nat} (hb : c.SSs b xs) : c.SS (.loop b) (.While (.Constant (.bool true) kk cp) xs [] pos) := by
  intro A ρ σ s Qa Qc E hA I hw k
  unfold awpS at hw
  obtain ⟨n, hw⟩ := hw
  refine wpAny_While (codeAny_whileLoop (fun n s' => ∃ ρ' σ', Ext c.F.L ρ s.heap ρ' s'.heap ∧ c.Inv ρ' σ' s' ∧ loopN (awpSs c.glob c.cls c.C b) Qa n σ') ?_ n ⟨ρ, σ, .refl, I, hw⟩)
  rintro n s1 ⟨ρ1, σ1, x1, I1, h1⟩
  refine wpAny_isTrue_value (wpAny_Constant_bool (wpAny_truthy_bool ?_)) rfl
  cases n with
  | zero => exact h1.elim
  | succ n =>
    unfold loopN at h1
    refine hb hA I1 h1 fun ρ2 o σ2 s2 x2 I2 q2 => ?_
    cases o with
    | next => exact ⟨n, Nat.lt_succ_self _, ρ2, σ2, x1.trans x2, I2, q2⟩
    | brk => exact k _ _ _ _ (x1.trans x2) I2 q2
    | ret v => exact k _ _ _ _ (x1.trans x2) I2 q2
    | exc => exact q2.elim
end
end Mine

-- MStm5
namespace Mine
set_option maxRecDepth 100000
set_option maxHeartbeats 400000
set_option linter.unusedVariables false

section
variable {hB : Heap} {ρ ρ' : Lay} {h h' : Heap}
mutual
theorem VR.lift (k : ∀ a xs, h.IsList a xs → ¬ ρ.mut a → h'.IsList a xs ∧ ¬ ρ'.mut a) (le : ρ.le ρ') : ∀ {v : V} {c : Value}, VR hB ρ h v c → VR hB ρ' h' v c
  | _, _, .none => .none
  | _, _, .bool b => .bool b
  | _, _, .int i t => .int i t
  | _, _, .str l t => .str l t
  | _, _, .list (a := a) hl hm hv => .list (k _ _ hl hm).1 (k _ _ hl hm).2 (VRs.lift k le hv)
  | _, _, .among h => .among h
  | _, _, .stem h => .stem (le.s _ _ h)
  | _, _, .tape h => .tape (le.t _ h)
theorem VRs.lift (k : ∀ a xs, h.IsList a xs → ¬ ρ.mut a → h'.IsList a xs ∧ ¬ ρ'.mut a) (le : ρ.le ρ') : ∀ {v : List V} {c : List Value}, VRs hB ρ h v c → VRs hB ρ' h' v c
  | _, _, .nil => .nil
  | _, _, .cons a b => .cons (VR.lift k le a) (VRs.lift k le b)
end
theorem FR.lift (k : ∀ a xs, h.IsList a xs → ¬ ρ.mut a → h'.IsList a xs ∧ ¬ ρ'.mut a) (le : ρ.le ρ') : ∀ {f : Fields} {es : List DictEntry}, FR hB ρ h f es → FR hB ρ' h' f es
  | _, _, .nil => .nil
  | _, _, .cons a b => .cons (a.lift k le) (FR.lift k le b)
end

/-- an iterator moves on -/
theorem InvF.iter {hB s₀ fl L ns ρ σ s} (I : InvF hB s₀ fl L ns ρ σ s) {h' : Heap} {tk : Nat} {it : Addr} {o : Obj} {vs : Array Value} (hit : s.heap.get? it = some o) (hd : o.data = .fields vs) (hnew : s₀.heap.get? it = none) (he : Heap.ExtBut it s.heap h') :
    InvF hB s₀ fl L ns ρ σ { s with heap := h', toks := tk } ∧ ∀ {v : V} {cv : Value}, VR hB ρ s.heap v cv → VR hB ρ h' v cv := by
  have ne : ∀ {a : Addr} {o' : Obj}, s.heap.get? a = some o' → (∀ ws, o'.data ≠ .fields ws) → a ≠ it := by
    rintro a o' e q rfl
    rw [hit] at e; cases e; exact q _ hd
  have kl : ∀ a xs, s.heap.IsList a xs → ¬ ρ.mut a → h'.IsList a xs ∧ ¬ ρ.mut a := by
    rintro a xs ⟨o', ho, hc, n, hdd⟩ hm
    exact ⟨⟨o', he _ _ (ne ho (fun ws q => by rw [hdd] at q; cases q)) ho, hc, n, hdd⟩, hm⟩
  have lift : ∀ {v : V} {cv : Value}, VR hB ρ s.heap v cv → VR hB ρ h' v cv := fun r => r.lift kl .refl
  obtain ⟨m, hn, hl⟩ := I.loc
  refine ⟨⟨⟨fun b o' e => he b o' (by rintro rfl; rw [hnew] at e; cases e) (I.g.keep b o' e), ⟨?_, fun b => ?_, I.g.gl.apart, I.g.gl.new⟩, ?_, I.g.fmut, I.g.gens, I.g.drawn, I.g.os⟩, ⟨m, ?_, fun i x v e1 e2 => ?_⟩, I.len, I.above, I.lmut⟩, lift⟩
  · rcases I.g.gl.tape with h | ⟨ws, a, xs, h1, h2, ⟨o', ho, hc, n, hdd⟩, h4⟩
    · exact .inl h
    · exact .inr ⟨ws, a, xs, h1, h2, ⟨o', he _ _ (ne ho (fun ws q => by rw [hdd] at q; cases q)) ho, hc, n, hdd⟩, h4.lift kl .refl⟩
  · rcases I.g.gl.stem b with h | ⟨f, a, dx, sl, es, n, h1, h2, h3, h4, h5⟩
    · exact .inl h
    · exact .inr ⟨f, a, dx, sl, es, n, h1, h2, he _ _ (ne h3 (fun ws q => by cases q)) h3, he _ _ (ne h4 (fun ws q => by cases q)) h4, h5.lift kl .refl⟩
  · have key : ∀ {l : List Env}, s.heap.FunFrames s₀.heap l → h'.FunFrames s₀.heap l := by
      intro l
      induction l with
      | nil => exact fun _ => trivial
      | cons env r ih =>
        rintro ⟨hk, ⟨L', o', hf, hn', ho, hdd⟩, hr⟩
        exact ⟨hk, ⟨L', o', hf, hn', he _ _ (ne ho hdd) ho, hdd⟩, ih hr⟩
    exact key I.g.frames
  · obtain ⟨o', es, ep, ho, hdd, hr⟩ := hn
    exact ⟨o', es, ep, he _ _ (ne ho (fun ws q => by rw [hdd] at q; cases q)) ho, hdd, hr⟩
  · obtain ⟨cv, h1, h2⟩ := hl i x v e1 e2
    exact ⟨cv, h1, lift h2⟩
theorem Ext.iter {L : Addr} {ρ ρ' : Lay} {h h1 h' : Heap} {it : Addr} (x : Ext L ρ h ρ' h1) (hnew : h.get? it = none) (he : Heap.ExtBut it h1 h') : Ext L ρ h ρ' h' :=
  ⟨fun b o bl hm e => by
    have hb : b ≠ it := by rintro rfl; rw [hnew] at e; cases e
    obtain ⟨⟨sl, e1, r⟩, m1⟩ := x.keep b o bl hm e
    exact ⟨⟨sl, he _ _ hb e1, r⟩, m1⟩, x.le⟩

structure Iter (c : Cx) (A : Around) (it : Addr) (It : Lay → Heap → List V → Prop) : Prop where
  get : ∀ {ρ h r}, It ρ h r → ∃ o vs, h.get? it = some o ∧ o.data = .fields vs
  frame : ∀ {ρ h ρ' h' r}, It ρ h r → (∃ m, h.Ns c.F.L m) → ¬ ρ.mut it → Ext c.F.L ρ h ρ' h' → It ρ' h' r
  nil : ∀ {ρ} {s : Shared} {Q E}, It ρ s.heap [] → (∀ h', Heap.ExtBut it s.heap h' → Q none { s with heap := h' }) → wpAny c.M A (pyNext (.ref it)) Q E s
  cons : ∀ {ρ} {s : Shared} {v r Q E}, It ρ s.heap (v :: r) → (∀ h' tk cv, Heap.SameBut it s.heap h' → (∀ {u : V} {cu : Value}, VR c.hB ρ s.heap u cu → VR c.hB ρ h' u cu) → It ρ h' r ∧ VR c.hB ρ h' v cv → Q (some cv) { s with heap := h', toks := tk }) → wpAny c.M A (pyNext (.ref it)) Q E s

section
variable {c : Cx} {A : Around} {ρ ρ1 : Lay} {σ σ1 : St} {s s1 : Shared}

theorem for_sound {i : Nat} {x : Str} {p : Pos} {b : MSs} {body : List Stmt} {it : Addr} {It : Lay → Heap → List V → Prop} {Qa : Out → St → Prop} {Qc : Flow → Shared → Prop} {E : Value → Shared → Prop} {vs : List V}
    (W : Iter c A it It) (hx : slotIs c.ns c.F.sc i x = true) (hb : c.SSs b body) (hA : AOk A c.F.fl c.d) (hbase : s.heap.get? it = none) (hnew : c.s₀.heap.get? it = none) (X : Ext c.F.L ρ s.heap ρ1 s1.heap) (I : c.Inv ρ1 σ1 s1) (hit : It ρ1 s1.heap vs) (hm : ¬ ρ1.mut it)
    (hw : forN (awpSs c.glob c.cls c.C b) i Qa vs σ1) (k : c.Post ρ s Qa Qc E) :
    codeAny c.M A (.forLoop (.Name x p) (.ref it) body [] c.F.env) (fun r s' => match r with | .ok f => Qc f s' | .error e => cameBackBy c.M A c.F.env E e s') s1 := by
  refine codeAny_forLoop (fun n s' => ∃ ρ' σ' r, Ext c.F.L ρ s.heap ρ' s'.heap ∧ c.Inv ρ' σ' s' ∧ It ρ' s'.heap r ∧ ¬ ρ'.mut it ∧ forN (awpSs c.glob c.cls c.C b) i Qa r σ' ∧ n = r.length) ?_ vs.length ⟨ρ1, σ1, vs, X, I, hit, hm, hw, rfl⟩ (fun v => rfl)
  rintro n s2 ⟨ρ2, σ2, r, X2, I2, hit2, hm2, hw2, rfl⟩
  obtain ⟨o, ws, ho, hd⟩ := W.get hit2
  cases r with
  | nil =>
    refine W.nil hit2 fun h' he => ?_
    obtain ⟨I3, _⟩ := I2.iter (tk := s2.toks) ho hd hnew he
    unfold forN at hw2
    exact wpAny_execs_nil (k _ _ _ _ (X2.iter hbase he) I3 hw2)
  | cons v r =>
    refine W.cons hit2 fun h' tk cv hs lift hr => ?_
    obtain ⟨I3, _⟩ := I2.iter (tk := tk) ho hd hnew hs.extBut
    have X3 := X2.iter hbase hs.extBut
    unfold forN at hw2
    refine wpAny_assign_Name (store_sound I3 hx hr.2 fun s4 x4 I4 => ?_)
    have hit4 := W.frame hr.1 I3.apart hm2 x4
    refine hb hA I4 hw2 fun ρ5 oo σ5 s5 x5 I5 q5 => ?_
    have X5 := (X3.trans x4).trans x5
    cases oo with
    | next =>
      obtain ⟨o4, ws4, ho4, hd4⟩ := W.get hit4
      have hL : it ≠ c.F.L := by
        obtain ⟨m, hn⟩ := I4.apart
        exact plain_ne_ns ho4 (fun es n q => by rw [hd4] at q; cases q) hn
      exact ⟨r.length, Nat.lt_succ_self _, ρ5, σ5, r, X5, I5, W.frame hit4 I4.apart hm2 x5, (x5.keep it o4 hL hm2 ho4).2, q5, rfl⟩
    | brk => exact k _ _ _ _ X5 I5 q5
    | ret v => exact k _ _ _ _ X5 I5 q5
    | exc => exact q5.elim

theorem iter_list (hA : A.handled = none) {it l : Addr} {hne : l ≠ it} (hlm : True) :
    Iter c A it (fun ρ h r => ∃ xs i, h.IsListIter it l i ∧ h.IsList l xs ∧ ¬ ρ.mut l ∧ VRs c.hB ρ h r (xs.toList.drop i)) where
  get := by
    rintro ρ h r ⟨xs, i, ⟨o, ho, hc, hd⟩, _⟩
    exact ⟨o, _, ho, hd⟩
  frame := by
    rintro ρ h ρ' h' r ⟨xs, i, ⟨o, ho, hc, hd⟩, hl, hm, hv⟩ ⟨m, hn⟩ hmi x
    have h1 := x.keep it o (plain_ne_ns ho (fun es n q => by rw [hd] at q; cases q) hn) hmi ho
    have hlL := list_ne_ns hl hn
    refine ⟨xs, i, ⟨o, h1.1.exact hd, hc, hd⟩, isList_slots hl fun o e => (x.keep l o hlL hm e).1.slotted, ?_, hv.mono ⟨m, hn⟩ x⟩
    obtain ⟨o', ho', _⟩ := hl
    exact (x.keep l o' hlL hm ho').2
  nil := by
    rintro ρ s Q E ⟨xs, i, hi, hl, hm, hv⟩ hQ
    have : xs.size ≤ i := by
      have := hv.length
      rw [List.length_nil, List.length_drop] at this
      have e : xs.toList.length = xs.size := by simp
      omega
    exact wpAny_pyNext_list_end hA hi hl (by simp; exact this) hQ
  cons := by
    rintro ρ s v r Q E ⟨xs, i, hi, hl, hm, hv⟩ hQ
    have hlt : i < xs.toList.length := by
      have := hv.length
      rw [List.length_cons, List.length_drop] at this
      omega
    rw [List.drop_eq_getElem_cons hlt] at hv
    cases hv with
    | cons r1 r2 =>
      refine wpAny_pyNext_list_item hi hl (x := xs.toList[i]) (by simpa using List.getElem?_eq_getElem hlt) fun h' hi' hs => ?_
      obtain ⟨o, ho, hc, hd⟩ := id hi
      have kl : ∀ a ys, s.heap.IsList a ys → ¬ ρ.mut a → h'.IsList a ys ∧ ¬ ρ.mut a := by
        rintro a ys ⟨o', ho', hc', n', hd'⟩ hm'
        refine ⟨⟨o', (hs.2 a ?_).trans ho', hc', n', hd'⟩, hm'⟩
        rintro rfl
        rw [ho] at ho'; cases ho'; rw [hd] at hd'; cases hd'
      exact hQ h' s.toks _ hs (fun r => r.lift kl .refl) ⟨⟨xs, i + 1, hi', (kl _ _ hl hm).1, hm, r2.lift kl .refl⟩, r1.lift kl .refl⟩

theorem s_forL {i : Nat} {e : ME} {b : MSs} {x : Str} {p pos : Pos} {v : Expr} {body : List Stmt} (h : slotIs c.ns c.F.sc i x = true) (he : okE c.ns c.F.sc e v = true) (hb : c.SSs b body) : c.SS (.forL i e b) (.For (.Name x p) v body [] pos) := by
  intro A ρ σ s Qa Qc E hA I hw k
  unfold awpS at hw
  refine wpAny_For (soundE c e v he hA I hw fun ρ1 v1 σ1 c1 s1 x1 I1 r1 h1 => ?_) (folded_okE he _)
  obtain ⟨xs, rfl, hq⟩ := h1
  cases r1
  rename_i ys a hl hm hv
  have hlt : a < s1.heap.objs.size := by obtain ⟨o, ho, _⟩ := id hl; exact Heap.lt_size ho
  refine wpAny_pyIter_list hl ?_
  refine for_sound (ρ := ρ1) (s := s1) (iter_list (hne := Nat.ne_of_lt hlt) hA.handled trivial) h hb hA (none_size (s := s1) (s₀ := s1) (fun _ _ e => e) (Nat.le_refl _)) (none_size I1.g.keep (Nat.le_refl _)) (.of_keep keep_push) (I1.grow (tk := s1.toks) keep_push)
    ⟨ys.toArray, 0, ⟨_, Heap.get?_push_size _ rfl, rfl, rfl⟩, hl.push _, hm, ?_⟩ I1.g.gl.fresh hq fun ρ2 o σ2 s2 x2 I2 q2 => k _ _ _ _ (x1.trans x2) I2 q2
  rw [List.drop_zero]
  exact hv.mono I1.apart (.of_keep keep_push)
end
end Mine

-- MStm6
namespace Mine
set_option maxRecDepth 100000
set_option maxHeartbeats 400000
set_option linter.unusedVariables false

def rangeBy (c : Int) : Int → Nat → List V
  | _, 0 => []
  | a, n + 1 => .int a :: rangeBy c (a + c) n
theorem rangeUp_eq : ∀ (n : Nat) (a : Int), rangeUp a n = rangeBy 1 a n
  | 0, _ => rfl
  | n + 1, a => by rw [rangeUp, rangeBy, rangeUp_eq n]
theorem rangeDown_eq : ∀ (n : Nat) (a : Int), rangeDown a n = rangeBy (-1) a n
  | 0, _ => rfl
  | n + 1, a => by rw [rangeDown, rangeBy, rangeDown_eq n]; rfl

/-- the own dict of the frame changes, and more is made -/
theorem InvF.storeK {hB s₀ fl L ns ρ σ s} (I : InvF hB s₀ fl L ns ρ σ s) (nd : ns.Nodup) {h' : Heap} {tk : Nat} {i : Nat} {x : Str} {v : V} {cv : Value} {m : Str → Option Value}
    (hm : ∀ (j : Nat) (y : Str) (u : V), ns[j]? = some y → (σ.loc[j]?).join = some u → ∃ cu, m y = some cu ∧ VR hB ρ s.heap u cu)
    (hn : h'.Ns L fun y => if y = x then some cv else m y) (hs : ∀ b o, b ≠ L → s.heap.get? b = some o → h'.get? b = some o) (hx : ns[i]? = some x) (hv : VR hB ρ h' v cv) :
    Ext L ρ s.heap ρ h' ∧ InvF hB s₀ fl L ns ρ ⟨σ.loc.set i (some v), σ.g⟩ { s with heap := h', toks := tk } := by
  have X : Ext L ρ s.heap ρ h' := .of_keepL hs
  have A := I.apart
  obtain ⟨mm, hmm⟩ := A
  refine ⟨X, ⟨fun b o e => hs b o (Nat.ne_of_lt (Nat.lt_of_lt_of_le (Heap.lt_size e) I.above)) (I.g.keep b o e), ⟨?_, fun b => ?_, I.g.gl.apart, I.g.gl.new⟩, ?_, I.g.fmut, I.g.gens, I.g.drawn, I.g.os⟩, ⟨_, hn, fun j y u e1 e2 => ?_⟩, ?_, I.above, I.lmut⟩
  · rcases I.g.gl.tape with h | ⟨vs, a, xs, h1, h2, hl, h4⟩
    · exact .inl h
    · have hne := list_ne_ns hl hmm
      obtain ⟨o, ho, hc, hd⟩ := hl
      exact .inr ⟨vs, a, xs, h1, h2, ⟨o, hs a o hne ho, hc, hd⟩, h4.mono ⟨mm, hmm⟩ X⟩
  · rcases I.g.gl.stem b with h | ⟨f, a, dx, sl, es, n, h1, h2, h3, h4, h5⟩
    · exact .inl h
    · have hne := plain_ne_ns h3 (fun es n q => by cases q) hmm
      have hne2 : dx ≠ L := fun q => I.lmut (by rw [← q]; exact .inr ⟨b, a, h2⟩)
      exact .inr ⟨f, a, dx, sl, es, n, h1, h2, hs _ _ hne h3, hs _ _ hne2 h4, h5.mono ⟨mm, hmm⟩ X⟩
  · refine funFrames_mono (fun env he L' hL o ho => ?_) I.g.frames
    by_cases hq : L' = L
    · subst hq
      obtain ⟨o', es, ep, ho', hd', _⟩ := hn
      exact ⟨o', ho', fun vs q => by rw [hd'] at q; cases q⟩
    · exact ⟨o, hs _ _ hq ho, fun _ q => q⟩
  · by_cases hji : i = j
    · subst hji
      rw [hx] at e1; cases e1
      have hlt : i < σ.loc.length := by rw [I.len]; exact (List.getElem?_eq_some_iff.mp hx).1
      dsimp only at e2
      rw [List.getElem?_set_self hlt] at e2
      cases e2
      exact ⟨cv, by simp, hv⟩
    · dsimp only at e2
      rw [List.getElem?_set_ne hji] at e2
      obtain ⟨cu, h1, h2⟩ := hm j y u e1 e2
      have hne : y ≠ x := by
        rintro rfl
        obtain ⟨p1, p2⟩ := List.getElem?_eq_some_iff.mp hx
        obtain ⟨p3, p4⟩ := List.getElem?_eq_some_iff.mp e1
        exact hji ((List.getElem_inj nd).mp (p2.trans p4.symm))
      exact ⟨cu, by simp [hne, h1], h2.mono ⟨mm, hmm⟩ X⟩
  · show (σ.loc.set i (some v)).length = _
    rw [List.length_set]; exact I.len


section
variable {c : Cx} {A : Around} {ρ ρ1 : Lay} {σ σ1 : St} {s s1 : Shared} {E : Value → Shared → Prop}

theorem iter_range (hA : A.handled = none) {it : Addr} (st : Int) : Iter c A it (fun ρ h r => ∃ (x : Int) (n : Nat), IsRangeIter h it x n st ∧ r = rangeBy st x n) where
  get := by
    rintro ρ h r ⟨x, n, hi, _⟩
    exact ⟨_, _, hi, rfl⟩
  frame := by
    rintro ρ h ρ' h' r ⟨x, n, hi, hr⟩ ⟨m, hn⟩ hmi X
    have h1 := X.keep it _ (plain_ne_ns hi (fun es n q => by cases q) hn) hmi hi
    exact ⟨x, n, h1.1.exact rfl, hr⟩
  nil := by
    rintro ρ s Q E ⟨x, n, hi, hr⟩ hQ
    cases n with
    | zero => exact wpAny_pyNext_range_end hA hi (Int.le_refl _) hQ
    | succ n => cases hr
  cons := by
    rintro ρ s v r Q E ⟨x, n, hi, hr⟩ hQ
    cases n with
    | zero => cases hr
    | succ n =>
      cases hr
      refine wpAny_pyNext_range_item hi (by omega) fun h' hi' hs => ?_
      have kl : ∀ a ys, s.heap.IsList a ys → ¬ ρ.mut a → h'.IsList a ys ∧ ¬ ρ.mut a := by
        rintro a ys ⟨o', ho', hc', n', hd'⟩ hm'
        refine ⟨⟨o', (hs.2 a ?_).trans ho', hc', n', hd'⟩, hm'⟩
        rintro rfl
        rw [hi] at ho'; cases ho'; cases hd'
      refine hQ h' _ _ hs (fun r => r.lift kl .refl) ⟨⟨x + st, n, ?_, rfl⟩, .int _ _⟩
      have e : ((n + 1 : Nat) : Int) - 1 = (n : Int) := by omega
      rw [e] at hi'
      exact hi'

theorem keeps_ty (n : String) : ∀ h : Heap, True → ∃ k, (k = Keeper.frame ∨ k = Keeper.machine ∨ k = Keeper.boundFrame) ∧ Looks c.M h (keeperOf (.type n)) k := fun h _ => ⟨.machine, .inr (.inl rfl), Looks.of_pure rfl⟩

theorem size_up (k : Nat) : Builtin.Range.rangeSize 0 (k : Int) 1 = (k : Int) := by
  rw [rangeSize_one]; split <;> omega
theorem size_down (k : Nat) : Builtin.Range.rangeSize ((k : Int) - 1) (-1) (-1) = (k : Int) := by
  unfold Builtin.Range.rangeSize
  simp only [show ¬ ((-1 : Int) > 0) by decide, if_false, Int.neg_neg, Int.ediv_one]
  split <;> omega
theorem small_down (k : Nat) (h : k ≤ bound) : Builtin.Range.small ((k : Int) - 1) (-1) (-1) = true := by
  unfold Builtin.Range.small
  rw [size_down]
  unfold bound at h
  simp only [Builtin.Range.rangeFitsLong, Bool.and_eq_true, Bool.or_eq_true, decide_eq_true_eq, beq_iff_eq, show ¬ ((-1 : Int) > 0) by decide, if_false]
  omega

theorem s_for1 {i : Nat} {e : ME} {b : MSs} {x fn : Str} {p q r pos : Pos} {v : Expr} {body : List Stmt} (h : slotIs c.ns c.F.sc i x = true) (hg : isG c.F.sc fn (S "range") = true) (he : okE c.ns c.F.sc e v = true) (hb : c.SSs b body) :
    c.SS (.for1 i e b) (.For (.Name x p) (.Call (.Name fn q) [v] [] r) body [] pos) := by
  intro A ρ σ s Qa Qc E hA I hw k
  unfold awpS at hw
  have ho : okEs c.ns c.F.sc (.cons e .nil) [v] = true := by simp only [okEs, he, Bool.and_self]
  refine wpAny_For (Call_ (builtin_at I hg (k_range _ _) (callWith_sound (es := .cons e .nil) (Qa := one fun x σ => ∃ k : Nat, x = .int k ∧ k ≤ bound ∧ forN (awpSs c.glob c.cls c.C b) i Qa (rangeUp 0 k) σ) ho (soundEs c _ _ ho) hA I (awp1 hw) (keeps_ty _) fun ρ1 vs σ1 cvs s1 x1 I1 r1 q1 => ⟨trivial, ?_⟩))) (fun _ => rfl)
  obtain ⟨v1, rfl, n, rfl, hn, hq⟩ := one_of q1
  obtain ⟨cv, rfl, rv⟩ := r1.one
  cases rv
  simp only [List.nil_append]
  refine call_range_1 ?_
  refine wpAny_pyIter_range (IsRange.new ..) (small_one (a := 0) (b := (n : Int)) (by decide) (by decide) (by omega) (by unfold bound at hn; omega)) ?_
  rw [size_up]
  have kk : ∀ (o1 o2 : Obj) b o, s1.heap.get? b = some o → ((s1.heap.push o1).push o2).get? b = some o := fun o1 o2 b o e => keep_push _ _ (keep_push _ _ e)
  rw [rangeUp_eq] at hq
  refine for_sound (ρ := ρ1) (s := s1) (iter_range hA.handled 1) h hb hA ?_ ?_ (.of_keep (kk _ _)) (I1.grow (kk _ _)) ⟨0, n, Heap.get?_push_size _ rfl, rfl⟩ ?_ hq fun ρ2 o σ2 s2 x2 I2 q2 => k _ _ _ _ (x1.trans x2) I2 q2
  · exact none_size (s := s1) (s₀ := s1) (fun _ _ e => e) (by dsimp only; rw [Heap.size_push]; exact Nat.le_succ _)
  · exact none_size I1.g.keep (by dsimp only; rw [Heap.size_push]; exact Nat.le_succ _)
  · dsimp only; rw [Heap.size_push]; exact I1.g.gl.fresh1

theorem s_for3 {i : Nat} {e1 e2 e3 : ME} {b : MSs} {x fn : Str} {p q r pos : Pos} {v1 v2 v3 : Expr} {body : List Stmt} (h : slotIs c.ns c.F.sc i x = true) (hg : isG c.F.sc fn (S "range") = true) (h1 : okE c.ns c.F.sc e1 v1 = true) (h2 : okE c.ns c.F.sc e2 v2 = true) (h3 : okE c.ns c.F.sc e3 v3 = true) (hb : c.SSs b body) :
    c.SS (.for3 i e1 e2 e3 b) (.For (.Name x p) (.Call (.Name fn q) [v1, v2, v3] [] r) body [] pos) := by
  intro A ρ σ s Qa Qc E hA I hw k
  unfold awpS at hw
  have ho : okEs c.ns c.F.sc (.cons e1 (.cons e2 (.cons e3 .nil))) [v1, v2, v3] = true := by simp only [okEs, h1, h2, h3, Bool.and_self]
  refine wpAny_For (Call_ (builtin_at I hg (k_range _ _) (callWith_sound (es := .cons e1 (.cons e2 (.cons e3 .nil))) (Qa := three fun x y z σ => ∃ k : Nat, x = .int ((k : Int) - 1) ∧ y = .int (-1) ∧ z = .int (-1) ∧ k ≤ bound ∧ forN (awpSs c.glob c.cls c.C b) i Qa (rangeDown (k - 1) k) σ) ho (soundEs c _ _ ho) hA I (awp3 hw) (keeps_ty _) fun ρ1 vs σ1 cvs s1 x1 I1 r1 q1 => ⟨trivial, ?_⟩))) (fun _ => rfl)
  obtain ⟨w1, w2, w3, rfl, n, rfl, rfl, rfl, hn, hq⟩ := three_of q1
  obtain ⟨ca, cb, cc, rfl, ra, rb, rc⟩ := r1.three
  cases ra
  cases rb
  cases rc
  simp only [List.nil_append]
  refine call_range_3 (by decide) ?_ (.inl ?_)
  · refine wpAny_pyIter_range (IsRange.new ..) (small_down n hn) ?_
    rw [size_down]
    have kk : ∀ (o1 o2 : Obj) b o, s1.heap.get? b = some o → ((s1.heap.push o1).push o2).get? b = some o := fun o1 o2 b o e => keep_push _ _ (keep_push _ _ e)
    rw [rangeDown_eq] at hq
    refine for_sound (ρ := ρ1) (s := s1) (iter_range hA.handled (-1)) h hb hA ?_ ?_ (.of_keep (kk _ _)) (I1.grow (kk _ _)) ⟨(n : Int) - 1, n, Heap.get?_push_size _ rfl, rfl⟩ ?_ hq fun ρ2 o σ2 s2 x2 I2 q2 => k _ _ _ _ (x1.trans x2) I2 q2
    · exact none_size (s := s1) (s₀ := s1) (fun _ _ e => e) (by dsimp only; rw [Heap.size_push]; exact Nat.le_succ _)
    · exact none_size I1.g.keep (by dsimp only; rw [Heap.size_push]; exact Nat.le_succ _)
    · dsimp only; rw [Heap.size_push]; exact I1.g.gl.fresh1
  · unfold Builtin.divisionGoesByPylong
    rfl

theorem pair_mods {hB : Heap} {h : Heap} : ∀ {cs ys : List Value} {ns : List Int}, Paired (fun v y => ∃ n t u, v = .int n t ∧ y = .int (n.fmod 1000003) u) cs ys → IntsAre cs ns → VRs hB ρ h (ns.map fun n => .int (n.fmod 1000003)) ys
  | _, _, _, .nil, .nil => .nil
  | _, _, _, .cons hF r, .cons _ _ b => by
    obtain ⟨n, t, u, e, rfl⟩ := hF
    cases e
    exact .cons (.int _ _) (pair_mods r b)

theorem s_assignComp {i : Nat} {e : ME} {x y z : Str} {px py zp bp lp pos cp : Pos} {kk : Nat} {it : Expr} {cs : Scope}
    (h : okS c.ns c.F.sc (.assignComp i e) (.Assign [.Name z zp] (.ListComp (.BinOp (.Name x px) .Mod (.Constant (.int 1000003) kk cp) bp) [⟨.Name y py, it, [], 0⟩] cs lp) pos) = true) :
    c.SS (.assignComp i e) (.Assign [.Name z zp] (.ListComp (.BinOp (.Name x px) .Mod (.Constant (.int 1000003) kk cp) bp) [⟨.Name y py, it, [], 0⟩] cs lp) pos) := by
  intro A ρ σ s Qa Qc E hA I hw k
  simp only [okS, Bool.and_eq_true, beq_iff_eq, Bool.not_eq_true'] at h
  unfold awpS at hw
  obtain ⟨⟨⟨⟨⟨⟨hz, rfl⟩, rfl⟩, hc⟩, hline⟩, hno⟩, he⟩ := h
  have ok := compOk_of hc
  obtain ⟨z1, z2⟩ := slot_of hz
  have hsw : swapsWith (.ListComp (.BinOp (.Name (S "number") px) .Mod (.Constant (.int 1000003) kk cp) bp) [⟨.Name (S "number") py, it, [], 0⟩] cs lp) (some (.Name z zp)) pos.line c.F.env = pure true := by
    have e1 : c.F.env.blockKind = .function := by
      have e : c.F.env.scope.kind = .function := c.sck
      unfold Env.blockKind
      rw [e]; rfl
    show pure ((c.F.env.blockKind == .function) && (c.F.env.kindOf z == some .local) && (zp.line == lp.line) && !(cs.names.any fun (n, k) => n == z && (k == .local || k == .cell))) = _
    rw [e1, z2, hline, hno]
    simp
  refine wpAny_Assign_ListComp_map (fun _ => true) (fun v y => ∃ n t u, v = .int n t ∧ y = .int (n.fmod 1000003) u) hsw hA.handled ok.free ok.cell ok.kind ok.loc ok.x z2 cls_no (soundE c e it he hA I hw fun ρ1 v1 σ1 c1 s1 x1 I1 r1 h1 => ?_) (folded_okE he _)
  obtain ⟨ns, rfl, hlen, hq⟩ := h1
  cases r1
  rename_i its ad hl hm hv
  have hsz : its.toArray.size ≤ 100 := by rw [List.size_toArray, ← hv.length, List.length_map]; exact hlen
  have hi := hv.ints
  obtain ⟨m, hn, hloc⟩ := I1.loc
  refine ⟨ad, its.toArray, m, rfl, hl, by rw [sizeLine_eq]; omega, hn, ?_, ?_, ?_⟩
  · intro C v s2 m2 E' _ _ _ _
    exact wpAny_pure ⟨rfl, s2.heap, s2.toks, rfl, fun _ _ e => e⟩
  · intro C v s2 m2 E' hmem _ hn2 hmv _
    have hmem' : v ∈ its := by simpa using hmem
    obtain ⟨n, t, rfl⟩ : ∃ n t, v = .int n t := by
      clear hsz hq hlen
      have : ∀ {cs : List Value} {ns : List Int}, IntsAre cs ns → v ∈ cs → ∃ n t, v = .int n t := by
        intro cs ns h
        induction h with
        | nil => intro h; cases h
        | cons n t r ih =>
          intro h
          rcases List.mem_cons.mp h with rfl | h
          · exact ⟨n, t, rfl⟩
          · exact ih h
      exact this hi hmem'
    refine wpAny_BinOp (wpAny_Name (wpAny_loadName_local ok.kind ok.x hn2 hmv (wpAny_Constant_int (PyProof.Rows.mod_int' (by decide) ?_))))
    exact ⟨⟨n, t, _, rfl, rfl⟩, ⟨s2.heap, _, rfl, fun _ _ e => e⟩⟩
  · intro D h' tk ys hD hl' hF hn' hkeep
    have hp := (List.filter_eq_self (l := its) (p := fun _ => true)).mpr (by intro _ _; rfl)
    have hF' : Paired (fun v y => ∃ n t u, v = .int n t ∧ y = .int (n.fmod 1000003) u) its ys.toList := by
      have := hF
      rw [show its.toArray.toList = its from rfl, hp] at this
      exact this
    have rr : VR c.hB ρ1 h' (.list (ns.map fun n => .int (n.fmod 1000003))) (.ref D) := by
      refine .list (xs := ys.toList) (by simpa using hl') (fun mm => ?_) (pair_mods hF' hi)
      obtain ⟨o, ho⟩ := I1.g.gl.mut_some mm
      rw [hD] at ho; cases ho
    obtain ⟨x2, I2⟩ := I1.storeK c.nd (tk := tk) hloc hn' hkeep z1 rr
    exact k _ _ _ _ (x1.trans x2) I2 hq
end
end Mine

-- MStm7
namespace Mine
set_option maxRecDepth 100000
set_option maxHeartbeats 400000
set_option linter.unusedVariables false

theorem ns_none {K : Frag} {h : Heap} {mg : Str → Option Value} {a : Addr} {n : Str} (X : K.In h) (G : h.Ns a mg) (e : nsIn K a n = some none) : mg n = none := by
  obtain ⟨o, es, ep, ho, hd, _, hf⟩ := G
  unfold nsIn at e
  split at e
  · rename_i c d es' n' sl q
    have := X _ _ q
    rw [ho] at this
    cases this
    cases hd
    split at e
    · cases e
    · rename_i he
      rw [← hf]
      unfold nsFind findBy
      rw [← Array.find?_toList, he]
      rfl
  · cases e
theorem look938 (w : World) (X : SetD) : (h13 w X).isNs 938 = true := by kernel_rfl
theorem ns_938 (w : World) (X : SetD) : ∃ mg, (h13 w X).Ns 938 mg := by
  have e := look938 w X
  unfold Heap.isNs at e
  split at e
  · rename_i o ho
    split at e
    · rename_i es ep hd
      refine ⟨nsFind es, o, es, ep, ho, hd, fun en hen => ?_, fun _ => rfl⟩
      have := Array.all_eq_true_iff_forall_mem.mp e en hen
      split at this
      · exact ⟨_, _, ‹_›⟩
      · cases this
    · cases e
  · cases e
theorem quiet938 (w : World) (X : SetD) : ∀ n ∈ quietNames, nsIn (KK w X) 938 n = some none := by
  intro n hn
  have : n = "__init__" ∨ n = "__getattribute__" ∨ n = "__getattr__" ∨ n = "args" := by simpa [quietNames] using hn
  rcases this with h | h | h | h <;> (subst h; kernel_rfl)
abbrev excM : List Value := [.type "Exception", .type "BaseException", .type "object"]
theorem lab0_obj (w : World) (X : SetD) : at13 w X 939 = excClassObj (S "lab0") (S "lab0") 939 938 [.type "Exception"] excM true [] [] false none none (some (.ref 930)) none (some (.str (S "lab0") 3428)) (some (.str (S "lab0") 3436)) (some (.bool true)) "Exception.__new__" := by kernel_rfl
theorem lab0_live (w : World) (X : SetD) : liveAt (T13 w.params X) 939 = true := by kernel_rfl
theorem lab0_at (w : World) (X : SetD) : (h13 w X).get? 939 = some (excClassObj (S "lab0") (S "lab0") 939 938 [.type "Exception"] excM true [] [] false none none (some (.ref 930)) none (some (.str (S "lab0") 3428)) (some (.str (S "lab0") 3436)) (some (.bool true)) "Exception.__new__") := by
  rw [live_get (lab0_live w X), lab0_obj]

section
variable {M : Model} {A : Around} {E : Value → Shared → Prop} {s : Shared} {env : Env}
theorem try_fused {body orelse : Sem Flow} {h₀ : ExceptHandler} {hs : List ExceptHandler} {Q : Flow → Shared → Prop}
    (h : wpAny M A body (fun f s₁ => match f with | .next => wpAny M A orelse Q E s₁ | f => Q f s₁)
      (fun e s₁ => wpAny M A (leaving env e) (fun _ s₃ => wpAny M A (handleBy e env (h₀ :: hs)) Q E s₃) E s₁) s) :
    wpAny M A (tryStmt false body (h₀ :: hs) orelse [] env) Q E s := by
  unfold tryStmt
  simp only [List.isEmpty_nil, if_true, List.isEmpty_cons, Bool.false_and, Bool.false_eq_true, if_false]
  refine wpAny_bind (wpAny_attempt (wpAny_mono h (fun f s₁ h₁ => ?_) fun e s₁ h₁ => ?_))
  · cases f <;> first | exact h₁ | exact wpAny_pure h₁
  · have := wpAny_bind h₁
    have e1 : (leaving env e >>= fun _ => handleBy e env (h₀ :: hs)) = (noteFrame e env >>= fun _ => setFlight e none >>= fun _ => handleBy e env (h₀ :: hs)) := Sem.bind_assoc _ _ _
    rw [e1] at this
    exact this
end

section
variable {c : Cx} {A : Around} {ρ ρ1 : Lay} {σ σ1 : St} {s s1 : Shared} {E : Value → Shared → Prop}

theorem s_raise {x : Str} {np cp pos : Pos} (hg : isG c.F.sc x (S "lab0") = true) : c.SS .raise (.Raise (some (.Call (.Name x np) [] [] cp)) none pos) := by
  intro A ρ σ s Qa Qc E hA I hw k
  unfold awpS at hw
  obtain ⟨mN, hN⟩ := ns_938 c.w c.X
  have hq : ∀ n ∈ quietNames, mN n = none := fun n hn => ns_none (KK_in c.w c.X) hN (quiet938 _ _ n hn)
  refine wpAny_Raise_call_sub PySem.F.excBase_Exception (C := 939) (mN := mN) hA.handled rfl (hq _ (by simp [quietNames])) (glob_at I hg (k_lab0 _ _) ⟨rfl, evalArgs_nil3 ⟨rfl, by rw [sizeLine_eq]; simp, Cx.stays I _ _ (lab0_at c.w c.X), hN.keeps (Cx.stays I), fun h' e hx => ?_⟩⟩)
  exact k _ _ _ _ .refl I hw e h' hx

theorem upTo_all {h h2 h3 : Heap} (a : h.UpToSlots h2) (b : h2.UpToSlots h3) : h.UpToSlots h3 := a.trans b

theorem s_try {b : MSs} {body : List Stmt} {x : Str} {np pp hp pos : Pos} (hg : isG c.F.sc x (S "lab0") = true) (hb : c.SSs b body) : c.SS (.tryP b) (.Try body [.ExceptHandler (some (.Name x np)) none [.Pass pp] hp] [] [] pos) := by
  intro A ρ σ s Qa Qc E hA I hw k
  unfold awpS at hw
  rw [arm_exec_Try]
  refine wpAny_bind (wpAny_standAt (try_fused (hb hA I hw fun ρ1 o σ1 s1 x1 I1 q1 => ?_)))
  cases o with
  | next => exact wpAny_execs_nil (k _ _ _ _ x1 I1 q1)
  | brk => exact k _ _ _ _ x1 I1 q1
  | ret v => exact k _ _ _ _ x1 I1 q1
  | exc =>
    intro e h' hx
    have hfr := I1.g.frames
    have hin : ∀ env ∈ c.F.fl, ∀ a, env.frame = some a → a ∈ c.F.fl.filterMap (·.frame) := fun env he a ha => List.mem_filterMap.mpr ⟨env, he, ha⟩
    have st0 : c.s₀.heap.StaysIn (hideAll s1.heap (c.F.fl.filterMap (·.frame))) := fun b o q => hideAll_get _ (I1.g.keep b o q) fun hm => by
      rw [(hfr.mem hm).1] at q; cases q
    have hfh := funFrames_hide hfr hin
    refine wpAny_leaves_madeW (base := hideAll s1.heap (c.F.fl.filterMap (·.frame))) (h := s1.heap) (outer := c.F.outer) (L := c.F.L) hA.frames rfl (fun b o q => of_hideAll _ q) hfh hx fun h2 t hfl htup hnew hup => ?_
    have all2 : ∀ h3, (hideAll s1.heap (c.F.fl.filterMap (·.frame))).StaysIn h3 → h'.UpToSlots h3 → ∀ b o, s1.heap.get? b = some o → Stands h3 b o := by
      intro h3 hst hu b o e1
      by_cases hm : b ∈ c.F.fl.filterMap (·.frame)
      · obtain ⟨_, o', ho', hd'⟩ := hfr.mem hm
        rw [e1] at ho'; cases ho'
        obtain ⟨sl, e2⟩ := hu b o (hx.keeps _ _ e1) hd'
        exact ⟨sl, e2, fun vs q => absurd q (hd' vs)⟩
      · exact .of (hst b o (hideAll_get _ e1 hm))
    have exact2 : ∀ h3, (hideAll s1.heap (c.F.fl.filterMap (·.frame))).StaysIn h3 → ∀ b o, s1.heap.get? b = some o → ρ1.mut b → h3.get? b = some o := by
      intro h3 hst b o e1 hm
      refine hst b o (hideAll_get _ e1 fun hmem => ?_)
      obtain ⟨env, he, hf⟩ := List.mem_filterMap.mp hmem
      exact I1.g.fmut env he b hf hm
    have after : ∀ h3, (hideAll s1.heap (c.F.fl.filterMap (·.frame))).StaysIn h3 → h'.UpToSlots h3 → Ext c.F.L ρ1 s1.heap ρ1 h3 ∧ c.Inv ρ1 σ1 { s1 with heap := h3 } := by
      intro h3 hst hu
      have all := all2 h3 hst hu
      have mx := exact2 h3 hst
      have X3 : Ext c.F.L ρ1 s1.heap ρ1 h3 := ⟨fun b o _ hm e1 => ⟨all b o e1, hm⟩, .refl⟩
      have Ap := I1.apart
      obtain ⟨m, hn, hl⟩ := I1.loc
      refine ⟨X3, ⟨fun b o q => hst b o (st0 b o q), ⟨?_, fun bb => ?_, I1.g.gl.apart, I1.g.gl.new⟩, funFrames_mono (fun env he L hL o ho => ?_) hfr, I1.g.fmut, I1.g.gens, I1.g.drawn, I1.g.os⟩, ⟨m, ns_slots hn fun o ho => (all _ o ho).slotted, fun i y v p1 p2 => ?_⟩, I1.len, I1.above, I1.lmut⟩
      · rcases I1.g.gl.tape with hh | ⟨vs, a, xs, h1, h2, hl', h4⟩
        · exact .inl hh
        · exact .inr ⟨vs, a, xs, h1, h2, isList_slots hl' fun o ho => (all _ o ho).slotted, h4.mono Ap X3⟩
      · rcases I1.g.gl.stem bb with hh | ⟨f, a, dx, sl, es, n, h1, h2, h3', h4, h5⟩
        · exact .inl hh
        · obtain ⟨sl2, e2⟩ := (all _ _ h3').slotted
          exact .inr ⟨f, a, dx, sl2, es, n, h1, h2, e2, mx _ _ h4 (.inr ⟨bb, a, h2⟩), h5.mono Ap X3⟩
      · obtain ⟨sl, e2⟩ := (all _ _ ho).slotted
        exact ⟨_, e2, fun vs q => q⟩
      · obtain ⟨cv, q1, q2⟩ := hl i y v p1 p2
        exact ⟨cv, q1, q2.mono ⟨m, hn⟩ X3⟩
    obtain ⟨mN, hN⟩ := ns_938 c.w c.X
    have hq : ∀ n ∈ quietNames, mN n = none := fun n hn => ns_none (KK_in c.w c.X) hN (quiet938 _ _ n hn)
    obtain ⟨mg, G⟩ := ns_globals c.w c.X
    obtain ⟨rfl, hl1, hl2⟩ := isG_of hg
    have st2 : ∀ b o, c.hB.get? b = some o → h2.get? b = some o := fun b o q => hfl.1 b o (st0 b o (c.st b o q))
    obtain ⟨X2, I2⟩ := after h2 hfl.1 hup
    obtain ⟨m2, F2, _⟩ := I2.fr
    have O : OwnClsQ (S "lab0") 939 excM "Exception.__new__" mg h2 := ⟨ns_of (KK_in c.w c.X) G (k_lab0 _ _), ⟨excM, 938, _, _, _, _, _, _, _, _, _, _, _, _, _, _, mN, st2 _ _ (lab0_at c.w c.X), hN.keeps st2, hq, .base⟩⟩
    refine handleBy_own (C := 939) (x := S "lab0") (bmB := excM) (newId := "Exception.__new__") (mg := mg) (by decide) ?_
    refine ld_global_at F2 (G.keeps c.st) (ns_of (KK_in c.w c.X) G (k_lab0 _ _)) ?_ c.sck hl1 hl2
    refine ⟨rfl, O, hfl.there, lands_againW hfl fun h3 hfl3 hup3 => ?_⟩
    obtain ⟨X3, I3⟩ := after h3 hfl3.1 (hup.trans hup3)
    exact wpAny_execs_cons (wpAny_Pass (wpAny_execs_nil (k _ _ _ _ (x1.trans X3) I3 q1)))
end
end Mine

-- MStm8
namespace Mine
set_option maxRecDepth 100000
set_option maxHeartbeats 4000000
set_option linter.unusedVariables false
section
variable (c : Cx)
mutual
theorem soundS : ∀ (m : MS) (st : Stmt), okS c.ns c.F.sc m st = true → c.SS m st
  | .assign i e, st, h => by
    have h' := h
    unfold okS at h'
    split at h' <;> first | contradiction | skip
    rename_i heq; cases heq
    exact s_assign h
  | .assignComp i e, st, h => by
    have h' := h
    unfold okS at h'
    split at h' <;> first | contradiction | skip
    rename_i heq; cases heq
    exact s_assignComp h
  | .augLoc i op e, st, h => by
    have h' := h
    unfold okS at h'
    split at h' <;> first | contradiction | skip
    rename_i heq; cases heq
    exact s_augLoc h
  | .setAttr o a e, st, h => by
    have h' := h
    unfold okS at h'
    split at h' <;> first | contradiction | skip
    rename_i heq; cases heq
    exact s_setAttr h
  | .augAttr o a op e, st, h => by
    have h' := h
    unfold okS at h'
    split at h' <;> first | contradiction | skip
    rename_i heq; cases heq
    exact s_augAttr h
  | .setItem o i e, st, h => by
    have h' := h
    unfold okS at h'
    split at h' <;> first | contradiction | skip
    rename_i heq; cases heq
    exact s_setItem h
  | .unpack is e, st, h => by
    have h' := h
    unfold okS at h'
    split at h' <;> first | contradiction | skip
    rename_i heq; cases heq
    exact s_unpack h
  | .expr e, st, h => by
    have h' := h
    unfold okS at h'
    split at h' <;> first | contradiction | skip
    rename_i heq; cases heq
    exact s_expr h
  | .ite t a b, st, h => by
    have h' := h
    unfold okS at h'
    split at h' <;> first | contradiction | skip
    rename_i heq; cases heq
    simp only [Bool.and_eq_true] at h'
    exact s_ite h'.1.1 (soundSs a _ h'.1.2) (soundSs b _ h'.2)
  | .loop b, st, h => by
    have h' := h
    unfold okS at h'
    split at h' <;> first | contradiction | skip
    rename_i heq; cases heq
    exact s_loop (soundSs b _ h')
  | .for1 i n b, st, h => by
    have h' := h
    unfold okS at h'
    split at h' <;> first | contradiction | skip
    rename_i heq; cases heq
    simp only [Bool.and_eq_true] at h'
    exact s_for1 h'.1.1.1 h'.1.1.2 h'.1.2 (soundSs b _ h'.2)
  | .for3 i x y z b, st, h => by
    have h' := h
    unfold okS at h'
    split at h' <;> first | contradiction | skip
    rename_i heq; cases heq
    simp only [Bool.and_eq_true] at h'
    exact s_for3 h'.1.1.1.1.1 h'.1.1.1.1.2 h'.1.1.1.2 h'.1.1.2 h'.1.2 (soundSs b _ h'.2)
  | .forL i e b, st, h => by
    have h' := h
    unfold okS at h'
    split at h' <;> first | contradiction | skip
    rename_i heq; cases heq
    simp only [Bool.and_eq_true] at h'
    exact s_forL h'.1.1 h'.1.2 (soundSs b _ h'.2)
  | .ret e, st, h => by
    have h' := h
    unfold okS at h'
    split at h' <;> first | contradiction | skip
    rename_i heq; cases heq
    exact s_ret h
  | .brk, st, h => by
    have h' := h
    unfold okS at h'
    split at h' <;> first | contradiction | skip
    exact s_brk
  | .pass, st, h => by
    have h' := h
    unfold okS at h'
    split at h' <;> first | contradiction | skip
    exact s_pass
  | .raise, st, h => by
    have h' := h
    unfold okS at h'
    split at h' <;> first | contradiction | skip
    exact s_raise h'
  | .tryP b, st, h => by
    have h' := h
    unfold okS at h'
    split at h' <;> first | contradiction | skip
    rename_i heq; cases heq
    simp only [Bool.and_eq_true] at h'
    exact s_try h'.1 (soundSs b _ h'.2)
  | .assert t, st, h => by
    have h' := h
    unfold okS at h'
    split at h' <;> first | contradiction | skip
    rename_i heq; cases heq
    exact s_assert h
theorem soundSs : ∀ (m : MSs) (st : List Stmt), okSs c.ns c.F.sc m st = true → c.SSs m st
  | .nil, [], _ => ss_nil
  | .nil, x :: xs, h => by simp only [okSs, Bool.false_eq_true] at h
  | .cons e r, [], h => by simp only [okSs, Bool.false_eq_true] at h
  | .cons m r, x :: xs, h => by
    simp only [okSs, Bool.and_eq_true] at h
    exact ss_cons (soundS m x h.1) (soundSs r xs h.2)
end
end
end Mine

-- MCall
namespace Mine
set_option maxRecDepth 100000
set_option maxHeartbeats 1000000
set_option linter.unusedVariables false

structure FOk (w : World) (X : SetD) (f : Nat) (fd : FD) (ns : List Str) (body : List Stmt) (fr : FuncData) : Prop where
  obj : (h13 w X).get? (fa f) = some ⟨.type "function", none, .func fr, #[]⟩
  bodyIs : fr.body = .stmts body
  glob : fr.globals = mainGlobals
  clos : fr.closure = []
  blt : fr.builtins = builtinsNs
  code : codeIn (KK w X) fr.code fr.qualname = true
  bind : ∀ cvs : List Value, cvs.length = fd.np → bindArgs fr ⟨cvs, []⟩ = pure ((ns.take fd.np).zip cvs)
  ok : okSs ns fr.scope fd.body body = true
  len : ns.length = fd.nl
  le : fd.np ≤ fd.nl
  nd : ns.Nodup
  kind : fr.scope.kind = .function
  co : fr.scope.isCoroutine = false
  gen : fr.scope.isGenerator = false
  cell : ∀ x ∈ fr.scope.names, x.2 ≠ .cell
  loc : ∀ x ∈ ns, fr.scope.names.lookup x = some .local

theorem lookup_zip : ∀ {names : List Str} {cvs : List Value} {i : Nat} {x : Str} {v : Value}, names.Nodup → names[i]? = some x → cvs[i]? = some v → (names.zip cvs).reverse.lookup x = some v
  | [], _, _, _, _, _, h, _ => by cases h
  | n :: ns, [], _, _, _, _, _, h => by cases h
  | n :: ns, c :: cs, 0, x, v, hd, h1, h2 => by
    cases h1; cases h2
    rw [List.zip_cons_cons, List.reverse_cons, List.lookup_append]
    have : (ns.zip cs).reverse.lookup n = none := by
      rw [List.lookup_eq_none_iff]
      intro p hp
      have hp' := List.mem_reverse.mp hp
      have := (List.of_mem_zip (a := p.1) (b := p.2) hp').1
      rw [List.nodup_cons] at hd
      refine bne_iff_ne.mpr ?_
      rintro rfl
      exact hd.1 this
    rw [this]
    simp
  | n :: ns, c :: cs, i + 1, x, v, hd, h1, h2 => by
    rw [List.zip_cons_cons, List.reverse_cons, List.lookup_append]
    rw [List.nodup_cons] at hd
    rw [lookup_zip (i := i) hd.2 h1 h2]
    rfl

section
variable {w : World} {X : SetD} {s₀ : Shared} {glob cls : Nat → V}
theorem call_step (st : (h13 w X).StaysIn s₀.heap) (gok : GlOk w X glob cls) (hlim : s₀.heap.NoLimit) (hsz : ∃ a o, s₀.heap.get? a = some o ∧ s₀.heap.objs.size = a + 1) (hft : ∀ f fd, f < 35 → ftab[f]? = some fd → ∃ ns body fr, FOk w X f fd ns body fr) (d : Nat) (ih : ∀ fl, SCode w X s₀ fl d (callN glob cls ftab d)) (fl : List Env) :
    SCode w X s₀ fl (d + 1) (callN glob cls ftab (d + 1)) := by
  intro f vs Qa g ρ s A R cvs hf hA G hw rv k
  unfold callN at hw
  obtain ⟨fd, hfd, hlen, hw⟩ := hw
  obtain ⟨ns, body, fr, O⟩ := hft f fd hf hfd
  have kB : ∀ b o, (h13 w X).get? b = some o → s.heap.get? b = some o := fun b o e => G.keep b o (st b o e)
  have hroom : A.depth < recursionLimit := by show A.depth < 1000; have := hA.depth; omega
  refine codeAny_call_function (fd := fr) hroom (kB _ _ O.obj) rfl O.co O.gen O.bodyIs (codeRec_of ((KK_in w X).keeps kB) O.code) ?_
  have hcl : cvs.length = fd.np := by rw [← rv.length, hlen]
  rw [O.bind cvs hcl]
  have hnames : ∀ x ∈ ((ns.take fd.np).zip cvs), fr.scope.names.lookup x.1 = some .local := fun x hx => O.loc _ (List.mem_of_mem_take (List.of_mem_zip (a := x.1) (b := x.2) hx).1)
  refine wpAny_pure (wpAny_newFunctionEnv O.cell hnames (fun h₁ hns hsb => ⟨?_, ?_⟩) O.kind)
  · exact (hlim.keeps G.keep).fresh _ hsb
  have kk : ∀ b o, s.heap.get? b = some o → h₁.get? b = some o := fun b o e => hsb.extBut b o (Nat.ne_of_lt (Heap.lt_size e)) (Heap.get?_push_of_some _ e)
  have hnew : ∀ {a : Addr}, s.heap.objs.size ≤ a → s₀.heap.get? a = none := fun h => none_size G.keep h
  have Ap : Apart mainGlobals s.heap := let ⟨mg, hmg⟩ := ns_globals w X; ⟨mg, hmg.keeps kB⟩
  let F : Fx := ⟨fr.qualname, fr.scope, s.heap.objs.size, fa f, fr.code, fl⟩
  have henv : newEnv fr.scope s.heap.objs.size fr.globals fr.closure (fr.qualname ++ ".<locals>.") (some (fa f)) fr.code none fr.builtins = F.env := by
    rw [O.glob, O.clos, O.blt]; rfl
  rw [henv]
  let c : Cx := { w := w, X := X, s₀ := s₀, st := st, glob := glob, cls := cls, gok := gok, C := callN glob cls ftab d, d := d, F := F, ns := ns, sck := O.kind, sc := ih _, nd := O.nd }
  have G1 : GInv (h13 w X) s₀ fl ρ g { s with heap := h₁, toks := s.toks + ((ns.take fd.np).zip cvs).length } := G.grow Ap kk
  have hfresh : ¬ ρ.mut s.heap.objs.size := G.gl.fresh
  have hA2 : AOk (A.deeper F.env) F.fl d := by
    refine ⟨hA.handled, ?_, ?_⟩
    · show A.frames.map _ = _
      rw [hA.frames]; rfl
    · show A.depth + 1 + 4 * d + 4 ≤ 1000
      have := hA.depth; omega
  have I : c.Inv ρ ⟨vs.map some ++ List.replicate (fd.nl - fd.np) none, g⟩ { s with heap := h₁, toks := s.toks + ((ns.take fd.np).zip cvs).length } := by
    obtain ⟨o, es, ep, ho, hd, hr⟩ := id hns
    refine ⟨⟨G1.keep, G1.gl, ⟨?_, ⟨s.heap.objs.size, o, rfl, hnew (Nat.le_refl _), ho, fun ws q => by rw [hd] at q; cases q⟩, G1.frames⟩, ?_, G1.gens, G1.drawn, G1.os⟩, ⟨_, hns, fun i x v e1 e2 => ?_⟩, ?_, ?_, hfresh⟩
    · show fr.scope.kind ≠ .module
      rw [O.kind]; decide
    · intro env he L' hL
      rcases List.mem_cons.mp he with rfl | he
      · cases hL; exact hfresh
      · exact G1.fmut env he L' hL
    · dsimp only at e2
      have hi : i < vs.length := by
        by_cases hi : i < vs.length
        · exact hi
        · rw [List.getElem?_append_right (by rw [List.length_map]; omega)] at e2
          rw [List.getElem?_replicate] at e2
          split at e2 <;> cases e2
      rw [List.getElem?_append_left (by rw [List.length_map]; exact hi), List.getElem?_map, List.getElem?_eq_getElem hi] at e2
      cases e2
      obtain ⟨cv, q1, q2⟩ := rv.get (List.getElem?_eq_getElem hi)
      refine ⟨cv, ?_, q2.mono Ap (.of_keep kk)⟩
      have hnm : (ns.take fd.np)[i]? = some x := by rw [List.getElem?_take_of_lt (by omega)]; exact e1
      exact lookup_zip (O.nd.sublist (List.take_sublist _ _)) hnm q1
    · show (vs.map some ++ List.replicate (fd.nl - fd.np) none).length = ns.length
      rw [List.length_append, List.length_map, List.length_replicate, O.len, hlen]
      have := O.le; omega
    · obtain ⟨a, o', ho', hs'⟩ := hsz
      show s₀.heap.objs.size ≤ s.heap.objs.size
      rw [hs']
      exact Heap.lt_size (G.keep _ _ ho')
  refine codeAny_func (soundSs c fd.body body O.ok hA2 I hw fun ρ2 o σ2 s2 x2 I2 q2 => ?_)
  have X0 : Ext0 ρ s.heap ρ2 s2.heap := ⟨fun b o hm e => x2.keep b o (Nat.ne_of_lt (Heap.lt_size e)) hm (kk b o e), x2.le⟩
  have G2 : GInv (h13 w X) s₀ fl ρ2 σ2.g s2 := ⟨I2.g.keep, I2.g.gl, I2.g.frames.2.2, fun env he => I2.g.fmut env (.tail _ he), I2.g.gens, I2.g.drawn, I2.g.os⟩
  cases o with
  | next => exact k _ _ _ _ _ X0 G2 .none q2
  | brk => exact q2.elim
  | ret v => exact fun cv hv => k _ _ _ _ _ X0 G2 hv q2
  | exc => exact q2.elim
end
end Mine

-- MFun
namespace Mine
set_option maxRecDepth 100000
set_option maxHeartbeats 0
set_option linter.unusedVariables false
def fdrec (st : Stmt) (q : Str) (g : Addr) (pm code : Value) (b : Addr) : FuncData := match fdata st q g pm code b with
  | .func f => f
  | _ => { name := S "", qualname := S "", params := ⟨[], [], none, [], [], none, []⟩, body := .stmts [], scope := { kind := .function, names := [], isGenerator := false, isCoroutine := false }, globals := 0, closure := [], defaults := .none, kwdefaults := .none, doc := .none, pyModule := .none, code := .none, builtins := 0 }
theorem fok_of {w : World} {X : SetD} {f : Nat} {ns : List Str} {st : Stmt} {q : Str} {pm code : Value} {fd : FD} (hobj : at13 w X (fa f) = ⟨.type "function", none, fdata st q 3 pm code 0, #[]⟩) (hlive : liveAt (T13 w.params X) (fa f) = true)
    (hok : okF f ns st fd = true) (hcode : codeIn (KK w X) code q = true) (hbind : ∀ cvs : List Value, cvs.length = fd.np → bindArgs (fdrec st q 3 pm code 0) ⟨cvs, []⟩ = pure ((ns.take fd.np).zip cvs)) (hle : fd.np ≤ fd.nl) :
    ∃ ns body fr, FOk w X f fd ns body fr := by
  unfold okF at hok
  split at hok
  · rename_i n a body d1 d2 d3 sc d4 d5 d6
    simp only [Bool.and_eq_true, beq_iff_eq, decide_eq_true_eq, List.all_eq_true, Bool.not_eq_true', bne_iff_ne, ne_eq] at hok
    obtain ⟨⟨⟨⟨⟨⟨⟨⟨⟨⟨⟨⟨⟨⟨⟨⟨h1, h2⟩, h3⟩, h4⟩, h5⟩, h6⟩, h7⟩, h8⟩, h9⟩, h10⟩, h11⟩, h12⟩, h13'⟩, h14⟩, h15⟩, h16⟩, h17⟩ := hok
    refine ⟨ns, body, fdrec (.FunctionDef n a body d1 d2 d3 sc d4 d5 d6) q 3 pm code 0, ?_, rfl, rfl, rfl, rfl, hcode, hbind, h17, h10, hle, h11, h13', h15, h14, h16, h12⟩
    rw [live_get hlive, hobj]; rfl
  · cases hok
theorem fok0 (w : World) (X : SetD) : ∃ ns body fr, FOk w X 0 fd0 ns body fr := fok_of (f := 0) (ns := n0) (st := w0) (q := (S "BaseStemmer.__init__")) (pm := (.str (S "snowballstemmer.basestemmer") 194)) (code := (.ref 34)) (by kernel_rfl) (by kernel_rfl) ok0 (by kernel_rfl) (by
  intro cvs h
  match cvs, h with
  | [a0], _ => kernel_rfl) (by decide)
theorem fok1 (w : World) (X : SetD) : ∃ ns body fr, FOk w X 1 fd1 ns body fr := fok_of (f := 1) (ns := n1) (st := w1) (q := (S "BaseStemmer.set_current")) (pm := (.str (S "snowballstemmer.basestemmer") 194)) (code := (.ref 41)) (by kernel_rfl) (by kernel_rfl) ok1 (by kernel_rfl) (by
  intro cvs h
  match cvs, h with
  | [a0, a1], _ => kernel_rfl) (by decide)
theorem fok2 (w : World) (X : SetD) : ∃ ns body fr, FOk w X 2 fd2 ns body fr := fok_of (f := 2) (ns := n2) (st := w2) (q := (S "BaseStemmer.get_current")) (pm := (.str (S "snowballstemmer.basestemmer") 194)) (code := (.ref 48)) (by kernel_rfl) (by kernel_rfl) ok2 (by kernel_rfl) (by
  intro cvs h
  match cvs, h with
  | [a0], _ => kernel_rfl) (by decide)
theorem fok3 (w : World) (X : SetD) : ∃ ns body fr, FOk w X 3 fd3 ns body fr := fok_of (f := 3) (ns := n3) (st := w3) (q := (S "BaseStemmer.eq_s_b")) (pm := (.str (S "snowballstemmer.basestemmer") 194)) (code := (.ref 125)) (by kernel_rfl) (by kernel_rfl) ok3 (by kernel_rfl) (by
  intro cvs h
  match cvs, h with
  | [a0, a1], _ => kernel_rfl) (by decide)
theorem fok4 (w : World) (X : SetD) : ∃ ns body fr, FOk w X 4 fd4 ns body fr := fok_of (f := 4) (ns := n4) (st := w4) (q := (S "BaseStemmer.find_among_b")) (pm := (.str (S "snowballstemmer.basestemmer") 194)) (code := (.ref 139)) (by kernel_rfl) (by kernel_rfl) ok4 (by kernel_rfl) (by
  intro cvs h
  match cvs, h with
  | [a0, a1], _ => kernel_rfl) (by decide)
theorem fok5 (w : World) (X : SetD) : ∃ ns body fr, FOk w X 5 fd5 ns body fr := fok_of (f := 5) (ns := n5) (st := w5) (q := (S "BaseStemmer.replace_s")) (pm := (.str (S "snowballstemmer.basestemmer") 194)) (code := (.ref 146)) (by kernel_rfl) (by kernel_rfl) ok5 (by kernel_rfl) (by
  intro cvs h
  match cvs, h with
  | [a0, a1, a2, a3], _ => kernel_rfl) (by decide)
theorem fok6 (w : World) (X : SetD) : ∃ ns body fr, FOk w X 6 fd6 ns body fr := fok_of (f := 6) (ns := n6) (st := w6) (q := (S "BaseStemmer.slice_from")) (pm := (.str (S "snowballstemmer.basestemmer") 194)) (code := (.ref 153)) (by kernel_rfl) (by kernel_rfl) ok6 (by kernel_rfl) (by
  intro cvs h
  match cvs, h with
  | [a0, a1], _ => kernel_rfl) (by decide)
theorem fok7 (w : World) (X : SetD) : ∃ ns body fr, FOk w X 7 fd7 ns body fr := fok_of (f := 7) (ns := n7) (st := w7) (q := (S "BaseStemmer.slice_del")) (pm := (.str (S "snowballstemmer.basestemmer") 194)) (code := (.ref 160)) (by kernel_rfl) (by kernel_rfl) ok7 (by kernel_rfl) (by
  intro cvs h
  match cvs, h with
  | [a0], _ => kernel_rfl) (by decide)
theorem fok8 (w : World) (X : SetD) : ∃ ns body fr, FOk w X 8 fd8 ns body fr := fok_of (f := 8) (ns := n8) (st := w8) (q := (S "SpanishStemmer.r_RV")) (pm := (.str (S "snowballstemmer.spanish_stemmer") 461)) (code := (.ref 252)) (by kernel_rfl) (by kernel_rfl) ok8 (by kernel_rfl) (by
  intro cvs h
  match cvs, h with
  | [a0], _ => kernel_rfl) (by decide)
theorem fok9 (w : World) (X : SetD) : ∃ ns body fr, FOk w X 9 fd9 ns body fr := fok_of (f := 9) (ns := n9) (st := w9) (q := (S "SpanishStemmer.r_R2")) (pm := (.str (S "snowballstemmer.spanish_stemmer") 461)) (code := (.ref 259)) (by kernel_rfl) (by kernel_rfl) ok9 (by kernel_rfl) (by
  intro cvs h
  match cvs, h with
  | [a0], _ => kernel_rfl) (by decide)
theorem fok10 (w : World) (X : SetD) : ∃ ns body fr, FOk w X 10 fd10 ns body fr := fok_of (f := 10) (ns := n10) (st := w10) (q := (S "SpanishStemmer.r_attached_pronoun")) (pm := (.str (S "snowballstemmer.spanish_stemmer") 461)) (code := (.ref 266)) (by kernel_rfl) (by kernel_rfl) ok10 (by kernel_rfl) (by
  intro cvs h
  match cvs, h with
  | [a0], _ => kernel_rfl) (by decide)
theorem fok11 (w : World) (X : SetD) : ∃ ns body fr, FOk w X 11 fd11 ns body fr := fok_of (f := 11) (ns := n11) (st := w11) (q := (S "SpanishStemmer.r_standard_suffix")) (pm := (.str (S "snowballstemmer.spanish_stemmer") 461)) (code := (.ref 273)) (by kernel_rfl) (by kernel_rfl) ok11 (by kernel_rfl) (by
  intro cvs h
  match cvs, h with
  | [a0], _ => kernel_rfl) (by decide)
theorem fok12 (w : World) (X : SetD) : ∃ ns body fr, FOk w X 12 fd12 ns body fr := fok_of (f := 12) (ns := n12) (st := w12) (q := (S "SpanishStemmer.r_y_verb_suffix")) (pm := (.str (S "snowballstemmer.spanish_stemmer") 461)) (code := (.ref 280)) (by kernel_rfl) (by kernel_rfl) ok12 (by kernel_rfl) (by
  intro cvs h
  match cvs, h with
  | [a0], _ => kernel_rfl) (by decide)
theorem fok13 (w : World) (X : SetD) : ∃ ns body fr, FOk w X 13 fd13 ns body fr := fok_of (f := 13) (ns := n13) (st := w13) (q := (S "SpanishStemmer.r_verb_suffix")) (pm := (.str (S "snowballstemmer.spanish_stemmer") 461)) (code := (.ref 287)) (by kernel_rfl) (by kernel_rfl) ok13 (by kernel_rfl) (by
  intro cvs h
  match cvs, h with
  | [a0], _ => kernel_rfl) (by decide)
theorem fok14 (w : World) (X : SetD) : ∃ ns body fr, FOk w X 14 fd14 ns body fr := fok_of (f := 14) (ns := n14) (st := w14) (q := (S "SpanishStemmer.r_residual_suffix")) (pm := (.str (S "snowballstemmer.spanish_stemmer") 461)) (code := (.ref 294)) (by kernel_rfl) (by kernel_rfl) ok14 (by kernel_rfl) (by
  intro cvs h
  match cvs, h with
  | [a0], _ => kernel_rfl) (by decide)
theorem fok15 (w : World) (X : SetD) : ∃ ns body fr, FOk w X 15 fd15 ns body fr := fok_of (f := 15) (ns := n15) (st := w15) (q := (S "_law_tape")) (pm := (.str (S "law_br6030_01") 3448)) (code := (.ref 981)) (by kernel_rfl) (by kernel_rfl) ok15 (by kernel_rfl) (by
  intro cvs h
  match cvs, h with
  | [a0], _ => kernel_rfl) (by decide)
theorem fok16 (w : World) (X : SetD) : ∃ ns body fr, FOk w X 16 fd16 ns body fr := fok_of (f := 16) (ns := n16) (st := w16) (q := (S "_law_next")) (pm := (.str (S "law_br6030_01") 3448)) (code := (.ref 988)) (by kernel_rfl) (by kernel_rfl) ok16 (by kernel_rfl) (by
  intro cvs h
  match cvs, h with
  | [a0, a1], _ => kernel_rfl) (by decide)
theorem fok17 (w : World) (X : SetD) : ∃ ns body fr, FOk w X 17 fd17 ns body fr := fok_of (f := 17) (ns := n17) (st := w17) (q := (S "_law_place")) (pm := (.str (S "law_br6030_01") 3448)) (code := (.ref 995)) (by kernel_rfl) (by kernel_rfl) ok17 (by kernel_rfl) (by
  intro cvs h
  match cvs, h with
  | [a0, a1], _ => kernel_rfl) (by decide)
theorem fok18 (w : World) (X : SetD) : ∃ ns body fr, FOk w X 18 fd18 ns body fr := fok_of (f := 18) (ns := n18) (st := w18) (q := (S "_law_verbals")) (pm := (.str (S "law_br6030_01") 3448)) (code := (.ref 959)) (by kernel_rfl) (by kernel_rfl) ok18 (by kernel_rfl) (by
  intro cvs h
  match cvs, h with
  | [], _ => kernel_rfl) (by decide)
theorem fok19 (w : World) (X : SetD) : ∃ ns body fr, FOk w X 19 fd19 ns body fr := fok_of (f := 19) (ns := n19) (st := w19) (q := (S "_law_residuals")) (pm := (.str (S "law_br6030_01") 3448)) (code := (.ref 969)) (by kernel_rfl) (by kernel_rfl) ok19 (by kernel_rfl) (by
  intro cvs h
  match cvs, h with
  | [], _ => kernel_rfl) (by decide)
theorem fok20 (w : World) (X : SetD) : ∃ ns body fr, FOk w X 20 fd20 ns body fr := fok_of (f := 20) (ns := n20) (st := w20) (q := (S "_law_pieces")) (pm := (.str (S "law_br6030_01") 3448)) (code := (.ref 976)) (by kernel_rfl) (by kernel_rfl) ok20 (by kernel_rfl) (by
  intro cvs h
  match cvs, h with
  | [], _ => kernel_rfl) (by decide)
theorem fok21 (w : World) (X : SetD) : ∃ ns body fr, FOk w X 21 fd21 ns body fr := fok_of (f := 21) (ns := n21) (st := w21) (q := (S "_law_end")) (pm := (.str (S "law_br6030_01") 3448)) (code := (.ref 1002)) (by kernel_rfl) (by kernel_rfl) ok21 (by kernel_rfl) (by
  intro cvs h
  match cvs, h with
  | [a0, a1], _ => kernel_rfl) (by decide)
theorem fok22 (w : World) (X : SetD) : ∃ ns body fr, FOk w X 22 fd22 ns body fr := fok_of (f := 22) (ns := n22) (st := w22) (q := (S "_law_case")) (pm := (.str (S "law_br6030_01") 3448)) (code := (.ref 1009)) (by kernel_rfl) (by kernel_rfl) ok22 (by kernel_rfl) (by
  intro cvs h
  match cvs, h with
  | [a0], _ => kernel_rfl) (by decide)
theorem fok23 (w : World) (X : SetD) : ∃ ns body fr, FOk w X 23 fd23 ns body fr := fok_of (f := 23) (ns := n23) (st := w23) (q := (S "_law_longest")) (pm := (.str (S "law_br6030_01") 3448)) (code := (.ref 1016)) (by kernel_rfl) (by kernel_rfl) ok23 (by kernel_rfl) (by
  intro cvs h
  match cvs, h with
  | [a0, a1, a2], _ => kernel_rfl) (by decide)
theorem fok24 (w : World) (X : SetD) : ∃ ns body fr, FOk w X 24 fd24 ns body fr := fok_of (f := 24) (ns := n24) (st := w24) (q := (S "_law_ahead")) (pm := (.str (S "law_br6030_01") 3448)) (code := (.ref 1023)) (by kernel_rfl) (by kernel_rfl) ok24 (by kernel_rfl) (by
  intro cvs h
  match cvs, h with
  | [a0, a1, a2, a3], _ => kernel_rfl) (by decide)
theorem fok25 (w : World) (X : SetD) : ∃ ns body fr, FOk w X 25 fd25 ns body fr := fok_of (f := 25) (ns := n25) (st := w25) (q := (S "_law_standard")) (pm := (.str (S "law_br6030_01") 3448)) (code := (.ref 1030)) (by kernel_rfl) (by kernel_rfl) ok25 (by kernel_rfl) (by
  intro cvs h
  match cvs, h with
  | [a0, a1, a2, a3], _ => kernel_rfl) (by decide)
theorem fok26 (w : World) (X : SetD) : ∃ ns body fr, FOk w X 26 fd26 ns body fr := fok_of (f := 26) (ns := n26) (st := w26) (q := (S "_law_pronoun")) (pm := (.str (S "law_br6030_01") 3448)) (code := (.ref 1035)) (by kernel_rfl) (by kernel_rfl) ok26 (by kernel_rfl) (by
  intro cvs h
  match cvs, h with
  | [a0, a1, a2], _ => kernel_rfl) (by decide)
theorem fok27 (w : World) (X : SetD) : ∃ ns body fr, FOk w X 27 fd27 ns body fr := fok_of (f := 27) (ns := n27) (st := w27) (q := (S "_law_y")) (pm := (.str (S "law_br6030_01") 3448)) (code := (.ref 1042)) (by kernel_rfl) (by kernel_rfl) ok27 (by kernel_rfl) (by
  intro cvs h
  match cvs, h with
  | [a0, a1, a2], _ => kernel_rfl) (by decide)
theorem fok28 (w : World) (X : SetD) : ∃ ns body fr, FOk w X 28 fd28 ns body fr := fok_of (f := 28) (ns := n28) (st := w28) (q := (S "_law_verb")) (pm := (.str (S "law_br6030_01") 3448)) (code := (.ref 1049)) (by kernel_rfl) (by kernel_rfl) ok28 (by kernel_rfl) (by
  intro cvs h
  match cvs, h with
  | [a0, a1, a2], _ => kernel_rfl) (by decide)
theorem fok29 (w : World) (X : SetD) : ∃ ns body fr, FOk w X 29 fd29 ns body fr := fok_of (f := 29) (ns := n29) (st := w29) (q := (S "_law_residual")) (pm := (.str (S "law_br6030_01") 3448)) (code := (.ref 1056)) (by kernel_rfl) (by kernel_rfl) ok29 (by kernel_rfl) (by
  intro cvs h
  match cvs, h with
  | [a0, a1, a2], _ => kernel_rfl) (by decide)
theorem fok30 (w : World) (X : SetD) : ∃ ns body fr, FOk w X 30 fd30 ns body fr := fok_of (f := 30) (ns := n30) (st := w30) (q := (S "_law_due")) (pm := (.str (S "law_br6030_01") 3448)) (code := (.ref 1063)) (by kernel_rfl) (by kernel_rfl) ok30 (by kernel_rfl) (by
  intro cvs h
  match cvs, h with
  | [a0], _ => kernel_rfl) (by decide)
theorem fok31 (w : World) (X : SetD) : ∃ ns body fr, FOk w X 31 fd31 ns body fr := fok_of (f := 31) (ns := n31) (st := w31) (q := (S "_law_told")) (pm := (.str (S "law_br6030_01") 3448)) (code := (.ref 1070)) (by kernel_rfl) (by kernel_rfl) ok31 (by kernel_rfl) (by
  intro cvs h
  match cvs, h with
  | [a0, a1], _ => kernel_rfl) (by decide)
theorem fok32 (w : World) (X : SetD) : ∃ ns body fr, FOk w X 32 fd32 ns body fr := fok_of (f := 32) (ns := n32) (st := w32) (q := (S "_law_set")) (pm := (.str (S "law_br6030_01") 3448)) (code := (.ref 1077)) (by kernel_rfl) (by kernel_rfl) ok32 (by kernel_rfl) (by
  intro cvs h
  match cvs, h with
  | [a0, a1], _ => kernel_rfl) (by decide)
theorem fok33 (w : World) (X : SetD) : ∃ ns body fr, FOk w X 33 fd33 ns body fr := fok_of (f := 33) (ns := n33) (st := w33) (q := (S "_law_wrong")) (pm := (.str (S "law_br6030_01") 3448)) (code := (.ref 1084)) (by kernel_rfl) (by kernel_rfl) ok33 (by kernel_rfl) (by
  intro cvs h
  match cvs, h with
  | [a0, a1], _ => kernel_rfl) (by decide)
theorem fok34 (w : World) (X : SetD) : ∃ ns body fr, FOk w X 34 fd34 ns body fr := fok_of (f := 34) (ns := n34) (st := w34) (q := (S "law")) (pm := (.str (S "law_br6030_01") 3448)) (code := (.ref 1091)) (by kernel_rfl) (by kernel_rfl) ok34 (by kernel_rfl) (by
  intro cvs h
  match cvs, h with
  | [a0], _ => kernel_rfl) (by decide)
theorem fok_all (w : World) (X : SetD) : ∀ f fd, f < 35 → ftab[f]? = some fd → ∃ ns body fr, FOk w X f fd ns body fr := by
  intro f fd hf h
  have : f = 0 ∨ f = 1 ∨ f = 2 ∨ f = 3 ∨ f = 4 ∨ f = 5 ∨ f = 6 ∨ f = 7 ∨ f = 8 ∨ f = 9 ∨ f = 10 ∨ f = 11 ∨ f = 12 ∨ f = 13 ∨ f = 14 ∨ f = 15 ∨ f = 16 ∨ f = 17 ∨ f = 18 ∨ f = 19 ∨ f = 20 ∨ f = 21 ∨ f = 22 ∨ f = 23 ∨ f = 24 ∨ f = 25 ∨ f = 26 ∨ f = 27 ∨ f = 28 ∨ f = 29 ∨ f = 30 ∨ f = 31 ∨ f = 32 ∨ f = 33 ∨ f = 34 := by omega
  rcases this with rfl | rfl | rfl | rfl | rfl | rfl | rfl | rfl | rfl | rfl | rfl | rfl | rfl | rfl | rfl | rfl | rfl | rfl | rfl | rfl | rfl | rfl | rfl | rfl | rfl | rfl | rfl | rfl | rfl | rfl | rfl | rfl | rfl | rfl | rfl
  · cases h; exact fok0 w X
  · cases h; exact fok1 w X
  · cases h; exact fok2 w X
  · cases h; exact fok3 w X
  · cases h; exact fok4 w X
  · cases h; exact fok5 w X
  · cases h; exact fok6 w X
  · cases h; exact fok7 w X
  · cases h; exact fok8 w X
  · cases h; exact fok9 w X
  · cases h; exact fok10 w X
  · cases h; exact fok11 w X
  · cases h; exact fok12 w X
  · cases h; exact fok13 w X
  · cases h; exact fok14 w X
  · cases h; exact fok15 w X
  · cases h; exact fok16 w X
  · cases h; exact fok17 w X
  · cases h; exact fok18 w X
  · cases h; exact fok19 w X
  · cases h; exact fok20 w X
  · cases h; exact fok21 w X
  · cases h; exact fok22 w X
  · cases h; exact fok23 w X
  · cases h; exact fok24 w X
  · cases h; exact fok25 w X
  · cases h; exact fok26 w X
  · cases h; exact fok27 w X
  · cases h; exact fok28 w X
  · cases h; exact fok29 w X
  · cases h; exact fok30 w X
  · cases h; exact fok31 w X
  · cases h; exact fok32 w X
  · cases h; exact fok33 w X
  · cases h; exact fok34 w X
end Mine

-- MTab
namespace Mine
set_option maxRecDepth 100000
set_option maxHeartbeats 0
set_option linter.unusedVariables false
/-- la sela le me se lo selo las selas les los selos nos -/
def tab1 : List (List Nat × Int × Int) := [([108, 97], -1, -1), ([115, 101, 108, 97], 0, -1), ([108, 101], -1, -1), ([109, 101], -1, -1), ([115, 101], -1, -1), ([108, 111], -1, -1), ([115, 101, 108, 111], 5, -1), ([108, 97, 115], -1, -1), ([115, 101, 108, 97, 115], 7, -1), ([108, 101, 115], -1, -1), ([108, 111, 115], -1, -1), ([115, 101, 108, 111, 115], 10, -1), ([110, 111, 115], -1, -1)]
/-- ando iendo yendo ándo iéndo ar er ir ár ér ír -/
def tab2 : List (List Nat × Int × Int) := [([97, 110, 100, 111], -1, 6), ([105, 101, 110, 100, 111], -1, 6), ([121, 101, 110, 100, 111], -1, 7), ([225, 110, 100, 111], -1, 2), ([105, 233, 110, 100, 111], -1, 1), ([97, 114], -1, 6), ([101, 114], -1, 6), ([105, 114], -1, 6), ([225, 114], -1, 3), ([233, 114], -1, 4), ([237, 114], -1, 5)]
/-- ic ad os iv -/
def tab3 : List (List Nat × Int × Int) := [([105, 99], -1, -1), ([97, 100], -1, -1), ([111, 115], -1, -1), ([105, 118], -1, 1)]
/-- able ible ante -/
def tab4 : List (List Nat × Int × Int) := [([97, 98, 108, 101], -1, 1), ([105, 98, 108, 101], -1, 1), ([97, 110, 116, 101], -1, 1)]
/-- ic abil iv -/
def tab5 : List (List Nat × Int × Int) := [([105, 99], -1, 1), ([97, 98, 105, 108], -1, 1), ([105, 118], -1, 1)]
/-- ica ancia encia adora osa ista iva anza logía idad able ible ante mente amente acion ucion ación ución ico ismo oso amiento imiento ivo ador icas ancias encias adoras osas istas ivas anzas logías idades ables ibles aciones uciones adores antes icos ismos osos amientos imientos ivos -/
def tab6 : List (List Nat × Int × Int) := [([105, 99, 97], -1, 1), ([97, 110, 99, 105, 97], -1, 2), ([101, 110, 99, 105, 97], -1, 5), ([97, 100, 111, 114, 97], -1, 2), ([111, 115, 97], -1, 1), ([105, 115, 116, 97], -1, 1), ([105, 118, 97], -1, 9), ([97, 110, 122, 97], -1, 1), ([108, 111, 103, 237, 97], -1, 3), ([105, 100, 97, 100], -1, 8), ([97, 98, 108, 101], -1, 1), ([105, 98, 108, 101], -1, 1), ([97, 110, 116, 101], -1, 2), ([109, 101, 110, 116, 101], -1, 7), ([97, 109, 101, 110, 116, 101], 13, 6), ([97, 99, 105, 111, 110], -1, 2), ([117, 99, 105, 111, 110], -1, 4), ([97, 99, 105, 243, 110], -1, 2), ([117, 99, 105, 243, 110], -1, 4), ([105, 99, 111], -1, 1), ([105, 115, 109, 111], -1, 1), ([111, 115, 111], -1, 1), ([97, 109, 105, 101, 110, 116, 111], -1, 1), ([105, 109, 105, 101, 110, 116, 111], -1, 1), ([105, 118, 111], -1, 9), ([97, 100, 111, 114], -1, 2), ([105, 99, 97, 115], -1, 1), ([97, 110, 99, 105, 97, 115], -1, 2), ([101, 110, 99, 105, 97, 115], -1, 5), ([97, 100, 111, 114, 97, 115], -1, 2), ([111, 115, 97, 115], -1, 1), ([105, 115, 116, 97, 115], -1, 1), ([105, 118, 97, 115], -1, 9), ([97, 110, 122, 97, 115], -1, 1), ([108, 111, 103, 237, 97, 115], -1, 3), ([105, 100, 97, 100, 101, 115], -1, 8), ([97, 98, 108, 101, 115], -1, 1), ([105, 98, 108, 101, 115], -1, 1), ([97, 99, 105, 111, 110, 101, 115], -1, 2), ([117, 99, 105, 111, 110, 101, 115], -1, 4), ([97, 100, 111, 114, 101, 115], -1, 2), ([97, 110, 116, 101, 115], -1, 2), ([105, 99, 111, 115], -1, 1), ([105, 115, 109, 111, 115], -1, 1), ([111, 115, 111, 115], -1, 1), ([97, 109, 105, 101, 110, 116, 111, 115], -1, 1), ([105, 109, 105, 101, 110, 116, 111, 115], -1, 1), ([105, 118, 111, 115], -1, 9)]
/-- ya ye yan yen yeron yendo yo yas yes yais yamos yó -/
def tab7 : List (List Nat × Int × Int) := [([121, 97], -1, 1), ([121, 101], -1, 1), ([121, 97, 110], -1, 1), ([121, 101, 110], -1, 1), ([121, 101, 114, 111, 110], -1, 1), ([121, 101, 110, 100, 111], -1, 1), ([121, 111], -1, 1), ([121, 97, 115], -1, 1), ([121, 101, 115], -1, 1), ([121, 97, 105, 115], -1, 1), ([121, 97, 109, 111, 115], -1, 1), ([121, 243], -1, 1)]
/-- aba ada ida ara iera ía aría ería iría ad ed id ase iese aste iste an aban aran ieran ían arían erían irían en asen iesen aron ieron arán erán irán ado ido ando iendo ar er ir as abas adas idas aras ieras ías arías erías irías es ases ieses abais arais ierais íais aríais eríais iríais aseis ieseis asteis isteis áis éis aréis eréis iréis ados idos amos ábamos áramos iéramos íamos aríamos eríamos iríamos emos aremos eremos iremos ásemos iésemos imos arás erás irás ís ará erá irá aré eré iré ió -/
def tab8 : List (List Nat × Int × Int) := [([97, 98, 97], -1, 2), ([97, 100, 97], -1, 2), ([105, 100, 97], -1, 2), ([97, 114, 97], -1, 2), ([105, 101, 114, 97], -1, 2), ([237, 97], -1, 2), ([97, 114, 237, 97], 5, 2), ([101, 114, 237, 97], 5, 2), ([105, 114, 237, 97], 5, 2), ([97, 100], -1, 2), ([101, 100], -1, 2), ([105, 100], -1, 2), ([97, 115, 101], -1, 2), ([105, 101, 115, 101], -1, 2), ([97, 115, 116, 101], -1, 2), ([105, 115, 116, 101], -1, 2), ([97, 110], -1, 2), ([97, 98, 97, 110], 16, 2), ([97, 114, 97, 110], 16, 2), ([105, 101, 114, 97, 110], 16, 2), ([237, 97, 110], 16, 2), ([97, 114, 237, 97, 110], 20, 2), ([101, 114, 237, 97, 110], 20, 2), ([105, 114, 237, 97, 110], 20, 2), ([101, 110], -1, 1), ([97, 115, 101, 110], 24, 2), ([105, 101, 115, 101, 110], 24, 2), ([97, 114, 111, 110], -1, 2), ([105, 101, 114, 111, 110], -1, 2), ([97, 114, 225, 110], -1, 2), ([101, 114, 225, 110], -1, 2), ([105, 114, 225, 110], -1, 2), ([97, 100, 111], -1, 2), ([105, 100, 111], -1, 2), ([97, 110, 100, 111], -1, 2), ([105, 101, 110, 100, 111], -1, 2), ([97, 114], -1, 2), ([101, 114], -1, 2), ([105, 114], -1, 2), ([97, 115], -1, 2), ([97, 98, 97, 115], 39, 2), ([97, 100, 97, 115], 39, 2), ([105, 100, 97, 115], 39, 2), ([97, 114, 97, 115], 39, 2), ([105, 101, 114, 97, 115], 39, 2), ([237, 97, 115], 39, 2), ([97, 114, 237, 97, 115], 45, 2), ([101, 114, 237, 97, 115], 45, 2), ([105, 114, 237, 97, 115], 45, 2), ([101, 115], -1, 1), ([97, 115, 101, 115], 49, 2), ([105, 101, 115, 101, 115], 49, 2), ([97, 98, 97, 105, 115], -1, 2), ([97, 114, 97, 105, 115], -1, 2), ([105, 101, 114, 97, 105, 115], -1, 2), ([237, 97, 105, 115], -1, 2), ([97, 114, 237, 97, 105, 115], 55, 2), ([101, 114, 237, 97, 105, 115], 55, 2), ([105, 114, 237, 97, 105, 115], 55, 2), ([97, 115, 101, 105, 115], -1, 2), ([105, 101, 115, 101, 105, 115], -1, 2), ([97, 115, 116, 101, 105, 115], -1, 2), ([105, 115, 116, 101, 105, 115], -1, 2), ([225, 105, 115], -1, 2), ([233, 105, 115], -1, 1), ([97, 114, 233, 105, 115], 64, 2), ([101, 114, 233, 105, 115], 64, 2), ([105, 114, 233, 105, 115], 64, 2), ([97, 100, 111, 115], -1, 2), ([105, 100, 111, 115], -1, 2), ([97, 109, 111, 115], -1, 2), ([225, 98, 97, 109, 111, 115], 70, 2), ([225, 114, 97, 109, 111, 115], 70, 2), ([105, 233, 114, 97, 109, 111, 115], 70, 2), ([237, 97, 109, 111, 115], 70, 2), ([97, 114, 237, 97, 109, 111, 115], 74, 2), ([101, 114, 237, 97, 109, 111, 115], 74, 2), ([105, 114, 237, 97, 109, 111, 115], 74, 2), ([101, 109, 111, 115], -1, 1), ([97, 114, 101, 109, 111, 115], 78, 2), ([101, 114, 101, 109, 111, 115], 78, 2), ([105, 114, 101, 109, 111, 115], 78, 2), ([225, 115, 101, 109, 111, 115], 78, 2), ([105, 233, 115, 101, 109, 111, 115], 78, 2), ([105, 109, 111, 115], -1, 2), ([97, 114, 225, 115], -1, 2), ([101, 114, 225, 115], -1, 2), ([105, 114, 225, 115], -1, 2), ([237, 115], -1, 2), ([97, 114, 225], -1, 2), ([101, 114, 225], -1, 2), ([105, 114, 225], -1, 2), ([97, 114, 233], -1, 2), ([101, 114, 233], -1, 2), ([105, 114, 233], -1, 2), ([105, 243], -1, 2)]
/-- a e o os á é í ó -/
def tab9 : List (List Nat × Int × Int) := [([97], -1, 1), ([101], -1, 2), ([111], -1, 1), ([111, 115], -1, 1), ([225], -1, 1), ([233], -1, 2), ([237], -1, 1), ([243], -1, 1)]
def gl0 : V := .list [.list [.str [105, 99, 97], .str [111, 115, 97], .str [105, 115, 116, 97], .str [97, 110, 122, 97], .str [97, 98, 108, 101], .str [105, 98, 108, 101], .str [105, 99, 111], .str [105, 115, 109, 111], .str [111, 115, 111], .str [97, 109, 105, 101, 110, 116, 111], .str [105, 109, 105, 101, 110, 116, 111], .str [105, 99, 97, 115], .str [111, 115, 97, 115], .str [105, 115, 116, 97, 115], .str [97, 110, 122, 97, 115], .str [97, 98, 108, 101, 115], .str [105, 98, 108, 101, 115], .str [105, 99, 111, 115], .str [105, 115, 109, 111, 115], .str [111, 115, 111, 115], .str [97, 109, 105, 101, 110, 116, 111, 115], .str [105, 109, 105, 101, 110, 116, 111, 115]], .list [.str [97, 110, 99, 105, 97], .str [97, 100, 111, 114, 97], .str [97, 110, 116, 101], .str [97, 99, 105, 111, 110], .str [97, 99, 105, 243, 110], .str [97, 100, 111, 114], .str [97, 110, 99, 105, 97, 115], .str [97, 100, 111, 114, 97, 115], .str [97, 99, 105, 111, 110, 101, 115], .str [97, 100, 111, 114, 101, 115], .str [97, 110, 116, 101, 115]], .list [.str [108, 111, 103, 237, 97], .str [108, 111, 103, 237, 97, 115]], .list [.str [117, 99, 105, 111, 110], .str [117, 99, 105, 243, 110], .str [117, 99, 105, 111, 110, 101, 115]], .list [.str [101, 110, 99, 105, 97], .str [101, 110, 99, 105, 97, 115]], .list [.str [97, 109, 101, 110, 116, 101]], .list [.str [109, 101, 110, 116, 101]], .list [.str [105, 100, 97, 100], .str [105, 100, 97, 100, 101, 115]], .list [.str [105, 118, 97], .str [105, 118, 111], .str [105, 118, 97, 115], .str [105, 118, 111, 115]]]
def gl1 : V := .list [.str [108, 97], .str [115, 101, 108, 97], .str [108, 101], .str [109, 101], .str [115, 101], .str [108, 111], .str [115, 101, 108, 111], .str [108, 97, 115], .str [115, 101, 108, 97, 115], .str [108, 101, 115], .str [108, 111, 115], .str [115, 101, 108, 111, 115], .str [110, 111, 115]]
def gl2 : V := .list [.str [121, 97], .str [121, 101], .str [121, 97, 110], .str [121, 101, 110], .str [121, 101, 114, 111, 110], .str [121, 101, 110, 100, 111], .str [121, 111], .str [121, 97, 115], .str [121, 101, 115], .str [121, 97, 105, 115], .str [121, 97, 109, 111, 115], .str [121, 243]]
def gl3 : V := .list [.str [101, 110], .str [101, 115], .str [233, 105, 115], .str [101, 109, 111, 115]]
def gl4 : V := .list [.str [97, 98, 97], .str [97, 100, 97], .str [105, 100, 97], .str [97, 114, 97], .str [105, 101, 114, 97], .str [237, 97], .str [97, 114, 237, 97], .str [101, 114, 237, 97], .str [105, 114, 237, 97], .str [97, 100], .str [101, 100], .str [105, 100], .str [97, 115, 101], .str [105, 101, 115, 101], .str [97, 115, 116, 101], .str [105, 115, 116, 101], .str [97, 110], .str [97, 98, 97, 110], .str [97, 114, 97, 110], .str [105, 101, 114, 97, 110], .str [237, 97, 110], .str [97, 114, 237, 97, 110], .str [101, 114, 237, 97, 110], .str [105, 114, 237, 97, 110], .str [97, 115, 101, 110], .str [105, 101, 115, 101, 110], .str [97, 114, 111, 110], .str [105, 101, 114, 111, 110], .str [97, 114, 225, 110], .str [101, 114, 225, 110], .str [105, 114, 225, 110], .str [97, 100, 111], .str [105, 100, 111], .str [97, 110, 100, 111], .str [105, 101, 110, 100, 111], .str [97, 114], .str [101, 114], .str [105, 114], .str [97, 115], .str [97, 98, 97, 115], .str [97, 100, 97, 115], .str [105, 100, 97, 115], .str [97, 114, 97, 115], .str [105, 101, 114, 97, 115], .str [237, 97, 115], .str [97, 114, 237, 97, 115], .str [101, 114, 237, 97, 115], .str [105, 114, 237, 97, 115], .str [97, 115, 101, 115], .str [105, 101, 115, 101, 115], .str [97, 98, 97, 105, 115], .str [97, 114, 97, 105, 115], .str [105, 101, 114, 97, 105, 115], .str [237, 97, 105, 115], .str [97, 114, 237, 97, 105, 115], .str [101, 114, 237, 97, 105, 115], .str [105, 114, 237, 97, 105, 115], .str [97, 115, 101, 105, 115], .str [105, 101, 115, 101, 105, 115], .str [97, 115, 116, 101, 105, 115], .str [105, 115, 116, 101, 105, 115], .str [225, 105, 115], .str [97, 114, 233, 105, 115], .str [101, 114, 233, 105, 115], .str [105, 114, 233, 105, 115], .str [97, 100, 111, 115], .str [105, 100, 111, 115], .str [97, 109, 111, 115], .str [225, 98, 97, 109, 111, 115], .str [225, 114, 97, 109, 111, 115], .str [105, 233, 114, 97, 109, 111, 115], .str [237, 97, 109, 111, 115], .str [97, 114, 237, 97, 109, 111, 115], .str [101, 114, 237, 97, 109, 111, 115], .str [105, 114, 237, 97, 109, 111, 115], .str [97, 114, 101, 109, 111, 115], .str [101, 114, 101, 109, 111, 115], .str [105, 114, 101, 109, 111, 115], .str [225, 115, 101, 109, 111, 115], .str [105, 233, 115, 101, 109, 111, 115], .str [105, 109, 111, 115], .str [97, 114, 225, 115], .str [101, 114, 225, 115], .str [105, 114, 225, 115], .str [237, 115], .str [97, 114, 225], .str [101, 114, 225], .str [105, 114, 225], .str [97, 114, 233], .str [101, 114, 233], .str [105, 114, 233], .str [105, 243]]
def gl5 : V := .str [98, 99, 100, 108, 109, 110, 112, 114, 115, 116, 97, 101, 105, 111, 117, 225, 233]
def tabV (t : List (List Nat × Int × Int)) : V := .list (t.map fun r => .among r.1 r.2.1 r.2.2)
def clsV : Nat → V
  | 1 => tabV tab1
  | 2 => tabV tab2
  | 3 => tabV tab3
  | 4 => tabV tab4
  | 5 => tabV tab5
  | 6 => tabV tab6
  | 7 => tabV tab7
  | 8 => tabV tab8
  | _ => tabV tab9
def globV : Nat → V
  | 0 => gl0
  | 1 => gl1
  | 2 => gl2
  | 3 => gl3
  | 4 => gl4
  | _ => gl5
def glA : Nat → Addr
  | 0 => 952
  | 1 => 953
  | 2 => 961
  | 3 => 962
  | _ => 963

/-- the value in the tree -/
def amIs (T : BT) (s : List Nat) (i r : Int) (a : Addr) : Bool := decide (a < 1093) && match T.get a with
  | some ⟨.ref 220, some dx, .plain, _⟩ => decide (dx < 1093) && (match T.get dx with
    | some ⟨.type ty, none, .dict es _, sl⟩ => (ty == "dict") && (sl.size == 0) && (match getL (S "s") es.toList, getL (S "substring_i") es.toList, getL (S "result") es.toList with
      | some (some (.str x _)), some (some (.int j _)), some (some (.int q _)) => x.cps.toList == s && j == i && q == r
      | _, _, _ => false)
    | _ => false)
  | _ => false
mutual
def isV (T : BT) : V → Value → Bool
  | .int i, .int j _ => i == j
  | .str l, .str x _ => x.cps.toList == l
  | .list vs, .ref a => decide (a < 1093) && match T.get a with
    | some ⟨.type ty, _, .seq items _, _⟩ => (ty == "list") && isVs T vs items.toList
    | _ => false
  | .among s i r, .ref a => amIs T s i r a
  | _, _ => false
def isVs (T : BT) : List V → List Value → Bool
  | [], [] => true
  | v :: vs, c :: cs => isV T v c && isVs T vs cs
  | _, _ => false
end
theorem plainLive {T : BT} {a : Addr} {o : Obj} {n : Nat} {l : Life} (lt : a < n) (e : T.get a = some o) (hf : o.isFreed = false) : (absHeap T n l).get? a = some o := by
  rw [abs_get lt e]
  obtain ⟨c, d, dt, sl⟩ := o
  cases dt <;> first | rfl | cases hf
theorem am_of {w : World} {X : SetD} {s : List Nat} {i r : Int} {a : Addr} (h : amIs (T13 w.params X) s i r a = true) : AmAt (h13 w X) a s i r := by
  unfold amIs at h
  obtain ⟨h1, h2⟩ := Bool.and_eq_true_iff.mp h
  have lt := of_decide_eq_true h1
  split at h2
  · rename_i dx sl e
    obtain ⟨h3, h4⟩ := Bool.and_eq_true_iff.mp h2
    have lt2 := of_decide_eq_true h3
    split at h4
    · rename_i ty es n sl2 e2
      simp only [Bool.and_eq_true, beq_iff_eq] at h4
      obtain ⟨⟨rfl, hsl⟩, h5⟩ := h4
      split at h5
      · rename_i x t1 j t2 q t3 g1 g2 g3
        simp only [Bool.and_eq_true, beq_iff_eq] at h5
        obtain ⟨⟨rfl, rfl⟩, rfl⟩ := h5
        have hsl' : sl2 = #[] := Array.eq_empty_of_size_eq_zero hsl
        subst hsl'
        refine ⟨es.toList, n, dx, sl, t1, t2, t3, plainLive lt e rfl, ?_, ?_, g2, g3⟩
        · have := plainLive (l := X.life) lt2 e2 rfl
          rw [this]
        · rw [g1]
      · cases h5
    · cases h4
  · cases h2
section
variable {w : World} {X : SetD} {ρ : Lay} {h : Heap} (kB : ∀ b o, (h13 w X).get? b = some o → h.get? b = some o) (mB : ∀ b, ρ.mut b → (h13 w X).get? b = none)
include kB mB
mutual
theorem vr_of : ∀ (v : V) (cv : Value), isV (T13 w.params X) v cv = true → VR (h13 w X) ρ h v cv
  | .int i, .int j _, e => by
    simp only [isV, beq_iff_eq] at e
    subst e; exact .int _ _
  | .str l, .str x _, e => by
    simp only [isV, beq_iff_eq] at e
    obtain ⟨x⟩ := x
    subst e; exact .str _ _
  | .list vs, .ref a, e => by
    simp only [isV] at e
    obtain ⟨h1, h2⟩ := Bool.and_eq_true_iff.mp e
    have lt := of_decide_eq_true h1
    split at h2
    · rename_i ty d items n sl e2
      obtain ⟨h3, h4⟩ := Bool.and_eq_true_iff.mp h2
      have h3 := beq_iff_eq.mp h3
      subst h3
      have hg := plainLive (l := X.life) lt e2 rfl
      refine .list (xs := items.toList) ⟨_, kB _ _ hg, rfl, n, by simp⟩ (fun m => ?_) (vrs_of vs items.toList h4)
      have := mB _ m
      rw [hg] at this; cases this
    · cases h2
  | .among s i r, .ref a, e => by
    simp only [isV] at e
    exact .among (am_of e)
  | .none, _, e => by simp only [isV, Bool.false_eq_true] at e
  | .bool _, _, e => by simp only [isV, Bool.false_eq_true] at e
  | .stem _, _, e => by simp only [isV, Bool.false_eq_true] at e
  | .tape, _, e => by simp only [isV, Bool.false_eq_true] at e
theorem vrs_of : ∀ (vs : List V) (cs : List Value), isVs (T13 w.params X) vs cs = true → VRs (h13 w X) ρ h vs cs
  | [], [], _ => .nil
  | v :: vs, c :: cs, e => by
    simp only [isVs] at e
    obtain ⟨h1, h2⟩ := Bool.and_eq_true_iff.mp e
    exact .cons (vr_of v c h1) (vrs_of vs cs h2)
end
end
theorem isTab1 (w : World) (X : SetD) : isV (T13 w.params X) (tabV tab1) (.ref (clA 1)) = true := by kernel_rfl
theorem isTab2 (w : World) (X : SetD) : isV (T13 w.params X) (tabV tab2) (.ref (clA 2)) = true := by kernel_rfl
theorem isTab3 (w : World) (X : SetD) : isV (T13 w.params X) (tabV tab3) (.ref (clA 3)) = true := by kernel_rfl
theorem isTab4 (w : World) (X : SetD) : isV (T13 w.params X) (tabV tab4) (.ref (clA 4)) = true := by kernel_rfl
theorem isTab5 (w : World) (X : SetD) : isV (T13 w.params X) (tabV tab5) (.ref (clA 5)) = true := by kernel_rfl
theorem isTab6 (w : World) (X : SetD) : isV (T13 w.params X) (tabV tab6) (.ref (clA 6)) = true := by kernel_rfl
theorem isTab7 (w : World) (X : SetD) : isV (T13 w.params X) (tabV tab7) (.ref (clA 7)) = true := by kernel_rfl
theorem isTab8 (w : World) (X : SetD) : isV (T13 w.params X) (tabV tab8) (.ref (clA 8)) = true := by kernel_rfl
theorem isTab9 (w : World) (X : SetD) : isV (T13 w.params X) (tabV tab9) (.ref (clA 9)) = true := by kernel_rfl
theorem isGl0 (w : World) (X : SetD) : isV (T13 w.params X) gl0 (.ref 952) = true := by kernel_rfl
theorem nmGl0 (w : World) (X : SetD) : nsIn (KK w X) mainGlobals (glname 0) = some (some (.ref 952)) := by kernel_rfl
theorem isGl1 (w : World) (X : SetD) : isV (T13 w.params X) gl1 (.ref 953) = true := by kernel_rfl
theorem nmGl1 (w : World) (X : SetD) : nsIn (KK w X) mainGlobals (glname 1) = some (some (.ref 953)) := by kernel_rfl
theorem isGl2 (w : World) (X : SetD) : isV (T13 w.params X) gl2 (.ref 961) = true := by kernel_rfl
theorem nmGl2 (w : World) (X : SetD) : nsIn (KK w X) mainGlobals (glname 2) = some (some (.ref 961)) := by kernel_rfl
theorem isGl3 (w : World) (X : SetD) : isV (T13 w.params X) gl3 (.ref 962) = true := by kernel_rfl
theorem nmGl3 (w : World) (X : SetD) : nsIn (KK w X) mainGlobals (glname 3) = some (some (.ref 962)) := by kernel_rfl
theorem isGl4 (w : World) (X : SetD) : isV (T13 w.params X) gl4 (.ref 963) = true := by kernel_rfl
theorem nmGl4 (w : World) (X : SetD) : nsIn (KK w X) mainGlobals (glname 4) = some (some (.ref 963)) := by kernel_rfl
theorem nmGl5 (w : World) (X : SetD) : ∃ t, nsIn (KK w X) mainGlobals (glname 5) = some (some (.str ⟨([98, 99, 100, 108, 109, 110, 112, 114, 115, 116, 97, 101, 105, 111, 117, 225, 233] : List Nat).toArray⟩ t)) := ⟨3642, by kernel_rfl⟩
theorem glOk (w : World) (X : SetD) : GlOk w X globV clsV := by
  refine ⟨fun n hn => ?_, fun k h1 h2 ρ h kB mB => ?_⟩
  · have : n = 0 ∨ n = 1 ∨ n = 2 ∨ n = 3 ∨ n = 4 ∨ n = 5 := by omega
    rcases this with rfl | rfl | rfl | rfl | rfl | rfl
    · exact ⟨_, nmGl0 w X, fun ρ h kB mB => vr_of kB mB _ _ (isGl0 w X)⟩
    · exact ⟨_, nmGl1 w X, fun ρ h kB mB => vr_of kB mB _ _ (isGl1 w X)⟩
    · exact ⟨_, nmGl2 w X, fun ρ h kB mB => vr_of kB mB _ _ (isGl2 w X)⟩
    · exact ⟨_, nmGl3 w X, fun ρ h kB mB => vr_of kB mB _ _ (isGl3 w X)⟩
    · exact ⟨_, nmGl4 w X, fun ρ h kB mB => vr_of kB mB _ _ (isGl4 w X)⟩
    · obtain ⟨t, e⟩ := nmGl5 w X
      exact ⟨_, e, fun ρ h kB mB => .str _ t⟩
  · have : k = 1 ∨ k = 2 ∨ k = 3 ∨ k = 4 ∨ k = 5 ∨ k = 6 ∨ k = 7 ∨ k = 8 ∨ k = 9 := by omega
    rcases this with rfl | rfl | rfl | rfl | rfl | rfl | rfl | rfl | rfl
    · exact vr_of kB mB _ _ (isTab1 w X)
    · exact vr_of kB mB _ _ (isTab2 w X)
    · exact vr_of kB mB _ _ (isTab3 w X)
    · exact vr_of kB mB _ _ (isTab4 w X)
    · exact vr_of kB mB _ _ (isTab5 w X)
    · exact vr_of kB mB _ _ (isTab6 w X)
    · exact vr_of kB mB _ _ (isTab7 w X)
    · exact vr_of kB mB _ _ (isTab8 w X)
    · exact vr_of kB mB _ _ (isTab9 w X)
end Mine

-- MJoin
namespace Mine
set_option maxRecDepth 100000
set_option maxHeartbeats 1000000
set_option linter.unusedVariables false

abbrev lw : OpenLaw := PySem.Challenge.rw_br6030_01
abbrev rr : OpenRow := lw.row
abbrev rw0 : RowW := rr.toRowW

def Plain : Prop := ∃ d, d ≤ 20 ∧ ∀ ns : List Int, ns.length ≤ 63 → callN globV clsV ftab d 34 [.list (ns.map .int)] (fun v _ => v = .bool true) ⟨none, none, none⟩

theorem vrs_ints {hB : Heap} {ρ : Lay} {h : Heap} : ∀ {vs : List Value} {ns : List Int}, IntsAre vs ns → VRs hB ρ h (ns.map .int) vs
  | _, _, .nil => .nil
  | _, _, .cons n t r => .cons (.int n t) (vrs_ints r)

section
variable {w : World} {X : SetD}
theorem nolim13 (w : World) (X : SetD) : (h13 w X).NoLimit := by
  have e : (h13 w X).isNs 2 = true := by kernel_rfl
  have e2 : nsIn (KK w X) 2 "sys.recursionlimit" = some none := by kernel_rfl
  unfold Heap.isNs at e
  split at e
  · rename_i o ho
    split at e
    · rename_i es ep hd
      have sk : StrKeys es := fun en hen => by
        have := Array.all_eq_true_iff_forall_mem.mp e en hen
        split at this
        · exact ⟨_, _, ‹_›⟩
        · cases this
      have G : (h13 w X).Ns 2 (nsFind es) := ⟨o, es, ep, ho, hd, sk, fun _ => rfl⟩
      exact ⟨_, G, ns_none (KK_in w X) G e2⟩
    · cases e
  · cases e

theorem sc_all {s : Shared} (k : (h13 w X).StaysIn s.heap) (hs : ∃ a o, s.heap.get? a = some o ∧ s.heap.objs.size = a + 1) : ∀ d fl, SCode w X s fl d (callN globV clsV ftab d)
  | 0, fl => fun _ _ _ hw _ _ => hw.elim
  | d + 1, fl => call_step k (glOk w X) ((nolim13 w X).keeps k) hs (fok_all w X) d (sc_all k hs d) fl

/-- the law's call, in every heap that grew from the top's -/
theorem law_call (P : Plain) {s : Shared} (k : (h13 w X).StaysIn s.heap) (hs : ∃ a o, s.heap.get? a = some o ∧ s.heap.objs.size = a + 1) {l : Addr} {vs : List Value} {ns : List Int} (hl : s.heap.IsList l vs.toArray) (hi : IntsAre vs ns) (hn : ns.length ≤ 63) {Q : Value → Shared → Prop} {E : Value → Shared → Prop}
    (hQ : ∀ s', (∀ b o, s.heap.get? b = some o → s'.heap.get? b = some o) → s'.gens = s.gens → s'.os = s.os → Q (.bool true) s') :
    wpAny (model pg w) callerA (call (.ref 1092) [.ref l]) Q E s := by
  obtain ⟨d, hd, P⟩ := P
  have hnm : ∀ a, ¬ Lay.mut ⟨none, fun _ => none⟩ a := by
    rintro a (h | ⟨b, i, h⟩) <;> cases h
  have G : GInv (h13 w X) s [] ⟨none, fun _ => none⟩ ⟨none, none, none⟩ s := ⟨fun _ _ e => e, ⟨.inl ⟨rfl, rfl⟩, fun b => .inl ⟨(by cases b <;> rfl), rfl⟩, (fun _ _ _ _ _ h => by cases h), fun a h => (hnm a h).elim⟩, trivial, (fun _ h => by cases h), rfl, rfl, rfl⟩
  refine wpAny_call ?_
  refine sc_all k hs d [] (f := 34) (by decide) ⟨rfl, rfl, ?_⟩ G (P ns hn) (.cons (.list hl (hnm l) (vrs_ints hi)) .nil) fun ρ' v g' cv s' x G' r q => ?_
  · show 1 + 300 + 4 * d + 2 ≤ 1000
    omega
  · subst q
    cases r
    exact hQ s' G'.keep G'.gens G'.os

theorem lay_ints {R : WRecords} {cl : Str → Option Addr} {PP : Params} {ord : List DictEntry → List DictEntry} : ∀ {ns : List Int} {s s' : Shared} {vs : List Value}, layAllW R cl PP ord (ns.map .int) s = some (vs, s') → s'.heap = s.heap ∧ IntsAre vs ns
  | [], s, s', vs, h => by
    simp only [List.map_nil, layAllW, Option.some.injEq, Prod.mk.injEq] at h
    obtain ⟨rfl, rfl⟩ := h
    exact ⟨rfl, .nil⟩
  | n :: ns, s, s', vs, h => by
    simp only [List.map_cons, layAllW, layW] at h
    split at h
    · rename_i r hr
      simp only [Option.some.injEq, Prod.mk.injEq] at h
      obtain ⟨rfl, rfl⟩ := h
      obtain ⟨h1, h2⟩ := lay_ints (vs := r.1) (s' := r.2) hr
      exact ⟨h1, .cons n _ h2⟩
    · cases h

theorem items_int {R : WRecords} : ∀ {xs : List WData}, WShape.hasItems R xs .int = true → ∃ ns : List Int, xs = ns.map .int
  | [], _ => ⟨[], rfl⟩
  | x :: xs, h => by
    simp only [WShape.hasItems, Bool.and_eq_true] at h
    obtain ⟨ns, rfl⟩ := items_int h.2
    cases x <;> first
      | exact ⟨_ :: ns, rfl⟩
      | exact absurd h.1 (by simp [WShape.has, WShape.arms])
end

theorem args_of_pre {args : List WData} (h : rw0.claim.pre args = true) : ∃ ns : List Int, args = [.list (ns.map .int)] ∧ ns.length ≤ 63 := by
  obtain ⟨h1, h2⟩ := pre_splitW h
  have h1 : WShape.hasAll [] args [.list .int] = true := h1
  match args, h1, h2 with
  | [], h1, _ => simp [WShape.hasAll] at h1
  | x :: xs, h1, h2 =>
    simp only [WShape.hasAll, Bool.and_eq_true] at h1
    have hx : xs = [] := by
      cases xs with
      | nil => rfl
      | cons y ys => exact absurd h1.2 (by simp [WShape.hasAll])
    subst hx
    obtain ⟨ys, rfl⟩ : ∃ ys, x = .list ys := by
      cases x with
      | list ys => exact ⟨ys, rfl⟩
      | _ => exact absurd h1.1 (by simp [WShape.has, WShape.arms])
    have h3 : WShape.hasItems [] ys .int = true := by simpa [WShape.has, WShape.arms] using h1.1
    obtain ⟨ns, rfl⟩ := items_int h3
    refine ⟨ns, rfl, ?_⟩
    have h4 : (!(decide ((63 : Int) < (((ns.map WData.int).length : Nat) : Int)))) = true := by
      have hpre : rw0.pre = .and (.not (.lt (.lit (.int 63)) (.len (.arg 0)))) (.lit (.bool true)) := rfl
      rw [hpre] at h2
      unfold WTm.holds at h2
      simp [WTm.value] at h2
      have hl : less? (WData.int 63) (WData.int (ns.length : Int)) = some (decide ((63 : Int) < (ns.length : Int))) := rfl
      rw [hl] at h2
      rw [List.length_map]
      by_cases h63 : (63 : Int) < (ns.length : Int)
      · rw [decide_eq_true h63] at h2
        simp at h2
      · rw [decide_eq_false h63]; rfl
    simp only [Bool.not_eq_true', decide_eq_false_iff_not, List.length_map] at h4
    omega

theorem lay_some {R : WRecords} {cl : Str → Option Addr} {PP : Params} {ord : List DictEntry → List DictEntry} : ∀ (ns : List Int) (s : Shared), ∃ r, layAllW R cl PP ord (ns.map .int) s = some r
  | [], s => ⟨([], s), rfl⟩
  | n :: ns, s => by
    obtain ⟨r, hr⟩ := lay_some (R := R) (cl := cl) (PP := PP) (ord := ord) ns { s with toks := s.toks + 1 }
    refine ⟨(.int n s.toks :: r.1, r.2), ?_⟩
    simp only [List.map_cons, layAllW, layW]
    rw [hr]

theorem said_bare : pg.bare := ⟨by kernel_rfl, by kernel_rfl, by kernel_rfl, by kernel_rfl, by kernel_rfl, by kernel_rfl⟩
theorem said_opens : opensWell pg = true := by kernel_rfl
theorem said_promised : rw0.promised := ⟨[.list []], by kernel_rfl, by kernel_rfl⟩
noncomputable def lawFn : FuncData := fdrec w34 (S "law") 3 (.str (S "law_br6030_01") 3448) (.ref 1091) 0
def stmtsOf : FuncBody → List Stmt
  | .stmts b => b
  | _ => []
theorem law_glob (w : World) (X : SetD) : globalOf (h13 w X) (S "law") = some (.ref 1092) := by kernel_rfl
theorem law_live (w : World) (X : SetD) : liveAt (T13 w.params X) 1092 = true := by kernel_rfl
theorem law_obj (w : World) (X : SetD) : (at13 w X 1092).data = .func lawFn := by kernel_rfl
theorem law_def : pg.theDef (S "law") = some (lawFn.params, stmtsOf lawFn.body, lawFn.scope) := by kernel_rfl
theorem law_parts : lawFn.name = S "law" ∧ lawFn.qualname = S "law" ∧ lawFn.body = .stmts (stmtsOf lawFn.body) ∧ lawFn.globals = mainNs ∧ lawFn.closure = [] ∧ lawFn.builtins = builtinsNs := ⟨by kernel_rfl, by kernel_rfl, by kernel_rfl, by kernel_rfl, by kernel_rfl, by kernel_rfl⟩
theorem law_dflt (w : World) (X : SetD) : defaultsAsWrittenW (h13 w X) lawFn.params lawFn := ⟨.inl ⟨by kernel_rfl, by kernel_rfl⟩, [], by kernel_rfl, .inl ⟨rfl, by kernel_rfl⟩⟩
theorem pinned (w : World) (X : SetD) : ∀ n ∈ (if rr.pinned then [rr.name] else []), isTheDefsW pg (h13 w X) n := by
  intro n hn
  have hn : n ∈ [S "law"] := hn
  obtain rfl := List.mem_singleton.mp hn
  obtain ⟨p1, p2, p3, p4, p5, p6⟩ := law_parts
  exact ⟨1092, at13 w X 1092, lawFn, lawFn.params, stmtsOf lawFn.body, lawFn.scope, law_glob w X, live_get (law_live w X), law_obj w X, law_def, p1, p2, rfl, p3, rfl, p4, p5, p6, law_dflt w X⟩

theorem post_true (ns : List Int) : rw0.claim.post [.list (ns.map .int)] (.bool true) [.list (ns.map .int)] = true := by kernel_rfl

theorem row_holds (P : Plain) (said : rr.wellSaid = true) : rr.Holds := by
  refine ⟨said, said_promised, ⟨said_bare, said_opens, rfl⟩, said_promised.witness, fun w => ⟨(head w).1, fun s hs => ?_⟩⟩
  obtain ⟨s₀, hf, hg0, X, os, hT, hz⟩ := (head w).2 s hs
  refine ⟨s₀, hf, hg0, _, hT, pinned w X, (fun x hx => by cases hx), (fun x hx => by cases hx), ?_⟩
  refine ClaimW.callFrom_of_specN (c := rw0.claim) hz (by show leftWithCleanup #[] = false; simp [leftWithCleanup]) fun args hpre hlay ord hord => ?_
  obtain ⟨ns, rfl, hn⟩ := args_of_pre hpre
  obtain ⟨r, hr⟩ := lay_some (R := rw0.claim.records) (cl := classAt (St13 w X os).abs.heap) (PP := w.params) (ord := ord) ns (St13 w X os).abs
  obtain ⟨hh, hi⟩ := lay_ints (vs := r.1) (s' := r.2) hr
  have hlaid : layAllW rw0.claim.records (classAt (St13 w X os).abs.heap) w.params ord [.list (ns.map .int)] (St13 w X os).abs = some ([.ref r.2.heap.objs.size], { r.2 with heap := r.2.heap.push { cls := .type "list", data := .seq r.1.toArray } }) := by
    simp only [layAllW, layW]
    rw [hr]
  have keeps := layAllW_keeps _ _ _ hlaid
  have hal := layAllW_rest _ _ _ hlaid
  obtain ⟨as, hrd, hin, hold⟩ := reads_layAllW hord _ _ _ hlaid hlay (r.2.heap.push { cls := .type "list", data := .seq r.1.toArray }) (fun _ _ e => e)
  refine ⟨_, _, hlaid, ?_⟩
  have k13 : (h13 w X).StaysIn (r.2.heap.push { cls := .type "list", data := .seq r.1.toArray }) := keeps
  obtain ⟨mg, G⟩ := ns_globals w X
  have hlaw : mg (S "law") = some (.ref 1092) := ns_of (KK_in w X) G (k_law w X 34 (by decide) (by decide))
  have hident : ∀ a b, rw0.claim.ident a b = true := fun a b => ident_freeW rfl rfl rfl a b
  refine wpAny_bind (wpAny_nsGet (G.keeps k13) ?_)
  show wpAny _ _ (match mg (S "law") with | some f => do ret (← call f [.ref r.2.heap.objs.size]) | none => unsupported "claim.caller:no-such-global") _ _ _
  rw [hlaw]
  refine wpAny_bind (law_call P (s := { r.2 with heap := r.2.heap.push { cls := .type "list", data := .seq r.1.toArray }, gens := #[] }) k13 ⟨r.2.heap.objs.size, _, Heap.get?_push_size _ rfl, by rw [Heap.size_push]⟩ ⟨_, Heap.get?_push_size _ rfl, rfl, _, rfl⟩ hi hn fun s' h1 h2 h3 => wpAny_pure ⟨_, rfl, ?_⟩)
  have g : GoodW rw0.claim (classAt (St13 w X os).abs.heap) (ExcName.means (St13 w X os).abs.heap) [.list (ns.map .int)] { r.2 with heap := r.2.heap.push { cls := .type "list", data := .seq r.1.toArray }, gens := #[] } (.ok (.ret (.bool true))) s' :=
    ⟨.inl ⟨.bool true, .bool true, [], rfl, fun cls => rfl, .bool true, post_true ns, fun _ => ⟨.nil, fun a h => by cases h⟩⟩, h1, h3, h2⟩
  have z := g.endsN (c := rw0.claim) (s₁ := { r.2 with heap := r.2.heap.push { cls := .type "list", data := .seq r.1.toArray } }) rfl rfl hident hrd hold hal.2.2.1
  exact ⟨z.1, z.2.1, z.2.2, fun q => by cases q⟩
end Mine

-- MFind
namespace Mine
set_option maxRecDepth 100000
set_option maxHeartbeats 1000000
set_option linter.unusedVariables false

/-! find_among_b: the plain part -/
abbrev L := List Nat
/-- x stands before y -/
def lt : L → L → Bool
  | _, [] => false
  | [], _ :: _ => true
  | a :: x, b :: y => decide (a < b) || (a == b && lt x y)
def lcp : L → L → Nat
  | a :: x, b :: y => if a = b then lcp x y + 1 else 0
  | _, _ => 0
def pre : L → L → Bool
  | [], _ => true
  | _ :: _, [] => false
  | a :: x, b :: y => a == b && pre x y

theorem lcp_le1 : ∀ x y : L, lcp x y ≤ x.length
  | [], _ => by simp [lcp]
  | _ :: _, [] => by simp [lcp]
  | a :: x, b :: y => by
    unfold lcp
    split
    · have := lcp_le1 x y; rw [List.length_cons]; omega
    · omega
theorem lcp_le2 : ∀ x y : L, lcp x y ≤ y.length
  | [], _ => by simp [lcp]
  | _ :: _, [] => by simp [lcp]
  | a :: x, b :: y => by
    unfold lcp
    split
    · have := lcp_le2 x y; rw [List.length_cons]; omega
    · omega
theorem pre_iff : ∀ y x : L, pre y x = true ↔ lcp y x = y.length
  | [], x => by simp [pre, lcp]
  | b :: y, [] => by simp [pre, lcp]
  | b :: y, a :: x => by
    have ih := pre_iff y x
    unfold pre lcp
    by_cases h : b = a
    · simp [h, ih]
    · simp [h]
theorem pre_refl : ∀ y : L, pre y y = true
  | [] => rfl
  | a :: y => by simp [pre, pre_refl y]
theorem pre_len : ∀ {y x : L}, pre y x = true → y.length ≤ x.length
  | [], x, _ => by simp
  | b :: y, [], h => by simp [pre] at h
  | b :: y, a :: x, h => by
    simp only [pre, Bool.and_eq_true] at h
    have := pre_len h.2
    rw [List.length_cons, List.length_cons]; omega
/-- the first place where they part -/
theorem lcp_get : ∀ (y x : L) (k : Nat), k < lcp y x → y[k]? = x[k]?
  | [], _, _, h => by simp [lcp] at h
  | _ :: _, [], _, h => by simp [lcp] at h
  | b :: y, a :: x, k, h => by
    unfold lcp at h
    split at h
    · rename_i e
      subst e
      cases k with
      | zero => rfl
      | succ k => exact lcp_get y x k (by omega)
    · omega
theorem lcp_grow : ∀ (y x : L) (m : Nat), m ≤ lcp y x → m < y.length → m < x.length → y[m]? = x[m]? → m < lcp y x
  | [], _, m, _, h, _, _ => by simp at h
  | _ :: _, [], m, _, _, h, _ => by simp at h
  | b :: y, a :: x, m, h, h1, h2, h3 => by
    unfold lcp at h ⊢
    cases m with
    | zero =>
      simp only [List.getElem?_cons_zero, Option.some.injEq] at h3
      rw [if_pos h3]; omega
    | succ m =>
      split at h
      · rename_i e
        rw [if_pos e]
        simp only [List.getElem?_cons_succ] at h3
        rw [List.length_cons] at h1 h2
        have := lcp_grow y x m (by omega) (by omega) (by omega) h3
        omega
      · omega
theorem lcp_stop : ∀ (y x : L) (m : Nat) {a b : Nat}, m ≤ lcp y x → y[m]? = some b → x[m]? = some a → a ≠ b → lcp y x = m
  | [], _, m, _, _, _, h, _, _ => by simp at h
  | _ :: _, [], m, _, _, _, _, h, _ => by simp at h
  | b' :: y, a' :: x, m, a, b, h, h1, h2, h3 => by
    cases m with
    | zero =>
      simp only [List.getElem?_cons_zero, Option.some.injEq] at h1 h2
      unfold lcp
      rw [if_neg (by rw [h1, h2]; exact fun e => h3 e.symm)]
    | succ m =>
      unfold lcp at h ⊢
      split at h
      · rename_i e
        rw [if_pos e]
        simp only [List.getElem?_cons_succ] at h1 h2
        have := lcp_stop y x m (by omega) h1 h2 h3
        omega
      · omega
/-- how the difference is read -/
theorem lt_pre : ∀ {y x : L}, pre y x = true → lt x y = false
  | [], x, _ => by cases x <;> rfl
  | b :: y, [], h => by simp [pre] at h
  | b :: y, a :: x, h => by
    simp only [pre, Bool.and_eq_true, beq_iff_eq] at h
    obtain ⟨rfl, h⟩ := h
    simp [lt, lt_pre h]
theorem lt_end : ∀ {y x : L}, lcp y x = x.length → x.length < y.length → lt x y = true
  | [], x, _, h => by simp at h
  | b :: y, [], _, _ => rfl
  | b :: y, a :: x, h, h2 => by
    unfold lcp at h
    split at h
    · rename_i e
      subst e
      rw [List.length_cons] at h
      rw [List.length_cons, List.length_cons] at h2
      have := lt_end (y := y) (x := x) (by omega) (by omega)
      simp [lt, this]
    · rw [List.length_cons] at h; omega
theorem lt_at : ∀ {y x : L} {a b : Nat}, y[lcp y x]? = some b → x[lcp y x]? = some a → a ≠ b → lt x y = decide (a < b)
  | [], x, _, _, h, _, _ => by simp at h
  | b' :: y, [], _, _, _, h, _ => by simp at h
  | b' :: y, a' :: x, a, b, h1, h2, h3 => by
    unfold lcp at h1 h2
    by_cases e : b' = a'
    · subst e
      simp only [if_true, List.getElem?_cons_succ] at h1 h2
      have := lt_at h1 h2 h3
      simp [lt, this]
    · rw [if_neg e] at h1 h2
      simp only [List.getElem?_cons_zero, Option.some.injEq] at h1 h2
      subst h1 h2
      simp [lt, show (a' == b') = false from beq_eq_false_iff_ne.mpr (fun q => e q.symm)]
theorem lt_trans : ∀ {x y z : L}, lt x y = true → lt y z = true → lt x z = true
  | x, [], z, h, _ => by cases x <;> simp [lt] at h
  | x, y :: ys, [], _, h => by simp [lt] at h
  | [], y :: ys, z :: zs, _, _ => rfl
  | a :: xs, b :: ys, d :: zs, h1, h2 => by
    simp only [lt, Bool.or_eq_true, decide_eq_true_eq, Bool.and_eq_true, beq_iff_eq] at h1 h2 ⊢
    rcases h1 with h1 | ⟨rfl, h1⟩ <;> rcases h2 with h2 | ⟨rfl, h2⟩
    · exact .inl (by omega)
    · exact .inl h1
    · exact .inl h2
    · exact .inr ⟨rfl, lt_trans h1 h2⟩
/-- between two that share a start with x, all share it -/
theorem lcp_mid : ∀ {p y q x : L} (m : Nat), m ≤ lcp p x → m ≤ lcp q x → lt p y = true → lt y q = true → m ≤ lcp y x
  | _, _, _, _, 0, _, _, _, _ => Nat.zero_le _
  | [], _, _, _, m + 1, h, _, _, _ => by simp [lcp] at h
  | _ :: _, _, _, [], m + 1, h, _, _, _ => by simp [lcp] at h
  | _ :: _, _, [], _ :: _, m + 1, _, h, _, _ => by simp [lcp] at h
  | _ :: _, [], _ :: _, _ :: _, m + 1, _, _, h, _ => by simp [lt] at h
  | b :: p, c :: y, d :: q, a :: x, m + 1, h1, h2, h3, h4 => by
    unfold lcp at h1 h2 ⊢
    by_cases e1 : b = a
    · by_cases e2 : d = a
      · subst e1 e2
        simp only [if_true] at h1 h2
        simp only [lt, Bool.or_eq_true, decide_eq_true_eq, Bool.and_eq_true, beq_iff_eq] at h3 h4
        have e3 : c = d := by
          rcases h3 with h3 | ⟨h3, _⟩ <;> rcases h4 with h4 | ⟨h4, _⟩ <;> omega
        subst e3
        simp only [if_true]
        have h3' : lt p y = true := by
          rcases h3 with h3 | ⟨_, h3⟩
          · omega
          · exact h3
        have h4' : lt y q = true := by
          rcases h4 with h4 | ⟨_, h4⟩
          · omega
          · exact h4
        have := lcp_mid (x := x) m (by omega) (by omega) h3' h4'
        omega
      · rw [if_neg e2] at h2; omega
    · rw [if_neg e1] at h1; omega
/-- right of the end of a long common start there are no more starts of x than those -/
theorem lcp_right : ∀ {p y x : L} (m : Nat), m ≤ lcp p x → lt p y = true → lt x y = false → m ≤ lcp y x
  | _, _, _, 0, _, _, _ => Nat.zero_le _
  | [], _, _, m + 1, h, _, _ => by simp [lcp] at h
  | _ :: _, _, [], m + 1, h, _, _ => by simp [lcp] at h
  | _ :: _, [], _ :: _, m + 1, _, h, _ => by simp [lt] at h
  | b :: p, c :: y, a :: x, m + 1, h1, h3, h4 => by
    unfold lcp at h1 ⊢
    by_cases e1 : b = a
    · subst e1
      simp only [if_true] at h1
      simp only [lt, Bool.or_eq_true, decide_eq_true_eq, Bool.and_eq_true, beq_iff_eq] at h3
      simp only [lt, Bool.or_eq_false_iff, decide_eq_false_iff_not] at h4
      have e3 : c = b := by
        rcases h3 with h3 | ⟨h3, _⟩ <;> omega
      subst e3
      simp only [if_true]
      have h3' : lt p y = true := by
        rcases h3 with h3 | ⟨_, h3⟩
        · omega
        · exact h3
      have h4' : lt x y = false := by simpa using h4.2
      have := lcp_right (x := x) m (by omega) h3' h4'
      omega
    · rw [if_neg e1] at h1; omega
/-- a start of x that is not beyond y, where y is not beyond x, is a start of y -/
theorem pre_le : ∀ {p y x : L}, pre p x = true → lt y p = false → lt x y = false → pre p y = true
  | [], _, _, _, _, _ => rfl
  | b :: p, y, [], h, _, _ => by simp [pre] at h
  | b :: p, [], a :: x, h, h2, _ => by simp [lt] at h2
  | b :: p, c :: y, a :: x, h1, h2, h3 => by
    simp only [pre, Bool.and_eq_true, beq_iff_eq] at h1 ⊢
    obtain ⟨rfl, h1⟩ := h1
    simp only [lt, Bool.or_eq_false_iff, decide_eq_false_iff_not] at h2 h3
    have e : b = c := by omega
    subst e
    exact ⟨rfl, pre_le h1 (by simpa using h2.2) (by simpa using h3.2)⟩
theorem lt_irrefl : ∀ x : L, lt x x = false
  | [] => rfl
  | a :: x => by simp [lt, lt_irrefl x]
theorem pre_take {p y : L} (h : pre p y = true) (m : Nat) : p.length ≤ m → ∀ x : L, m = lcp y x → pre p x = true := by
  intro hm x hx
  rw [pre_iff]
  induction p generalizing y x m with
  | nil => simp [lcp]
  | cons b p ih =>
    cases y with
    | nil => simp [pre] at h
    | cons c y =>
      simp only [pre, Bool.and_eq_true, beq_iff_eq] at h
      obtain ⟨rfl, h⟩ := h
      cases x with
      | nil => simp [lcp] at hx; subst hx; simp at hm
      | cons a x =>
        unfold lcp at hx ⊢
        rw [List.length_cons] at hm
        by_cases e : b = a
        · subst e
          simp only [if_true] at hx ⊢
          rw [ih h (lcp y x) (by omega) x rfl, List.length_cons]
        · rw [if_neg e] at hx; omega
theorem pre_lcp {p y x : L} (h : pre p y = true) (h2 : pre p x = true) : p.length ≤ lcp y x := by
  induction p generalizing y x with
  | nil => simp
  | cons b p ih =>
    cases y with
    | nil => simp [pre] at h
    | cons c y =>
      cases x with
      | nil => simp [pre] at h2
      | cons a x =>
        simp only [pre, Bool.and_eq_true, beq_iff_eq] at h h2
        obtain ⟨rfl, h⟩ := h
        obtain ⟨rfl, h2⟩ := h2
        unfold lcp
        rw [if_pos rfl, List.length_cons]
        have := ih h h2; omega
end Mine

-- MFind2
namespace Mine
set_option maxRecDepth 100000
set_option maxHeartbeats 1000000
set_option linter.unusedVariables false

def b4in : MSs := (.cons (.ite (.cmp .eq (.bin .sub (.loc 4) (.loc 11)) (.loc 5)) (.cons (.assign 10 (.neg (.int 1)))
  (.cons .brk
  .nil)) .nil)
  (.cons (.assign 10 (.bin .sub (.ord (.idx (.attr (.loc 0) .current) (.bin .sub (.bin .sub (.loc 4) (.int 1)) (.loc 11)))) (.ord (.idx (.attr (.loc 12) .s) (.loc 13)))))
  (.cons (.ite (.cmp .ne (.loc 10) (.int 0)) (.cons .brk
  .nil) .nil)
  (.cons (.augLoc 11 .add (.int 1))
  .nil))))
def b4a : MSs := (.cons (.assign 9 (.bin .add (.loc 2) (.bin .shr (.bin .sub (.loc 3) (.loc 2)) (.int 1))))
  (.cons (.assign 10 (.int 0))
  (.cons (.assign 11 (.min2 (.loc 6) (.loc 7)))
  (.cons (.assign 12 (.idx (.loc 1) (.loc 9)))
  (.cons (.for3 13 (.bin .sub (.bin .sub (.len (.attr (.loc 12) .s)) (.int 1)) (.loc 11)) (.neg (.int 1)) (.neg (.int 1)) b4in)
  (.cons (.ite (.cmp .lt (.loc 10) (.int 0)) (.cons (.assign 3 (.loc 9))
  (.cons (.assign 7 (.loc 11))
  .nil)) (.cons (.assign 2 (.loc 9))
  (.cons (.assign 6 (.loc 11))
  .nil)))
  (.cons (.ite (.cmp .le (.bin .sub (.loc 3) (.loc 2)) (.int 1)) (.cons (.ite (.cmp .gt (.loc 2) (.int 0)) (.cons .brk
  .nil) .nil)
  (.cons (.ite (.cmp .eq (.loc 3) (.loc 2)) (.cons .brk
  .nil) .nil)
  (.cons (.ite (.val (.loc 8)) (.cons .brk
  .nil) .nil)
  (.cons (.assign 8 (.bool true))
  .nil)))) .nil)
  .nil)))))))
def b4b : MSs := (.cons (.assign 12 (.idx (.loc 1) (.loc 2)))
  (.cons (.ite (.cmp .ge (.loc 6) (.len (.attr (.loc 12) .s))) (.cons (.setAttr (.loc 0) .cursor (.bin .sub (.loc 4) (.len (.attr (.loc 12) .s))))
  (.cons (.ret (.attr (.loc 12) .res))
  .nil)) .nil)
  (.cons (.assign 2 (.attr (.loc 12) .sub))
  (.cons (.ite (.cmp .lt (.loc 2) (.int 0)) (.cons (.ret (.int 0))
  .nil) .nil)
  .nil))))
theorem m4_eq : m4 = (.cons (.assign 2 (.int 0))
  (.cons (.assign 3 (.len (.loc 1)))
  (.cons (.assign 4 (.attr (.loc 0) .cursor))
  (.cons (.assign 5 (.attr (.loc 0) .lb))
  (.cons (.assign 6 (.int 0))
  (.cons (.assign 7 (.int 0))
  (.cons (.assign 8 (.bool false))
  (.cons (.loop b4a)
  (.cons (.loop b4b)
  (.cons (.ret (.neg (.int 1)))
  .nil)))))))))) := rfl

theorem attr_stem (g : Gl) (b : Bool) (a : At) : attrV g (.stem b) a = (g.st b).bind (getF a) := by cases a <;> rfl
theorem str_at {g : Gl} {cur : L} {i : Int} (k : Nat) (hi : i = (k : Int)) {a : Nat} (h : cur[k]? = some a) (hb : cur.length ≤ bound) : idxV g (.str cur) (.int i) = some (.str [a]) := by
  subst hi
  have hk := (List.getElem?_eq_some_iff.mp h).1
  simp only [idxV]
  rw [if_pos ⟨by omega, by omega⟩, Int.toNat_natCast, h]
  rfl
def lc (i j c lb ci cj fk k diff common w i2 : Option V) (b : Bool) (T : V) : List (Option V) := [some (.stem b), some T, i, j, c, lb, ci, cj, fk, k, diff, common, w, i2]

section
variable {C : CT} {g : Gl} {b : Bool} {f : Fields} {cur : L} {c lb : Nat} {T : V}

theorem rev_get {cur : L} {c lb m : Nat} (h1 : lb ≤ c) (h2 : c ≤ cur.length) (hm : m < c - lb) : (((cur.take c).drop lb).reverse)[m]? = cur[c - 1 - m]? := by
  have hl : ((cur.take c).drop lb).length = c - lb := by rw [List.length_drop, List.length_take]; omega
  rw [List.getElem?_reverse (by rw [hl]; exact hm), hl, List.getElem?_drop, List.getElem?_take_of_lt (by omega)]
  congr 1; omega
theorem rev_len {cur : L} {c lb : Nat} (h1 : lb ≤ c) (h2 : c ≤ cur.length) : (((cur.take c).drop lb).reverse).length = c - lb := by
  rw [List.length_reverse, List.length_drop, List.length_take]; omega

/-- one turn of the inner loop -/
theorem b4in_step {K : KS} (hf : g.st b = some f) (hcur : getF .current f = some (.str cur)) (h1 : lb ≤ c) (h2 : c ≤ cur.length) (h3 : cur.length ≤ bound) {s : L} {si sr : Int} (hs : s.length ≤ bound) {i j ci cj fk k : Option V} {m n : Nat} (hm : m + (n + 1) = s.length)
    (kEnd : m = c - lb → K .brk ⟨lc i j (some (.int c)) (some (.int lb)) ci cj fk k (some (.int (-1))) (some (.int m)) (some (.among s si sr)) (some (.int n)) b T, g⟩)
    (kEq : ∀ a, m < c - lb → cur[c - 1 - m]? = some a → s[n]? = some a → K .next ⟨lc i j (some (.int c)) (some (.int lb)) ci cj fk k (some (.int 0)) (some (.int (m + 1 : Nat))) (some (.among s si sr)) (some (.int n)) b T, g⟩)
    (kNe : ∀ a b', m < c - lb → cur[c - 1 - m]? = some a → s[n]? = some b' → a ≠ b' → K .brk ⟨lc i j (some (.int c)) (some (.int lb)) ci cj fk k (some (.int ((a : Int) - b'))) (some (.int m)) (some (.among s si sr)) (some (.int n)) b T, g⟩) :
    m ≤ c - lb → awpSs globV clsV C b4in K ⟨lc i j (some (.int c)) (some (.int lb)) ci cj fk k (some (.int 0)) (some (.int m)) (some (.among s si sr)) (some (.int n)) b T, g⟩ := by
  intro hle
  simp only [b4in, awpSs, awpS, awpT, awpE, lc, List.set_cons_succ, List.set_cons_zero, List.getElem?_cons_succ, List.getElem?_cons_zero, Option.join_some, Option.some.injEq, exists_eq_left', binV, cmpV, cmpI]
  cases hc : ((c : Int) - (m : Int) == (lb : Int)) with
  | true =>
    have e : (c : Int) - m = lb := beq_iff_eq.mp hc
    exact ⟨1, rfl, kEnd (by omega)⟩
  | false =>
    have e : ¬ (c : Int) - m = lb := fun e => by rw [beq_eq_false_iff_ne] at hc; exact hc e
    have hmx : m < c - lb := by omega
    obtain ⟨a, ha⟩ : ∃ a, cur[c - 1 - m]? = some a := ⟨_, List.getElem?_eq_getElem (by omega)⟩
    obtain ⟨bb, hb⟩ : ∃ bb, s[n]? = some bb := ⟨_, List.getElem?_eq_getElem (by omega)⟩
    refine ⟨.str cur, by rw [attr_stem, hf]; exact hcur, .str [a], str_at (c - 1 - m) (by omega) ha h3, a, rfl, .str s, rfl, .str [bb], str_at n rfl hb hs, bb, rfl, ?_⟩
    by_cases hab : a = bb
    · subst hab
      have e2 : ((a : Int) - (a : Int) != 0) = false := by simp
      rw [e2]
      have e4 : (a : Int) - (a : Int) = 0 := by omega
      rw [e4]
      exact ⟨.int ((m : Int) + 1), rfl, kEq a hmx ha hb⟩
    · have e2 : ((a : Int) - (bb : Int) != 0) = true := by
        rw [bne_iff_ne]; omega
      rw [e2]
      exact kNe a bb hmx ha hb hab

/-- the inner loop: the common start of the entry and the text -/
theorem find_in (hf : g.st b = some f) (hcur : getF .current f = some (.str cur)) (h1 : lb ≤ c) (h2 : c ≤ cur.length) (h3 : cur.length ≤ bound) {s : L} {si sr : Int} (hs : s.length ≤ bound) {i j ci cj fk k : Option V} {Q : KS}
    (hQ : ∀ diff i2, (diff < 0 ↔ lt ((cur.take c).drop lb).reverse s.reverse = true) → Q .next ⟨lc i j (some (.int c)) (some (.int lb)) ci cj fk k (some (.int diff)) (some (.int (lcp s.reverse ((cur.take c).drop lb).reverse))) (some (.among s si sr)) i2 b T, g⟩) :
    ∀ (n m : Nat) (i2 : Option V), m + n = s.length → m ≤ lcp s.reverse ((cur.take c).drop lb).reverse →
      forN (awpSs globV clsV C b4in) 13 Q (rangeDown ((n : Int) - 1) n) ⟨lc i j (some (.int c)) (some (.int lb)) ci cj fk k (some (.int 0)) (some (.int m)) (some (.among s si sr)) i2 b T, g⟩ := by
  intro n
  have hx := rev_len h1 h2
  induction n with
  | zero =>
    intro m i2 hm hl
    unfold rangeDown forN
    have e : lcp s.reverse ((cur.take c).drop lb).reverse = m := by
      have := lcp_le1 s.reverse ((cur.take c).drop lb).reverse
      rw [List.length_reverse] at this; omega
    have := hQ 0 i2 ⟨fun h => absurd h (by omega), fun h => by
      rw [lt_pre ((pre_iff _ _).mpr (by rw [e, List.length_reverse]; omega))] at h; cases h⟩
    rw [e] at this
    exact this
  | succ n ih =>
    intro m i2 hm hl
    have l1 := lcp_le2 s.reverse ((cur.take c).drop lb).reverse
    unfold rangeDown forN
    have e0 : ((n + 1 : Nat) : Int) - 1 = (n : Int) := by omega
    rw [e0]
    have hrev : ∀ {bb : Nat}, s[n]? = some bb → s.reverse[m]? = some bb := fun h => by
      rw [List.getElem?_reverse (by omega), ← h]
      congr 1; omega
    refine b4in_step hf hcur h1 h2 h3 hs hm (fun he => ?_) (fun a hlt ha hb => ?_) (fun a bb hlt ha hb hab => ?_) (by omega)
    · have l2 : lcp s.reverse ((cur.take c).drop lb).reverse = m := by omega
      have l3 : lcp s.reverse ((cur.take c).drop lb).reverse = (((cur.take c).drop lb).reverse).length := by omega
      have l4 : (((cur.take c).drop lb).reverse).length < s.reverse.length := by rw [List.length_reverse (as := s)]; omega
      have := hQ (-1) (some (V.int n)) ⟨fun _ => lt_end l3 l4, fun _ => by omega⟩
      rw [l2] at this
      exact this
    · have hxa := (rev_get h1 h2 hlt).trans ha
      have hg : m < lcp s.reverse ((cur.take c).drop lb).reverse := lcp_grow _ _ m hl (by rw [List.length_reverse]; omega) (by omega) ((hrev hb).trans hxa.symm)
      exact ih (m + 1) (some (V.int n)) (by omega) (by omega)
    · have hxa := (rev_get h1 h2 hlt).trans ha
      have l2 : lcp s.reverse ((cur.take c).drop lb).reverse = m := lcp_stop _ _ m hl (hrev hb) hxa hab
      have := hQ ((a : Int) - bb) (some (V.int n)) ⟨fun h => ?_, fun h => ?_⟩
      · rw [l2] at this
        exact this
      · rw [lt_at (by rw [l2]; exact hrev hb) (by rw [l2]; exact hxa) hab]
        exact decide_eq_true (by omega)
      · rw [lt_at (by rw [l2]; exact hrev hb) (by rw [l2]; exact hxa) hab] at h
        have := of_decide_eq_true h
        omega
end
end Mine

-- MFind3
namespace Mine
set_option maxRecDepth 100000
set_option maxHeartbeats 1000000
set_option linter.unusedVariables false

theorem bin_add (a b : Int) : binV .add (.int a) (.int b) = some (.int (a + b)) := rfl
theorem bin_sub (a b : Int) : binV .sub (.int a) (.int b) = some (.int (a - b)) := rfl
theorem bin_shr (a : Int) : binV .shr (.int a) (.int 1) = some (.int (a.fdiv 2)) := rfl
theorem cmp_eq (a b : Int) : cmpV .eq (.int a) (.int b) = some (a == b) := rfl
theorem cmp_ne (a b : Int) : cmpV .ne (.int a) (.int b) = some (a != b) := rfl
theorem cmp_lt (a b : Int) : cmpV .lt (.int a) (.int b) = some (decide (a < b)) := rfl
theorem cmp_le (a b : Int) : cmpV .le (.int a) (.int b) = some (decide (a ≤ b)) := rfl
theorem cmp_gt (a b : Int) : cmpV .gt (.int a) (.int b) = some (decide (a > b)) := rfl
theorem cmp_ge (a b : Int) : cmpV .ge (.int a) (.int b) = some (decide (a ≥ b)) := rfl
theorem attr_as (g : Gl) (s : L) (i r : Int) : attrV g (.among s i r) .s = some (.str s) := rfl
theorem attr_ai (g : Gl) (s : L) (i r : Int) : attrV g (.among s i r) .sub = some (.int i) := rfl
theorem attr_ar (g : Gl) (s : L) (i r : Int) : attrV g (.among s i r) .res = some (.int r) := rfl
theorem len_s {s : L} (h : s.length ≤ bound) : lenV (.str s) = some (.int s.length) := if_pos h
theorem truth_b (b : Bool) : truthV (.bool b) = some b := rfl

section
variable {C : CT} {g : Gl} {b : Bool} {f : Fields} {cur : L} {c lb : Nat} {t : List (L × Int × Int)}

theorem tab_get {g : Gl} {i : Int} (k : Nat) (hi : i = (k : Int)) {s : L} {si sr : Int} (h : t[k]? = some (s, si, sr)) (hb : t.length ≤ bound) : idxV g (tabV t) (.int i) = some (.among s si sr) := by
  subst hi
  have hk := (List.getElem?_eq_some_iff.mp h).1
  simp only [idxV, tabV]
  rw [if_pos ⟨by omega, by omega⟩, Int.toNat_natCast, List.getElem?_map, h]
  rfl

/-- one turn of the search -/
theorem b4a_step {K : KS} (hf : g.st b = some f) (hcur : getF .current f = some (.str cur)) (h1 : lb ≤ c) (h2 : c ≤ cur.length) (h3 : cur.length ≤ bound) {s : L} {si sr : Int} (hs : s.length ≤ bound) {i j ci cj k : Nat} {fk : Bool} {k0 d0 c0 w0 i0 : Option V}
    (ht : t[k]? = some (s, si, sr)) (htb : t.length ≤ bound) (hij : i < j) (hk : k = i + (j - i) / 2) (hm : min ci cj ≤ lcp s.reverse ((cur.take c).drop lb).reverse)
    (hK : ∀ (diff common : Int) (i2 : Option V) (i' j' ci' cj' : Nat), ((lt ((cur.take c).drop lb).reverse s.reverse = true ∧ i' = i ∧ j' = k ∧ ci' = ci ∧ cj' = lcp s.reverse ((cur.take c).drop lb).reverse) ∨
        (lt ((cur.take c).drop lb).reverse s.reverse = false ∧ i' = k ∧ j' = j ∧ ci' = lcp s.reverse ((cur.take c).drop lb).reverse ∧ cj' = cj)) →
      if j' ≤ i' + 1 then (if 0 < i' ∨ j' = i' ∨ fk = true then K .brk ⟨lc (some (.int i')) (some (.int j')) (some (.int c)) (some (.int lb)) (some (.int ci')) (some (.int cj')) (some (.bool fk)) (some (.int k)) (some (.int diff)) (some (.int common)) (some (.among s si sr)) i2 b (tabV t), g⟩
          else K .next ⟨lc (some (.int i')) (some (.int j')) (some (.int c)) (some (.int lb)) (some (.int ci')) (some (.int cj')) (some (.bool true)) (some (.int k)) (some (.int diff)) (some (.int common)) (some (.among s si sr)) i2 b (tabV t), g⟩)
        else K .next ⟨lc (some (.int i')) (some (.int j')) (some (.int c)) (some (.int lb)) (some (.int ci')) (some (.int cj')) (some (.bool fk)) (some (.int k)) (some (.int diff)) (some (.int common)) (some (.among s si sr)) i2 b (tabV t), g⟩) :
    awpSs globV clsV C b4a K ⟨lc (some (.int i)) (some (.int j)) (some (.int c)) (some (.int lb)) (some (.int ci)) (some (.int cj)) (some (.bool fk)) k0 d0 c0 w0 i0 b (tabV t), g⟩ := by
  have hsub : ((j : Int) - (i : Int)) = ((j - i : Nat) : Int) := by omega
  have hdiv : ((j : Int) - (i : Int)).fdiv 2 = (((j - i) / 2 : Nat) : Int) := by
    rw [hsub, Int.fdiv_eq_ediv_of_nonneg _ (by omega)]
    omega
  have l0 := lcp_le1 s.reverse ((cur.take c).drop lb).reverse
  rw [List.length_reverse] at l0
  have hmin : min (ci : Int) (cj : Int) = ((min ci cj : Nat) : Int) := by omega
  generalize hB : b4in = B
  have hget := tab_get (g := g) (i := (i : Int) + (((j - i) / 2 : Nat) : Int)) k (by omega) ht htb
  simp only [b4a, hB, awpSs, awpS, awpT, awpE, lc, List.set_cons_succ, List.set_cons_zero, List.getElem?_cons_succ, List.getElem?_cons_zero, Option.join_some, Option.some.injEq, exists_eq_left', bin_sub, bin_add, bin_shr, V.int.injEq, hdiv, hget, attr_as, len_s hs]
  refine ⟨ci, cj, rfl, rfl, s.length - min ci cj, by omega, trivial, trivial, by omega, ?_⟩
  subst hB
  have e0 : (s.length : Int) - 1 - min (ci : Int) cj = ((s.length - min ci cj : Nat) : Int) - 1 := by omega
  have ek : (i : Int) + (((j - i) / 2 : Nat) : Int) = (k : Int) := by omega
  rw [ek, hmin]
  refine find_in hf hcur h1 h2 h3 hs (i := some (.int i)) (j := some (.int j)) (ci := some (.int ci)) (cj := some (.int cj)) (fk := some (.bool fk)) (k := some (.int k)) (fun diff i2 hd => ?_) (s.length - min ci cj) (min ci cj) i0 (by omega) hm
  simp only [lc, List.set_cons_succ, List.set_cons_zero, List.getElem?_cons_succ, List.getElem?_cons_zero, Option.join_some, Option.some.injEq, exists_eq_left', cmp_lt, cmp_le, cmp_gt, cmp_eq, bin_sub, truth_b]
  by_cases hdl : diff < 0
  · rw [decide_eq_true hdl]
    have h := hK diff (lcp s.reverse ((cur.take c).drop lb).reverse : Nat) i2 i k ci _ (.inl ⟨hd.mp hdl, rfl, rfl, rfl, rfl⟩)
    by_cases p1 : k ≤ i + 1
    · rw [if_pos p1] at h
      rw [decide_eq_true (show (k : Int) - (i : Int) ≤ 1 by omega)]
      by_cases p2 : 0 < i
      · rw [if_pos (.inl p2)] at h
        rw [decide_eq_true (show (i : Int) > 0 by omega)]
        exact h
      · rw [decide_eq_false (show ¬ (i : Int) > 0 by omega)]
        by_cases p3 : k = i
        · rw [if_pos (.inr (.inl p3))] at h
          rw [show ((k : Int) == (i : Int)) = true from beq_iff_eq.mpr (by omega)]
          exact h
        · rw [show ((k : Int) == (i : Int)) = false from beq_eq_false_iff_ne.mpr (by omega)]
          cases fk with
          | true => rw [if_pos (.inr (.inr rfl))] at h; exact h
          | false => rw [if_neg (by rintro (q | q | q) <;> first | omega | cases q)] at h; exact h
    · rw [if_neg p1] at h
      rw [decide_eq_false (show ¬ (k : Int) - (i : Int) ≤ 1 by omega)]
      exact h
  · rw [decide_eq_false hdl]
    have hnl : lt ((cur.take c).drop lb).reverse s.reverse = false := by
      cases hq : lt ((cur.take c).drop lb).reverse s.reverse with
      | true => exact absurd (hd.mpr hq) hdl
      | false => rfl
    have h := hK diff (lcp s.reverse ((cur.take c).drop lb).reverse : Nat) i2 k j _ cj (.inr ⟨hnl, rfl, rfl, rfl, rfl⟩)
    by_cases p1 : j ≤ k + 1
    · rw [if_pos p1] at h
      rw [decide_eq_true (show (j : Int) - (k : Int) ≤ 1 by omega)]
      by_cases p2 : 0 < k
      · rw [if_pos (.inl p2)] at h
        rw [decide_eq_true (show (k : Int) > 0 by omega)]
        exact h
      · rw [decide_eq_false (show ¬ (k : Int) > 0 by omega)]
        by_cases p3 : j = k
        · rw [if_pos (.inr (.inl p3))] at h
          rw [show ((j : Int) == (k : Int)) = true from beq_iff_eq.mpr (by omega)]
          exact h
        · rw [show ((j : Int) == (k : Int)) = false from beq_eq_false_iff_ne.mpr (by omega)]
          cases fk with
          | true => rw [if_pos (.inr (.inr rfl))] at h; exact h
          | false => rw [if_neg (by rintro (q | q | q) <;> first | omega | cases q)] at h; exact h
    · rw [if_neg p1] at h
      rw [decide_eq_false (show ¬ (j : Int) - (k : Int) ≤ 1 by omega)]
      exact h
end
end Mine

-- MFind4
namespace Mine
set_option maxRecDepth 100000
set_option maxHeartbeats 1000000
set_option linter.unusedVariables false

abbrev En := L × Int × Int
abbrev Tab := List En
def sortedB : List L → Bool
  | [] => true
  | a :: r => r.all (fun b => lt a b) && sortedB r
theorem sortedB_pw : ∀ {l : List L}, sortedB l = true → l.Pairwise fun a b => lt a b = true
  | [], _ => .nil
  | a :: r, h => by
    simp only [sortedB, Bool.and_eq_true, List.all_eq_true] at h
    exact .cons h.1 (sortedB_pw h.2)
def linkB (t : Tab) (q : Nat) (e : L × Int × Int) : Bool :=
  (t.all fun e' => !(pre e'.1.reverse e.1.reverse) || e'.1 == e.1 || (decide (0 ≤ e.2.1) && match t[e.2.1.toNat]? with
    | some e2 => pre e'.1.reverse e2.1.reverse
    | none => false)) &&
  (decide (e.2.1 < 0) || (match t[e.2.1.toNat]? with
    | some e2 => decide (e2.1.length < e.1.length) && pre e2.1.reverse e.1.reverse
    | none => false))
def goodB (t : Tab) : Bool := Nat.blt 0 t.length && Nat.ble t.length 1000 && (t.all fun e => Nat.ble e.1.length 30) && sortedB (t.map fun e => e.1.reverse) && t.all fun e => linkB t 0 e

structure GoodT (t : Tab) : Prop where
  ne : 0 < t.length
  bd : t.length ≤ 1000
  sb : ∀ {k : Nat} {e : En}, t[k]? = some e → e.1.length ≤ 30
  sorted : ∀ {p q : Nat} {e e' : En}, p < q → t[p]? = some e → t[q]? = some e' → lt e.1.reverse e'.1.reverse = true
  link : ∀ {q : Nat} {e : En}, t[q]? = some e → ∀ {k : Nat} {e' : En}, t[k]? = some e' → pre e'.1.reverse e.1.reverse = true → e'.1 ≠ e.1 → 0 ≤ e.2.1 ∧ ∃ e2 : En, t[e.2.1.toNat]? = some e2 ∧ pre e'.1.reverse e2.1.reverse = true
  short : ∀ {q : Nat} {e : En}, t[q]? = some e → 0 ≤ e.2.1 → ∃ e2 : En, t[e.2.1.toNat]? = some e2 ∧ e2.1.length < e.1.length ∧ pre e2.1.reverse e.1.reverse = true
theorem goodT {t : Tab} (h : goodB t = true) : GoodT t := by
  simp only [goodB, Bool.and_eq_true, List.all_eq_true] at h
  obtain ⟨⟨⟨⟨h1, h2⟩, h3⟩, h4⟩, h5⟩ := h
  have pw := sortedB_pw h4
  refine ⟨blt_lt h1, Nat.le_of_ble_eq_true h2, fun {k e} hk => Nat.le_of_ble_eq_true (h3 e (List.mem_of_getElem? hk)), fun {p q e e'} hpq hp hq => ?_, fun {q e} hq {k e'} hk hpre hne => ?_, fun {q e} hq h0 => ?_⟩
  · obtain ⟨p1, rfl⟩ := List.getElem?_eq_some_iff.mp hp
    obtain ⟨q1, rfl⟩ := List.getElem?_eq_some_iff.mp hq
    have := List.pairwise_iff_getElem.mp pw p q (by rw [List.length_map]; exact p1) (by rw [List.length_map]; exact q1) hpq
    simpa using this
  · have := h5 e (List.mem_of_getElem? hq)
    simp only [linkB, Bool.and_eq_true, List.all_eq_true] at this
    have := this.1 e' (List.mem_of_getElem? hk)
    rw [hpre] at this
    simp only [Bool.not_true, Bool.false_or, Bool.or_eq_true, beq_iff_eq, Bool.and_eq_true, decide_eq_true_eq] at this
    rcases this with this | ⟨h0, this⟩
    · exact absurd this hne
    · split at this
      · exact ⟨h0, _, ‹_›, this⟩
      · cases this
  · have := h5 e (List.mem_of_getElem? hq)
    simp only [linkB, Bool.and_eq_true, Bool.or_eq_true, decide_eq_true_eq] at this
    rcases this.2 with h | h
    · omega
    · split at h
      · obtain ⟨ha, hb⟩ := Bool.and_eq_true_iff.mp h
        exact ⟨_, ‹_›, of_decide_eq_true ha, hb⟩
      · cases h
theorem good1 : goodB tab1 = true := by kernel_rfl
theorem good2 : goodB tab2 = true := by kernel_rfl
theorem good3 : goodB tab3 = true := by kernel_rfl
theorem good4 : goodB tab4 = true := by kernel_rfl
theorem good5 : goodB tab5 = true := by kernel_rfl
theorem good6 : goodB tab6 = true := by kernel_rfl
theorem good7 : goodB tab7 = true := by kernel_rfl
theorem good8 : goodB tab8 = true := by kernel_rfl
theorem good9 : goodB tab9 = true := by kernel_rfl

def Low (t : Tab) (x : L) (i ci : Nat) : Prop := ∃ e : En, t[i]? = some e ∧ lt x e.1.reverse = false ∧ ci = lcp e.1.reverse x
def High (t : Tab) (x : L) (j cj : Nat) : Prop := ∃ e : En, t[j]? = some e ∧ lt x e.1.reverse = true ∧ cj = lcp e.1.reverse x
structure FinT (t : Tab) (x : L) (i ci : Nat) : Prop where
  inB : i < t.length
  above : ∀ {k : Nat} {e : En}, i < k → t[k]? = some e → lt x e.1.reverse = true
  here : Low t x i ci ∨ (i = 0 ∧ ci = 0 ∧ ∀ {k : Nat} {e : En}, t[k]? = some e → lt x e.1.reverse = true)

section
variable {C : CT} {g : Gl} {b : Bool} {f : Fields} {cur : L} {c lb : Nat} {t : Tab}

theorem loop1 (G : GoodT t) (hf : g.st b = some f) (hcur : getF .current f = some (.str cur)) (h1 : lb ≤ c) (h2 : c ≤ cur.length) (h3 : cur.length ≤ bound) {Q : KS}
    (hQ : ∀ i ci j cj fk k d co w i2, FinT t ((cur.take c).drop lb).reverse i ci → Q .next ⟨lc (some (.int (i : Nat))) j (some (.int c)) (some (.int lb)) (some (.int (ci : Nat))) cj fk k d co w i2 b (tabV t), g⟩) :
    ∀ (μ i j ci cj : Nat) (fk : Bool) (k0 d0 c0 w0 i0 : Option V), 2 * (j - i) + (if fk then 0 else 1) ≤ μ → i < j → j ≤ t.length → (fk = true → j ≤ i + 1) →
      ((i = 0 ∧ ci = 0) ∨ Low t ((cur.take c).drop lb).reverse i ci) → ((j = t.length ∧ cj = 0) ∨ High t ((cur.take c).drop lb).reverse j cj) →
      loopN (awpSs globV clsV C b4a) Q (μ + 1) ⟨lc (some (.int i)) (some (.int j)) (some (.int c)) (some (.int lb)) (some (.int ci)) (some (.int cj)) (some (.bool fk)) k0 d0 c0 w0 i0 b (tabV t), g⟩ := by
  intro μ
  induction μ with
  | zero =>
    intro i j ci cj fk k0 d0 c0 w0 i0 hμ hij hj hfk hi hhj
    omega
  | succ μ ih =>
    intro i j ci cj fk k0 d0 c0 w0 i0 hμ hij hj hfk hi hhj
    generalize hx : ((cur.take c).drop lb).reverse = x at *
    obtain ⟨⟨s, si, sr⟩, ht⟩ : ∃ e, t[i + (j - i) / 2]? = some e := ⟨_, List.getElem?_eq_getElem (by omega)⟩
    have hb := G.bd
    have hsb := G.sb ht
    have hm : min ci cj ≤ lcp s.reverse x := by
      rcases hi with ⟨_, rfl⟩ | ⟨e1, p1, p2, rfl⟩
      · omega
      · rcases hhj with ⟨_, rfl⟩ | ⟨e2, q1, q2, rfl⟩
        · omega
        · by_cases hk : (j - i) / 2 = 0
          · rw [hk, Nat.add_zero] at ht
            rw [ht] at p1; cases p1
            exact Nat.min_le_left _ _
          · exact lcp_mid _ (by omega) (by omega) (G.sorted (by omega) p1 ht) (G.sorted (by omega) ht q1)
    unfold loopN
    refine b4a_step hf hcur h1 h2 h3 (by unfold bound; dsimp only at hsb; omega) ht (by unfold bound; omega) hij rfl (by rw [hx]; exact hm) fun diff common i2 i' j' ci' cj' hcase => ?_
    rw [hx] at hcase
    rcases hcase with ⟨hlt, rfl, rfl, rfl, rfl⟩ | ⟨hlt, rfl, rfl, rfl, rfl⟩
    · have hH : High t x (i' + (j - i') / 2) (lcp s.reverse x) := ⟨_, ht, hlt, rfl⟩
      have habove : ∀ {k : Nat} {e : En}, i' + (j - i') / 2 ≤ k → t[k]? = some e → lt x e.1.reverse = true := fun {k e} hk he => by
        rcases Nat.eq_or_lt_of_le hk with rfl | hk
        · rw [ht] at he; cases he; exact hlt
        · exact lt_trans hlt (G.sorted hk ht he)
      split
      · rename_i p1
        split
        · rename_i p2
          refine hQ _ _ _ _ _ _ _ _ _ _ ⟨by omega, fun {k e} hk he => habove (by omega) he, ?_⟩
          rcases hi with ⟨rfl, rfl⟩ | hi
          · have hk0 : (j - 0) / 2 = 0 := by
              rcases p2 with p2 | p2 | p2
              · omega
              · omega
              · have := hfk p2; omega
            exact .inr ⟨rfl, rfl, fun {k e} he => habove (by omega) he⟩
          · exact .inl hi
        · rename_i p2
          have q1 : ¬ 0 < i' := fun q => p2 (.inl q)
          have q2 : ¬ i' + (j - i') / 2 = i' := fun q => p2 (.inr (.inl q))
          have q3 : fk = false := by cases fk with | true => exact absurd (.inr (.inr rfl)) p2 | false => rfl
          subst q3
          exact ih i' _ ci' _ true _ _ _ _ _ (by simp only [Bool.false_eq_true, if_false, if_true] at hμ ⊢; omega) (by omega) (by omega) (fun _ => p1) hi (.inr hH)
      · rename_i p1
        have q3 : fk = false := by cases fk with | true => have := hfk rfl; omega | false => rfl
        subst q3
        exact ih i' _ ci' _ false _ _ _ _ _ (by simp only [Bool.false_eq_true, if_false] at hμ ⊢; omega) (by omega) (by omega) (fun q => by cases q) hi (.inr hH)
    · have hL : Low t x (i + (j' - i) / 2) (lcp s.reverse x) := ⟨_, ht, hlt, rfl⟩
      have habove : ∀ {k : Nat} {e : En}, j' ≤ k → t[k]? = some e → lt x e.1.reverse = true := fun {k e} hk he => by
        rcases hhj with ⟨rfl, _⟩ | ⟨e2, q1, q2, _⟩
        · have := (List.getElem?_eq_some_iff.mp he).1
          omega
        · rcases Nat.eq_or_lt_of_le hk with rfl | hk
          · rw [q1] at he; cases he; exact q2
          · exact lt_trans q2 (G.sorted hk q1 he)
      split
      · rename_i p1
        split
        · rename_i p2
          exact hQ _ _ _ _ _ _ _ _ _ _ ⟨by omega, fun {k e} hk he => habove (by omega) he, .inl hL⟩
        · rename_i p2
          have q1 : ¬ 0 < i + (j' - i) / 2 := fun q => p2 (.inl q)
          have q3 : fk = false := by cases fk with | true => exact absurd (.inr (.inr rfl)) p2 | false => rfl
          subst q3
          exact ih _ j' _ cj' true _ _ _ _ _ (by simp only [Bool.false_eq_true, if_false, if_true] at hμ ⊢; omega) (by omega) hj (fun _ => p1) (.inr hL) hhj
      · rename_i p1
        have q3 : fk = false := by cases fk with | true => have := hfk rfl; omega | false => rfl
        subst q3
        exact ih _ j' _ cj' false _ _ _ _ _ (by simp only [Bool.false_eq_true, if_false] at hμ ⊢; omega) (by omega) hj (fun q => by cases q) (.inr hL) hhj
end
end Mine

-- MFind5
namespace Mine
set_option maxRecDepth 100000
set_option maxHeartbeats 1000000
set_option linter.unusedVariables false

theorem pre_trans : ∀ {p q r : L}, pre p q = true → pre q r = true → pre p r = true
  | [], _, _, _, _ => rfl
  | b :: p, [], _, h, _ => by simp [pre] at h
  | b :: p, c :: q, [], _, h => by simp [pre] at h
  | b :: p, c :: q, a :: r, h1, h2 => by
    simp only [pre, Bool.and_eq_true, beq_iff_eq] at h1 h2 ⊢
    exact ⟨h1.1.trans h2.1, pre_trans h1.2 h2.2⟩
theorem pre_prefix : ∀ {p q : L}, pre p q = true ↔ p <+: q
  | [], q => by simp [pre]
  | b :: p, [] => by simp [pre]
  | b :: p, c :: q => by
    simp only [pre, Bool.and_eq_true, beq_iff_eq, List.cons_prefix_cons]
    rw [pre_prefix]
theorem pre_suffix {s w : L} : pre s.reverse w.reverse = true ↔ s <:+ w := by
  rw [pre_prefix, List.reverse_prefix]

section
variable {C : CT} {g : Gl} {b : Bool} {f : Fields} {cur : L} {c lb : Nat} {t : Tab}

theorem b4b_step {K : KS} (hf : g.st b = some f) (hfl : f.length ≤ 100) {s : L} {si sr : Int} (hs : s.length ≤ bound) {i ci : Nat} {j cj fk k d co w i2 : Option V} (ht : t[i]? = some (s, si, sr)) (htb : t.length ≤ bound)
    (kHit : s.length ≤ ci → ∀ loc, K (.ret (.int sr)) ⟨loc, g.setSt b (setF .cursor (.int ((c : Int) - s.length)) f)⟩) (kEnd : ci < s.length → si < 0 → ∀ loc, K (.ret (.int 0)) ⟨loc, g⟩)
    (kNext : ci < s.length → 0 ≤ si → K .next ⟨lc (some (.int si)) j (some (.int c)) (some (.int lb)) (some (.int ci)) cj fk k d co (some (.among s si sr)) i2 b (tabV t), g⟩) :
    awpSs globV clsV C b4b K ⟨lc (some (.int i)) j (some (.int c)) (some (.int lb)) (some (.int ci)) cj fk k d co w i2 b (tabV t), g⟩ := by
  have hget := tab_get (g := g) (i := (i : Int)) i rfl ht htb
  simp only [b4b, awpSs, awpS, awpT, awpE, lc, List.set_cons_succ, List.set_cons_zero, List.getElem?_cons_succ, List.getElem?_cons_zero, Option.join_some, Option.some.injEq, exists_eq_left', bin_sub, cmp_ge, cmp_lt, hget, attr_as, attr_ai, attr_ar, len_s hs]
  by_cases hc : s.length ≤ ci
  · rw [decide_eq_true (show (ci : Int) ≥ (s.length : Int) by omega)]
    exact ⟨b, f, rfl, hf, hfl, kHit hc _⟩
  · rw [decide_eq_false (show ¬ (ci : Int) ≥ (s.length : Int) by omega)]
    by_cases hsi : si < 0
    · dsimp only
      rw [decide_eq_true hsi]
      exact kEnd (by omega) hsi _
    · dsimp only
      rw [decide_eq_false hsi]
      exact kNext (by omega) (by omega)

theorem loop2 (G : GoodT t) (hf : g.st b = some f) (hfl : f.length ≤ 100) {x : L} {ci : Nat} {Q : KS} {j cj fk k d co i2 : Option V}
    (hHit : ∀ {k : Nat} {e : En}, t[k]? = some e → pre e.1.reverse x = true → (∀ {k' : Nat} {e' : En}, t[k']? = some e' → pre e'.1.reverse x = true → pre e'.1.reverse e.1.reverse = true) → ∀ loc, Q (.ret (.int e.2.2)) ⟨loc, g.setSt b (setF .cursor (.int ((c : Int) - e.1.length)) f)⟩)
    (hMiss : (∀ {k : Nat} {e : En}, t[k]? = some e → pre e.1.reverse x = false) → ∀ loc, Q (.ret (.int 0)) ⟨loc, g⟩) :
    ∀ (N q : Nat) (e : En) (w : Option V), t[q]? = some e → e.1.length ≤ N → (∀ {k : Nat} {e' : En}, t[k]? = some e' → pre e'.1.reverse e.1.reverse = true → (e'.1.length ≤ ci ↔ pre e'.1.reverse x = true)) →
      (∀ {k : Nat} {e' : En}, t[k]? = some e' → pre e'.1.reverse x = true → pre e'.1.reverse e.1.reverse = true) →
      loopN (awpSs globV clsV C b4b) Q (N + 1) ⟨lc (some (.int q)) j (some (.int c)) (some (.int lb)) (some (.int ci)) cj fk k d co w i2 b (tabV t), g⟩ := by
  intro N
  induction N with
  | zero =>
    rintro q ⟨s, si, sr⟩ w hq hN hP hA
    unfold loopN
    have hs := G.sb hq
    have hb := G.bd
    refine b4b_step hf hfl (by unfold bound; dsimp only at hs; omega) hq (by unfold bound; omega) (fun h loc => ?_) (fun h h2 loc => ?_) (fun h h2 => ?_)
    · exact hHit hq ((hP hq (pre_refl _)).mp h) hA loc
    · dsimp only at hN; omega
    · dsimp only at hN; omega
  | succ N ih =>
    rintro q ⟨s, si, sr⟩ w hq hN hP hA
    unfold loopN
    have hs := G.sb hq
    have hb := G.bd
    have miss : ci < s.length → ∀ {k : Nat} {e' : En}, t[k]? = some e' → pre e'.1.reverse x = true → e'.1 ≠ s := by
      rintro h k e' hk hp rfl
      have := (hP hk (pre_refl _)).mpr hp
      omega
    refine b4b_step hf hfl (by unfold bound; dsimp only at hs; omega) hq (by unfold bound; omega) (fun h loc => ?_) (fun h h2 loc => ?_) (fun h h2 => ?_)
    · exact hHit hq ((hP hq (pre_refl _)).mp h) hA loc
    · refine hMiss (fun {k e'} hk => ?_) loc
      cases hp : pre e'.1.reverse x with
      | false => rfl
      | true =>
        have := (G.link hq hk (hA hk hp) (miss h hk hp)).1
        dsimp only at this
        omega
    · obtain ⟨e2, p1, p2, p3⟩ := G.short hq h2
      have e0 : (si : Int) = ((si.toNat : Nat) : Int) := by omega
      have := ih si.toNat e2 (some (.among s si sr)) p1 (by dsimp only at p2 hN; omega) (fun {k e'} hk hp => hP hk (pre_trans hp p3)) (fun {k e'} hk hp => ?_)
      · rw [← e0] at this
        exact this
      · obtain ⟨_, e3, q1, q2⟩ := G.link hq hk (hA hk hp) (miss h hk hp)
        rw [p1] at q1; cases q1
        exact q2

/-- what find_among_b does -/
theorem find_among {d : Nat} (G : GoodT t) (hf : g.st b = some f) (hfl : f.length ≤ 100) (hcur : getF .current f = some (.str cur)) (hc : getF .cursor f = some (.int c)) (hlb : getF .lb f = some (.int lb)) (h1 : lb ≤ c) (h2 : c ≤ cur.length) (h3 : cur.length ≤ bound) {Q : V → Gl → Prop}
    (hHit : ∀ {k : Nat} {e : En}, t[k]? = some e → e.1 <:+ (cur.take c).drop lb → (∀ {k' : Nat} {e' : En}, t[k']? = some e' → e'.1 <:+ (cur.take c).drop lb → e'.1 <:+ e.1) → Q (.int e.2.2) (g.setSt b (setF .cursor (.int ((c : Int) - e.1.length)) f)))
    (hMiss : (∀ {k : Nat} {e : En}, t[k]? = some e → ¬ e.1 <:+ (cur.take c).drop lb) → Q (.int 0) g) :
    callN globV clsV ftab (d + 1) 4 [.stem b, tabV t] Q g := by
  refine ⟨fd4, rfl, rfl, ?_⟩
  show awpSs globV clsV (callN globV clsV ftab d) m4 _ ⟨[some (.stem b), some (tabV t), none, none, none, none, none, none, none, none, none, none, none, none], g⟩
  rw [m4_eq]
  have hb := G.bd
  have a1 : attrV g (.stem b) .cursor = some (.int c) := by rw [attr_stem, hf]; exact hc
  have a2 : attrV g (.stem b) .lb = some (.int lb) := by rw [attr_stem, hf]; exact hlb
  have a3 : lenV (tabV t) = some (.int t.length) := by
    show (if (t.map _).length ≤ bound then _ else _) = _
    rw [List.length_map, if_pos (by unfold bound; omega)]
  generalize hB1 : b4a = B1
  generalize hB2 : b4b = B2
  simp only [awpSs, awpS, awpE, List.set_cons_succ, List.set_cons_zero, List.getElem?_cons_succ, List.getElem?_cons_zero, Option.join_some, Option.some.injEq, exists_eq_left', a1, a2, a3]
  subst hB1 hB2
  refine ⟨2 * (t.length - 0) + 1 + 1, ?_⟩
  refine loop1 (cur := cur) (lb := lb) (c := c) G hf hcur h1 h2 h3 (fun i ci j cj fk k d co w i2 F => ?_) (2 * (t.length - 0) + 1) 0 t.length 0 0 false none none none none none (by simp) G.ne (Nat.le_refl _) (fun q => by cases q) (.inl ⟨rfl, rfl⟩) (.inl ⟨rfl, rfl⟩)
  obtain ⟨e, he⟩ : ∃ e, t[i]? = some e := ⟨_, List.getElem?_eq_getElem F.inB⟩
  refine ⟨e.1.length + 1, loop2 (x := ((cur.take c).drop lb).reverse) G hf hfl (fun {k e} hk hp hmax loc => hHit hk (pre_suffix.mp hp) fun {k' e'} hk' hp' => pre_suffix.mp (hmax hk' (pre_suffix.mpr hp'))) (fun hno loc => hMiss fun {k e} hk hp => by
    have := hno hk
    rw [pre_suffix.mpr hp] at this; cases this) e.1.length i e w he (Nat.le_refl _) (fun {k e'} hk hp => ?_) (fun {k e'} hk hp => ?_)⟩
  · rcases F.here with ⟨e2, p1, p2, p3⟩ | ⟨rfl, rfl, hall⟩
    · rw [he] at p1; cases p1
      have hl : e'.1.length = e'.1.reverse.length := (List.length_reverse).symm
      refine ⟨fun h => pre_take hp ci (by omega) _ p3, fun h => ?_⟩
      have := pre_lcp hp h
      omega
    · have := hall hk
      refine ⟨fun h => ?_, fun h => ?_⟩
      · have h0 : e'.1 = [] := List.length_eq_zero_iff.mp (by omega)
        rw [h0] at this
        have e0 : lt ((cur.take c).drop lb).reverse [] = false := lt_pre rfl
        rw [List.reverse_nil, e0] at this; cases this
      · rw [lt_pre h] at this; cases this
  · rcases F.here with ⟨e2, p1, p2, p3⟩ | ⟨rfl, rfl, hall⟩
    · rw [he] at p1; cases p1
      rcases Nat.lt_or_ge i k with hik | hik
      · have := F.above hik hk
        rw [lt_pre hp] at this; cases this
      · rcases Nat.eq_or_lt_of_le hik with rfl | hik
        · rw [he] at hk; cases hk; exact pre_refl _
        · have hs := G.sorted hik hk he
          refine pre_le hp ?_ p2
          cases hq : lt e.1.reverse e'.1.reverse with
          | false => rfl
          | true => have := lt_trans hs hq; rw [lt_irrefl] at this; cases this
    · have := hall hk
      rw [lt_pre hp] at this; cases this
end
end Mine

-- MStem
namespace Mine
set_option maxRecDepth 100000
set_option maxHeartbeats 1000000
set_option linter.unusedVariables false

/-- a stemmer at work -/
structure SF where
  cur : L
  c : Nat
  l : Nat
  lb : Nat
  bra : Nat
  ket : Nat
  p1 : Nat
  p2 : Nat
  pv : Nat
def SF.f (s : SF) : Fields := [(.current, .str s.cur), (.cursor, .int s.c), (.limit, .int s.l), (.lb, .int s.lb), (.bra, .int s.bra), (.ket, .int s.ket), (.p1, .int s.p1), (.p2, .int s.p2), (.pV, .int s.pv)]
theorem st_set (g : Gl) (b : Bool) (f : Fields) : (g.setSt b f).st b = some f := by cases b <;> rfl
theorem set_set (g : Gl) (b : Bool) (f f' : Fields) : (g.setSt b f).setSt b f' = g.setSt b f' := by cases b <;> rfl
def at' (g : Gl) (b : Bool) (s : SF) : Gl := g.setSt b s.f
section
variable (g : Gl) (b : Bool) (s : SF)
theorem g_cur : attrV (at' g b s) (.stem b) .current = some (.str s.cur) := by rw [attr_stem, at', st_set]; rfl
theorem g_c : attrV (at' g b s) (.stem b) .cursor = some (.int s.c) := by rw [attr_stem, at', st_set]; rfl
theorem g_l : attrV (at' g b s) (.stem b) .limit = some (.int s.l) := by rw [attr_stem, at', st_set]; rfl
theorem g_lb : attrV (at' g b s) (.stem b) .lb = some (.int s.lb) := by rw [attr_stem, at', st_set]; rfl
theorem g_bra : attrV (at' g b s) (.stem b) .bra = some (.int s.bra) := by rw [attr_stem, at', st_set]; rfl
theorem g_ket : attrV (at' g b s) (.stem b) .ket = some (.int s.ket) := by rw [attr_stem, at', st_set]; rfl
theorem g_p1 : attrV (at' g b s) (.stem b) .p1 = some (.int s.p1) := by rw [attr_stem, at', st_set]; rfl
theorem g_p2 : attrV (at' g b s) (.stem b) .p2 = some (.int s.p2) := by rw [attr_stem, at', st_set]; rfl
theorem g_pv : attrV (at' g b s) (.stem b) .pV = some (.int s.pv) := by rw [attr_stem, at', st_set]; rfl
theorem at_st : (at' g b s).st b = some s.f := st_set _ _ _
theorem s_cur (x : L) : (at' g b s).setSt b (setF .current (.str x) s.f) = at' g b { s with cur := x } := by unfold at'; rw [set_set]; rfl
theorem s_c (n : Nat) : (at' g b s).setSt b (setF .cursor (.int n) s.f) = at' g b { s with c := n } := by unfold at'; rw [set_set]; rfl
theorem s_l (n : Nat) : (at' g b s).setSt b (setF .limit (.int n) s.f) = at' g b { s with l := n } := by unfold at'; rw [set_set]; rfl
theorem s_lb (n : Nat) : (at' g b s).setSt b (setF .lb (.int n) s.f) = at' g b { s with lb := n } := by unfold at'; rw [set_set]; rfl
theorem s_bra (n : Nat) : (at' g b s).setSt b (setF .bra (.int n) s.f) = at' g b { s with bra := n } := by unfold at'; rw [set_set]; rfl
theorem s_ket (n : Nat) : (at' g b s).setSt b (setF .ket (.int n) s.f) = at' g b { s with ket := n } := by unfold at'; rw [set_set]; rfl
end
theorem f_len (s : SF) : s.f.length ≤ 100 := by show 9 ≤ 100; decide

theorem slice_nn {α : Type} (l : List α) (a b : Nat) : sliceL l (some (a : Int)) (some (b : Int)) = (l.take b).drop a := by
  rw [sliceL_eq]
  unfold loOf hiOf clampI
  dsimp only
  rw [if_neg (by omega), if_neg (by omega)]
  rw [Int.toNat_natCast, Int.toNat_natCast]
  by_cases h : b ≤ l.length
  · rw [Nat.min_eq_left h]
    by_cases h2 : a ≤ l.length
    · rw [Nat.min_eq_left h2]
    · rw [Nat.min_eq_right (by omega), List.drop_eq_nil_of_le (by rw [List.length_take]; omega), List.drop_eq_nil_of_le (by rw [List.length_take]; omega)]
  · rw [Nat.min_eq_right (by omega : l.length ≤ b), List.take_of_length_le (Nat.le_refl _), List.take_of_length_le (by omega)]
    by_cases h2 : a ≤ l.length
    · rw [Nat.min_eq_left h2]
    · rw [Nat.min_eq_right (by omega), List.drop_eq_nil_of_le (Nat.le_refl _), List.drop_eq_nil_of_le (by omega)]
theorem slice_n0 {α : Type} (l : List α) (a : Nat) : sliceL l (some (a : Int)) none = l.drop a := by
  have := slice_nn l a l.length
  rw [List.take_of_length_le (Nat.le_refl _)] at this
  rw [← this, sliceL_eq, sliceL_eq]
  unfold hiOf clampI
  dsimp only
  rw [if_neg (by omega), Int.toNat_natCast, Nat.min_eq_left (Nat.le_refl _)]
theorem slice_0n {α : Type} (l : List α) (b : Nat) : sliceL l none (some (b : Int)) = l.take b := by
  have := slice_nn l 0 b
  rw [List.drop_zero] at this
  rw [← this, sliceL_eq, sliceL_eq]
  unfold loOf clampI
  dsimp only
  rw [if_neg (by decide)]
  rfl
theorem sl_both {l : L} (h : l.length ≤ bound) (a b : Nat) : sliceV (.str l) (some (a : Int)) (some (b : Int)) = some (.str ((l.take b).drop a)) := by
  show (if _ then _ else _) = _
  rw [if_pos h, slice_nn]
theorem sl_lo {l : L} (h : l.length ≤ bound) (a : Nat) : sliceV (.str l) (some (a : Int)) none = some (.str (l.drop a)) := by
  show (if _ then _ else _) = _
  rw [if_pos h, slice_n0]
theorem sl_hi {l : L} (h : l.length ≤ bound) (b : Nat) : sliceV (.str l) none (some (b : Int)) = some (.str (l.take b)) := by
  show (if _ then _ else _) = _
  rw [if_pos h, slice_0n]
theorem cat_s {x y : L} (h : x.length + y.length ≤ bound) : binV .add (.str x) (.str y) = some (.str (x ++ y)) := if_pos h
theorem aug_add (a b : Int) : augV .add (.int a) (.int b) = some (.int (a + b)) := rfl
theorem aug_sub (a b : Int) : augV .sub (.int a) (.int b) = some (.int (a - b)) := rfl
theorem get_c (s : SF) : getF .cursor s.f = some (.int s.c) := rfl
theorem get_l (s : SF) : getF .limit s.f = some (.int s.l) := rfl

section
variable {d : Nat} {g : Gl} {b : Bool} {s : SF} {Q : V → Gl → Prop}
def SF.w (s : SF) : L := (s.cur.take s.c).drop s.lb

theorem c_RV (hQ : Q (.bool (decide (s.pv ≤ s.c))) (at' g b s)) : callN globV clsV ftab (d + 1) 8 [.stem b] Q (at' g b s) := by
  refine ⟨fd8, rfl, rfl, ?_⟩
  show awpSs globV clsV (callN globV clsV ftab d) m8 _ ⟨[some (.stem b)], at' g b s⟩
  simp only [m8, awpSs, awpS, awpE, List.getElem?_cons_zero, Option.join_some, Option.some.injEq, exists_eq_left', g_pv, g_c, cmp_le]
  rw [show (decide ((s.pv : Int) ≤ s.c)) = decide (s.pv ≤ s.c) from by simp]
  exact hQ
theorem c_R2 (hQ : Q (.bool (decide (s.p2 ≤ s.c))) (at' g b s)) : callN globV clsV ftab (d + 1) 9 [.stem b] Q (at' g b s) := by
  refine ⟨fd9, rfl, rfl, ?_⟩
  show awpSs globV clsV (callN globV clsV ftab d) m9 _ ⟨[some (.stem b)], at' g b s⟩
  simp only [m9, awpSs, awpS, awpE, List.getElem?_cons_zero, Option.join_some, Option.some.injEq, exists_eq_left', g_p2, g_c, cmp_le]
  rw [show (decide ((s.p2 : Int) ≤ s.c)) = decide (s.p2 ≤ s.c) from by simp]
  exact hQ
theorem c_eq {x : L} (hx : x.length ≤ bound) (hb : s.cur.length ≤ bound) (h1 : s.lb ≤ s.c) (h2 : s.c ≤ s.cur.length) (hY : x <:+ s.w → Q (.bool true) (at' g b { s with c := s.c - x.length })) (hN : ¬ x <:+ s.w → Q (.bool false) (at' g b s)) :
    callN globV clsV ftab (d + 1) 3 [.stem b, .str x] Q (at' g b s) := by
  refine ⟨fd3, rfl, rfl, ?_⟩
  show awpSs globV clsV (callN globV clsV ftab d) m3 _ ⟨[some (.stem b), some (.str x)], at' g b s⟩
  simp only [m3, awpSs, awpS, awpE, awpT, List.getElem?_cons_zero, List.getElem?_cons_succ, Option.join_some, Option.some.injEq, exists_eq_left', g_cur, g_lb, g_c, V.int.injEq, sl_both hb, V.str.injEq, truth_b, len_s hx]
  refine ⟨s.lb, s.c, _, rfl, rfl, sl_both hb _ _, _, rfl, ?_⟩
  by_cases h : x <:+ s.w
  · have hle : x.length ≤ s.c := by
      have := h.length_le
      unfold SF.w at this
      rw [List.length_drop, List.length_take] at this; omega
    rw [decide_eq_true (show x <:+ (s.cur.take s.c).drop s.lb from h)]
    refine ⟨b, s.f, .int s.c, rfl, at_st _ _ _, rfl, s.f, .int ((s.c - x.length : Nat) : Int), at_st _ _ _, f_len _, ?_, ?_⟩
    · rw [aug_sub]; congr 2; omega
    · rw [s_c]; exact hY h
  · rw [decide_eq_false (show ¬ x <:+ (s.cur.take s.c).drop s.lb from h)]
    exact hN h
end
end Mine

-- MStem2
namespace Mine
set_option maxRecDepth 100000
set_option maxHeartbeats 1000000
set_option linter.unusedVariables false

theorem get_same (a : At) (v : V) : ∀ f : Fields, getF a (setF a v f) = some v
  | [] => by simp [setF, getF]
  | (b', w') :: r => by
    by_cases h : b' = a
    · simp [setF, getF, h]
    · simp [setF, getF, h, get_same a v r]
theorem get_ne {a a' : At} (h : a ≠ a') (v : V) : ∀ f : Fields, getF a (setF a' v f) = getF a f
  | [] => by simp [setF, getF, Ne.symm h]
  | (b', w') :: r => by
    by_cases h2 : b' = a'
    · subst h2; simp [setF, getF, Ne.symm h]
    · by_cases h3 : b' = a
      · subst h3; simp [setF, getF, h]
      · simp [setF, getF, h2, h3, get_ne h v r]
theorem set_len (a : At) (v : V) : ∀ f : Fields, (setF a v f).length ≤ f.length + 1
  | [] => Nat.le_refl _
  | (b', w') :: r => by
    unfold setF
    split
    · exact Nat.le_succ _
    · exact Nat.succ_le_succ (set_len a v r)
theorem attr_at {g : Gl} {b : Bool} {f : Fields} {a : At} {v : V} (h : getF a f = some v) : attrV (g.setSt b f) (.stem b) a = some v := by rw [attr_stem, st_set]; exact h
section
variable {d : Nat} {g : Gl} {b : Bool} {s : SF} {Q : V → Gl → Prop}
def SF.rep (s : SF) (x : L) : SF := { s with cur := s.cur.take s.bra ++ x ++ s.cur.drop s.ket, l := s.l + x.length - (s.ket - s.bra) }
def SF.cut (s : SF) (x : L) : SF := { s with cur := s.cur.take s.bra ++ x ++ s.cur.drop s.ket, l := s.l + x.length - (s.ket - s.bra), ket := s.bra + x.length }

theorem c_rep {x : L} (h1 : s.c ≤ s.bra) (h2 : s.bra < s.ket) (h3 : s.ket ≤ s.cur.length) (h4 : s.ket ≤ s.l) (hb : s.cur.length + x.length ≤ bound) (hQ : ∀ v, Q v (at' g b (s.rep x))) :
    callN globV clsV ftab (d + 1) 5 [.stem b, .int s.bra, .int s.ket, .str x] Q (at' g b s) := by
  refine ⟨fd5, rfl, rfl, ?_⟩
  show awpSs globV clsV (callN globV clsV ftab d) m5 _ ⟨[some (.stem b), some (.int s.bra), some (.int s.ket), some (.str x), none], at' g b s⟩
  have hx : x.length ≤ bound := by omega
  have hc : s.cur.length ≤ bound := by omega
  have l1 : ((s.cur.take s.bra).drop 0).length = s.bra := by rw [List.drop_zero, List.length_take]; omega
  have l2 : (s.cur.drop s.ket).length = s.cur.length - s.ket := List.length_drop
  have k1 : binV .add (.str ((s.cur.take s.bra).drop 0)) (.str x) = some (.str ((s.cur.take s.bra).drop 0 ++ x)) := cat_s (by rw [l1]; omega)
  have k2 : binV .add (.str ((s.cur.take s.bra).drop 0 ++ x)) (.str (s.cur.drop s.ket)) = some (.str ((s.cur.take s.bra).drop 0 ++ x ++ s.cur.drop s.ket)) := cat_s (by rw [List.length_append, l1, l2]; omega)
  simp only [m5, awpSs, awpS, awpE, awpT, List.set_cons_succ, List.set_cons_zero, List.getElem?_cons_zero, List.getElem?_cons_succ, Option.join_some, Option.some.injEq, exists_eq_left', g_cur, len_s hx, bin_sub]
  refine ⟨0, s.bra, _, rfl, rfl, sl_both hc 0 _, _, k1, s.ket, _, rfl, sl_lo hc _, _, k2, b, s.f, rfl, at_st _ _ _, f_len _, ?_⟩
  rw [s_cur]
  refine ⟨b, _, .int s.l, rfl, at_st _ _ _, rfl, _, .int ((s.l + x.length - (s.ket - s.bra) : Nat) : Int), at_st _ _ _, f_len _, ?_, ?_⟩
  · show some (V.int ((s.l : Int) + ((x.length : Int) - ((s.ket : Int) - (s.bra : Int))))) = _
    congr 2; omega
  · rw [s_l]
    simp only [g_c, Option.some.injEq, exists_eq_left', cmp_ge, cmp_gt]
    rw [decide_eq_false (show ¬ (s.c : Int) ≥ (s.ket : Int) by omega)]
    dsimp only
    rw [decide_eq_false (show ¬ (s.c : Int) > (s.bra : Int) by omega)]
    exact hQ _

theorem c_from {x : L} (h1 : s.c ≤ s.bra) (h2 : s.bra < s.ket) (h3 : s.ket ≤ s.l) (h4 : s.l = s.cur.length) (hb : s.cur.length + x.length ≤ bound) (hQ : ∀ v, Q v (at' g b (s.cut x))) :
    callN globV clsV ftab (d + 2) 6 [.stem b, .str x] Q (at' g b s) := by
  refine ⟨fd6, rfl, rfl, ?_⟩
  show awpSs globV clsV (callN globV clsV ftab (d + 1)) m6 _ ⟨[some (.stem b), some (.str x)], at' g b s⟩
  have hx : x.length ≤ bound := by omega
  have hc : s.cur.length ≤ bound := by omega
  simp only [m6, awpSs, awpS, awpE, awpEs, awpT, List.set_cons_succ, List.set_cons_zero, List.getElem?_cons_zero, List.getElem?_cons_succ, Option.join_some, Option.some.injEq, exists_eq_left', g_cur, g_bra, g_ket, g_l, len_s hx, len_s hc, bin_sub, bin_add, cmp_ge, cmp_le, decide_eq_true_eq]
  refine ⟨by omega, by omega, by omega, by omega, b, rfl, by rw [at_st]; rfl, c_rep h1 h2 (by omega) (by omega) hb fun v => ?_⟩
  have g1 : attrV (at' g b (s.rep x)) (.stem b) .bra = some (.int s.bra) := g_bra _ _ _
  simp only [g1, Option.some.injEq, exists_eq_left', bin_add]
  refine ⟨b, _, rfl, at_st _ _ _, f_len _, ?_⟩
  rw [show ((s.bra : Int) + (x.length : Int)) = ((s.bra + x.length : Nat) : Int) from by omega, s_ket]
  exact hQ _
theorem c_del (h1 : s.c ≤ s.bra) (h2 : s.bra < s.ket) (h3 : s.ket ≤ s.l) (h4 : s.l = s.cur.length) (hb : s.cur.length ≤ bound) (hQ : ∀ v, Q v (at' g b (s.cut []))) :
    callN globV clsV ftab (d + 3) 7 [.stem b] Q (at' g b s) := by
  refine ⟨fd7, rfl, rfl, ?_⟩
  show awpSs globV clsV (callN globV clsV ftab (d + 2)) m7 _ ⟨[some (.stem b)], at' g b s⟩
  simp only [m7, awpSs, awpS, awpE, awpEs, List.getElem?_cons_zero, Option.join_some, Option.some.injEq, exists_eq_left']
  exact ⟨b, rfl, by rw [at_st]; rfl, c_from h1 h2 h3 h4 (by simpa using hb) fun v => hQ v⟩

/-- set_current -/
theorem c_cur {g : Gl} {b : Bool} {f : Fields} {x : L} (hf : g.st b = some f) (hfl : f.length ≤ 90) (hx : x.length ≤ bound)
    (hQ : Q .none (g.setSt b (setF .ket (.int x.length) (setF .bra (.int 0) (setF .lb (.int 0) (setF .limit (.int x.length) (setF .cursor (.int 0) (setF .current (.str x) f)))))))) :
    callN globV clsV ftab (d + 1) 1 [.stem b, .str x] Q g := by
  refine ⟨fd1, rfl, rfl, ?_⟩
  show awpSs globV clsV (callN globV clsV ftab d) m1 _ ⟨[some (.stem b), some (.str x)], g⟩
  simp only [m1, awpSs, awpS, awpE, List.getElem?_cons_zero, List.getElem?_cons_succ, Option.join_some, Option.some.injEq, exists_eq_left']
  have n1 := set_len .current (.str x) f
  have n2 := set_len .cursor (.int 0) (setF .current (.str x) f)
  have n3 := set_len .limit (.int x.length) (setF .cursor (.int 0) (setF .current (.str x) f))
  have n4 := set_len .lb (.int 0) (setF .limit (.int x.length) (setF .cursor (.int 0) (setF .current (.str x) f)))
  have n5 := set_len .bra (.int 0) (setF .lb (.int 0) (setF .limit (.int x.length) (setF .cursor (.int 0) (setF .current (.str x) f))))
  refine ⟨b, f, rfl, hf, by omega, b, _, rfl, st_set _ _ _, by omega, ?_⟩
  rw [set_set]
  refine ⟨.str x, attr_at (by rw [get_ne (by decide), get_same]), _, len_s hx, b, _, rfl, st_set _ _ _, by omega, b, _, rfl, st_set _ _ _, ?_, ?_⟩
  · omega
  rw [set_set, set_set]
  refine ⟨.int 0, attr_at (by rw [get_ne (by decide), get_ne (by decide), get_same]), b, _, rfl, st_set _ _ _, by omega, ?_⟩
  rw [set_set]
  refine ⟨.int x.length, attr_at (by rw [get_ne (by decide), get_ne (by decide), get_same]), b, _, rfl, st_set _ _ _, by omega, ?_⟩
  rw [set_set]
  exact hQ
/-- get_current -/
theorem c_get (hQ : Q (.str s.cur) (at' g b s)) : callN globV clsV ftab (d + 1) 2 [.stem b] Q (at' g b s) := by
  refine ⟨fd2, rfl, rfl, ?_⟩
  show awpSs globV clsV (callN globV clsV ftab d) m2 _ ⟨[some (.stem b)], at' g b s⟩
  simp only [m2, awpSs, awpS, awpE, List.getElem?_cons_zero, Option.join_some, Option.some.injEq, exists_eq_left', g_cur]
  exact hQ
end
end Mine

-- MLong
namespace Mine
set_option maxRecDepth 100000
set_option maxHeartbeats 1000000
set_option linter.unusedVariables false

def rowV (r : List L) : V := .list (r.map .str)
def rowsV (rs : List (List L)) : V := .list (rs.map rowV)
def b23in : MSs := (.cons (.ite (.and (.cons (.cmp .gt (.len (.loc 7)) (.len (.loc 4))) (.cons (.val (.ends (.loc 3) (.loc 7))) .nil))) (.cons (.assign 4 (.loc 7))
  (.cons (.assign 5 (.loc 6))
  .nil)) .nil)
  .nil)
def b23 : MSs := (.cons (.forL 7 (.idx (.loc 2) (.loc 6)) b23in) .nil)
theorem m23_eq : m23 = (.cons (.assign 3 (.slLo (.loc 0) (.loc 1)))
  (.cons (.assign 4 (.str []))
  (.cons (.assign 5 (.neg (.int 1)))
  (.cons (.for1 6 (.len (.loc 2)) b23)
  (.cons (.ret (.lst (.cons (.loc 4) (.cons (.loc 5) .nil))))
  .nil))))) := rfl
def Best (rs : List (List L)) (part : L) (done : List L) (e : L) (p : Int) : Prop :=
  (e = [] ∧ p = -1 ∧ ∀ x ∈ done, x <:+ part → x = []) ∨ (e ≠ [] ∧ e <:+ part ∧ (∃ (k : Nat) (r : List L), p = (k : Int) ∧ rs[k]? = some r ∧ e ∈ r) ∧ ∀ x ∈ done, x <:+ part → x.length ≤ e.length)
theorem best_step {rs : List (List L)} {part : L} {done : List L} {e : L} {p : Int} (B : Best rs part done e p) (x : L) (k : Nat) {r : List L} (hr : rs[k]? = some r) (hx : x ∈ r) :
    (x.length > e.length ∧ x <:+ part → Best rs part (done ++ [x]) x k) ∧ (¬ (x.length > e.length ∧ x <:+ part) → Best rs part (done ++ [x]) e p) := by
  refine ⟨fun ⟨h1, h2⟩ => .inr ⟨?_, h2, ⟨k, r, rfl, hr, hx⟩, fun y hy hs => ?_⟩, fun h => ?_⟩
  · rintro rfl; simp at h1
  · rcases List.mem_append.mp hy with hy | hy
    · rcases B with ⟨rfl, _, hb⟩ | ⟨_, _, _, hb⟩
      · rw [hb y hy hs]; simp
      · have := hb y hy hs; omega
    · rw [List.mem_singleton.mp hy]; exact Nat.le_refl _
  · rcases B with ⟨rfl, rfl, hb⟩ | ⟨b1, b2, b3, hb⟩
    · refine .inl ⟨rfl, rfl, fun y hy hs => ?_⟩
      rcases List.mem_append.mp hy with hy | hy
      · exact hb y hy hs
      · have := List.mem_singleton.mp hy
        subst this
        by_cases hl : y.length > ([] : L).length
        · exact absurd ⟨hl, hs⟩ h
        · exact List.length_eq_zero_iff.mp (Nat.le_zero.mp (Nat.not_lt.mp hl))
    · refine .inr ⟨b1, b2, b3, fun y hy hs => ?_⟩
      rcases List.mem_append.mp hy with hy | hy
      · exact hb y hy hs
      · have := List.mem_singleton.mp hy
        subst this
        by_cases hl : y.length > e.length
        · exact absurd ⟨hl, hs⟩ h
        · omega

section
variable {C : CT} {g : Gl} {text : L} {front : Nat} {rs : List (List L)} {Q : KS}
def l23 (text : L) (front : Nat) (rs : List (List L)) (best : L) (place : Int) (k en : Option V) : List (Option V) := [some (.str text), some (.int front), some (rowsV rs), some (.str (text.drop front)), some (.str best), some (.int place), k, en]

theorem b23in_step {K : KS} {best x : L} {place : Int} {k : Nat} (hb : best.length ≤ bound) (hx : x.length ≤ bound)
    (kY : x.length > best.length ∧ x <:+ text.drop front → K .next ⟨l23 text front rs x k (some (.int k)) (some (.str x)), g⟩) (kN : ¬ (x.length > best.length ∧ x <:+ text.drop front) → K .next ⟨l23 text front rs best place (some (.int k)) (some (.str x)), g⟩) :
    awpSs globV clsV C b23in K ⟨l23 text front rs best place (some (.int k)) (some (.str x)), g⟩ := by
  simp only [b23in, l23, awpSs, awpS, awpT, awpAnd, awpE, List.set_cons_succ, List.set_cons_zero, List.getElem?_cons_succ, List.getElem?_cons_zero, Option.join_some, Option.some.injEq, exists_eq_left', len_s hb, len_s hx, cmp_gt, V.str.injEq, truth_b]
  by_cases h1 : x.length > best.length
  · rw [decide_eq_true (show (x.length : Int) > best.length by omega)]
    by_cases h2 : x <:+ text.drop front
    · dsimp only
      rw [decide_eq_true h2]
      exact kY ⟨h1, h2⟩
    · dsimp only
      rw [decide_eq_false h2]
      exact kN fun h => h2 h.2
  · rw [decide_eq_false (show ¬ (x.length : Int) > best.length by omega)]
    exact kN fun h => h1 h.1

theorem b23_inner {k : Nat} {r : List L} (hr : rs[k]? = some r) (hsm : ∀ x ∈ r, x.length ≤ 30) (hpart : True) : ∀ (xs done : List L) (best : L) (place : Int) (en : Option V), (∀ x ∈ xs, x ∈ r) → best.length ≤ 30 → Best rs (text.drop front) done best place →
    (∀ best' place' en', best'.length ≤ 30 → Best rs (text.drop front) (done ++ xs) best' place' → Q .next ⟨l23 text front rs best' place' (some (.int k)) en', g⟩) →
    forN (awpSs globV clsV C b23in) 7 Q (xs.map .str) ⟨l23 text front rs best place (some (.int k)) en, g⟩
  | [], done, best, place, en, _, hb, B, hQ => by
    rw [List.append_nil] at hQ
    exact hQ _ _ _ hb B
  | x :: xs, done, best, place, en, hm, hb, B, hQ => by
    have hxr := hm x (.head _)
    have hxs := hsm x hxr
    obtain ⟨s1, s2⟩ := best_step B x k hr hxr
    rw [List.map_cons]
    unfold forN
    refine b23in_step (by unfold bound; omega) (by unfold bound; omega) (fun h => ?_) (fun h => ?_)
    · exact b23_inner hr hsm hpart xs (done ++ [x]) x k _ (fun y hy => hm y (.tail _ hy)) hxs (s1 h) (by rw [List.append_assoc]; exact hQ)
    · exact b23_inner hr hsm hpart xs (done ++ [x]) best place _ (fun y hy => hm y (.tail _ hy)) hb (s2 h) (by rw [List.append_assoc]; exact hQ)

theorem rows_get {k : Nat} {r : List L} (hr : rs[k]? = some r) (hb : rs.length ≤ bound) : idxV g (rowsV rs) (.int k) = some (rowV r) := by
  have hk := (List.getElem?_eq_some_iff.mp hr).1
  simp only [idxV, rowsV]
  rw [if_pos ⟨by omega, by omega⟩, Int.toNat_natCast, List.getElem?_map, hr]
  rfl

theorem b23_outer (hsm : ∀ r ∈ rs, ∀ x ∈ r, x.length ≤ 30) (hb : rs.length ≤ bound) : ∀ (n k : Nat) (best : L) (place : Int) (kk en : Option V), k + n = rs.length → best.length ≤ 30 → Best rs (text.drop front) (rs.take k).flatten best place →
    (∀ best' place' kk' en', best'.length ≤ 30 → Best rs (text.drop front) rs.flatten best' place' → Q .next ⟨l23 text front rs best' place' kk' en', g⟩) →
    forN (awpSs globV clsV C b23) 6 Q (rangeUp k n) ⟨l23 text front rs best place kk en, g⟩
  | 0, k, best, place, kk, en, hk, hbl, B, hQ => by
    unfold rangeUp forN
    rw [List.take_of_length_le (by omega)] at B
    exact hQ _ _ _ _ hbl B
  | n + 1, k, best, place, kk, en, hk, hbl, B, hQ => by
    obtain ⟨r, hr⟩ : ∃ r, rs[k]? = some r := ⟨_, List.getElem?_eq_getElem (by omega)⟩
    have hrm := List.mem_of_getElem? hr
    unfold rangeUp forN
    have hget := rows_get (g := g) hr hb
    generalize hK : (fun (o : Out) (σ : St) => (match o with | .next => forN (awpSs globV clsV C b23) 6 Q (rangeUp ((k : Int) + 1) n) σ | .brk => Q .next σ | .ret v => Q (.ret v) σ | .exc => False : Prop)) = K
    have hKn : ∀ best' place' en', best'.length ≤ 30 → Best rs (text.drop front) ((rs.take k).flatten ++ r) best' place' → K .next ⟨l23 text front rs best' place' (some (.int k)) en', g⟩ := by
      intro best' place' en' h1 h2
      rw [← hK]
      have e1 : (rs.take (k + 1)).flatten = (rs.take k).flatten ++ r := by
        rw [List.take_add_one, hr]
        simp
      have := b23_outer hsm hb n (k + 1) best' place' (some (.int k)) en' (by omega) h1 (by rw [e1]; exact h2) hQ
      exact this
    generalize hB : b23in = B0 at *
    simp only [b23, l23, hB, awpSs, awpS, awpE, List.set_cons_succ, List.set_cons_zero, List.getElem?_cons_succ, List.getElem?_cons_zero, Option.join_some, Option.some.injEq, exists_eq_left', hget]
    refine ⟨_, rfl, ?_⟩
    subst hB
    exact b23_inner hr (hsm r hrm) trivial r (rs.take k).flatten best place en (fun x hx => hx) hbl B (fun best' place' en' q1 q2 => hKn best' place' en' q1 q2)

theorem c_longest {d : Nat} {Q : V → Gl → Prop} (ht : text.length ≤ bound) (hsm : ∀ r ∈ rs, ∀ x ∈ r, x.length ≤ 30) (hb : rs.length ≤ 100) (hQ : ∀ e p, Best rs (text.drop front) rs.flatten e p → Q (.list [.str e, .int p]) g) :
    callN globV clsV ftab (d + 1) 23 [.str text, .int front, rowsV rs] Q g := by
  refine ⟨fd23, rfl, rfl, ?_⟩
  show awpSs globV clsV (callN globV clsV ftab d) m23 _ ⟨[some (.str text), some (.int front), some (rowsV rs), none, none, none, none, none], g⟩
  rw [m23_eq]
  have hlen : lenV (rowsV rs) = some (.int rs.length) := by
    show (if (rs.map _).length ≤ bound then _ else _) = _
    rw [List.length_map, if_pos (by unfold bound; omega)]
  generalize hB : b23 = B0
  simp only [awpSs, awpS, awpE, awpEs, List.set_cons_succ, List.set_cons_zero, List.getElem?_cons_succ, List.getElem?_cons_zero, Option.join_some, Option.some.injEq, exists_eq_left', V.int.injEq, hlen]
  refine ⟨front, _, rfl, sl_lo ht front, rs.length, rfl, by unfold bound; omega, ?_⟩
  subst hB
  refine b23_outer (kk := none) (en := none) hsm (by unfold bound; omega) rs.length 0 [] (-1) (by omega) (by simp) (.inl ⟨rfl, rfl, fun x hx => by simp at hx⟩) fun best place kk en h1 h2 => ?_
  simp only [l23, List.getElem?_cons_succ, List.getElem?_cons_zero, Option.join_some, Option.some.injEq, exists_eq_left']
  exact ⟨by show 2 ≤ bound; unfold bound; omega, hQ _ _ h2⟩
end
end Mine

-- MTape
namespace Mine
set_option maxRecDepth 100000
set_option maxHeartbeats 1000000
set_option linter.unusedVariables false

def TapeOK (g : Gl) : Prop := ∃ (n m : Int) (ns : List Int), g.tape = some [.int n, .list (ns.map .int), .int m] ∧ 0 ≤ n ∧ ns.length ≤ 100 ∧ 0 ≤ m ∧ m < 1099511627776
structure TS (g g' : Gl) : Prop where
  ok : TapeOK g'
  e0 : g'.s0 = g.s0
  e1 : g'.s1 = g.s1
theorem TS.trans {a b c : Gl} (x : TS a b) (y : TS b c) : TS a c := ⟨y.ok, y.e0.trans x.e0, y.e1.trans x.e1⟩

theorem idx_tape {g : Gl} {xs : List V} {i : Int} (k : Nat) (hi : i = (k : Int)) (hk : k ≤ bound) (h : g.tape = some xs) {v : V} (hv : xs[k]? = some v) : idxV g .tape (.int i) = some v := by
  subst hi
  simp only [idxV]
  rw [if_pos ⟨by omega, by omega⟩, h, Int.toNat_natCast]
  exact hv
theorem mod_i (a : Int) {b : Int} (h : b ≠ 0) : binV .mod (.int a) (.int b) = some (.int (a.fmod b)) := if_neg h
theorem fdiv_i (a : Int) : 0 ≤ a → a < 4000000000000000000 → binV .fdiv (.int a) (.int 31) = some (.int (a.fdiv 31)) := fun h1 h2 => by
  show (if _ then _ else _) = _
  rw [if_neg]
  rintro (h | h)
  · cases h
  · apply h; omega
theorem mul_i (a b : Int) (h1 : 0 ≤ a) (h2 : a < 4000000000000000000) (h3 : 0 ≤ b) (h4 : b < 4000000000000000000) : binV .mul (.int a) (.int b) = some (.int (a * b)) := by
  show (if _ then _ else _) = _
  rw [if_pos]
  omega
theorem fmod_nat (a : Int) {m : Nat} (h : 0 < m) : ∃ r : Nat, a.fmod m = (r : Int) ∧ r < m := by
  have h1 := Int.fmod_nonneg_of_pos a (show (0 : Int) < m by omega)
  have h2 := Int.fmod_lt_of_pos a (show (0 : Int) < m by omega)
  exact ⟨(a.fmod m).toNat, by omega, by omega⟩

section
variable {d : Nat} {g : Gl} {Q : V → Gl → Prop}
theorem c_next {many : Nat} (T : TapeOK g) (h0 : 0 < many) (hQ : ∀ (r : Nat) g', r < many → TS g g' → Q (.int r) g') : callN globV clsV ftab (d + 1) 16 [.tape, .int many] Q g := by
  obtain ⟨n, m, ns, ht, hn, hl, hm0, hm1⟩ := T
  refine ⟨fd16, rfl, rfl, ?_⟩
  show awpSs globV clsV (callN globV clsV ftab d) m16 _ ⟨[some .tape, some (.int many)], g⟩
  have i0 := idx_tape (i := 0) 0 rfl (by unfold bound; omega) ht (v := .int n) rfl
  simp only [m16, awpSs, awpS, awpT, awpE, List.getElem?_cons_succ, List.getElem?_cons_zero, Option.join_some, Option.some.injEq, exists_eq_left', i0, bin_add]
  refine ⟨0, _, trivial, rfl, ht, by omega, by unfold bound; omega, show 0 < 3 by decide, ?_⟩
  have ht2 : ({ g with tape := some (List.set [V.int n, .list (ns.map .int), .int m] (Int.toNat 0) (V.int (n + 1))) } : Gl).tape = some [V.int (n + 1), .list (ns.map .int), .int m] := rfl
  generalize hg2 : ({ g with tape := some (List.set [V.int n, .list (ns.map .int), .int m] (Int.toNat 0) (V.int (n + 1))) } : Gl) = g2 at ht2
  have hs0 : g2.s0 = g.s0 := by rw [← hg2]
  have hs1 : g2.s1 = g.s1 := by rw [← hg2]
  have j0 := idx_tape (i := 0) 0 rfl (by unfold bound; omega) ht2 (v := .int (n + 1)) rfl
  have j1 := idx_tape (i := 1) 1 rfl (by unfold bound; omega) ht2 (v := .list (ns.map .int)) rfl
  have j2 := idx_tape (i := 2) 2 rfl (by unfold bound; omega) ht2 (v := .int m) rfl
  have jl : lenV (.list (ns.map .int)) = some (.int ns.length) := by
    show (if (ns.map V.int).length ≤ bound then _ else _) = _
    rw [if_pos (by rw [List.length_map]; unfold bound; omega), List.length_map]
  simp only [j0, j1, j2, jl, cmp_le, Option.some.injEq, exists_eq_left', bin_sub]
  by_cases hle : n + 1 ≤ (ns.length : Int)
  · rw [decide_eq_true hle]
    obtain ⟨v, hv⟩ : ∃ v, ns[n.toNat]? = some v := ⟨_, List.getElem?_eq_getElem (by omega)⟩
    obtain ⟨r, hr, hlt⟩ := fmod_nat v h0
    refine ⟨.int v, ?_, .int r, by rw [mod_i _ (by omega), hr], hQ r g2 hlt ⟨⟨n + 1, m, ns, ht2, by omega, hl, hm0, hm1⟩, hs0, hs1⟩⟩
    simp only [idxV]
    rw [if_pos ⟨by omega, by unfold bound; omega⟩, show (n + 1 - 1).toNat = n.toNat from by omega, List.getElem?_map, hv]
    rfl
  · rw [decide_eq_false hle]
    have hm2 : (m * 48271).fmod 2147483647 < 2147483647 := Int.fmod_lt_of_pos _ (by decide)
    have hm3 : 0 ≤ (m * 48271).fmod 2147483647 := Int.fmod_nonneg_of_pos _ (by decide)
    refine ⟨_, mul_i m 48271 hm0 (by omega) (by decide) (by decide), _, mod_i _ (by decide), ?_⟩
    obtain ⟨r, hr, hlt⟩ := fmod_nat (((m * 48271).fmod 2147483647).fdiv 31) h0
    exact ⟨2, _, trivial, rfl, rfl, by decide, by unfold bound; omega, show 2 < 3 by decide, _, idx_tape (i := 2) 2 rfl (by unfold bound; omega) rfl (v := .int ((m * 48271).fmod 2147483647)) rfl, _, fdiv_i _ hm3 (by omega), .int r, by rw [mod_i _ (by omega), hr],
      hQ r _ hlt ⟨⟨n + 1, _, ns, rfl, by omega, hl, hm3, by omega⟩, rfl, rfl⟩⟩

theorem c_place {near : Nat} (T : TapeOK g) (hQ : ∀ (r : Nat) g', r ≤ near + 2 → TS g g' → Q (.int r) g') : callN globV clsV ftab (d + 2) 17 [.tape, .int near] Q g := by
  refine ⟨fd17, rfl, rfl, ?_⟩
  show awpSs globV clsV (callN globV clsV ftab (d + 1)) m17 _ ⟨[some .tape, some (.int near)], g⟩
  simp only [m17, awpSs, awpS, awpE, awpEs, List.getElem?_cons_succ, List.getElem?_cons_zero, Option.join_some, Option.some.injEq, exists_eq_left']
  refine c_next (many := 9) T (by decide) fun r g' hr hts => ?_
  refine ⟨.int ((near : Int) + r), rfl, .int ((near : Int) + r - 6), rfl, 0, _, rfl, rfl, ?_⟩
  have e : max 0 ((near : Int) + r - 6) = ((near + r - 6 : Nat) : Int) := by omega
  rw [e]
  exact hQ _ g' (by omega) hts
end
end Mine

-- MCase
namespace Mine
set_option maxRecDepth 100000
set_option maxHeartbeats 1000000
set_option linter.unusedVariables false

def isStr30 : V → Bool
  | .str s => Nat.ble s.length 30
  | _ => false
def strOk (n : Nat) : V → Bool
  | .list xs => Nat.ble n xs.length && xs.all isStr30
  | _ => false
def rowOk : V → Bool
  | .list xs => Nat.blt 0 xs.length && Nat.ble xs.length 1000 && xs.all isStr30
  | _ => false
def rowsOk (n : Nat) : V → Bool
  | .list xs => Nat.ble n xs.length && xs.all rowOk
  | _ => false
theorem str_of {n : Nat} {v : V} (h : strOk n v = true) {g : Gl} {r : Nat} (hr : r < n) (hn : n ≤ 1000) : ∃ s, idxV g v (.int r) = some (.str s) ∧ s.length ≤ 30 := by
  cases v <;> simp only [strOk, Bool.false_eq_true, Bool.and_eq_true, List.all_eq_true] at h
  rename_i xs
  have hl := Nat.le_of_ble_eq_true h.1
  obtain ⟨x, hx⟩ : ∃ x, xs[r]? = some x := ⟨_, List.getElem?_eq_getElem (by omega)⟩
  have := h.2 x (List.mem_of_getElem? hx)
  cases x <;> simp only [isStr30, Bool.false_eq_true] at this
  rename_i s
  refine ⟨s, ?_, Nat.le_of_ble_eq_true this⟩
  simp only [idxV]
  rw [if_pos ⟨by omega, by unfold bound; omega⟩, Int.toNat_natCast]
  exact hx
theorem row_of {n : Nat} {v : V} (h : rowsOk n v = true) {g : Gl} {r : Nat} (hr : r < n) (hn : n ≤ 1000) : ∃ row m, idxV g v (.int r) = some row ∧ lenV row = some (.int (m : Nat)) ∧ 0 < m ∧ m ≤ 1000 ∧ strOk m row = true := by
  cases v <;> simp only [rowsOk, Bool.false_eq_true, Bool.and_eq_true, List.all_eq_true] at h
  rename_i xs
  have hl := Nat.le_of_ble_eq_true h.1
  obtain ⟨x, hx⟩ : ∃ x, xs[r]? = some x := ⟨_, List.getElem?_eq_getElem (by omega)⟩
  have := h.2 x (List.mem_of_getElem? hx)
  cases x <;> simp only [rowOk, Bool.false_eq_true] at this
  rename_i ys
  simp only [Bool.and_eq_true] at this
  obtain ⟨⟨t1, t2⟩, t3⟩ := this
  refine ⟨.list ys, ys.length, ?_, ?_, blt_lt t1, Nat.le_of_ble_eq_true t2, ?_⟩
  · simp only [idxV]
    rw [if_pos ⟨by omega, by unfold bound; omega⟩, Int.toNat_natCast]
    exact hx
  · have := Nat.le_of_ble_eq_true t2
    show (if _ then _ else _) = _
    rw [if_pos (by unfold bound; omega)]
  · simp only [strOk, t3, Bool.and_true]
    exact Nat.ble_eq_true_of_le (Nat.le_refl _)

def verbV : V := .list [.str [105, 233, 110, 100, 111], .str [225, 110, 100, 111], .str [225, 114], .str [233, 114], .str [237, 114], .str [97, 110, 100, 111], .str [105, 101, 110, 100, 111], .str [97, 114], .str [101, 114], .str [105, 114], .str [121, 101, 110, 100, 111]]
def resV : V := .list [.str [97], .str [111], .str [111, 115], .str [225], .str [237], .str [243], .str [101], .str [233]]
def pieV : V := .list [.str [105, 99], .str [97, 116], .str [105, 118], .str [97, 116, 105, 118], .str [97, 100], .str [111, 115], .str [97, 98, 108, 101], .str [105, 98, 108, 101], .str [97, 110, 116, 101], .str [97, 98, 105, 108], .str [117], .str [103, 117], .str [103], .str [98], .str [110], .str [97], .str [], .str [], .str []]
theorem ok_verb : strOk 11 verbV = true := by kernel_rfl
theorem ok_res : strOk 8 resV = true := by kernel_rfl
theorem ok_pie : strOk 19 pieV = true := by kernel_rfl
theorem ok_g0 : rowsOk 9 gl0 = true := by kernel_rfl
theorem ok_g1 : strOk 13 gl1 = true := by kernel_rfl
theorem ok_g2 : strOk 12 gl2 = true := by kernel_rfl
theorem ok_g3 : strOk 4 gl3 = true := by kernel_rfl
theorem ok_g4 : strOk 92 gl4 = true := by kernel_rfl
def lettersOk : V → Bool
  | .str s => s.length == 17
  | _ => false
theorem ok_g5 : lettersOk gl5 = true := by kernel_rfl

section
variable {d : Nat} {g : Gl} {Q : V → Gl → Prop}
theorem c_verb (hQ : Q verbV g) : callN globV clsV ftab (d + 1) 18 [] Q g := by
  refine ⟨fd18, rfl, rfl, ?_⟩
  show awpSs globV clsV (callN globV clsV ftab d) m18 _ ⟨[], g⟩
  simp only [m18, awpSs, awpS, awpE, awpEs]
  exact ⟨show 11 ≤ bound by unfold bound; omega, hQ⟩
theorem c_res (hQ : Q resV g) : callN globV clsV ftab (d + 1) 19 [] Q g := by
  refine ⟨fd19, rfl, rfl, ?_⟩
  show awpSs globV clsV (callN globV clsV ftab d) m19 _ ⟨[], g⟩
  simp only [m19, awpSs, awpS, awpE, awpEs]
  exact ⟨show 8 ≤ bound by unfold bound; omega, hQ⟩
theorem c_pie (hQ : Q pieV g) : callN globV clsV ftab (d + 1) 20 [] Q g := by
  refine ⟨fd20, rfl, rfl, ?_⟩
  show awpSs globV clsV (callN globV clsV ftab d) m20 _ ⟨[], g⟩
  simp only [m20, awpSs, awpS, awpE, awpEs]
  exact ⟨show 19 ≤ bound by unfold bound; omega, hQ⟩

theorem c_end {step : Nat} (T : TapeOK g) (hQ : ∀ (e : L) g', e.length ≤ 60 → TS g g' → Q (.str e) g') : callN globV clsV ftab (d + 2) 21 [.tape, .int step] Q g := by
  refine ⟨fd21, rfl, rfl, ?_⟩
  show awpSs globV clsV (callN globV clsV ftab (d + 1)) m21 _ ⟨[some .tape, some (.int step), none], g⟩
  simp only [m21, awpSs, awpS, awpE, awpEs, awpT, List.set_cons_succ, List.set_cons_zero, List.getElem?_cons_succ, List.getElem?_cons_zero, Option.join_some, Option.some.injEq, exists_eq_left', cmp_eq]
  by_cases h0 : step = 0
  · subst h0
    rw [show (((0 : Nat) : Int) == 0) = true from rfl]
    refine c_next (many := 9) T (by decide) fun r g1 hr t1 => ?_
    obtain ⟨row, m, p1, p2, p3, p4, p5⟩ := row_of ok_g0 (g := g1) hr (by decide)
    refine ⟨row, p1, _, p2, ?_⟩
    refine c_next (many := m) t1.ok p3 fun r2 g2 hr2 t2 => ?_
    obtain ⟨s, q1, q2⟩ := str_of p5 (g := g2) hr2 p4
    exact ⟨.str s, q1, hQ s g2 (by omega) (t1.trans t2)⟩
  rw [show ((step : Int) == 0) = false from beq_eq_false_iff_ne.mpr (by omega)]
  dsimp only
  by_cases h1 : step = 1
  · subst h1
    rw [show (((1 : Nat) : Int) == 1) = true from rfl]
    refine c_verb (c_next (many := 11) T (by decide) fun r g1 hr t1 => ?_)
    obtain ⟨s, q1, q2⟩ := str_of ok_verb (g := g1) hr (by decide)
    refine ⟨_, q1, c_next (many := 13) t1.ok (by decide) fun r2 g2 hr2 t2 => ?_⟩
    obtain ⟨s2, q3, q4⟩ := str_of ok_g1 (g := g2) hr2 (by decide)
    refine ⟨_, q3, _, cat_s (by unfold bound; omega), hQ _ g2 (by rw [List.length_append]; omega) (t1.trans t2)⟩
  rw [show ((step : Int) == 1) = false from beq_eq_false_iff_ne.mpr (by omega)]
  dsimp only
  by_cases h2 : step = 2
  · subst h2
    rw [show (((2 : Nat) : Int) == 2) = true from rfl]
    refine c_next (many := 12) T (by decide) fun r g1 hr t1 => ?_
    obtain ⟨s, q1, q2⟩ := str_of ok_g2 (g := g1) hr (by decide)
    exact ⟨_, q1, hQ s g1 (by omega) t1⟩
  rw [show ((step : Int) == 2) = false from beq_eq_false_iff_ne.mpr (by omega)]
  dsimp only
  by_cases h3 : step = 3
  · subst h3
    rw [show (((3 : Nat) : Int) == 3) = true from rfl]
    refine c_next (many := 2) T (by decide) fun r g1 hr t1 => ?_
    simp only [cmp_eq, Option.some.injEq, exists_eq_left']
    by_cases hr0 : r = 0
    · subst hr0
      rw [show (((0 : Nat) : Int) == 0) = true from rfl]
      refine c_next (many := 4) t1.ok (by decide) fun r2 g2 hr2 t2 => ?_
      obtain ⟨s, q1, q2⟩ := str_of ok_g3 (g := g2) hr2 (by decide)
      exact ⟨_, q1, hQ s g2 (by omega) (t1.trans t2)⟩
    · rw [show ((r : Int) == 0) = false from beq_eq_false_iff_ne.mpr (by omega)]
      refine c_next (many := 92) t1.ok (by decide) fun r2 g2 hr2 t2 => ?_
      obtain ⟨s, q1, q2⟩ := str_of ok_g4 (g := g2) hr2 (by decide)
      exact ⟨_, q1, hQ s g2 (by omega) (t1.trans t2)⟩
  rw [show ((step : Int) == 3) = false from beq_eq_false_iff_ne.mpr (by omega)]
  dsimp only
  refine c_res (c_next (many := 8) T (by decide) fun r g1 hr t1 => ?_)
  obtain ⟨s, q1, q2⟩ := str_of ok_res (g := g1) hr (by decide)
  exact ⟨_, q1, hQ s g1 (by omega) t1⟩
end
end Mine

-- MCase2
namespace Mine
set_option maxRecDepth 100000
set_option maxHeartbeats 1000000
set_option linter.unusedVariables false

theorem letter_at {g : Gl} {r : Nat} (hr : r < 17) : ∃ c, idxV g gl5 (.int r) = some (.str [c]) := by
  have h := ok_g5
  generalize gl5 = v at h ⊢
  cases v <;> simp only [lettersOk, Bool.false_eq_true, beq_iff_eq] at h
  rename_i s
  obtain ⟨c, hc⟩ : ∃ c, s[r]? = some c := ⟨_, List.getElem?_eq_getElem (by omega)⟩
  exact ⟨c, str_at r rfl hc (by unfold bound; omega)⟩
theorem glob5 : globV 5 = gl5 := rfl
def b22 : MSs := (.cons (.assign 3 (.bin .add (.loc 3) (.idx (.gl 5) (.call 16 (.cons (.loc 0) (.cons (.int 17) .nil))))))
  .nil)
def lc22 (step en head : V) (k : Option V) : List (Option V) := [some .tape, some step, some en, some head, k, none, none, none, none]

def m22C : MSs := (.cons (.ret (.lst (.cons (.loc 1) (.cons (.bin .add (.loc 3) (.loc 2)) (.cons (.idx (.lst (.cons (.str []) (.cons (.str []) (.cons (.str []) (.cons (.str []) (.cons (.str []) (.cons (.str [115]) (.cons (.str [101]) (.cons (.str [109, 101]) .nil))))))))) (.call 16 (.cons (.loc 0) (.cons (.int 8) .nil)))) (.cons (.loc 8) (.cons (.call 17 (.cons (.loc 0) (.cons (.loc 6) .nil))) (.cons (.call 17 (.cons (.loc 0) (.cons (.loc 6) .nil))) (.cons (.loc 7) .nil)))))))))
  .nil)
def m22B : MSs := (.cons (.assign 3 (.bin .add (.loc 3) (.loc 5)))
  (.cons (.assign 6 (.len (.loc 3)))
  (.cons (.assign 7 (.call 17 (.cons (.loc 0) (.cons (.loc 6) .nil))))
  (.cons (.assign 8 (.int 0))
  (.cons (.ite (.cmp .eq (.call 16 (.cons (.loc 0) (.cons (.int 3) .nil))) (.int 0)) (.cons (.assign 8 (.min3 (.call 17 (.cons (.loc 0) (.cons (.loc 6) .nil))) (.loc 7) (.len (.bin .add (.loc 3) (.loc 2)))))
  .nil) .nil)
  m22C)))))
def m22A : MSs := (.cons (.assign 3 (.str []))
  (.cons (.for1 4 (.call 16 (.cons (.loc 0) (.cons (.int 4) .nil))) b22)
  (.cons (.assign 5 (.idx (.call 20 .nil) (.call 16 (.cons (.loc 0) (.cons (.int 19) .nil)))))
  (.cons (.ite (.and (.cons (.cmp .gt (.loc 1) (.int 0)) (.cons (.cmp .eq (.call 16 (.cons (.loc 0) (.cons (.int 2) .nil))) (.int 0)) .nil))) (.cons (.assign 5 (.idx (.lst (.cons (.str [117]) (.cons (.str [103, 117]) .nil))) (.call 16 (.cons (.loc 0) (.cons (.int 2) .nil)))))
  .nil) .nil)
  m22B))))
theorem m22_eq : m22 = (.cons (.assign 1 (.idx (.lst (.cons (.int 0) (.cons (.int 0) (.cons (.int 0) (.cons (.int 0) (.cons (.int 1) (.cons (.int 2) (.cons (.int 3) (.cons (.int 4) .nil))))))))) (.call 16 (.cons (.loc 0) (.cons (.int 8) .nil)))))
  (.cons (.assign 2 (.call 21 (.cons (.loc 0) (.cons (.loc 1) .nil))))
  (.cons (.ite (.cmp .eq (.call 16 (.cons (.loc 0) (.cons (.int 8) .nil))) (.int 0)) (.cons (.assign 2 (.idx (.gl 5) (.call 16 (.cons (.loc 0) (.cons (.int 17) .nil)))))
  .nil) .nil)
  m22A))) := rfl

section
variable {d : Nat} {g : Gl}
theorem b22_loop {K : KS} {step en : V} : ∀ (n a : Nat) (g : Gl) (head : L) (k : Option V), TapeOK g → head.length + n ≤ 10 → (∀ head' k' g', head'.length ≤ 10 → TS g g' → K .next ⟨lc22 step en (.str head') k', g'⟩) →
    forN (awpSs globV clsV (callN globV clsV ftab (d + 1)) b22) 4 K (rangeUp a n) ⟨lc22 step en (.str head) k, g⟩
  | 0, a, g, head, k, T, hl, hK => by
    unfold rangeUp forN
    exact hK _ _ _ (by omega) ⟨T, rfl, rfl⟩
  | n + 1, a, g, head, k, T, hl, hK => by
    unfold rangeUp forN
    generalize hR : (fun (o : Out) (σ : St) => (match o with | .next => forN (awpSs globV clsV (callN globV clsV ftab (d + 1)) b22) 4 K (rangeUp ((a : Int) + 1) n) σ | .brk => K .next σ | .ret v => K (.ret v) σ | .exc => False : Prop)) = R
    have hRn : ∀ c g', TS g g' → R .next ⟨lc22 step en (.str (head ++ [c])) (some (.int a)), g'⟩ := by
      intro c g' t
      rw [← hR]
      exact b22_loop n (a + 1) g' (head ++ [c]) (some (.int a)) t.ok (by rw [List.length_append, List.length_singleton]; omega) fun head' k' g'' h1 h2 => hK head' k' g'' h1 (t.trans h2)
    simp only [b22, lc22, awpSs, awpS, awpE, awpEs, List.set_cons_succ, List.set_cons_zero, List.getElem?_cons_succ, List.getElem?_cons_zero, Option.join_some, Option.some.injEq, exists_eq_left', glob5]
    refine c_next (many := 17) T (by decide) fun r g1 hr t1 => ?_
    obtain ⟨c, hc⟩ := letter_at (g := g1) hr
    exact ⟨_, hc, _, cat_s (by rw [List.length_singleton]; unfold bound; omega), hRn c g1 t1⟩

def caseV (step : Nat) (text tail : L) (front p1 p2 pv : Nat) : V := .list [.int step, .str text, .str tail, .int front, .int p1, .int p2, .int pv]
def stepsV : V := .list [.int 0, .int 0, .int 0, .int 0, .int 1, .int 2, .int 3, .int 4]
def tailsV : V := .list [.str [], .str [], .str [], .str [], .str [], .str [115], .str [101], .str [109, 101]]
def ugV : V := .list [.str [117], .str [103, 117]]
theorem ok_tails : strOk 8 tailsV = true := by kernel_rfl
theorem ok_ug : strOk 2 ugV = true := by kernel_rfl
theorem steps_at {g : Gl} {r : Nat} (hr : r < 8) : ∃ s : Nat, idxV g stepsV (.int r) = some (.int s) ∧ s < 5 := by
  have : r = 0 ∨ r = 1 ∨ r = 2 ∨ r = 3 ∨ r = 4 ∨ r = 5 ∨ r = 6 ∨ r = 7 := by omega
  rcases this with h | h | h | h | h | h | h | h <;> subst h
  · exact ⟨0, by simp [idxV, stepsV, bound], by decide⟩
  · exact ⟨0, by simp [idxV, stepsV, bound], by decide⟩
  · exact ⟨0, by simp [idxV, stepsV, bound], by decide⟩
  · exact ⟨0, by simp [idxV, stepsV, bound], by decide⟩
  · exact ⟨1, by simp [idxV, stepsV, bound], by decide⟩
  · exact ⟨2, by simp [idxV, stepsV, bound], by decide⟩
  · exact ⟨3, by simp [idxV, stepsV, bound], by decide⟩
  · exact ⟨4, by simp [idxV, stepsV, bound], by decide⟩

/-- what a case is -/
def CaseQ (Q : V → Gl → Prop) (g : Gl) : Prop := ∀ (step : Nat) (text tail : L) (front p1 p2 pv : Nat) g', step < 5 → text.length ≤ 200 → tail.length ≤ 60 → front ≤ pv → front ≤ text.length → p1 ≤ 300 → p2 ≤ 300 → pv ≤ 300 → TS g g' → Q (caseV step text tail front p1 p2 pv) g'

theorem m22C_run {K : KS} {step front pv near : Nat} {en head : L} {k pc : Option V} (T : TapeOK g) (h1 : step < 5) (h2 : head.length + en.length ≤ 200) (h3 : front ≤ pv) (h4 : front ≤ (head ++ en).length) (h5 : pv ≤ 300) (h6 : near ≤ 200)
    (hK : ∀ (step : Nat) (text tail : L) (front p1 p2 pv : Nat) loc g', step < 5 → text.length ≤ 200 → tail.length ≤ 60 → front ≤ pv → front ≤ text.length → p1 ≤ 300 → p2 ≤ 300 → pv ≤ 300 → TS g g' → K (.ret (caseV step text tail front p1 p2 pv)) ⟨loc, g'⟩) :
    awpSs globV clsV (callN globV clsV ftab (d + 2)) m22C K ⟨[some .tape, some (.int step), some (.str en), some (.str head), k, pc, some (.int near), some (.int pv), some (.int front)], g⟩ := by
  have hc : binV .add (.str head) (.str en) = some (.str (head ++ en)) := cat_s (by unfold bound; omega)
  simp only [m22C, awpSs, awpS, awpE, awpEs, List.getElem?_cons_succ, List.getElem?_cons_zero, Option.join_some, Option.some.injEq, exists_eq_left', hc]
  refine ⟨show 8 ≤ bound by unfold bound; omega, c_next (many := 8) T (by decide) fun r g1 hr t1 => ?_⟩
  obtain ⟨tl, q1, q2⟩ := str_of ok_tails (g := g1) hr (by decide)
  refine ⟨_, q1, c_place t1.ok fun a g2 ha t2 => c_place t2.ok fun b' g3 hb t3 => ⟨show 7 ≤ bound by unfold bound; omega, ?_⟩⟩
  exact hK step (head ++ en) tl front a b' pv _ g3 h1 (by rw [List.length_append]; omega) (by omega) h3 h4 (by omega) (by omega) h5 ((t1.trans t2).trans t3)

theorem m22B_run {K : KS} {step : Nat} {en head pc : L} {k n0 p0 f0 : Option V} (T : TapeOK g) (h1 : step < 5) (h2 : head.length ≤ 40) (h3 : en.length ≤ 60) (h4 : pc.length ≤ 40)
    (hK : ∀ (step : Nat) (text tail : L) (front p1 p2 pv : Nat) loc g', step < 5 → text.length ≤ 200 → tail.length ≤ 60 → front ≤ pv → front ≤ text.length → p1 ≤ 300 → p2 ≤ 300 → pv ≤ 300 → TS g g' → K (.ret (caseV step text tail front p1 p2 pv)) ⟨loc, g'⟩) :
    awpSs globV clsV (callN globV clsV ftab (d + 2)) m22B K ⟨[some .tape, some (.int step), some (.str en), some (.str head), k, some (.str pc), n0, p0, f0], g⟩ := by
  have hc : binV .add (.str head) (.str pc) = some (.str (head ++ pc)) := cat_s (by unfold bound; omega)
  have hl : (head ++ pc).length ≤ 80 := by rw [List.length_append]; omega
  have hl2 : (head ++ pc ++ en).length ≤ 200 := by rw [List.length_append]; omega
  generalize hM : m22C = M
  simp only [m22B, hM, awpSs, awpS, awpE, awpEs, awpT, List.set_cons_succ, List.set_cons_zero, List.getElem?_cons_succ, List.getElem?_cons_zero, Option.join_some, Option.some.injEq, exists_eq_left', hc, len_s (show (head ++ pc).length ≤ bound by unfold bound; omega)]
  subst hM
  refine c_place T fun pv g1 hpv t1 => c_next (many := 3) t1.ok (by decide) fun r g2 hr t2 => ?_
  have hc2 : binV .add (.str (head ++ pc)) (.str en) = some (.str (head ++ pc ++ en)) := cat_s (by unfold bound; omega)
  simp only [cmp_eq, Option.some.injEq, exists_eq_left', hc2, len_s (show (head ++ pc ++ en).length ≤ bound by unfold bound; omega)]
  have t12 := t1.trans t2
  by_cases hr0 : r = 0
  · subst hr0
    rw [show (((0 : Nat) : Int) == 0) = true from rfl]
    refine c_place t2.ok fun a g3 ha t3 => ⟨a, pv, (head ++ pc ++ en).length, rfl, rfl, rfl, ?_⟩
    have e : min (min (a : Int) (pv : Int)) ((head ++ pc ++ en).length : Int) = ((min (min a pv) (head ++ pc ++ en).length : Nat) : Int) := by omega
    rw [e]
    have t13 := t12.trans t3
    exact m22C_run (near := (head ++ pc).length) t3.ok h1 (by rw [List.length_append] at hl2; omega) (by omega) (by omega) (by omega) (by omega) fun step text tail front p1 p2 pv loc g' a1 a2 a3 a4 a5 a6 a7 a8 t => hK step text tail front p1 p2 pv loc g' a1 a2 a3 a4 a5 a6 a7 a8 (t13.trans t)
  · rw [show ((r : Int) == 0) = false from beq_eq_false_iff_ne.mpr (by omega)]
    exact m22C_run (near := (head ++ pc).length) (front := 0) t2.ok h1 (by rw [List.length_append] at hl2; omega) (by omega) (by omega) (by omega) (by omega) fun step text tail front p1 p2 pv loc g' a1 a2 a3 a4 a5 a6 a7 a8 t => hK step text tail front p1 p2 pv loc g' a1 a2 a3 a4 a5 a6 a7 a8 (t12.trans t)
theorem m22A_run {K : KS} {step : Nat} {en : L} (T : TapeOK g) (h1 : step < 5) (h3 : en.length ≤ 60)
    (hK : ∀ (step : Nat) (text tail : L) (front p1 p2 pv : Nat) loc g', step < 5 → text.length ≤ 200 → tail.length ≤ 60 → front ≤ pv → front ≤ text.length → p1 ≤ 300 → p2 ≤ 300 → pv ≤ 300 → TS g g' → K (.ret (caseV step text tail front p1 p2 pv)) ⟨loc, g'⟩) :
    awpSs globV clsV (callN globV clsV ftab (d + 2)) m22A K ⟨[some .tape, some (.int step), some (.str en), none, none, none, none, none, none], g⟩ := by
  generalize hM : m22B = M
  generalize hB : b22 = B0
  simp only [m22A, hM, hB, awpSs, awpS, awpE, awpEs, awpT, awpAnd, List.set_cons_succ, List.set_cons_zero, List.getElem?_cons_succ, List.getElem?_cons_zero, Option.join_some, Option.some.injEq, exists_eq_left']
  subst hB
  refine c_next (many := 4) T (by decide) fun r g1 hr t1 => ⟨r, rfl, by unfold bound; omega, ?_⟩
  refine b22_loop (d := d + 1) (step := .int step) (en := .str en) r 0 g1 [] none t1.ok (by simp; omega) fun head k g2 hh t2 => ?_
  simp only [lc22, List.set_cons_succ, List.set_cons_zero, List.getElem?_cons_succ, List.getElem?_cons_zero, Option.join_some, Option.some.injEq, exists_eq_left']
  refine c_pie (c_next (many := 19) t2.ok (by decide) fun r3 g3 hr3 t3 => ?_)
  obtain ⟨pc, q1, q2⟩ := str_of ok_pie (g := g3) hr3 (by decide)
  refine ⟨_, q1, ?_⟩
  have t13 := (t1.trans t2).trans t3
  have fin : ∀ (pc : L) g', pc.length ≤ 40 → TS g3 g' → awpSs globV clsV (callN globV clsV ftab (d + 2)) M K ⟨[some .tape, some (.int step), some (.str en), some (.str head), k, some (.str pc), none, none, none], g'⟩ := by
    intro pc g' hp t4
    subst hM
    exact m22B_run t4.ok h1 (by omega) h3 hp fun step text tail front p1 p2 pv loc g' a1 a2 a3 a4 a5 a6 a7 a8 t => hK step text tail front p1 p2 pv loc g' a1 a2 a3 a4 a5 a6 a7 a8 ((t13.trans t4).trans t)
  simp only [cmp_gt, cmp_eq, Option.some.injEq, exists_eq_left', List.getElem?_cons_succ, List.getElem?_cons_zero, Option.join_some]
  by_cases hs : (step : Int) > 0
  · rw [decide_eq_true hs]
    refine c_next (many := 2) t3.ok (by decide) fun r4 g4 hr4 t4 => ?_
    simp only [cmp_eq, Option.some.injEq, exists_eq_left']
    by_cases hr0 : r4 = 0
    · subst hr0
      rw [show (((0 : Nat) : Int) == 0) = true from rfl]
      refine ⟨show 2 ≤ bound by unfold bound; omega, c_next (many := 2) t4.ok (by decide) fun r5 g5 hr5 t5 => ?_⟩
      obtain ⟨pc2, q3, q4⟩ := str_of ok_ug (g := g5) hr5 (by decide)
      exact ⟨_, q3, fin pc2 g5 (by omega) (t4.trans t5)⟩
    · rw [show ((r4 : Int) == 0) = false from beq_eq_false_iff_ne.mpr (by omega)]
      exact fin pc g4 (by omega) t4
  · rw [decide_eq_false hs]
    exact fin pc g3 (by omega) ⟨t3.ok, rfl, rfl⟩

theorem c_case {Q : V → Gl → Prop} (T : TapeOK g) (hQ : CaseQ Q g) : callN globV clsV ftab (d + 3) 22 [.tape] Q g := by
  refine ⟨fd22, rfl, rfl, ?_⟩
  show awpSs globV clsV (callN globV clsV ftab (d + 2)) m22 _ ⟨[some .tape, none, none, none, none, none, none, none, none], g⟩
  rw [m22_eq]
  generalize hM : m22A = M
  simp only [awpSs, awpS, awpE, awpEs, awpT, List.set_cons_succ, List.set_cons_zero, List.getElem?_cons_succ, List.getElem?_cons_zero, Option.join_some, Option.some.injEq, exists_eq_left']
  subst hM
  refine ⟨show 8 ≤ bound by unfold bound; omega, c_next (many := 8) T (by decide) fun r0 g0 hr0 t0 => ?_⟩
  obtain ⟨step, q1, hstep⟩ := steps_at (g := g0) hr0
  refine ⟨.int step, q1, c_end t0.ok fun e g1 he t1 => c_next (many := 8) t1.ok (by decide) fun r1 g2 hr1 t2 => ?_⟩
  simp only [cmp_eq, Option.some.injEq, exists_eq_left', glob5]
  have t02 := (t0.trans t1).trans t2
  by_cases hr : r1 = 0
  · subst hr
    rw [show (((0 : Nat) : Int) == 0) = true from rfl]
    refine c_next (many := 17) t2.ok (by decide) fun r3 g3 hr3 t3 => ?_
    obtain ⟨c, hc⟩ := letter_at (g := g3) hr3
    have t03 := t02.trans t3
    exact ⟨_, hc, m22A_run t3.ok hstep (by simp) fun step text tail front p1 p2 pv loc g' a1 a2 a3 a4 a5 a6 a7 a8 t => hQ step text tail front p1 p2 pv g' a1 a2 a3 a4 a5 a6 a7 a8 (t03.trans t)⟩
  · rw [show ((r1 : Int) == 0) = false from beq_eq_false_iff_ne.mpr (by omega)]
    exact m22A_run t2.ok hstep he fun step text tail front p1 p2 pv loc g' a1 a2 a3 a4 a5 a6 a7 a8 t => hQ step text tail front p1 p2 pv g' a1 a2 a3 a4 a5 a6 a7 a8 (t02.trans t)
end
end Mine

-- MRound
namespace Mine
set_option maxRecDepth 100000
set_option maxHeartbeats 1000000
set_option linter.unusedVariables false

section
variable {d : Nat} {g : Gl} {Q : V → Gl → Prop}
theorem sum_small : ∀ (ns : List Int), (∀ n ∈ ns, 0 ≤ n ∧ n < 1000003) → 0 ≤ ns.sum ∧ ns.sum ≤ 1000003 * ns.length
  | [], _ => by simp
  | n :: ns, h => by
    have ih := sum_small ns fun m hm => h m (.tail _ hm)
    have hn := h n (.head _)
    rw [List.sum_cons, List.length_cons]
    omega
theorem slice_hi_l {α : Type} (l : List α) : sliceL l none (some 40) = l.take 40 := slice_0n l 40
theorem c_tape {ns : List Int} (hns : ns.length ≤ 63) (h0 : g.tape = none) (hQ : ∀ g', TS g g' → Q .tape g') : callN globV clsV ftab (d + 1) 15 [.list (ns.map .int)] Q g := by
  refine ⟨fd15, rfl, rfl, ?_⟩
  show awpSs globV clsV (callN globV clsV ftab d) m15 _ ⟨[some (.list (ns.map .int)), none], g⟩
  have hsl : sliceV (.list (ns.map .int)) none (some 40) = some (.list ((ns.take 40).map .int)) := by
    show (if (ns.map V.int).length ≤ bound then _ else _) = _
    rw [if_pos (by rw [List.length_map]; unfold bound; omega), slice_hi_l, List.map_take]
  simp only [m15, awpSs, awpS, awpE, awpEs, List.set_cons_succ, List.set_cons_zero, List.getElem?_cons_succ, List.getElem?_cons_zero, Option.join_some, Option.some.injEq, exists_eq_left', V.int.injEq]
  refine ⟨40, _, rfl, hsl, ns.take 40, rfl, by rw [List.length_take]; omega, ?_⟩
  have hms : (ns.take 40).map (fun n => V.int (n.fmod 1000003)) = ((ns.take 40).map fun n => n.fmod 1000003).map V.int := by rw [List.map_map]; rfl
  generalize hN : ((ns.take 40).map fun n => n.fmod 1000003) = N at hms
  have hNl : N.length ≤ 40 := by rw [← hN, List.length_map, List.length_take]; omega
  have hNs : ∀ n ∈ N, 0 ≤ n ∧ n < 1000003 := by
    intro n hn
    rw [← hN] at hn
    obtain ⟨m, _, rfl⟩ := List.mem_map.mp hn
    exact ⟨Int.fmod_nonneg_of_pos _ (by decide), Int.fmod_lt_of_pos _ (by decide)⟩
  have hsum := sum_small N hNs
  have hlen : lenV (.list (N.map .int)) = some (.int N.length) := by
    show (if (N.map V.int).length ≤ bound then _ else _) = _
    rw [if_pos (by rw [List.length_map]; unfold bound; omega), List.length_map]
  rw [hms]
  refine ⟨N, rfl, _, mul_i N.sum 7 hsum.1 (by omega) (by decide) (by decide), _, hlen, _, bin_add _ _, _, mod_i _ (by decide), _, bin_add _ _, show 3 ≤ bound by unfold bound; omega, h0, ?_⟩
  have b1 := Int.fmod_nonneg_of_pos (N.sum * 7 + (N.length : Int)) (show (0 : Int) < 1000003 by decide)
  have b2 := Int.fmod_lt_of_pos (N.sum * 7 + (N.length : Int)) (show (0 : Int) < 1000003 by decide)
  exact hQ _ ⟨⟨0, _, N, rfl, by decide, by omega, by omega, by omega⟩, rfl, rfl⟩
end
end Mine

-- MAgree
namespace Mine
set_option maxRecDepth 100000
set_option maxHeartbeats 1000000
set_option linter.unusedVariables false

/-- the table and the rows hold the same words, and their answers fit -/
def matchB (t : Tab) (rs : List (List L)) (rel : Int → Nat → Bool) : Bool :=
  t.all (fun e => !e.1.isEmpty && rs.any (fun r => r.contains e.1)) && rs.all (fun r => r.all fun x => t.any fun e => e.1 == x) &&
  (List.range rs.length).all fun k => match rs[k]? with
    | some r => t.all fun e => !(r.contains e.1) || rel e.2.2 k
    | none => true
structure Match (t : Tab) (rs : List (List L)) (rel : Int → Nat → Bool) : Prop where
  ne : ∀ e ∈ t, e.1 ≠ []
  to : ∀ e ∈ t, e.1 ∈ rs.flatten
  back : ∀ x ∈ rs.flatten, ∃ e ∈ t, e.1 = x
  rel : ∀ e ∈ t, ∀ (k : Nat) r, rs[k]? = some r → e.1 ∈ r → rel e.2.2 k = true
theorem match_of {t : Tab} {rs : List (List L)} {rel : Int → Nat → Bool} (h : matchB t rs rel = true) : Match t rs rel := by
  simp only [matchB, Bool.and_eq_true, List.all_eq_true] at h
  obtain ⟨⟨h1, h2⟩, h3⟩ := h
  refine ⟨fun e he => ?_, fun e he => ?_, fun x hx => ?_, fun e he k r hk hr => ?_⟩
  · have := (h1 e he).1
    rintro q
    rw [q] at this; cases this
  · have := (h1 e he).2
    obtain ⟨r, hr, hc⟩ := List.any_eq_true.mp this
    exact List.mem_flatten.mpr ⟨r, hr, List.contains_iff_mem.mp hc⟩
  · obtain ⟨r, hr, hxr⟩ := List.mem_flatten.mp hx
    have := h2 r hr x hxr
    obtain ⟨e, he, hq⟩ := List.any_eq_true.mp this
    exact ⟨e, he, beq_iff_eq.mp hq⟩
  · have := h3 k (List.mem_range.mpr (List.getElem?_eq_some_iff.mp hk).1)
    rw [hk] at this
    have := List.all_eq_true.mp this e he
    rw [Bool.or_eq_true] at this
    rcases this with q | q
    · rw [List.contains_iff_mem.mpr hr] at q; cases q
    · exact q
theorem suffix_same {s e w : L} (h1 : s <:+ w) (h2 : e <:+ w) (hl : s.length = e.length) : e = s := by
  rw [List.suffix_iff_eq_drop] at h1 h2
  rw [h1, h2, hl]
theorem agree_hit {t : Tab} {rs : List (List L)} {rel : Int → Nat → Bool} (M : Match t rs rel) {w : L} {en : En} (hen : en ∈ t) (hs : en.1 <:+ w) (hmax : ∀ e' ∈ t, e'.1 <:+ w → e'.1 <:+ en.1) {e : L} {p : Int} (B : Best rs w rs.flatten e p) :
    e = en.1 ∧ ∃ k : Nat, p = (k : Int) ∧ rel en.2.2 k = true ∧ k < rs.length := by
  rcases B with ⟨rfl, rfl, hb⟩ | ⟨b1, b2, ⟨k, r, rfl, hk, her⟩, hb⟩
  · exact absurd (hb _ (M.to en hen) hs) (M.ne en hen)
  · have hin : e ∈ rs.flatten := List.mem_flatten.mpr ⟨r, List.mem_of_getElem? hk, her⟩
    obtain ⟨e2, he2, rfl⟩ := M.back e hin
    have l1 := (hmax e2 he2 b2).length_le
    have l2 := hb _ (M.to en hen) hs
    have heq : e2.1 = en.1 := suffix_same hs b2 (by omega)
    refine ⟨heq, k, rfl, ?_, (List.getElem?_eq_some_iff.mp hk).1⟩
    exact M.rel en hen k r hk (by rw [← heq]; exact her)
theorem agree_miss {t : Tab} {rs : List (List L)} {rel : Int → Nat → Bool} (M : Match t rs rel) {w : L} (hno : ∀ e' ∈ t, ¬ e'.1 <:+ w) {e : L} {p : Int} (B : Best rs w rs.flatten e p) : e = [] ∧ p = -1 := by
  rcases B with ⟨rfl, rfl, _⟩ | ⟨b1, b2, ⟨k, r, rfl, hk, her⟩, hb⟩
  · exact ⟨rfl, rfl⟩
  · obtain ⟨e2, he2, rfl⟩ := M.back e (List.mem_flatten.mpr ⟨r, List.mem_of_getElem? hk, her⟩)
    exact absurd b2 (hno e2 he2)

/-- strings of a value -/
def strsOf : V → List L
  | .list xs => xs.filterMap fun | .str s => some s | _ => none
  | _ => []
def rowsOf : V → List (List L)
  | .list xs => xs.map strsOf
  | _ => []
def kinds : List (List L) := rowsOf gl0
def prons : List L := strsOf gl1
def ys : List L := strsOf gl2
def gus : List L := strsOf gl3
def verbs : List L := strsOf gl4
def verbals : List L := strsOf verbV
def resids : List L := strsOf resV
theorem kinds_v : rowsV kinds = gl0 := by kernel_rfl
theorem prons_v : rowV prons = gl1 := by kernel_rfl
theorem ys_v : rowV ys = gl2 := by kernel_rfl
theorem gus_v : rowV gus = gl3 := by kernel_rfl
theorem verbs_v : rowV verbs = gl4 := by kernel_rfl
theorem verbals_v : rowV verbals = verbV := by kernel_rfl
theorem resids_v : rowV resids = resV := by kernel_rfl
def relPlus (r : Int) (k : Nat) : Bool := r == (k : Int) + 1
theorem mt6 : matchB tab6 kinds relPlus = true := by kernel_rfl
theorem mt1 : matchB tab1 [prons] (fun r k => r == -1 && k == 0) = true := by kernel_rfl
def verbRows : List (List L) := (verbals.take 5).map (fun x => [x]) ++ [(verbals.take 10).drop 5, [[121, 101, 110, 100, 111]]]
theorem mt2 : matchB tab2 verbRows relPlus = true := by kernel_rfl
theorem mt7 : matchB tab7 [ys] (fun r k => r == 1 && k == 0) = true := by kernel_rfl
end Mine

-- MY
namespace Mine
set_option maxRecDepth 100000
set_option maxHeartbeats 1000000
set_option linter.unusedVariables false

/-- what _law_y says -/
def YSpec (text : L) (front pv : Nat) (ans : Bool) (out : L) : Prop :=
  ∃ e p, Best [ys] (text.drop pv) [ys].flatten e p ∧
    ((¬ (p < 0) ∧ front < text.length - e.length ∧ text[text.length - e.length - 1]? = some 117 ∧ ans = true ∧ out = text.take (text.length - e.length)) ∨
     ((p < 0 ∨ text.length - e.length ≤ front ∨ text[text.length - e.length - 1]? ≠ some 117) ∧ ans = false ∧ out = text))

theorem best_len {rs : List (List L)} {w : L} {dn : List L} {e : L} {p : Int} (B : Best rs w dn e p) : e.length ≤ w.length := by
  rcases B with ⟨rfl, _⟩ | ⟨_, h, _⟩
  · exact Nat.zero_le _
  · exact h.length_le
theorem small_rows {rs : List (List L)} (h : (rs.all fun r => r.all fun x => Nat.ble x.length 30) = true) : ∀ r ∈ rs, ∀ x ∈ r, x.length ≤ 30 := by
  intro r hr x hx
  exact Nat.le_of_ble_eq_true (List.all_eq_true.mp (List.all_eq_true.mp h r hr) x hx)
theorem glob2 : globV 2 = gl2 := rfl
section
variable {d : Nat} {g : Gl} {Q : V → Gl → Prop}
theorem c_lawy {text : L} {front pv : Nat} (ht : text.length ≤ bound) (hQ : ∀ ans out, YSpec text front pv ans out → Q (.list [.bool ans, .str out]) g) : callN globV clsV ftab (d + 2) 27 [.str text, .int front, .int pv] Q g := by
  refine ⟨fd27, rfl, rfl, ?_⟩
  show awpSs globV clsV (callN globV clsV ftab (d + 1)) m27 _ ⟨[some (.str text), some (.int front), some (.int pv), none, none, none], g⟩
  simp only [m27, awpSs, awpS, awpE, awpEs, awpT, awpOr, List.set_cons_succ, List.set_cons_zero, List.getElem?_cons_succ, List.getElem?_cons_zero, Option.join_some, Option.some.injEq, exists_eq_left', glob2, ← ys_v]
  refine ⟨show 1 ≤ bound by unfold bound; omega, c_longest (rs := [ys]) ht (small_rows (by kernel_rfl)) (by decide) fun e p B => ⟨[.str e, .int p], _, rfl, rfl, ?_⟩⟩
  have hl := best_len B
  rw [List.length_drop] at hl
  have hsub : ((text.length : Int) - (e.length : Int)) = ((text.length - e.length : Nat) : Int) := by omega
  simp only [List.set_cons_succ, List.set_cons_zero, List.getElem?_cons_succ, List.getElem?_cons_zero, Option.join_some, Option.some.injEq, exists_eq_left', len_s ht, len_s (show e.length ≤ bound by omega), bin_sub, cmp_lt, cmp_le, hsub]
  have ret0 : YSpec text front pv false text → Q (.list [.bool false, .str text]) g := hQ _ _
  by_cases hp : p < 0
  · rw [decide_eq_true hp]
    exact ⟨show 2 ≤ bound by unfold bound; omega, hQ _ _ ⟨e, p, B, .inr ⟨.inl hp, rfl, rfl⟩⟩⟩
  rw [decide_eq_false hp]
  dsimp only
  by_cases hf : text.length - e.length ≤ front
  · rw [decide_eq_true (show ((text.length - e.length : Nat) : Int) ≤ (front : Int) by omega)]
    exact ⟨show 2 ≤ bound by unfold bound; omega, hQ _ _ ⟨e, p, B, .inr ⟨.inr (.inl hf), rfl, rfl⟩⟩⟩
  rw [decide_eq_false (show ¬ ((text.length - e.length : Nat) : Int) ≤ (front : Int) by omega)]
  dsimp only
  obtain ⟨ch, hch⟩ : ∃ ch, text[text.length - e.length - 1]? = some ch := ⟨_, List.getElem?_eq_getElem (by omega)⟩
  refine ⟨_, str_at (text.length - e.length - 1) (by omega) hch ht, _, rfl, ?_⟩
  by_cases hu : ch = 117
  · subst hu
    rw [show (([117] : L) != [117]) = false from by decide]
    refine ⟨_, _, rfl, sl_hi ht _, show 2 ≤ bound by unfold bound; omega, ?_⟩
    exact hQ _ _ ⟨e, p, B, .inl ⟨hp, by omega, hch, rfl, rfl⟩⟩
  · rw [show (([ch] : L) != [117]) = true from by rw [bne_iff_ne]; intro q; cases q; exact hu rfl]
    exact ⟨show 2 ≤ bound by unfold bound; omega, hQ _ _ ⟨e, p, B, .inr ⟨.inr (.inr (by rw [hch]; intro q; cases q; exact hu rfl)), rfl, rfl⟩⟩⟩
end

structure Start (s : SF) (text tail : L) (front p1 p2 pv : Nat) : Prop where
  cur : s.cur = text ++ tail
  c : s.c = text.length
  l : s.l = (text ++ tail).length
  lb : s.lb = front
  p1 : s.p1 = p1
  p2 : s.p2 = p2
  pv : s.pv = pv
structure After (s s' : SF) (out tail : L) : Prop where
  cur : s'.cur = out ++ tail
  l : s'.l = (out ++ tail).length
  lb : s'.lb = s.lb
  p1 : s'.p1 = s.p1
  p2 : s'.p2 = s.p2
  pv : s'.pv = s.pv
theorem setSt_cur (g : Gl) (b : Bool) (s : SF) {n m : Nat} (h : m ≤ n) : (at' g b s).setSt b (setF .cursor (.int ((n : Int) - (m : Nat))) s.f) = at' g b { s with c := n - m } := by
  rw [show ((n : Int) - (m : Nat)) = ((n - m : Nat) : Int) from by omega]
  exact s_c _ _ _ _
/-- find_among_b at a stemmer at work -/
theorem c_find {d : Nat} {t : Tab} (G : GoodT t) {g : Gl} {b : Bool} {s : SF} (h1 : s.lb ≤ s.c) (h2 : s.c ≤ s.cur.length) (h3 : s.cur.length ≤ bound) {Q : V → Gl → Prop}
    (hHit : ∀ en ∈ t, en.1 <:+ s.w → (∀ e' ∈ t, e'.1 <:+ s.w → e'.1 <:+ en.1) → Q (.int en.2.2) (at' g b { s with c := s.c - en.1.length }))
    (hMiss : (∀ e' ∈ t, ¬ e'.1 <:+ s.w) → Q (.int 0) (at' g b s)) : callN globV clsV ftab (d + 1) 4 [.stem b, tabV t] Q (at' g b s) := by
  refine find_among (c := s.c) (lb := s.lb) G (at_st g b s) (f_len s) rfl rfl rfl h1 h2 h3 (fun {k e} hk hs hmax => ?_) (fun hno => ?_)
  · have hle : e.1.length ≤ s.c := by
      have := hs.length_le
      rw [List.length_drop, List.length_take] at this; omega
    rw [setSt_cur g b s hle]
    refine hHit e (List.mem_of_getElem? hk) hs fun e' he' hs' => ?_
    obtain ⟨k', hk'⟩ := List.mem_iff_getElem?.mp he'
    exact hmax hk' hs'
  · refine hMiss fun e' he' hs' => ?_
    obtain ⟨k', hk'⟩ := List.mem_iff_getElem?.mp he'
    exact hno hk' hs'
theorem ex_stem {g : Gl} {b : Bool} {s : SF} {P : Bool → Fields → Prop} : (∃ b' f, V.stem b = V.stem b' ∧ (at' g b s).st b' = some f ∧ f.length ≤ 100 ∧ P b' f) ↔ P b s.f := by
  constructor
  · rintro ⟨b', f, h1, h2, _, h4⟩
    cases h1
    rw [at_st] at h2; cases h2
    exact h4
  · exact fun h => ⟨b, s.f, rfl, at_st _ _ _, f_len _, h⟩
theorem ex_meth {g : Gl} {b : Bool} {s : SF} {P : Bool → Prop} : (∃ b', V.stem b = V.stem b' ∧ ((at' g b s).st b').isSome = true ∧ P b') ↔ P b := by
  constructor
  · rintro ⟨b', h1, _, h4⟩
    cases h1
    exact h4
  · exact fun h => ⟨b, rfl, by rw [at_st]; rfl, h⟩
theorem good_7 : GoodT tab7 := goodT good7
theorem cls7 : clsV 7 = tabV tab7 := rfl

theorem c_ry {d : Nat} {g : Gl} {b : Bool} {s : SF} {text tail : L} {front p1 p2 pv : Nat} (St : Start s text tail front p1 p2 pv) (hft : front ≤ text.length) (hb : (text ++ tail).length ≤ bound) {ans : Bool} {out : L} (H : YSpec text front pv ans out) {Q : V → Gl → Prop}
    (hQ : ∀ s', After s s' out tail → Q (.bool ans) (at' g b s')) : callN globV clsV ftab (d + 4) 12 [.stem b] Q (at' g b s) := by
  refine ⟨fd12, rfl, rfl, ?_⟩
  show awpSs globV clsV (callN globV clsV ftab (d + 3)) m12 _ ⟨[some (.stem b), none], at' g b s⟩
  have hcl : text.length ≤ (text ++ tail).length := by rw [List.length_append]; omega
  obtain ⟨e, p, B, hcase⟩ := H
  simp only [m12, awpSs, awpS, awpE, awpEs, awpT, awpOr, List.set_cons_succ, List.set_cons_zero, List.getElem?_cons_succ, List.getElem?_cons_zero, Option.join_some, Option.some.injEq, exists_eq_left', g_c, g_pv, g_lb, cmp_lt, cls7]
  by_cases hlt : s.c < s.pv
  · rw [decide_eq_true (show (s.c : Int) < (s.pv : Int) by omega)]
    have he : text.drop pv = [] := List.drop_eq_nil_of_le (by rw [St.c, St.pv] at hlt; omega)
    have hno : e = [] ∧ p = -1 := by
      rcases B with ⟨rfl, rfl, _⟩ | ⟨b1, b2, _⟩
      · exact ⟨rfl, rfl⟩
      · rw [he] at b2
        exact absurd (List.suffix_nil.mp b2) b1
    obtain ⟨rfl, rfl⟩ := hno
    rcases hcase with ⟨q, _⟩ | ⟨_, rfl, rfl⟩
    · exact absurd (by decide) q
    · exact hQ s ⟨St.cur, St.l, rfl, rfl, rfl, rfl⟩
  · rw [decide_eq_false (show ¬ (s.c : Int) < (s.pv : Int) by omega)]
    dsimp only
    simp only [ex_stem, s_lb, s_ket, g_c, ex_meth, Option.some.injEq, exists_eq_left']
    have M := match_of mt7
    have hw : ({ s with lb := s.pv, ket := s.c } : SF).w = text.drop pv := by
      show (s.cur.take s.c).drop s.pv = _
      rw [St.cur, St.c, St.pv, List.take_left]
    refine c_find (d := d + 2) good_7 (s := { s with lb := s.pv, ket := s.c }) (by dsimp only; omega) (by dsimp only; rw [St.cur, St.c]; omega) (by dsimp only; rw [St.cur]; exact hb) (fun en hen hs hmax => ?_) (fun hno => ?_)
    · rw [hw] at hs
      obtain ⟨rfl, k, rfl, hrel, hk⟩ := agree_hit M hen hs (by rw [hw] at hmax; exact hmax) B
      have hr1 : en.2.2 = 1 := by
        simp only [Bool.and_eq_true, beq_iff_eq] at hrel
        exact hrel.1
      have hle : en.1.length ≤ text.length - pv := by have := hs.length_le; rw [List.length_drop] at this; exact this
      have hne := M.ne en hen
      have hpos : 0 < en.1.length := List.length_pos_iff.mpr hne
      have hcur : s.cur.length ≤ bound := by rw [St.cur]; exact hb
      rw [hr1]
      simp only [cmp_eq, Option.some.injEq, exists_eq_left']
      rw [show ((1 : Int) == 0) = false from rfl]
      dsimp only
      simp only [ex_stem, s_lb, s_bra, g_c, g_lb, g_cur, cmp_le, Option.some.injEq, exists_eq_left', bin_sub]
      rcases hcase with ⟨_, q1, q2, rfl, hout⟩ | ⟨q, rfl, hout⟩
      · rw [decide_eq_false (show ¬ ((s.c - en.1.length : Nat) : Int) ≤ (s.lb : Int) by rw [St.c, St.lb]; omega)]
        dsimp only
        have hidx : s.cur[s.c - en.1.length - 1]? = some 117 := by
          rw [St.cur, St.c, List.getElem?_append_left (by omega)]; exact q2
        refine ⟨.str [117], str_at (s.c - en.1.length - 1) (by rw [St.c]; omega) hidx hcur, _, rfl, ?_⟩
        rw [show (([117] : L) != [117]) = false from by decide]
        dsimp only
        refine ⟨b, _, _, rfl, at_st _ _ _, get_c _, _, _, at_st _ _ _, f_len _, aug_sub _ _, ?_⟩
        rw [show (((s.c - en.1.length : Nat) : Int) - 1) = ((s.c - en.1.length - 1 : Nat) : Int) from by rw [St.c]; omega, s_c]
        refine ⟨b, rfl, by rw [at_st]; rfl, c_del (d := d) (by dsimp only; omega) (by dsimp only; rw [St.c]; omega) (by dsimp only; rw [St.c, St.l]; omega) (by dsimp only; rw [St.l, St.cur]) (by dsimp only; exact hcur) fun v => ?_⟩
        refine hQ _ ⟨?_, ?_, rfl, rfl, rfl, rfl⟩
        · show s.cur.take (s.c - en.1.length) ++ [] ++ s.cur.drop s.c = _
          rw [St.cur, St.c, hout, List.append_nil, List.drop_left, List.take_append_of_le_length (by omega)]
        · show s.l + ([] : L).length - (s.c - (s.c - en.1.length)) = _
          rw [St.l, St.c, hout, List.length_append, List.length_append, List.length_take]
          simp only [List.length_nil]
          omega
      · by_cases hf : text.length - en.1.length ≤ front
        · rw [decide_eq_true (show ((s.c - en.1.length : Nat) : Int) ≤ (s.lb : Int) by rw [St.c, St.lb]; omega)]
          exact hQ _ ⟨by rw [hout]; exact St.cur, by rw [hout]; exact St.l, rfl, rfl, rfl, rfl⟩
        · rw [decide_eq_false (show ¬ ((s.c - en.1.length : Nat) : Int) ≤ (s.lb : Int) by rw [St.c, St.lb]; omega)]
          dsimp only
          obtain ⟨ch, hch⟩ : ∃ ch, text[text.length - en.1.length - 1]? = some ch := ⟨_, List.getElem?_eq_getElem (by omega)⟩
          have hidx : s.cur[s.c - en.1.length - 1]? = some ch := by
            rw [St.cur, St.c, List.getElem?_append_left (by omega)]; exact hch
          refine ⟨.str [ch], str_at (s.c - en.1.length - 1) (by rw [St.c]; omega) hidx hcur, _, rfl, ?_⟩
          have hne2 : ch ≠ 117 := by
            rintro rfl
            rcases q with q | q | q
            · omega
            · omega
            · exact q hch
          rw [show (([ch] : L) != [117]) = true from by rw [bne_iff_ne]; intro q; cases q; exact hne2 rfl]
          exact hQ _ ⟨by rw [hout]; exact St.cur, by rw [hout]; exact St.l, rfl, rfl, rfl, rfl⟩
    · rw [hw] at hno
      obtain ⟨rfl, rfl⟩ := agree_miss M hno B
      simp only [cmp_eq, Option.some.injEq, exists_eq_left']
      rw [show ((0 : Int) == 0) = true from rfl]
      simp only [ex_stem, s_lb]
      rcases hcase with ⟨q, _⟩ | ⟨_, rfl, rfl⟩
      · exact absurd (by decide) q
      · exact hQ _ ⟨St.cur, St.l, rfl, rfl, rfl, rfl⟩
end Mine

-- MV
namespace Mine
set_option maxRecDepth 100000
set_option maxHeartbeats 1000000
set_option linter.unusedVariables false

theorem mt8 : matchB tab8 [gus, verbs] relPlus = true := by kernel_rfl
theorem mt9 : matchB tab9 [resids.take 6, resids.drop 6] relPlus = true := by kernel_rfl
theorem slice_m1 {α : Type} (l : List α) : sliceL l none (some (-1)) = l.take (l.length - 1) := by
  rw [sliceL_eq]
  unfold hiOf loOf clampI
  dsimp only
  rw [if_pos (by decide), List.drop_zero]
  congr 1; omega
theorem sl_m1 {l : L} (h : l.length ≤ bound) : sliceV (.str l) none (some (-1)) = some (.str (l.take (l.length - 1))) := by
  show (if _ then _ else _) = _
  rw [if_pos h, slice_m1]
/-- what _law_verb says -/
def VSpec (text : L) (front pv : Nat) (ans : Bool) (out : L) : Prop :=
  ∃ e p, Best [gus, verbs] (text.drop pv) [gus, verbs].flatten e p ∧
    ((p < 0 ∧ ans = false ∧ out = text) ∨
     (p = 0 ∧ [103, 117] <:+ (text.take (text.length - e.length)).drop front ∧ ans = true ∧ out = text.take (text.length - e.length - 1)) ∨
     (0 ≤ p ∧ ¬ (p = 0 ∧ [103, 117] <:+ (text.take (text.length - e.length)).drop front) ∧ ans = true ∧ out = text.take (text.length - e.length)))
theorem glob3 : globV 3 = gl3 := rfl
theorem glob4 : globV 4 = gl4 := rfl
section
variable {d : Nat} {g : Gl} {Q : V → Gl → Prop}
theorem c_lawv {text : L} {front pv : Nat} (ht : text.length ≤ bound) (hQ : ∀ ans out, VSpec text front pv ans out → Q (.list [.bool ans, .str out]) g) : callN globV clsV ftab (d + 2) 28 [.str text, .int front, .int pv] Q g := by
  refine ⟨fd28, rfl, rfl, ?_⟩
  show awpSs globV clsV (callN globV clsV ftab (d + 1)) m28 _ ⟨[some (.str text), some (.int front), some (.int pv), none, none, none], g⟩
  simp only [m28, awpSs, awpS, awpE, awpEs, awpT, awpAnd, List.set_cons_succ, List.set_cons_zero, List.getElem?_cons_succ, List.getElem?_cons_zero, Option.join_some, Option.some.injEq, exists_eq_left', glob3, glob4, ← gus_v, ← verbs_v]
  refine ⟨show 2 ≤ bound by unfold bound; omega, c_longest (rs := [gus, verbs]) ht (small_rows (by kernel_rfl)) (by decide) fun e p B => ⟨[.str e, .int p], _, rfl, rfl, ?_⟩⟩
  have hl := best_len B
  rw [List.length_drop] at hl
  have hsub : ((text.length : Int) - (e.length : Int)) = ((text.length - e.length : Nat) : Int) := by omega
  have hb2 : 2 ≤ bound := by unfold bound; omega
  simp only [List.set_cons_succ, List.set_cons_zero, List.getElem?_cons_succ, List.getElem?_cons_zero, Option.join_some, Option.some.injEq, exists_eq_left', len_s ht, len_s (show e.length ≤ bound by omega), bin_sub, cmp_lt, cmp_eq, hsub]
  refine ⟨_, _, rfl, sl_hi ht _, ?_⟩
  have hhl : (text.take (text.length - e.length)).length = text.length - e.length := by rw [List.length_take]; omega
  by_cases hp : p < 0
  · rw [decide_eq_true hp]
    exact ⟨hb2, hQ _ _ ⟨e, p, B, .inl ⟨hp, rfl, rfl⟩⟩⟩
  rw [decide_eq_false hp]
  dsimp only
  by_cases h0 : p = 0
  · rw [show (p == 0) = true from beq_iff_eq.mpr h0]
    dsimp only
    refine ⟨front, _, rfl, sl_lo (by omega) _, _, rfl, ?_⟩
    by_cases hgu : [103, 117] <:+ (text.take (text.length - e.length)).drop front
    · refine ⟨_, rfl, true, by rw [decide_eq_true hgu]; rfl, ?_⟩
      dsimp only
      refine ⟨1, rfl, -1, _, rfl, sl_m1 (by omega), hb2, ?_⟩
      refine hQ _ _ ⟨e, p, B, .inr (.inl ⟨h0, hgu, rfl, ?_⟩)⟩
      rw [hhl, List.take_take, Nat.min_eq_left (by omega)]
    · refine ⟨_, rfl, false, by rw [decide_eq_false hgu]; rfl, ?_⟩
      dsimp only
      exact ⟨hb2, hQ _ _ ⟨e, p, B, .inr (.inr ⟨by omega, fun q => hgu q.2, rfl, rfl⟩)⟩⟩
  · rw [show (p == 0) = false from beq_eq_false_iff_ne.mpr h0]
    exact ⟨hb2, hQ _ _ ⟨e, p, B, .inr (.inr ⟨by omega, fun q => h0 q.1, rfl, rfl⟩)⟩⟩
end
end Mine

-- MStep
namespace Mine
set_option maxRecDepth 100000
set_option maxHeartbeats 1000000
set_option linter.unusedVariables false

theorem ex_aug {g : Gl} {b : Bool} {s : SF} {k : Int} {P : Bool → Fields → V → Prop} : (∃ b' f old, V.stem b = V.stem b' ∧ (at' g b s).st b' = some f ∧ getF .cursor f = some old ∧ ∃ f' r, (at' g b s).st b' = some f' ∧ f'.length ≤ 100 ∧ augV .sub old (.int k) = some r ∧ P b' f' r) ↔ P b s.f (.int ((s.c : Int) - k)) := by
  constructor
  · rintro ⟨b', f, old, h1, h2, h3, f', r, h4, _, h5, h6⟩
    cases h1
    rw [at_st] at h2 h4; cases h2; cases h4
    rw [get_c] at h3; cases h3
    rw [aug_sub] at h5; cases h5
    exact h6
  · exact fun h => ⟨b, _, _, rfl, at_st _ _ _, get_c _, _, _, at_st _ _ _, f_len _, aug_sub _ _, h⟩

/-- what a continuation of a block is -/
abbrev thenK (C : CT) (r : MSs) (Q : KS) : KS := fun o σ => match o with | .next => awpSs globV clsV C r Q σ | o => Q o σ
section
variable {C : CT} {g : Gl} {b : Bool} {s : SF} {l : List (Option V)} {Q : KS} {r : MSs}
theorem x_nil {σ : St} (k : Q .next σ) : awpSs globV clsV C .nil Q σ := by
  simp only [awpSs]; exact k
theorem x_raise {σ : St} (k : Q .exc σ) : awpSs globV clsV C (.cons .raise r) Q σ := by
  simp only [awpSs, awpS]; exact k
theorem x_retb {σ : St} {v : Bool} (k : Q (.ret (.bool v)) σ) : awpSs globV clsV C (.cons (.ret (.bool v)) r) Q σ := by
  simp only [awpSs, awpS, awpE]; exact k
theorem x_ket (h : (l[0]?).join = some (.stem b)) (k : awpSs globV clsV C r Q ⟨l, at' g b { s with ket := s.c }⟩) : awpSs globV clsV C (.cons (.setAttr (.loc 0) .ket (.attr (.loc 0) .cursor)) r) Q ⟨l, at' g b s⟩ := by
  simp only [awpSs, awpS, awpE, h, Option.some.injEq, exists_eq_left', g_c, ex_stem, s_ket]
  exact k
theorem x_bra (h : (l[0]?).join = some (.stem b)) (k : awpSs globV clsV C r Q ⟨l, at' g b { s with bra := s.c }⟩) : awpSs globV clsV C (.cons (.setAttr (.loc 0) .bra (.attr (.loc 0) .cursor)) r) Q ⟨l, at' g b s⟩ := by
  simp only [awpSs, awpS, awpE, h, Option.some.injEq, exists_eq_left', g_c, ex_stem, s_bra]
  exact k
theorem x_lb {i : Nat} {v : Nat} (h : (l[0]?).join = some (.stem b)) (hi : (l[i]?).join = some (.int v)) (k : awpSs globV clsV C r Q ⟨l, at' g b { s with lb := v }⟩) : awpSs globV clsV C (.cons (.setAttr (.loc 0) .lb (.loc i)) r) Q ⟨l, at' g b s⟩ := by
  simp only [awpSs, awpS, awpE, h, hi, Option.some.injEq, exists_eq_left', ex_stem, s_lb]
  exact k
theorem x_save {i : Nat} (h : (l[0]?).join = some (.stem b)) (k : awpSs globV clsV C r Q ⟨l.set i (some (.int ((s.l : Int) - (s.c : Nat)))), at' g b s⟩) : awpSs globV clsV C (.cons (.assign i (.bin .sub (.attr (.loc 0) .limit) (.attr (.loc 0) .cursor))) r) Q ⟨l, at' g b s⟩ := by
  simp only [awpSs, awpS, awpE, h, Option.some.injEq, exists_eq_left', g_l, g_c, bin_sub]
  exact k
theorem x_back {i : Nat} (L n : Nat) (h : (l[0]?).join = some (.stem b)) (hi : (l[i]?).join = some (.int ((L : Int) - (n : Nat)))) (hL : s.l = L) (k : awpSs globV clsV C r Q ⟨l, at' g b { s with c := n }⟩) : awpSs globV clsV C (.cons (.setAttr (.loc 0) .cursor (.bin .sub (.attr (.loc 0) .limit) (.loc i))) r) Q ⟨l, at' g b s⟩ := by
  subst hL
  simp only [awpSs, awpS, awpE, h, hi, Option.some.injEq, exists_eq_left', g_l, bin_sub, ex_stem, Int.sub_sub_self, s_c]
  exact k
theorem x_dec (h : (l[0]?).join = some (.stem b)) (h1 : 1 ≤ s.c) (k : awpSs globV clsV C r Q ⟨l, at' g b { s with c := s.c - 1 }⟩) : awpSs globV clsV C (.cons (.augAttr (.loc 0) .cursor .sub (.int 1)) r) Q ⟨l, at' g b s⟩ := by
  simp only [awpSs, awpS, awpE, h, Option.some.injEq, exists_eq_left', ex_aug]
  rw [show ((s.c : Int) - 1) = ((s.c - 1 : Nat) : Int) from by omega]
  simp only [s_c]
  exact k
theorem x_eqi {i : Nat} {v n : Int} {A B : MSs} (hi : (l[i]?).join = some (.int v)) (kY : v = n → awpSs globV clsV C A (thenK C r Q) ⟨l, at' g b s⟩) (kN : v ≠ n → awpSs globV clsV C B (thenK C r Q) ⟨l, at' g b s⟩) :
    awpSs globV clsV C (.cons (.ite (.cmp .eq (.loc i) (.int n)) A B) r) Q ⟨l, at' g b s⟩ := by
  simp only [awpSs, awpS, awpT, awpE, hi, Option.some.injEq, exists_eq_left', cmp_eq]
  by_cases h : v = n
  · rw [show (v == n) = true from beq_iff_eq.mpr h]
    exact kY h
  · rw [show (v == n) = false from beq_eq_false_iff_ne.mpr h]
    exact kN h
theorem x_ch {ch : Nat} {A : MSs} (h : (l[0]?).join = some (.stem b)) (hc : s.c ≤ s.cur.length) (hb : s.cur.length ≤ bound)
    (kY : s.lb < s.c → s.cur[s.c - 1]? = some ch → awpSs globV clsV C r Q ⟨l, at' g b s⟩) (kN : (s.lb < s.c → s.cur[s.c - 1]? ≠ some ch) → awpSs globV clsV C A (thenK C r Q) ⟨l, at' g b s⟩) :
    awpSs globV clsV C (.cons (.ite (.or (.cons (.cmp .le (.attr (.loc 0) .cursor) (.attr (.loc 0) .lb)) (.cons (.cmp .ne (.idx (.attr (.loc 0) .current) (.bin .sub (.attr (.loc 0) .cursor) (.int 1))) (.str [ch])) .nil))) A .nil) r) Q ⟨l, at' g b s⟩ := by
  simp only [awpSs, awpS, awpT, awpOr, awpE, h, Option.some.injEq, exists_eq_left', g_c, g_lb, g_cur, cmp_le, bin_sub]
  by_cases hf : s.c ≤ s.lb
  · rw [decide_eq_true (show (s.c : Int) ≤ (s.lb : Int) by omega)]
    exact kN fun q => absurd hf (by omega)
  · rw [decide_eq_false (show ¬ (s.c : Int) ≤ (s.lb : Int) by omega)]
    dsimp only
    obtain ⟨a, ha⟩ : ∃ a, s.cur[s.c - 1]? = some a := ⟨_, List.getElem?_eq_getElem (by omega)⟩
    refine ⟨.str [a], str_at (s.c - 1) (by omega) ha hb, _, rfl, ?_⟩
    by_cases hu : a = ch
    · subst hu
      rw [show (([a] : L) != [a]) = false from by simp]
      exact kY (by omega) ha
    · rw [show (([a] : L) != [ch]) = true from by rw [bne_iff_ne]; intro q; cases q; exact hu rfl]
      exact kN fun _ q => by rw [ha] at q; cases q; exact hu rfl
theorem x_try {A : MSs} {σ : St} (k : awpSs globV clsV C A (fun o σ => match o with | .exc => awpSs globV clsV C r Q σ | o => thenK C r Q o σ) σ) : awpSs globV clsV C (.cons (.tryP A) r) Q σ := by
  simp only [awpSs, awpS]
  exact k
end
section
variable {d : Nat} {g : Gl} {b : Bool} {s : SF} {l : List (Option V)} {Q : KS} {r A : MSs}
/-- a stemmer whose text is `text`, then `tail` -/
structure Wk (s : SF) (text tail : L) (front p1 p2 pv : Nat) : Prop where
  cur : s.cur = text ++ tail
  l : s.l = (text ++ tail).length
  lb : s.lb = front
  p1 : s.p1 = p1
  p2 : s.p2 = p2
  pv : s.pv = pv
theorem x_r2 (h : (l[0]?).join = some (.stem b)) (kY : s.p2 ≤ s.c → awpSs globV clsV (callN globV clsV ftab (d + 1)) r Q ⟨l, at' g b s⟩) (kN : ¬ s.p2 ≤ s.c → awpSs globV clsV (callN globV clsV ftab (d + 1)) A (thenK (callN globV clsV ftab (d + 1)) r Q) ⟨l, at' g b s⟩) :
    awpSs globV clsV (callN globV clsV ftab (d + 1)) (.cons (.ite (.not (.val (.meth 9 (.loc 0) .nil))) A .nil) r) Q ⟨l, at' g b s⟩ := by
  simp only [awpSs, awpS, awpT, awpE, awpEs, h, Option.some.injEq, exists_eq_left', ex_meth]
  refine c_R2 ⟨_, rfl, ?_⟩
  by_cases hp : s.p2 ≤ s.c
  · rw [decide_eq_true hp]
    exact kY hp
  · rw [decide_eq_false hp]
    exact kN hp
theorem x_rv (h : (l[0]?).join = some (.stem b)) (kY : s.pv ≤ s.c → awpSs globV clsV (callN globV clsV ftab (d + 1)) r Q ⟨l, at' g b s⟩) (kN : ¬ s.pv ≤ s.c → awpSs globV clsV (callN globV clsV ftab (d + 1)) A (thenK (callN globV clsV ftab (d + 1)) r Q) ⟨l, at' g b s⟩) :
    awpSs globV clsV (callN globV clsV ftab (d + 1)) (.cons (.ite (.not (.val (.meth 8 (.loc 0) .nil))) A .nil) r) Q ⟨l, at' g b s⟩ := by
  simp only [awpSs, awpS, awpT, awpE, awpEs, h, Option.some.injEq, exists_eq_left', ex_meth]
  refine c_RV ⟨_, rfl, ?_⟩
  by_cases hp : s.pv ≤ s.c
  · rw [decide_eq_true hp]
    exact kY hp
  · rw [decide_eq_false hp]
    exact kN hp
theorem x_from {x text tail : L} {front p1 p2 pv : Nat} (W : Wk s text tail front p1 p2 pv) (h : (l[0]?).join = some (.stem b)) (h1 : s.c ≤ s.bra) (h2 : s.bra < s.ket) (h3 : s.ket = text.length) (hb : (text ++ tail).length + x.length ≤ bound)
    (k : ∀ s', Wk s' (text.take s.bra ++ x) tail front p1 p2 pv → s'.c = s.c → awpSs globV clsV (callN globV clsV ftab (d + 2)) r Q ⟨l, at' g b s'⟩) :
    awpSs globV clsV (callN globV clsV ftab (d + 2)) (.cons (.expr (.meth 6 (.loc 0) (.cons (.str x) .nil))) r) Q ⟨l, at' g b s⟩ := by
  have hl : text.length ≤ (text ++ tail).length := by rw [List.length_append]; omega
  simp only [awpSs, awpS, awpE, awpEs, h, Option.some.injEq, exists_eq_left', ex_meth]
  refine c_from h1 h2 (by rw [W.l]; omega) (by rw [W.l, W.cur]) (by rw [W.cur]; exact hb) fun v => k _ ⟨?_, ?_, W.lb, W.p1, W.p2, W.pv⟩ rfl
  · show s.cur.take s.bra ++ x ++ s.cur.drop s.ket = _
    rw [W.cur, h3, List.drop_left, List.take_append_of_le_length (by omega)]
  · show s.l + x.length - (s.ket - s.bra) = _
    rw [W.l, h3, List.length_append, List.length_append, List.length_append, List.length_take]
    omega
theorem x_del {text tail : L} {front p1 p2 pv : Nat} (W : Wk s text tail front p1 p2 pv) (h : (l[0]?).join = some (.stem b)) (h1 : s.c ≤ s.bra) (h2 : s.bra < s.ket) (h3 : s.ket = text.length) (hb : (text ++ tail).length ≤ bound)
    (k : ∀ s', Wk s' (text.take s.bra) tail front p1 p2 pv → s'.c = s.c → awpSs globV clsV (callN globV clsV ftab (d + 3)) r Q ⟨l, at' g b s'⟩) :
    awpSs globV clsV (callN globV clsV ftab (d + 3)) (.cons (.expr (.meth 7 (.loc 0) .nil)) r) Q ⟨l, at' g b s⟩ := by
  have hl : text.length ≤ (text ++ tail).length := by rw [List.length_append]; omega
  simp only [awpSs, awpS, awpE, awpEs, h, Option.some.injEq, exists_eq_left', ex_meth]
  refine c_del h1 h2 (by rw [W.l]; omega) (by rw [W.l, W.cur]) (by rw [W.cur]; exact hb) fun v => k _ ⟨?_, ?_, W.lb, W.p1, W.p2, W.pv⟩ rfl
  · show s.cur.take s.bra ++ [] ++ s.cur.drop s.ket = _
    rw [W.cur, h3, List.drop_left, List.take_append_of_le_length (by omega), List.append_nil]
  · show s.l + ([] : L).length - (s.ket - s.bra) = _
    rw [W.l, h3, List.length_append, List.length_append, List.length_take, List.length_nil]
    omega
/-- find_among_b, its answer kept -/
theorem x_find {i k : Nat} {t : Tab} (hk : clsV k = tabV t) (G : GoodT t) (h : (l[0]?).join = some (.stem b)) (h1 : s.lb ≤ s.c) (h2 : s.c ≤ s.cur.length) (h3 : s.cur.length ≤ bound)
    (kY : ∀ en ∈ t, en.1 <:+ s.w → (∀ e' ∈ t, e'.1 <:+ s.w → e'.1 <:+ en.1) → awpSs globV clsV (callN globV clsV ftab (d + 1)) r Q ⟨l.set i (some (.int en.2.2)), at' g b { s with c := s.c - en.1.length }⟩)
    (kN : (∀ e' ∈ t, ¬ e'.1 <:+ s.w) → awpSs globV clsV (callN globV clsV ftab (d + 1)) r Q ⟨l.set i (some (.int 0)), at' g b s⟩) :
    awpSs globV clsV (callN globV clsV ftab (d + 1)) (.cons (.assign i (.meth 4 (.loc 0) (.cons (.cls k) .nil))) r) Q ⟨l, at' g b s⟩ := by
  simp only [awpSs, awpS, awpE, awpEs, h, Option.some.injEq, exists_eq_left', ex_meth, hk]
  exact c_find G h1 h2 h3 kY kN
/-- find_among_b, its answer asked for 0 -/
theorem x_find0 {k : Nat} {t : Tab} (hk : clsV k = tabV t) (G : GoodT t) (h : (l[0]?).join = some (.stem b)) (h1 : s.lb ≤ s.c) (h2 : s.c ≤ s.cur.length) (h3 : s.cur.length ≤ bound) (hn : ∀ en ∈ t, en.2.2 ≠ 0)
    (kY : ∀ en ∈ t, en.1 <:+ s.w → (∀ e' ∈ t, e'.1 <:+ s.w → e'.1 <:+ en.1) → awpSs globV clsV (callN globV clsV ftab (d + 1)) r Q ⟨l, at' g b { s with c := s.c - en.1.length }⟩)
    (kN : (∀ e' ∈ t, ¬ e'.1 <:+ s.w) → awpSs globV clsV (callN globV clsV ftab (d + 1)) A (thenK (callN globV clsV ftab (d + 1)) r Q) ⟨l, at' g b s⟩) :
    awpSs globV clsV (callN globV clsV ftab (d + 1)) (.cons (.ite (.cmp .eq (.meth 4 (.loc 0) (.cons (.cls k) .nil)) (.int 0)) A .nil) r) Q ⟨l, at' g b s⟩ := by
  simp only [awpSs, awpS, awpT, awpE, awpEs, h, Option.some.injEq, exists_eq_left', ex_meth, hk]
  refine c_find G h1 h2 h3 (fun en hen hs hmax => ?_) (fun hno => ?_)
  · simp only [cmp_eq, Option.some.injEq, exists_eq_left']
    rw [show (en.2.2 == 0) = false from beq_eq_false_iff_ne.mpr (hn en hen)]
    exact kY en hen hs hmax
  · simp only [cmp_eq, Option.some.injEq, exists_eq_left']
    rw [show ((0 : Int) == 0) = true from rfl]
    exact kN hno
theorem x_eqs {x : L} (h : (l[0]?).join = some (.stem b)) (hx : x.length ≤ bound) (h1 : s.lb ≤ s.c) (h2 : s.c ≤ s.cur.length) (h3 : s.cur.length ≤ bound)
    (kY : x <:+ s.w → awpSs globV clsV (callN globV clsV ftab (d + 1)) r Q ⟨l, at' g b { s with c := s.c - x.length }⟩)
    (kN : ¬ x <:+ s.w → awpSs globV clsV (callN globV clsV ftab (d + 1)) A (thenK (callN globV clsV ftab (d + 1)) r Q) ⟨l, at' g b s⟩) :
    awpSs globV clsV (callN globV clsV ftab (d + 1)) (.cons (.ite (.not (.val (.meth 3 (.loc 0) (.cons (.str x) .nil)))) A .nil) r) Q ⟨l, at' g b s⟩ := by
  simp only [awpSs, awpS, awpT, awpE, awpEs, h, Option.some.injEq, exists_eq_left', ex_meth]
  exact c_eq hx h3 h1 h2 (fun q => ⟨_, rfl, kY q⟩) (fun q => ⟨_, rfl, kN q⟩)
end
end Mine

-- MV2
namespace Mine
set_option maxRecDepth 100000
set_option maxHeartbeats 1000000
set_option linter.unusedVariables false
theorem suf2 {α : Type} {a b : α} {l : List α} : [a, b] <:+ l ↔ 2 ≤ l.length ∧ l[l.length - 2]? = some a ∧ l[l.length - 1]? = some b := by
  constructor
  · rintro ⟨t, rfl⟩
    refine ⟨by simp, ?_, ?_⟩
    · rw [List.length_append, List.getElem?_append_right (by simp)]
      simp
    · rw [List.length_append, List.getElem?_append_right (by simp)]
      simp
  · rintro ⟨h, h1, h2⟩
    refine ⟨l.take (l.length - 2), ?_⟩
    have e : l.drop (l.length - 2) = [a, b] := by
      apply List.ext_getElem?
      intro i
      rw [List.getElem?_drop]
      match i with
      | 0 => simpa using h1
      | 1 => rw [show l.length - 2 + 1 = l.length - 1 from by omega]; simpa using h2
      | i + 2 => rw [List.getElem?_eq_none (by omega)]; simp
    rw [← e, List.take_append_drop]
theorem gu_iff {text : L} {at_ front : Nat} (h : at_ ≤ text.length) : [103, 117] <:+ (text.take at_).drop front ↔ front + 2 ≤ at_ ∧ text[at_ - 2]? = some 103 ∧ text[at_ - 1]? = some 117 := by
  rw [suf2]
  have hl : ((text.take at_).drop front).length = at_ - front := by rw [List.length_drop, List.length_take]; omega
  rw [hl]
  constructor
  · rintro ⟨h0, h1, h2⟩
    rw [List.getElem?_drop, List.getElem?_take_of_lt (by omega)] at h1 h2
    rw [show front + (at_ - front - 2) = at_ - 2 from by omega] at h1
    rw [show front + (at_ - front - 1) = at_ - 1 from by omega] at h2
    exact ⟨by omega, h1, h2⟩
  · rintro ⟨h0, h1, h2⟩
    rw [List.getElem?_drop, List.getElem?_take_of_lt (by omega), List.getElem?_drop, List.getElem?_take_of_lt (by omega)]
    rw [show front + (at_ - front - 2) = at_ - 2 from by omega, show front + (at_ - front - 1) = at_ - 1 from by omega]
    exact ⟨by omega, h1, h2⟩
theorem good_8 : GoodT tab8 := goodT good8
theorem cls8 : clsV 8 = tabV tab8 := rfl
def m13T : MSs := (.cons (.setAttr (.loc 0) .ket (.attr (.loc 0) .cursor))
  (.cons (.assign 2 (.meth 4 (.loc 0) (.cons (.cls 8) .nil)))
  (.cons (.ite (.cmp .eq (.loc 2) (.int 0)) (.cons (.setAttr (.loc 0) .lb (.loc 1))
  (.cons (.ret (.bool false))
  .nil)) .nil)
  (.cons (.setAttr (.loc 0) .bra (.attr (.loc 0) .cursor))
  (.cons (.setAttr (.loc 0) .lb (.loc 1))
  (.cons (.ite (.cmp .eq (.loc 2) (.int 1)) (.cons (.assign 3 (.bin .sub (.attr (.loc 0) .limit) (.attr (.loc 0) .cursor)))
  (.cons (.tryP (.cons (.ite (.or (.cons (.cmp .le (.attr (.loc 0) .cursor) (.attr (.loc 0) .lb)) (.cons (.cmp .ne (.idx (.attr (.loc 0) .current) (.bin .sub (.attr (.loc 0) .cursor) (.int 1))) (.str [117])) .nil))) (.cons (.setAttr (.loc 0) .cursor (.bin .sub (.attr (.loc 0) .limit) (.loc 3)))
  (.cons .raise
  .nil)) .nil)
  (.cons (.augAttr (.loc 0) .cursor .sub (.int 1))
  (.cons (.assign 4 (.bin .sub (.attr (.loc 0) .limit) (.attr (.loc 0) .cursor)))
  (.cons (.ite (.or (.cons (.cmp .le (.attr (.loc 0) .cursor) (.attr (.loc 0) .lb)) (.cons (.cmp .ne (.idx (.attr (.loc 0) .current) (.bin .sub (.attr (.loc 0) .cursor) (.int 1))) (.str [103])) .nil))) (.cons (.setAttr (.loc 0) .cursor (.bin .sub (.attr (.loc 0) .limit) (.loc 3)))
  (.cons .raise
  .nil)) .nil)
  (.cons (.augAttr (.loc 0) .cursor .sub (.int 1))
  (.cons (.setAttr (.loc 0) .cursor (.bin .sub (.attr (.loc 0) .limit) (.loc 4)))
  .nil)))))))
  (.cons (.setAttr (.loc 0) .bra (.attr (.loc 0) .cursor))
  (.cons (.expr (.meth 7 (.loc 0) .nil))
  .nil)))) (.cons (.expr (.meth 7 (.loc 0) .nil))
  .nil))
  (.cons (.ret (.bool true))
  .nil)))))))
theorem m13_eq : m13 = (.cons (.ite (.cmp .lt (.attr (.loc 0) .cursor) (.attr (.loc 0) .pV)) (.cons (.ret (.bool false))
  .nil) .nil)
  (.cons (.assign 1 (.attr (.loc 0) .lb))
  (.cons (.setAttr (.loc 0) .lb (.attr (.loc 0) .pV))
  m13T))) := rfl
theorem c_rverb {d : Nat} {g : Gl} {b : Bool} {s : SF} {text tail : L} {front p1 p2 pv : Nat} (St : Start s text tail front p1 p2 pv) (hft : front ≤ text.length) (hb : (text ++ tail).length ≤ bound) {ans : Bool} {out : L} (H : VSpec text front pv ans out) {Q : V → Gl → Prop}
    (hQ : ∀ s', Wk s' out tail front p1 p2 pv → Q (.bool ans) (at' g b s')) : callN globV clsV ftab (d + 4) 13 [.stem b] Q (at' g b s) := by
  refine ⟨fd13, rfl, rfl, ?_⟩
  show awpSs globV clsV (callN globV clsV ftab (d + 3)) m13 _ ⟨[some (.stem b), none, none, none, none], at' g b s⟩
  rw [m13_eq]
  have hcl : text.length ≤ (text ++ tail).length := by rw [List.length_append]; omega
  obtain ⟨e, p, B, hcase⟩ := H
  generalize hM : m13T = M
  simp only [awpSs, awpS, awpE, awpEs, awpT, awpOr, List.set_cons_succ, List.set_cons_zero, List.getElem?_cons_succ, List.getElem?_cons_zero, Option.join_some, Option.some.injEq, exists_eq_left', g_c, g_pv, g_lb, cmp_lt]
  by_cases hlt : s.c < s.pv
  · rw [decide_eq_true (show (s.c : Int) < (s.pv : Int) by omega)]
    have he : text.drop pv = [] := List.drop_eq_nil_of_le (by rw [St.c, St.pv] at hlt; omega)
    have hno : e = [] ∧ p = -1 := by
      rcases B with ⟨rfl, rfl, _⟩ | ⟨b1, b2, _⟩
      · exact ⟨rfl, rfl⟩
      · rw [he] at b2
        exact absurd (List.suffix_nil.mp b2) b1
    obtain ⟨rfl, rfl⟩ := hno
    rcases hcase with ⟨_, rfl, rfl⟩ | ⟨q, _⟩ | ⟨q, _⟩
    · exact hQ s ⟨St.cur, St.l, St.lb, St.p1, St.p2, St.pv⟩
    · exact absurd q (by decide)
    · exact absurd q (by decide)
  rw [decide_eq_false (show ¬ (s.c : Int) < (s.pv : Int) by omega)]
  dsimp only
  simp only [ex_stem, s_lb]
  subst hM
  have M := match_of mt8
  have hcur : s.cur.length ≤ bound := by rw [St.cur]; exact hb
  have hcc : s.c ≤ s.cur.length := by rw [St.cur, St.c]; exact hcl
  have hw : ({ s with lb := s.pv, ket := s.c } : SF).w = text.drop pv := by
    show (s.cur.take s.c).drop s.pv = _
    rw [St.cur, St.c, St.pv, List.take_left]
  have hsc := St.c
  refine x_ket rfl (x_find (k := 8) (d := d + 2) rfl good_8 rfl (by dsimp only; omega) hcc hcur (fun en hen hs hmax => ?_) (fun hno => ?_))
  · rw [hw] at hs hmax
    obtain ⟨rfl, k, rfl, hrel, hk⟩ := agree_hit M hen hs hmax B
    have hr1 : en.2.2 = (k : Int) + 1 := by
      simp only [relPlus, beq_iff_eq] at hrel
      exact hrel
    have hle : en.1.length ≤ text.length - pv := by have := hs.length_le; rw [List.length_drop] at this; exact this
    have hne := M.ne en hen
    have hpos : 0 < en.1.length := List.length_pos_iff.mpr hne
    rw [hr1]
    refine x_eqi rfl (fun q => absurd q (by omega)) fun _ => x_nil ?_
    refine x_bra rfl (x_lb (v := s.lb) rfl rfl ?_)
    have hG := gu_iff (front := front) (show text.length - en.1.length ≤ text.length by omega)
    have hdel : ∀ (lc : List (Option V)) (n : Nat), (lc[0]?).join = some (V.stem b) → n ≤ s.c - en.1.length → out = text.take n → ans = true →
        awpSs globV clsV (callN globV clsV ftab (d + 3)) (.cons (.expr (.meth 7 (.loc 0) .nil)) .nil) (thenK (callN globV clsV ftab (d + 3)) (.cons (.ret (.bool true)) .nil) (fun o σ => match o with | .ret v => Q v σ.g | .next => Q .none σ.g | _ => False)) ⟨lc, at' g b { s with c := n, bra := n, ket := s.c }⟩ := by
      intro lc n h0 hn hout rfl
      refine x_del (text := text) (tail := tail) (front := front) (p1 := p1) (p2 := p2) (pv := pv) ⟨St.cur, St.l, St.lb, St.p1, St.p2, St.pv⟩ h0 (by dsimp only; omega) (by dsimp only; omega) hsc hb fun s' W _ => ?_
      subst hout
      exact x_nil (x_retb (hQ s' W))
    have hyes : k = 0 → [103, 117] <:+ (text.take (text.length - en.1.length)).drop front → ans = true ∧ out = text.take (s.c - en.1.length - 1) := by
      rw [hsc]
      rintro rfl hgu
      rcases hcase with ⟨q, _⟩ | ⟨_, _, a, b⟩ | ⟨_, q, _⟩
      · exact absurd q (by decide)
      · exact ⟨a, b⟩
      · exact absurd ⟨rfl, hgu⟩ q
    have hnot : (k = 0 → ¬ [103, 117] <:+ (text.take (text.length - en.1.length)).drop front) → ans = true ∧ out = text.take (s.c - en.1.length) := by
      rw [hsc]
      intro hn
      rcases hcase with ⟨q, _⟩ | ⟨q0, q1, _⟩ | ⟨_, _, a, b⟩
      · exact absurd q (by omega)
      · exact absurd q1 (hn (by omega))
      · exact ⟨a, b⟩
    rw [hG, ← hsc] at hyes hnot
    have hidx : ∀ i, i < text.length → s.cur[i]? = text[i]? := fun i hi => by rw [St.cur, List.getElem?_append_left hi]
    have hlb := St.lb
    refine x_eqi rfl (fun hk0 => ?_) (fun hk0 => ?_)
    · have hk1 : k = 0 := by omega
      refine x_save rfl (x_try ?_)
      refine x_ch rfl (by dsimp only; omega) hcur (fun u1 u2 => ?_) (fun u => ?_)
      · dsimp only at u1 u2
        refine x_dec rfl (by dsimp only; omega) (x_save rfl ?_)
        refine x_ch rfl (by dsimp only; omega) hcur (fun v1 v2 => ?_) (fun v => ?_)
        · dsimp only at v1 v2
          rw [hidx _ (by omega)] at u2 v2
          obtain ⟨a1, a2⟩ := hyes hk1 ⟨by omega, by rw [← v2]; congr 1, u2⟩
          refine x_dec rfl (by dsimp only; omega) (x_back (i := 4) s.l (s.c - en.1.length - 1) rfl rfl rfl (x_nil (x_bra rfl ?_)))
          exact hdel _ (s.c - en.1.length - 1) rfl (by omega) a2 a1
        · dsimp only at v
          obtain ⟨a1, a2⟩ := hnot fun _ q => by
            refine v (by omega) ?_
            rw [hidx _ (by omega), ← q.2.1]; congr 1
          refine x_back (i := 3) s.l (s.c - en.1.length) rfl rfl rfl (x_raise (x_bra rfl ?_))
          exact hdel _ (s.c - en.1.length) rfl (by omega) a2 a1
      · dsimp only at u
        obtain ⟨a1, a2⟩ := hnot fun _ q => by
          refine u (by omega) ?_
          rw [hidx _ (by omega)]; exact q.2.2
        refine x_back (i := 3) s.l (s.c - en.1.length) rfl rfl rfl (x_raise (x_bra rfl ?_))
        exact hdel _ (s.c - en.1.length) rfl (by omega) a2 a1
    · obtain ⟨a1, a2⟩ := hnot fun q => absurd hk0 (by omega)
      exact hdel _ (s.c - en.1.length) rfl (by omega) a2 a1
  · rw [hw] at hno
    obtain ⟨rfl, rfl⟩ := agree_miss M hno B
    refine x_eqi rfl (fun _ => ?_) (fun q => absurd rfl q)
    refine x_lb (v := s.lb) rfl rfl (x_retb ?_)
    rcases hcase with ⟨_, rfl, rfl⟩ | ⟨q, _⟩ | ⟨q, _⟩
    · exact hQ _ ⟨St.cur, St.l, St.lb, St.p1, St.p2, St.pv⟩
    · exact absurd q (by decide)
    · exact absurd q (by decide)
end Mine

-- MR
namespace Mine
set_option maxRecDepth 100000
set_option maxHeartbeats 1000000
set_option linter.unusedVariables false

theorem Start.wk {s : SF} {text tail : L} {front p1 p2 pv : Nat} (S : Start s text tail front p1 p2 pv) : Wk s text tail front p1 p2 pv := ⟨S.cur, S.l, S.lb, S.p1, S.p2, S.pv⟩
theorem wk_w {s : SF} {text tail : L} {front p1 p2 pv : Nat} (W : Wk s text tail front p1 p2 pv) (hc : s.c = text.length) : s.w = text.drop front := by
  unfold SF.w
  rw [W.cur, hc, W.lb, List.take_left]
theorem wk_le {s : SF} {text tail : L} {front p1 p2 pv : Nat} (W : Wk s text tail front p1 p2 pv) {n : Nat} (hc : n ≤ text.length) : n ≤ s.cur.length := by
  rw [W.cur, List.length_append]; omega
theorem wk_idx {s : SF} {text tail : L} {front p1 p2 pv : Nat} (W : Wk s text tail front p1 p2 pv) {i : Nat} (h : i < text.length) : s.cur[i]? = text[i]? := by
  rw [W.cur, List.getElem?_append_left h]

/-- what _law_residual says -/
def RSpec (text : L) (front pv : Nat) (ans : Bool) (out : L) : Prop :=
  ∃ e p, Best [resids.take 6, resids.drop 6] (text.drop front) [resids.take 6, resids.drop 6].flatten e p ∧
    ((¬ (0 ≤ p ∧ pv ≤ text.length - e.length) ∧ ans = false ∧ out = text) ∨
     ((0 ≤ p ∧ pv ≤ text.length - e.length) ∧ (p = 1 ∧ [103, 117] <:+ (text.take (text.length - e.length)).drop front ∧ pv + 1 ≤ text.length - e.length) ∧ ans = true ∧ out = text.take (text.length - e.length - 1)) ∨
     ((0 ≤ p ∧ pv ≤ text.length - e.length) ∧ ¬ (p = 1 ∧ [103, 117] <:+ (text.take (text.length - e.length)).drop front ∧ pv + 1 ≤ text.length - e.length) ∧ ans = true ∧ out = text.take (text.length - e.length)))
theorem res_a : sliceV resV none (some 6) = some (rowV (resids.take 6)) := by kernel_rfl
theorem res_b : sliceV resV (some 6) none = some (rowV (resids.drop 6)) := by kernel_rfl
section
variable {d : Nat} {g : Gl} {Q : V → Gl → Prop}
theorem c_lawr {text : L} {front pv : Nat} (ht : text.length ≤ bound) (hQ : ∀ ans out, RSpec text front pv ans out → Q (.list [.bool ans, .str out]) g) : callN globV clsV ftab (d + 2) 29 [.str text, .int front, .int pv] Q g := by
  refine ⟨fd29, rfl, rfl, ?_⟩
  show awpSs globV clsV (callN globV clsV ftab (d + 1)) m29 _ ⟨[some (.str text), some (.int front), some (.int pv), none, none, none, none], g⟩
  have hb2 : 2 ≤ bound := by unfold bound; omega
  simp only [m29, awpSs, awpS, awpE, awpEs, awpT, awpAnd, awpOr, List.set_cons_succ, List.set_cons_zero, List.getElem?_cons_succ, List.getElem?_cons_zero, Option.join_some, Option.some.injEq, exists_eq_left']
  refine c_res ⟨6, _, rfl, res_a, c_res ⟨6, _, rfl, res_b, hb2, c_longest (rs := [resids.take 6, resids.drop 6]) ht (small_rows (by kernel_rfl)) (by decide) fun e p B => ⟨[.str e, .int p], _, rfl, rfl, ?_⟩⟩⟩
  have hl := best_len B
  rw [List.length_drop] at hl
  have hsub : ((text.length : Int) - (e.length : Int)) = ((text.length - e.length : Nat) : Int) := by omega
  simp only [List.set_cons_succ, List.set_cons_zero, List.getElem?_cons_succ, List.getElem?_cons_zero, Option.join_some, Option.some.injEq, exists_eq_left', len_s ht, len_s (show e.length ≤ bound by omega), bin_sub, cmp_lt, cmp_gt, cmp_le, cmp_eq, hsub]
  refine ⟨_, _, rfl, sl_hi ht _, ?_⟩
  have hhl : (text.take (text.length - e.length)).length = text.length - e.length := by rw [List.length_take]; omega
  by_cases hp : p < 0
  · rw [decide_eq_true hp]
    exact ⟨hb2, hQ _ _ ⟨e, p, B, .inl ⟨by omega, rfl, rfl⟩⟩⟩
  rw [decide_eq_false hp]
  dsimp only
  by_cases hv : text.length - e.length < pv
  · rw [decide_eq_true (show (pv : Int) > ((text.length - e.length : Nat) : Int) by omega)]
    exact ⟨hb2, hQ _ _ ⟨e, p, B, .inl ⟨by omega, rfl, rfl⟩⟩⟩
  rw [decide_eq_false (show ¬ (pv : Int) > ((text.length - e.length : Nat) : Int) by omega)]
  dsimp only
  by_cases h0 : p = 1
  · rw [show (p == 1) = true from beq_iff_eq.mpr h0]
    dsimp only
    refine ⟨front, _, rfl, sl_lo (by omega) _, _, rfl, ?_⟩
    by_cases hgu : [103, 117] <:+ (text.take (text.length - e.length)).drop front
    · refine ⟨_, rfl, true, by rw [decide_eq_true hgu]; rfl, ?_⟩
      dsimp only
      by_cases hv2 : pv + 1 ≤ text.length - e.length
      · rw [decide_eq_true (show (pv : Int) ≤ ((text.length - e.length : Nat) : Int) - 1 by omega)]
        refine ⟨1, rfl, -1, _, rfl, sl_m1 (by omega), hb2, ?_⟩
        refine hQ _ _ ⟨e, p, B, .inr (.inl ⟨by omega, ⟨h0, hgu, hv2⟩, rfl, ?_⟩)⟩
        rw [hhl, List.take_take, Nat.min_eq_left (by omega)]
      · rw [decide_eq_false (show ¬ (pv : Int) ≤ ((text.length - e.length : Nat) : Int) - 1 by omega)]
        exact ⟨hb2, hQ _ _ ⟨e, p, B, .inr (.inr ⟨by omega, fun q => hv2 q.2.2, rfl, rfl⟩)⟩⟩
    · refine ⟨_, rfl, false, by rw [decide_eq_false hgu]; rfl, ?_⟩
      dsimp only
      exact ⟨hb2, hQ _ _ ⟨e, p, B, .inr (.inr ⟨by omega, fun q => hgu q.2.1, rfl, rfl⟩)⟩⟩
  · rw [show (p == 1) = false from beq_eq_false_iff_ne.mpr h0]
    exact ⟨hb2, hQ _ _ ⟨e, p, B, .inr (.inr ⟨by omega, fun q => h0 q.1, rfl, rfl⟩)⟩⟩
end
theorem good_9 : GoodT tab9 := goodT good9

theorem c_rres {d : Nat} {g : Gl} {b : Bool} {s : SF} {text tail : L} {front p1 p2 pv : Nat} (St : Start s text tail front p1 p2 pv) (hft : front ≤ text.length) (hb : (text ++ tail).length ≤ bound) {ans : Bool} {out : L} (H : RSpec text front pv ans out) {Q : V → Gl → Prop}
    (hQ : ∀ s', Wk s' out tail front p1 p2 pv → Q (.bool ans) (at' g b s')) : callN globV clsV ftab (d + 4) 14 [.stem b] Q (at' g b s) := by
  refine ⟨fd14, rfl, rfl, ?_⟩
  show awpSs globV clsV (callN globV clsV ftab (d + 3)) m14 _ ⟨[some (.stem b), none, none, none], at' g b s⟩
  obtain ⟨e, p, B, hcase⟩ := H
  have M := match_of mt9
  have hcl : text.length ≤ (text ++ tail).length := by rw [List.length_append]; omega
  have hcur : s.cur.length ≤ bound := by rw [St.cur]; exact hb
  have hsc := St.c
  have hlb := St.lb
  have hpv := St.pv
  have hcc : s.c ≤ s.cur.length := by rw [hsc]; exact wk_le St.wk (Nat.le_refl _)
  have W0 : ∀ k, Wk { s with ket := k } text tail front p1 p2 pv := fun k => ⟨St.cur, St.l, St.lb, St.p1, St.p2, St.pv⟩
  have W1 : ∀ c k br, Wk { s with c := c, ket := k, bra := br } text tail front p1 p2 pv := fun c k br => ⟨St.cur, St.l, St.lb, St.p1, St.p2, St.pv⟩
  have hw := wk_w (W0 s.c) hsc
  refine x_ket rfl (x_find (k := 9) (d := d + 2) rfl good_9 rfl (by dsimp only; omega) hcc hcur (fun en hen hs hmax => ?_) (fun hno => ?_))
  · rw [hw] at hs hmax
    obtain ⟨rfl, k, rfl, hrel, hk⟩ := agree_hit M hen hs hmax B
    have hr1 : en.2.2 = (k : Int) + 1 := by
      simp only [relPlus, beq_iff_eq] at hrel
      exact hrel
    have hle : en.1.length ≤ text.length - front := by have := hs.length_le; rw [List.length_drop] at this; exact this
    have hk2 : k < 2 := hk
    have hne := M.ne en hen
    have hpos : 0 < en.1.length := List.length_pos_iff.mpr hne
    rw [hr1]
    refine x_eqi rfl (fun q => absurd q (by omega)) fun _ => x_nil ?_
    refine x_bra rfl ?_
    have hG := gu_iff (front := front) (show text.length - en.1.length ≤ text.length by omega)
    rw [hG] at hcase
    refine x_eqi rfl (fun hk0 => ?_) (fun hk0 => ?_)
    · refine x_rv (d := d + 2) rfl (fun hv => ?_) (fun hv => ?_)
      · dsimp only at hv
        refine x_del (d := d) (W1 _ _ _) rfl (by dsimp only; omega) (by dsimp only; omega) hsc hb fun s' W _ => x_nil (x_retb ?_)
        dsimp only at W
        rw [hsc] at W
        rcases hcase with ⟨q, _⟩ | ⟨_, q, _⟩ | ⟨_, _, rfl, rfl⟩
        · exact absurd q (by omega)
        · exact absurd q.1 (by omega)
        · exact hQ s' W
      · dsimp only at hv
        rcases hcase with ⟨_, rfl, rfl⟩ | ⟨q, _⟩ | ⟨q, _⟩
        · exact x_retb (hQ _ (W1 _ _ _))
        · exact absurd q.2 (by omega)
        · exact absurd q.2 (by omega)
    · refine x_rv (d := d + 2) rfl (fun hv => ?_) (fun hv => ?_)
      · dsimp only at hv
        refine x_del (d := d) (W1 _ _ _) rfl (by dsimp only; omega) (by dsimp only; omega) hsc hb fun s' W hc' => ?_
        dsimp only at W hc'
        rw [hsc] at W hc'
        generalize hat : text.length - en.1.length = at_ at *
        have htl : (text.take at_).length = at_ := by rw [List.length_take]; omega
        have hb' : (text.take at_ ++ tail).length ≤ bound := by rw [List.length_append, htl]; rw [List.length_append] at hb; omega
        have hcur' : s'.cur.length ≤ bound := by rw [W.cur]; exact hb'
        have hlen' : s'.c ≤ s'.cur.length := by rw [hc']; exact wk_le W (by omega)
        have hlb' := W.lb
        have hpv' := W.pv
        have hidx : ∀ i, i < at_ → s'.cur[i]? = text[i]? := fun i hi => by rw [wk_idx W (by omega), List.getElem?_take_of_lt hi]
        have W2 : ∀ c k br, Wk { s' with c := c, ket := k, bra := br } (text.take at_) tail front p1 p2 pv := fun c k br => ⟨W.cur, W.l, W.lb, W.p1, W.p2, W.pv⟩
        have hno : ¬ ((k : Int) = 1 ∧ (front + 2 ≤ at_ ∧ text[at_ - 2]? = some 103 ∧ text[at_ - 1]? = some 117) ∧ pv + 1 ≤ at_) → ans = true ∧ out = text.take at_ := fun q => by
          rcases hcase with ⟨q2, _⟩ | ⟨_, q2, _⟩ | ⟨_, _, a1, a2⟩
          · exact absurd q2 (by omega)
          · exact absurd q2 q
          · exact ⟨a1, a2⟩
        refine x_save rfl (x_try (x_ket rfl ?_))
        refine x_ch rfl hlen' hcur' (fun u1 u2 => ?_) (fun u => ?_)
        · dsimp only at u1 u2
          refine x_dec rfl (by dsimp only; omega) (x_bra rfl (x_save rfl ?_))
          refine x_ch rfl (by dsimp only; omega) hcur' (fun v1 v2 => ?_) (fun v => ?_)
          · dsimp only at v1 v2
            refine x_dec rfl (by dsimp only; omega) (x_back (i := 3) s'.l (s'.c - 1) rfl rfl rfl ?_)
            rw [hidx _ (by omega)] at u2 v2
            refine x_rv (d := d + 2) rfl (fun w => ?_) (fun w => ?_)
            · dsimp only at w
              refine x_del (d := d) (text := text.take at_) (tail := tail) (front := front) (p1 := p1) (p2 := p2) (pv := pv) ⟨W.cur, W.l, W.lb, W.p1, W.p2, W.pv⟩ rfl (by dsimp only; omega) (by dsimp only; omega) (by dsimp only; omega) hb' fun s'' W'' _ => x_nil (x_nil (x_retb ?_))
              dsimp only at W''
              rw [List.take_take, Nat.min_eq_left (by omega), hc'] at W''
              rcases hcase with ⟨q, _⟩ | ⟨_, _, rfl, rfl⟩ | ⟨_, q, _⟩
              · exact absurd q (by omega)
              · exact hQ _ W''
              · refine absurd ⟨by omega, ⟨by omega, ?_, ?_⟩, by omega⟩ q
                · rw [← v2]; congr 1; omega
                · rw [← u2, hc']
            · dsimp only at w
              obtain ⟨a1, a2⟩ := hno fun q => by
                have := q.2.2
                omega
              subst a1 a2
              exact x_back (i := 2) s'.l s'.c rfl rfl rfl (x_raise (x_nil (x_retb (hQ _ ⟨W.cur, W.l, W.lb, W.p1, W.p2, W.pv⟩))))
          · dsimp only at v
            obtain ⟨a1, a2⟩ := hno fun q => by
              refine v (by omega) ?_
              rw [hidx _ (by omega), ← q.2.1.2.1]; congr 1; omega
            subst a1 a2
            exact x_back (i := 2) s'.l s'.c rfl rfl rfl (x_raise (x_nil (x_retb (hQ _ ⟨W.cur, W.l, W.lb, W.p1, W.p2, W.pv⟩))))
        · dsimp only at u
          obtain ⟨a1, a2⟩ := hno fun q => by
            refine u (by omega) ?_
            rw [hidx _ (by omega), ← q.2.1.2.2, hc']
          subst a1 a2
          exact x_back (i := 2) s'.l s'.c rfl rfl rfl (x_raise (x_nil (x_retb (hQ _ ⟨W.cur, W.l, W.lb, W.p1, W.p2, W.pv⟩))))
      · dsimp only at hv
        rcases hcase with ⟨_, rfl, rfl⟩ | ⟨q, _⟩ | ⟨q, _⟩
        · exact x_retb (hQ _ (W1 _ _ _))
        · exact absurd q.2 (by omega)
        · exact absurd q.2 (by omega)
  · rw [hw] at hno
    obtain ⟨rfl, rfl⟩ := agree_miss M hno B
    refine x_eqi rfl (fun _ => ?_) (fun q => absurd rfl q)
    rcases hcase with ⟨_, rfl, rfl⟩ | ⟨q, _⟩ | ⟨q, _⟩
    · exact x_retb (hQ _ (W0 _))
    · exact absurd q.1 (by decide)
    · exact absurd q.1 (by decide)
end Mine

-- MP
namespace Mine
set_option maxRecDepth 100000
set_option maxHeartbeats 1000000
set_option linter.unusedVariables false

def alts : List L := [[105, 101, 110, 100, 111], [97, 110, 100, 111], [97, 114], [101, 114], [105, 114]]
/-- what _law_pronoun says -/
def PSpec (text : L) (front pv : Nat) (ans : Bool) (out : L) : Prop :=
  ∃ (e : L) (p : Int) (e2 : L) (k : Int), Best [prons] (text.drop front) [prons].flatten e p ∧ Best verbRows ((text.take (text.length - e.length)).drop front) verbRows.flatten e2 k ∧
    ((¬ (0 ≤ p ∧ 0 ≤ k ∧ pv ≤ text.length - e.length - e2.length) ∧ ans = false ∧ out = text) ∨
     ((0 ≤ p ∧ 0 ≤ k ∧ pv ≤ text.length - e.length - e2.length) ∧
       ((∃ (m : Nat) (y : L), k = (m : Int) ∧ alts[m]? = some y ∧ ans = true ∧ out = text.take (text.length - e.length - e2.length) ++ y) ∨
        ((k = 5 ∨ (5 < k ∧ front < text.length - e.length - e2.length ∧ text[text.length - e.length - e2.length - 1]? = some 117)) ∧ ans = true ∧ out = text.take (text.length - e.length)) ∨
        (5 < k ∧ ¬ (front < text.length - e.length - e2.length ∧ text[text.length - e.length - e2.length - 1]? = some 117) ∧ ans = false ∧ out = text))))
theorem glob1 : globV 1 = gl1 := rfl
def verb5 : List V := (verbals.take 5).map V.str
theorem vb_a : sliceV verbV none (some 5) = some (.list verb5) := by kernel_rfl
theorem vb_b : sliceV verbV (some 5) (some 10) = some (rowV ((verbals.take 10).drop 5)) := by kernel_rfl
theorem vb_c : binV .add (.list (verb5.map fun v => .list [v])) (.list [rowV ((verbals.take 10).drop 5), .list [.str [121, 101, 110, 100, 111]]]) = some (rowsV verbRows) := by kernel_rfl
theorem list_at {g : Gl} {xs : List V} {m : Nat} {v : V} (h : xs[m]? = some v) (hm : m ≤ bound) : idxV g (.list xs) (.int m) = some v := by
  simp only [idxV]
  rw [if_pos ⟨by omega, by omega⟩, Int.toNat_natCast, h]
theorem best_nat {rs : List (List L)} {w : L} {dn : List L} {e : L} {p : Int} (B : Best rs w dn e p) (h : ¬ p < 0) : ∃ m : Nat, p = (m : Int) ∧ m < rs.length := by
  rcases B with ⟨_, rfl, _⟩ | ⟨_, _, ⟨k, r, rfl, hk, _⟩, _⟩
  · exact absurd (by decide) h
  · exact ⟨k, rfl, (List.getElem?_eq_some_iff.mp hk).1⟩
section
variable {d : Nat} {g : Gl} {Q : V → Gl → Prop}
theorem c_lawp {text : L} {front pv : Nat} (ht : text.length ≤ bound) (hQ : ∀ ans out, PSpec text front pv ans out → Q (.list [.bool ans, .str out]) g) (ht2 : text.length + 100 ≤ bound) : callN globV clsV ftab (d + 2) 26 [.str text, .int front, .int pv] Q g := by
  refine ⟨fd26, rfl, rfl, ?_⟩
  show awpSs globV clsV (callN globV clsV ftab (d + 1)) m26 _ ⟨[some (.str text), some (.int front), some (.int pv), none, none, none, none, none, none], g⟩
  have hb1 : 1 ≤ bound := by unfold bound; omega
  have hb2 : 2 ≤ bound := by unfold bound; omega
  have hb5 : 5 ≤ bound := by unfold bound; omega
  simp only [m26, awpSs, awpS, awpE, awpEs, awpT, awpAnd, awpOr, List.set_cons_succ, List.set_cons_zero, List.getElem?_cons_succ, List.getElem?_cons_zero, Option.join_some, Option.some.injEq, exists_eq_left', glob1, ← prons_v]
  refine ⟨hb1, c_longest (rs := [prons]) ht (small_rows (by kernel_rfl)) (by decide) fun e p B => ⟨[.str e, .int p], _, rfl, rfl, ?_⟩⟩
  have hl := best_len B
  rw [List.length_drop] at hl
  have hsub : ((text.length : Int) - (e.length : Int)) = ((text.length - e.length : Nat) : Int) := by omega
  simp only [List.set_cons_succ, List.set_cons_zero, List.getElem?_cons_succ, List.getElem?_cons_zero, Option.join_some, Option.some.injEq, exists_eq_left', len_s ht, len_s (show e.length ≤ bound by omega), bin_sub, cmp_lt, cmp_gt, cmp_le, cmp_eq, hsub]
  refine ⟨_, _, rfl, sl_hi ht _, ?_⟩
  have hhl : (text.take (text.length - e.length)).length = text.length - e.length := by rw [List.length_take]; omega
  refine c_verb ⟨5, _, rfl, vb_a, verb5, rfl, by decide +kernel, c_verb ⟨5, 10, _, rfl, rfl, vb_b, hb1, hb2, _, vb_c, c_longest (rs := verbRows) (by omega) (small_rows (by kernel_rfl)) (by decide) fun e2 k B2 => ⟨[.str e2, .int k], _, rfl, rfl, ?_⟩⟩⟩
  have hl2 := best_len B2
  rw [List.length_drop, hhl] at hl2
  have hsub2 : (((text.length - e.length : Nat) : Int) - (e2.length : Int)) = ((text.length - e.length - e2.length : Nat) : Int) := by omega
  simp only [List.set_cons_succ, List.set_cons_zero, List.getElem?_cons_succ, List.getElem?_cons_zero, Option.join_some, Option.some.injEq, exists_eq_left', len_s (show (text.take (text.length - e.length)).length ≤ bound by omega), len_s (show e2.length ≤ bound by omega), hhl, bin_sub, cmp_lt, cmp_gt, cmp_le, cmp_eq, hsub2]
  generalize hat : text.length - e.length - e2.length = at_ at *
  have ret0 : ¬ (0 ≤ p ∧ 0 ≤ k ∧ pv ≤ at_) → Q (.list [.bool false, .str text]) g := fun q => hQ _ _ ⟨e, p, e2, k, B, B2, .inl ⟨by rw [hat]; exact q, rfl, rfl⟩⟩
  by_cases hp : p < 0
  · rw [decide_eq_true hp]
    exact ⟨hb2, ret0 (by omega)⟩
  rw [decide_eq_false hp]
  dsimp only
  by_cases hk : k < 0
  · rw [decide_eq_true hk]
    exact ⟨hb2, ret0 (by omega)⟩
  rw [decide_eq_false hk]
  dsimp only
  by_cases hv : at_ < pv
  · rw [decide_eq_true (show (pv : Int) > (at_ : Int) by omega)]
    exact ⟨hb2, ret0 (by omega)⟩
  rw [decide_eq_false (show ¬ (pv : Int) > (at_ : Int) by omega)]
  dsimp only
  obtain ⟨m, rfl, hm⟩ := best_nat B2 hk
  have hm7 : m < 7 := hm
  by_cases h5 : m < 5
  · rw [decide_eq_true (show (m : Int) < 5 by omega)]
    obtain ⟨y, hy⟩ : ∃ y, alts[m]? = some y := ⟨_, List.getElem?_eq_getElem (show m < alts.length from h5)⟩
    have hyl : y.length ≤ 10 := by
      have : (alts.all fun x => Nat.ble x.length 10) = true := by kernel_rfl
      exact Nat.le_of_ble_eq_true (List.all_eq_true.mp this y (List.mem_of_getElem? hy))
    have htl : ((text.take (text.length - e.length)).take at_).length ≤ text.length := by rw [List.length_take, List.length_take]; omega
    refine ⟨at_, _, rfl, sl_hi (by omega) _, hb5, .str y, list_at (by show (alts.map V.str)[m]? = _; rw [List.getElem?_map, hy]; rfl) (by omega), _, cat_s (by omega), hb2, ?_⟩
    refine hQ _ _ ⟨e, p, e2, m, B, B2, .inr ⟨by omega, .inl ⟨m, y, rfl, hy, rfl, ?_⟩⟩⟩
    rw [hat, List.take_take, Nat.min_eq_left (by omega)]
  rw [decide_eq_false (show ¬ (m : Int) < 5 by omega)]
  dsimp only
  by_cases h6 : m = 5
  · subst h6
    rw [show (((5 : Nat) : Int) == 5) = true from rfl]
    exact ⟨hb2, hQ _ _ ⟨e, p, e2, _, B, B2, .inr ⟨by omega, .inr (.inl ⟨.inl rfl, rfl, rfl⟩)⟩⟩⟩
  rw [show ((m : Int) == 5) = false from beq_eq_false_iff_ne.mpr (by omega)]
  dsimp only
  by_cases hf : front < at_
  · rw [decide_eq_true (show (at_ : Int) > (front : Int) by omega)]
    dsimp only
    obtain ⟨a, ha⟩ : ∃ a, text[at_ - 1]? = some a := ⟨_, List.getElem?_eq_getElem (by omega)⟩
    have ha2 : (text.take (text.length - e.length))[at_ - 1]? = some a := by rw [List.getElem?_take_of_lt (by omega)]; exact ha
    refine ⟨.str [a], str_at (at_ - 1) (by omega) ha2 (by omega), _, rfl, ?_⟩
    by_cases hu : a = 117
    · subst hu
      rw [show (([117] : L) == [117]) = true from by decide]
      exact ⟨hb2, hQ _ _ ⟨e, p, e2, _, B, B2, .inr ⟨by omega, .inr (.inl ⟨.inr ⟨by omega, by omega, by rw [hat]; exact ha⟩, rfl, rfl⟩)⟩⟩⟩
    · rw [show (([a] : L) == [117]) = false from by rw [beq_eq_false_iff_ne]; intro q; cases q; exact hu rfl]
      exact ⟨hb2, hQ _ _ ⟨e, p, e2, _, B, B2, .inr ⟨by omega, .inr (.inr ⟨by omega, fun q => by rw [hat, ha] at q; exact hu (Option.some.inj q.2), rfl, rfl⟩)⟩⟩⟩
  · rw [decide_eq_false (show ¬ (at_ : Int) > (front : Int) by omega)]
    exact ⟨hb2, hQ _ _ ⟨e, p, e2, _, B, B2, .inr ⟨by omega, .inr (.inr ⟨by omega, fun q => by omega, rfl, rfl⟩)⟩⟩⟩
end
theorem good_1 : GoodT tab1 := goodT good1
theorem good_2 : GoodT tab2 := goodT good2
def nzB (t : Tab) : Bool := t.all fun e => e.2.2 != 0
theorem nz_of {t : Tab} (h : nzB t = true) : ∀ en ∈ t, en.2.2 ≠ 0 := fun en hen => by
  have := List.all_eq_true.mp h en hen
  exact bne_iff_ne.mp this
theorem nz1 : nzB tab1 = true := by kernel_rfl

theorem c_rpro {d : Nat} {g : Gl} {b : Bool} {s : SF} {text tail : L} {front p1 p2 pv : Nat} (St : Start s text tail front p1 p2 pv) (hft : front ≤ text.length) (hb : (text ++ tail).length + 100 ≤ bound) {ans : Bool} {out : L} (H : PSpec text front pv ans out) {Q : V → Gl → Prop}
    (hQ : ∀ s', Wk s' out tail front p1 p2 pv → Q (.bool ans) (at' g b s')) : callN globV clsV ftab (d + 4) 10 [.stem b] Q (at' g b s) := by
  refine ⟨fd10, rfl, rfl, ?_⟩
  show awpSs globV clsV (callN globV clsV ftab (d + 3)) m10 _ ⟨[some (.stem b), none], at' g b s⟩
  obtain ⟨e, p, e2, k, B, B2, hcase⟩ := H
  have M := match_of mt1
  have M2 := match_of mt2
  have hcl : text.length ≤ (text ++ tail).length := by rw [List.length_append]; omega
  have hcur : s.cur.length ≤ bound := by rw [St.cur]; omega
  have hsc := St.c
  have hlb := St.lb
  have hpv := St.pv
  have hcc : s.c ≤ s.cur.length := by rw [hsc]; exact wk_le St.wk (Nat.le_refl _)
  have W0 : ∀ k, Wk { s with ket := k } text tail front p1 p2 pv := fun k => ⟨St.cur, St.l, St.lb, St.p1, St.p2, St.pv⟩
  have W1 : ∀ c k br, Wk { s with c := c, ket := k, bra := br } text tail front p1 p2 pv := fun c k br => ⟨St.cur, St.l, St.lb, St.p1, St.p2, St.pv⟩
  have hw := wk_w (W0 s.c) hsc
  refine x_ket rfl (x_find0 (k := 1) (d := d + 2) rfl good_1 rfl (by dsimp only; omega) hcc hcur (nz_of nz1) (fun en hen hs hmax => ?_) (fun hno => ?_))
  · rw [hw] at hs hmax
    obtain ⟨rfl, kp, rfl, hrel, hk⟩ := agree_hit M hen hs hmax B
    have hle : en.1.length ≤ text.length - front := by have := hs.length_le; rw [List.length_drop] at this; exact this
    have hpos : 0 < en.1.length := List.length_pos_iff.mpr (M.ne en hen)
    have hw2 : ∀ k br, ({ s with c := s.c - en.1.length, ket := k, bra := br } : SF).w = (text.take (text.length - en.1.length)).drop front := fun k br => by
      show (s.cur.take (s.c - en.1.length)).drop s.lb = _
      rw [St.cur, St.c, St.lb, List.take_append_of_le_length (by omega)]
    refine x_bra rfl (x_find (k := 2) (d := d + 2) rfl good_2 rfl (by dsimp only; omega) (by dsimp only; omega) hcur (fun en2 hen2 hs2 hmax2 => ?_) (fun hno => ?_))
    · have hw2' := hw2 s.c (s.c - en.1.length)
      rw [hw2'] at hs2 hmax2
      obtain ⟨rfl, m, rfl, hrel2, hm⟩ := agree_hit M2 hen2 hs2 hmax2 B2
      have hm7 : m < 7 := hm
      have hr2 : en2.2.2 = (m : Int) + 1 := by
        simp only [relPlus, beq_iff_eq] at hrel2
        exact hrel2
      have hle2 : en2.1.length ≤ text.length - en.1.length - front := by have := hs2.length_le; rw [List.length_drop, List.length_take] at this; omega
      rw [hr2]
      refine x_eqi rfl (fun q => absurd q (by omega)) fun _ => x_nil ?_
      refine x_rv (d := d + 2) rfl (fun hv => ?_) (fun hv => ?_)
      · dsimp only at hv
        have hcase2 := hcase.resolve_left fun q => absurd q.1 (by omega)
        replace hcase2 := hcase2.2
        have hfrom : ∀ (lc : List (Option V)) (y : L) (K : KS), (lc[0]?).join = some (V.stem b) → alts[m]? = some y → y.length ≤ 10 → (ans = true → ∀ s', Wk s' out tail front p1 p2 pv → K .next ⟨lc, at' g b s'⟩) →
            awpSs globV clsV (callN globV clsV ftab (d + 3)) (.cons (.setAttr (.loc 0) .bra (.attr (.loc 0) .cursor)) (.cons (.expr (.meth 6 (.loc 0) (.cons (.str y) .nil))) .nil)) K ⟨lc, at' g b { s with c := s.c - en.1.length - en2.1.length, bra := s.c - en.1.length, ket := s.c }⟩ := by
          intro lc y K h0 hy hyl hK
          have hm5 : m < 5 := (List.getElem?_eq_some_iff.mp hy).1
          refine x_bra h0 (x_from (d := d + 1) (W1 _ _ _) h0 (by dsimp only; omega) (by dsimp only; omega) hsc (by omega) fun s' W _ => x_nil ?_)
          dsimp only at W
          rw [hsc] at W
          rcases hcase2 with ⟨m', y', q1, q2, rfl, rfl⟩ | ⟨q, _⟩ | ⟨q, _⟩
          · have : m' = m := by omega
            subst this
            rw [hy] at q2
            cases q2
            exact hK rfl _ W
          · exact absurd q (by omega)
          · exact absurd q (by omega)
        refine x_eqi rfl (fun q => ?_) fun n1 => ?_
        · refine hfrom _ _ _ rfl (by rw [show m = 0 by omega]; rfl) (by decide) fun ha s' W => ?_
          subst ha
          repeat refine x_nil ?_
          exact x_retb (hQ _ W)
        refine x_eqi rfl (fun q => ?_) fun n2 => ?_
        · refine hfrom _ _ _ rfl (by rw [show m = 1 by omega]; rfl) (by decide) fun ha s' W => ?_
          subst ha
          repeat refine x_nil ?_
          exact x_retb (hQ _ W)
        refine x_eqi rfl (fun q => ?_) fun n3 => ?_
        · refine hfrom _ _ _ rfl (by rw [show m = 2 by omega]; rfl) (by decide) fun ha s' W => ?_
          subst ha
          repeat refine x_nil ?_
          exact x_retb (hQ _ W)
        refine x_eqi rfl (fun q => ?_) fun n4 => ?_
        · refine hfrom _ _ _ rfl (by rw [show m = 3 by omega]; rfl) (by decide) fun ha s' W => ?_
          subst ha
          repeat refine x_nil ?_
          exact x_retb (hQ _ W)
        refine x_eqi rfl (fun q => ?_) fun n5 => ?_
        · refine hfrom _ _ _ rfl (by rw [show m = 4 by omega]; rfl) (by decide) fun ha s' W => ?_
          subst ha
          repeat refine x_nil ?_
          exact x_retb (hQ _ W)
        have hdel : ∀ (lc : List (Option V)) (c : Nat) (K : KS), (lc[0]?).join = some (V.stem b) → c ≤ s.c - en.1.length → (∀ s', Wk s' (text.take (text.length - en.1.length)) tail front p1 p2 pv → K .next ⟨lc, at' g b s'⟩) →
            awpSs globV clsV (callN globV clsV ftab (d + 3)) (.cons (.expr (.meth 7 (.loc 0) .nil)) .nil) K ⟨lc, at' g b { s with c := c, bra := s.c - en.1.length, ket := s.c }⟩ := by
          intro lc c K h0 hc hK
          refine x_del (d := d) (W1 _ _ _) h0 (by clear hcase hcase2 hK; dsimp only; omega) (by clear hcase hcase2 hK; dsimp only; omega) hsc (by clear hcase hcase2 hK; omega) fun s' W _ => x_nil ?_
          dsimp only at W
          rw [hsc] at W
          exact hK _ W
        have hm5 : 5 ≤ m := by omega
        have hno5 : ∀ y, ¬ alts[m]? = some y := fun y hy => by
          have : m < 5 := (List.getElem?_eq_some_iff.mp hy).1
          omega
        refine x_eqi rfl (fun q => ?_) fun n6 => ?_
        · refine hdel _ (s.c - en.1.length - en2.1.length) _ rfl (Nat.sub_le _ _) fun s' W => ?_
          repeat refine x_nil ?_
          rcases hcase2 with ⟨m', y', q1, q2, _⟩ | ⟨_, rfl, rfl⟩ | ⟨q', _⟩
          · exact absurd (show alts[m]? = some y' by rw [show m = m' by omega]; exact q2) (hno5 _)
          · exact x_retb (hQ _ W)
          · exact absurd q' (by omega)
        have hidx : ∀ i, i < text.length → s.cur[i]? = text[i]? := fun i hi => wk_idx St.wk hi
        refine x_ch rfl (by dsimp only; omega) hcur (fun u1 u2 => ?_) (fun u => ?_)
        · dsimp only at u1 u2
          refine x_dec rfl (by dsimp only; omega) (hdel _ (s.c - en.1.length - en2.1.length - 1) _ rfl (Nat.le_trans (Nat.sub_le _ _) (Nat.sub_le _ _)) fun s' W => ?_)
          repeat refine x_nil ?_
          rcases hcase2 with ⟨m', y', q1, q2, _⟩ | ⟨_, rfl, rfl⟩ | ⟨_, q', _⟩
          · exact absurd (show alts[m]? = some y' by rw [show m = m' by omega]; exact q2) (hno5 _)
          · exact x_retb (hQ _ W)
          · refine absurd ⟨by omega, ?_⟩ q'
            rw [← hidx _ (by omega), ← hsc]; exact u2
        · dsimp only at u
          rcases hcase2 with ⟨m', y', q1, q2, _⟩ | ⟨q', _⟩ | ⟨_, _, rfl, rfl⟩
          · exact absurd (show alts[m]? = some y' by rw [show m = m' by omega]; exact q2) (hno5 _)
          · rcases q' with q' | ⟨_, q1, q2⟩
            · exact absurd q' (by omega)
            · refine absurd ?_ (u (by omega))
              rw [← hidx _ (by omega), ← hsc] at q2; exact q2
          · exact x_retb (hQ _ (W1 _ _ _))
      · dsimp only at hv
        rcases hcase with ⟨_, rfl, rfl⟩ | ⟨q, _⟩
        · exact x_retb (hQ _ (W1 _ _ _))
        · exact absurd q.2.2 (by omega)
    · have hw2' := hw2 s.c (s.c - en.1.length)
      rw [hw2'] at hno
      obtain ⟨rfl, rfl⟩ := agree_miss M2 hno B2
      refine x_eqi rfl (fun _ => ?_) (fun q => absurd rfl q)
      rcases hcase with ⟨_, rfl, rfl⟩ | ⟨q, _⟩
      · exact x_retb (hQ _ (W1 _ _ _))
      · exact absurd q.2.1 (by decide)
  · rw [hw] at hno
    obtain ⟨rfl, rfl⟩ := agree_miss M hno B
    rcases hcase with ⟨_, rfl, rfl⟩ | ⟨q, _⟩
    · exact x_retb (hQ _ (W0 _))
    · exact absurd q.1 (by decide)
end Mine

-- MA
namespace Mine
set_option maxRecDepth 100000
set_option maxHeartbeats 1000000
set_option linter.unusedVariables false

/-- what _law_ahead says -/
def ASpec (rs : List (List L)) (head : L) (front p2 : Nat) (rest : L) (place : Int) : Prop :=
  ∃ (e : L) (p : Int), Best rs (head.drop front) rs.flatten e p ∧
    (((0 ≤ p ∧ p2 ≤ head.length - e.length) ∧ rest = head.take (head.length - e.length) ∧ place = p) ∨
     (¬ (0 ≤ p ∧ p2 ≤ head.length - e.length) ∧ rest = head ∧ place = -1))
theorem aspec_le {rs : List (List L)} {head : L} {front p2 : Nat} {rest : L} {place : Int} (A : ASpec rs head front p2 rest place) : rest.length ≤ head.length := by
  obtain ⟨e, p, _, ⟨_, rfl, _⟩ | ⟨_, rfl, _⟩⟩ := A
  · rw [List.length_take]; omega
  · exact Nat.le_refl _
section
variable {d : Nat} {g : Gl} {Q : V → Gl → Prop}
theorem c_ahead {head : L} {front p2 : Nat} {rs : List (List L)} (ht : head.length ≤ bound) (hsm : ∀ r ∈ rs, ∀ x ∈ r, x.length ≤ 30) (hrs : rs.length ≤ 100) (hQ : ∀ rest place, ASpec rs head front p2 rest place → Q (.list [.str rest, .int place]) g) :
    callN globV clsV ftab (d + 2) 24 [.str head, .int front, rowsV rs, .int p2] Q g := by
  refine ⟨fd24, rfl, rfl, ?_⟩
  show awpSs globV clsV (callN globV clsV ftab (d + 1)) m24 _ ⟨[some (.str head), some (.int front), some (rowsV rs), some (.int p2), none, none, none], g⟩
  have hb2 : 2 ≤ bound := by unfold bound; omega
  simp only [m24, awpSs, awpS, awpE, awpEs, awpT, awpAnd, List.set_cons_succ, List.set_cons_zero, List.getElem?_cons_succ, List.getElem?_cons_zero, Option.join_some, Option.some.injEq, exists_eq_left']
  refine c_longest ht hsm hrs fun e p B => ⟨[.str e, .int p], _, rfl, rfl, ?_⟩
  have hl := best_len B
  rw [List.length_drop] at hl
  have hsub : ((head.length : Int) - (e.length : Int)) = ((head.length - e.length : Nat) : Int) := by omega
  simp only [List.set_cons_succ, List.set_cons_zero, List.getElem?_cons_succ, List.getElem?_cons_zero, Option.join_some, Option.some.injEq, exists_eq_left', len_s ht, len_s (show e.length ≤ bound by omega), bin_sub, cmp_ge, cmp_le, hsub]
  by_cases hp : 0 ≤ p
  · rw [decide_eq_true (show p ≥ 0 by omega)]
    dsimp only
    by_cases h2 : p2 ≤ head.length - e.length
    · rw [decide_eq_true (show (p2 : Int) ≤ ((head.length - e.length : Nat) : Int) by omega)]
      exact ⟨_, _, rfl, sl_hi ht _, hb2, hQ _ _ ⟨e, p, B, .inl ⟨⟨hp, h2⟩, rfl, rfl⟩⟩⟩
    · rw [decide_eq_false (show ¬ (p2 : Int) ≤ ((head.length - e.length : Nat) : Int) by omega)]
      exact ⟨1, rfl, hb2, hQ _ _ ⟨e, p, B, .inr ⟨fun q => h2 q.2, rfl, rfl⟩⟩⟩
  · rw [decide_eq_false (show ¬ p ≥ 0 by omega)]
    exact ⟨1, rfl, hb2, hQ _ _ ⟨e, p, B, .inr ⟨fun q => hp q.1, rfl, rfl⟩⟩⟩
end

section
variable {d : Nat} {g : Gl} {b : Bool} {s : SF} {l : List (Option V)} {Q : KS} {r A : MSs}
theorem x_back2 {C : CT} {i : Nat} {v : Int} (n : Nat) (h : (l[0]?).join = some (.stem b)) (hi : (l[i]?).join = some (.int v)) (hn : (s.l : Int) - v = (n : Nat)) (k : awpSs globV clsV C r Q ⟨l, at' g b { s with c := n }⟩) : awpSs globV clsV C (.cons (.setAttr (.loc 0) .cursor (.bin .sub (.attr (.loc 0) .limit) (.loc i))) r) Q ⟨l, at' g b s⟩ := by
  simp only [awpSs, awpS, awpE, h, hi, Option.some.injEq, exists_eq_left', g_l, bin_sub, ex_stem, hn, s_c]
  exact k
theorem x_p1 {C : CT} (h : (l[0]?).join = some (.stem b)) (kY : ¬ s.p1 > s.c → awpSs globV clsV C r Q ⟨l, at' g b s⟩) (kN : s.p1 > s.c → awpSs globV clsV C A (thenK C r Q) ⟨l, at' g b s⟩) :
    awpSs globV clsV C (.cons (.ite (.cmp .gt (.attr (.loc 0) .p1) (.attr (.loc 0) .cursor)) A .nil) r) Q ⟨l, at' g b s⟩ := by
  simp only [awpSs, awpS, awpT, awpE, h, Option.some.injEq, exists_eq_left', g_p1, g_c, cmp_gt]
  by_cases hp : s.p1 > s.c
  · rw [decide_eq_true (show (s.p1 : Int) > (s.c : Int) by omega)]
    exact kN hp
  · rw [decide_eq_false (show ¬ (s.p1 : Int) > (s.c : Int) by omega)]
    exact kY hp
/-- the piece ahead, out of a table -/
theorem x_ahead_t {i k : Nat} {t : Tab} {rs : List (List L)} {rel : Int → Nat → Bool} (hk : clsV k = tabV t) (G : GoodT t) (M : Match t rs rel) (nz : nzB t = true) {head tail rest : L} {front p1 p2 pv : Nat} {pl : Int} (hf : front ≤ head.length) (hb : (head ++ tail).length ≤ bound)
    (hl : ∀ x, ((l.set i x)[0]?).join = some (.stem b) ∧ ((l.set i x)[i]?).join = x) (h0 : (l[0]?).join = some (.stem b)) (H : ASpec rs head front p2 rest pl) (W : Wk s head tail front p1 p2 pv) (hc : s.c = head.length)
    (kk : ∀ l' s', Wk s' rest tail front p1 p2 pv → awpSs globV clsV (callN globV clsV ftab (d + 3)) r Q ⟨l', at' g b s'⟩) :
    awpSs globV clsV (callN globV clsV ftab (d + 3)) (.cons (.assign i (.bin .sub (.attr (.loc 0) .limit) (.attr (.loc 0) .cursor)))
      (.cons (.tryP (.cons (.setAttr (.loc 0) .ket (.attr (.loc 0) .cursor))
      (.cons (.ite (.cmp .eq (.meth 4 (.loc 0) (.cons (.cls k) .nil)) (.int 0)) (.cons (.setAttr (.loc 0) .cursor (.bin .sub (.attr (.loc 0) .limit) (.loc i))) (.cons .raise .nil)) .nil)
      (.cons (.setAttr (.loc 0) .bra (.attr (.loc 0) .cursor))
      (.cons (.ite (.not (.val (.meth 9 (.loc 0) .nil))) (.cons (.setAttr (.loc 0) .cursor (.bin .sub (.attr (.loc 0) .limit) (.loc i))) (.cons .raise .nil)) .nil)
      (.cons (.expr (.meth 7 (.loc 0) .nil)) .nil)))))) r)) Q ⟨l, at' g b s⟩ := by
  obtain ⟨e, p, B, hcase⟩ := H
  have hcl : head.length ≤ (head ++ tail).length := by rw [List.length_append]; omega
  have hcur : s.cur.length ≤ bound := by rw [W.cur]; exact hb
  have hcc : s.c ≤ s.cur.length := by rw [hc]; exact wk_le W (Nat.le_refl _)
  have hlb := W.lb
  have hp2 := W.p2
  have W1 : ∀ c k br, Wk { s with c := c, ket := k, bra := br } head tail front p1 p2 pv := fun c k br => ⟨W.cur, W.l, W.lb, W.p1, W.p2, W.pv⟩
  have hw : ({ s with ket := s.c } : SF).w = head.drop front := wk_w (W1 s.c s.c s.bra) hc
  obtain ⟨l0, li⟩ := hl (some (.int ((s.l : Int) - (s.c : Nat))))
  refine x_save h0 (x_try (x_ket l0 ?_))
  refine x_find0 (d := d + 2) hk G l0 (by dsimp only; omega) hcc hcur (nz_of nz) (fun en hen hs hmax => ?_) (fun hno => ?_)
  · rw [hw] at hs hmax
    obtain ⟨rfl, m, rfl, hrel, hm⟩ := agree_hit M hen hs hmax B
    have hle : en.1.length ≤ head.length - front := by have := hs.length_le; rw [List.length_drop] at this; exact this
    have hpos : 0 < en.1.length := List.length_pos_iff.mpr (M.ne en hen)
    refine x_bra l0 (x_r2 (d := d + 2) l0 (fun hv => ?_) (fun hv => ?_))
    · dsimp only at hv
      refine x_del (d := d) (W1 _ _ _) l0 (Nat.le_refl _) (by dsimp only; omega) hc hb fun s' W' _ => x_nil ?_
      dsimp only at W'
      rw [hc] at W'
      rcases hcase with ⟨_, rfl, _⟩ | ⟨q, _⟩
      · exact kk _ _ W'
      · exact absurd ⟨by omega, by omega⟩ q
    · dsimp only at hv
      rcases hcase with ⟨q, _⟩ | ⟨_, rfl, _⟩
      · exact absurd q.2 (by omega)
      · exact x_back s.l s.c l0 li rfl (x_raise (kk _ _ (W1 _ _ _)))
  · rw [hw] at hno
    obtain ⟨rfl, rfl⟩ := agree_miss M hno B
    rcases hcase with ⟨q, _⟩ | ⟨_, rfl, _⟩
    · exact absurd q.1 (by decide)
    · exact x_back s.l s.c l0 li rfl (x_raise (kk _ _ (W1 s.c s.c s.bra)))
theorem best_one {x w e : L} {p : Int} (hx : x ≠ []) (B : Best [[x]] w [[x]].flatten e p) : (x <:+ w → e = x ∧ p = 0) ∧ (¬ x <:+ w → e = [] ∧ p = -1) := by
  rcases B with ⟨rfl, rfl, hb⟩ | ⟨b1, b2, ⟨k, r, rfl, hk, her⟩, hb⟩
  · exact ⟨fun h => absurd (hb x (by simp) h) hx, fun _ => ⟨rfl, rfl⟩⟩
  · have hk0 : k = 0 := by
      have := (List.getElem?_eq_some_iff.mp hk).1
      simp at this; omega
    subst hk0
    have hr : r = [x] := by simpa using hk.symm
    subst hr
    have : e = x := by simpa using her
    subst this
    exact ⟨fun _ => ⟨rfl, rfl⟩, fun h => absurd b2 h⟩
/-- one piece ahead: the cursor's way back, given -/
theorem x_ahead_e0 {i : Nat} {x : L} (hx : x ≠ []) (hxl : x.length ≤ bound) {head tail rest : L} {front p1 p2 pv : Nat} {pl : Int} (hf : front ≤ head.length) (hb : (head ++ tail).length ≤ bound)
    {v : Int} (li : (l[i]?).join = some (.int v)) (hv : (s.l : Int) - v = (s.c : Nat)) (l0 : (l[0]?).join = some (.stem b)) (H : ASpec [[x]] head front p2 rest pl) (W : Wk s head tail front p1 p2 pv) (hc : s.c = head.length)
    (kk : ∀ s', Wk s' rest tail front p1 p2 pv → Q .next ⟨l, at' g b s'⟩ ∧ Q .exc ⟨l, at' g b s'⟩) :
    awpSs globV clsV (callN globV clsV ftab (d + 3)) (.cons (.setAttr (.loc 0) .ket (.attr (.loc 0) .cursor))
      (.cons (.ite (.not (.val (.meth 3 (.loc 0) (.cons (.str x) .nil)))) (.cons (.setAttr (.loc 0) .cursor (.bin .sub (.attr (.loc 0) .limit) (.loc i))) (.cons .raise .nil)) .nil)
      (.cons (.setAttr (.loc 0) .bra (.attr (.loc 0) .cursor))
      (.cons (.ite (.not (.val (.meth 9 (.loc 0) .nil))) (.cons (.setAttr (.loc 0) .cursor (.bin .sub (.attr (.loc 0) .limit) (.loc i))) (.cons .raise .nil)) .nil)
      (.cons (.expr (.meth 7 (.loc 0) .nil)) .nil))))) Q ⟨l, at' g b s⟩ := by
  obtain ⟨e, p, B, hcase⟩ := H
  have hcl : head.length ≤ (head ++ tail).length := by rw [List.length_append]; omega
  have hcur : s.cur.length ≤ bound := by rw [W.cur]; exact hb
  have hcc : s.c ≤ s.cur.length := by rw [hc]; exact wk_le W (Nat.le_refl _)
  have hlb := W.lb
  have hp2 := W.p2
  have W1 : ∀ c k br, Wk { s with c := c, ket := k, bra := br } head tail front p1 p2 pv := fun c k br => ⟨W.cur, W.l, W.lb, W.p1, W.p2, W.pv⟩
  have hw : ({ s with ket := s.c } : SF).w = head.drop front := wk_w (W1 s.c s.c s.bra) hc
  have hB := best_one hx B
  refine x_ket l0 ?_
  refine x_eqs (d := d + 2) l0 hxl (by dsimp only; omega) hcc hcur (fun hs => ?_) (fun hno => ?_)
  · rw [hw] at hs
    obtain ⟨rfl, rfl⟩ := hB.1 hs
    have hle : e.length ≤ head.length - front := by have := hs.length_le; rw [List.length_drop] at this; exact this
    have hpos : 0 < e.length := List.length_pos_iff.mpr hx
    refine x_bra l0 (x_r2 (d := d + 2) l0 (fun hv2 => ?_) (fun hv2 => ?_))
    · dsimp only at hv2
      refine x_del (d := d) (W1 _ _ _) l0 (Nat.le_refl _) (by dsimp only; omega) hc hb fun s' W' _ => x_nil ?_
      dsimp only at W'
      rw [hc] at W'
      rcases hcase with ⟨_, rfl, _⟩ | ⟨q, _⟩
      · exact (kk _ W').1
      · exact absurd ⟨by omega, by omega⟩ q
    · dsimp only at hv2
      rcases hcase with ⟨q, _⟩ | ⟨_, rfl, _⟩
      · exact absurd q.2 (by omega)
      · exact x_back2 s.c l0 li hv (x_raise (kk _ (W1 _ _ _)).2)
  · rw [hw] at hno
    obtain ⟨rfl, rfl⟩ := hB.2 hno
    rcases hcase with ⟨q, _⟩ | ⟨_, rfl, _⟩
    · exact absurd q.1 (by decide)
    · exact x_back2 s.c l0 li hv (x_raise (kk _ (W1 s.c s.c s.bra)).2)
end
end Mine

-- MStd
namespace Mine
set_option maxRecDepth 100000
set_option maxHeartbeats 1000000
set_option linter.unusedVariables false

def rIC : List (List L) := [[[105, 99]]]
def rAT : List (List L) := [[[97, 116]]]
def rA : List (List L) := [[[105, 118]], [[105, 99], [97, 100], [111, 115]]]
def rM : List (List L) := [[[97, 98, 108, 101], [105, 98, 108, 101], [97, 110, 116, 101]]]
def rI : List (List L) := [[[105, 99], [97, 98, 105, 108], [105, 118]]]
def adds : List L := [[108, 111, 103], [117], [101, 110, 116, 101]]
/-- what stands when an ending of a kind has fallen -/
def Fall (k : Nat) (head : L) (front p2 : Nat) (out : L) : Prop :=
  (k = 0 ∧ out = head) ∨ (k = 1 ∧ ∃ pl, ASpec rIC head front p2 out pl) ∨ (∃ m y, k = m + 2 ∧ adds[m]? = some y ∧ out = head ++ y) ∨
  (k = 5 ∧ ∃ rest pl, ASpec rA head front p2 rest pl ∧ ((pl = 0 ∧ ∃ pl', ASpec rAT rest front p2 out pl') ∨ (pl ≠ 0 ∧ out = rest))) ∨
  (k = 6 ∧ ∃ pl, ASpec rM head front p2 out pl) ∨ (k = 7 ∧ ∃ pl, ASpec rI head front p2 out pl) ∨ (k = 8 ∧ ∃ pl, ASpec rAT head front p2 out pl)
/-- what _law_standard says -/
def SSpec (text : L) (front p1 p2 : Nat) (ans : Bool) (out : L) : Prop :=
  ∃ (e : L) (k : Int), Best kinds (text.drop front) kinds.flatten e k ∧
    (((k < 0 ∨ (k = 5 ∧ text.length - e.length < p1) ∨ (k ≠ 5 ∧ text.length - e.length < p2)) ∧ ans = false ∧ out = text) ∨
     (∃ m : Nat, k = (m : Int) ∧ (m = 5 → p1 ≤ text.length - e.length) ∧ (m ≠ 5 → p2 ≤ text.length - e.length) ∧ ans = true ∧ Fall m (text.take (text.length - e.length)) front p2 out))
theorem glob0 : globV 0 = gl0 := rfl
def m25T : MSs := (.cons (.ite (.cmp .eq (.loc 5) (.int 0)) (.cons (.ret (.lst (.cons (.bool true) (.cons (.loc 7) .nil))))
  .nil) .nil)
  (.cons (.ite (.cmp .eq (.loc 5) (.int 1)) (.cons (.ret (.lst (.cons (.bool true) (.cons (.idx (.call 24 (.cons (.loc 7) (.cons (.loc 1) (.cons (.lst (.cons (.lst (.cons (.str [105, 99]) .nil)) .nil)) (.cons (.loc 3) .nil))))) (.int 0)) .nil))))
  .nil) .nil)
  (.cons (.ite (.isin (.loc 5) [2, 3, 4]) (.cons (.ret (.lst (.cons (.bool true) (.cons (.bin .add (.loc 7) (.idx (.lst (.cons (.str [108, 111, 103]) (.cons (.str [117]) (.cons (.str [101, 110, 116, 101]) .nil)))) (.bin .sub (.loc 5) (.int 2)))) .nil))))
  .nil) .nil)
  (.cons (.ite (.cmp .eq (.loc 5) (.int 5)) (.cons (.unpack [8, 9] (.call 24 (.cons (.loc 7) (.cons (.loc 1) (.cons (.lst (.cons (.lst (.cons (.str [105, 118]) .nil)) (.cons (.lst (.cons (.str [105, 99]) (.cons (.str [97, 100]) (.cons (.str [111, 115]) .nil)))) .nil))) (.cons (.loc 3) .nil))))))
  (.cons (.ite (.cmp .eq (.loc 9) (.int 0)) (.cons (.assign 8 (.idx (.call 24 (.cons (.loc 8) (.cons (.loc 1) (.cons (.lst (.cons (.lst (.cons (.str [97, 116]) .nil)) .nil)) (.cons (.loc 3) .nil))))) (.int 0)))
  .nil) .nil)
  (.cons (.ret (.lst (.cons (.bool true) (.cons (.loc 8) .nil))))
  .nil))) .nil)
  (.cons (.ite (.cmp .eq (.loc 5) (.int 6)) (.cons (.ret (.lst (.cons (.bool true) (.cons (.idx (.call 24 (.cons (.loc 7) (.cons (.loc 1) (.cons (.lst (.cons (.lst (.cons (.str [97, 98, 108, 101]) (.cons (.str [105, 98, 108, 101]) (.cons (.str [97, 110, 116, 101]) .nil)))) .nil)) (.cons (.loc 3) .nil))))) (.int 0)) .nil))))
  .nil) .nil)
  (.cons (.ite (.cmp .eq (.loc 5) (.int 7)) (.cons (.ret (.lst (.cons (.bool true) (.cons (.idx (.call 24 (.cons (.loc 7) (.cons (.loc 1) (.cons (.lst (.cons (.lst (.cons (.str [105, 99]) (.cons (.str [97, 98, 105, 108]) (.cons (.str [105, 118]) .nil)))) .nil)) (.cons (.loc 3) .nil))))) (.int 0)) .nil))))
  .nil) .nil)
  (.cons (.ret (.lst (.cons (.bool true) (.cons (.idx (.call 24 (.cons (.loc 7) (.cons (.loc 1) (.cons (.lst (.cons (.lst (.cons (.str [97, 116]) .nil)) .nil)) (.cons (.loc 3) .nil))))) (.int 0)) .nil))))
  .nil)))))))
theorem m25_eq : m25 = (.cons (.unpack [4, 5] (.call 23 (.cons (.loc 0) (.cons (.loc 1) (.cons (.gl 0) .nil)))))
  (.cons (.assign 6 (.bin .sub (.len (.loc 0)) (.len (.loc 4))))
  (.cons (.assign 7 (.slHi (.loc 0) (.loc 6)))
  (.cons (.ite (.or (.cons (.cmp .lt (.loc 5) (.int 0)) (.cons (.and (.cons (.cmp .eq (.loc 5) (.int 5)) (.cons (.cmp .gt (.loc 2) (.loc 6)) .nil))) (.cons (.and (.cons (.cmp .ne (.loc 5) (.int 5)) (.cons (.cmp .gt (.loc 3) (.loc 6)) .nil))) .nil)))) (.cons (.ret (.lst (.cons (.bool false) (.cons (.loc 0) .nil))))
  .nil) .nil)
  m25T)))) := rfl
/-- the parameter list at the tail -/
def l25 (text : L) (front p1 p2 : Nat) (e : L) (k : Int) (at_ : Nat) (head : L) : List (Option V) := [some (.str text), some (.int front), some (.int p1), some (.int p2), some (.str e), some (.int k), some (.int at_), some (.str head), none, none]
section
variable {d : Nat} {g : Gl}
theorem x_retE {C : CT} {e : ME} {r : MSs} {Q : KS} {σ : St} (k : awpE globV clsV C e (fun v σ => Q (.ret v) σ) σ) : awpSs globV clsV C (.cons (.ret e) r) Q σ := by
  simp only [awpSs, awpS]; exact k
theorem x_isin {C : CT} {l : List (Option V)} {i : Nat} {v : Int} {ns : List Int} {A B r : MSs} {Q : KS} (hi : (l[i]?).join = some (.int v)) (kY : v ∈ ns → awpSs globV clsV C A (thenK C r Q) ⟨l, g⟩) (kN : ¬ v ∈ ns → awpSs globV clsV C B (thenK C r Q) ⟨l, g⟩) :
    awpSs globV clsV C (.cons (.ite (.isin (.loc i) ns) A B) r) Q ⟨l, g⟩ := by
  simp only [awpSs, awpS, awpT, awpE, hi, Option.some.injEq, exists_eq_left']
  refine ⟨v, rfl, ?_⟩
  by_cases h : v ∈ ns
  · rw [show ns.contains v = true from List.contains_iff_mem.mpr h]
    exact kY h
  · rw [show ns.contains v = false from by rw [← Bool.not_eq_true]; exact fun q => h (List.contains_iff_mem.mp q)]
    exact kN h
theorem x_eqi' {C : CT} {l : List (Option V)} {r : MSs} {Q : KS} {i : Nat} {v n : Int} {A B : MSs} (hi : (l[i]?).join = some (.int v)) (kY : v = n → awpSs globV clsV C A (thenK C r Q) ⟨l, g⟩) (kN : v ≠ n → awpSs globV clsV C B (thenK C r Q) ⟨l, g⟩) :
    awpSs globV clsV C (.cons (.ite (.cmp .eq (.loc i) (.int n)) A B) r) Q ⟨l, g⟩ := by
  simp only [awpSs, awpS, awpT, awpE, hi, Option.some.injEq, exists_eq_left', cmp_eq]
  by_cases h : v = n
  · rw [show (v == n) = true from beq_iff_eq.mpr h]
    exact kY h
  · rw [show (v == n) = false from beq_eq_false_iff_ne.mpr h]
    exact kN h
theorem idx0 {g : Gl} {v : V} {vs : List V} : idxV g (.list (v :: vs)) (.int 0) = some v := list_at (m := 0) rfl (by unfold bound; omega)
theorem sm_IC : ∀ r ∈ rIC, ∀ x ∈ r, x.length ≤ 30 := small_rows (by kernel_rfl)
theorem sm_AT : ∀ r ∈ rAT, ∀ x ∈ r, x.length ≤ 30 := small_rows (by kernel_rfl)
theorem sm_A : ∀ r ∈ rA, ∀ x ∈ r, x.length ≤ 30 := small_rows (by kernel_rfl)
theorem sm_M : ∀ r ∈ rM, ∀ x ∈ r, x.length ≤ 30 := small_rows (by kernel_rfl)
theorem sm_I : ∀ r ∈ rI, ∀ x ∈ r, x.length ≤ 30 := small_rows (by kernel_rfl)

def m25F : MSs := (.cons (.unpack [8, 9] (.call 24 (.cons (.loc 7) (.cons (.loc 1) (.cons (.lst (.cons (.lst (.cons (.str [105, 118]) .nil)) (.cons (.lst (.cons (.str [105, 99]) (.cons (.str [97, 100]) (.cons (.str [111, 115]) .nil)))) .nil))) (.cons (.loc 3) .nil))))))
  (.cons (.ite (.cmp .eq (.loc 9) (.int 0)) (.cons (.assign 8 (.idx (.call 24 (.cons (.loc 8) (.cons (.loc 1) (.cons (.lst (.cons (.lst (.cons (.str [97, 116]) .nil)) .nil)) (.cons (.loc 3) .nil))))) (.int 0)))
  .nil) .nil)
  (.cons (.ret (.lst (.cons (.bool true) (.cons (.loc 8) .nil))))
  .nil)))
theorem x_k5 {K : KS} {text e head : L} {front p1 p2 at_ : Nat} {k : Int} (hh : head.length ≤ bound)
    (hK : ∀ out l, (∃ rest pl, ASpec rA head front p2 rest pl ∧ ((pl = 0 ∧ ∃ pl', ASpec rAT rest front p2 out pl') ∨ (pl ≠ 0 ∧ out = rest))) → K (.ret (.list [.bool true, .str out])) ⟨l, g⟩) :
    awpSs globV clsV (callN globV clsV ftab (d + 2)) m25F K ⟨l25 text front p1 p2 e k at_ head, g⟩ := by
  have hb1 : 1 ≤ bound := by unfold bound; omega
  have hb2 : 2 ≤ bound := by unfold bound; omega
  have hb3 : 3 ≤ bound := by unfold bound; omega
  simp only [m25F, l25, awpSs, awpS, awpE, awpEs, awpT, List.set_cons_succ, List.set_cons_zero, List.getElem?_cons_succ, List.getElem?_cons_zero, Option.join_some, Option.some.injEq, exists_eq_left']
  refine ⟨hb1, hb3, hb2, c_ahead (rs := rA) hh sm_A (by decide) fun rest pl A => ⟨[.str rest, .int pl], _, rfl, rfl, ?_⟩⟩
  simp only [List.set_cons_succ, List.set_cons_zero, List.getElem?_cons_succ, List.getElem?_cons_zero, Option.join_some, Option.some.injEq, exists_eq_left', cmp_eq]
  have hr := aspec_le A
  by_cases h0 : pl = 0
  · rw [show (pl == 0) = true from beq_iff_eq.mpr h0]
    refine ⟨hb1, hb1, c_ahead (rs := rAT) (by omega) sm_AT (by decide) fun out pl' A' => ⟨_, idx0, hb2, hK _ _ ⟨rest, pl, A, .inl ⟨h0, pl', A'⟩⟩⟩⟩
  · rw [show (pl == 0) = false from beq_eq_false_iff_ne.mpr h0]
    exact ⟨hb2, hK _ _ ⟨rest, pl, A, .inr ⟨h0, rfl⟩⟩⟩
theorem c_laws {Q : V → Gl → Prop} {text : L} {front p1 p2 : Nat} (ht : text.length + 100 ≤ bound) (hQ : ∀ ans out, SSpec text front p1 p2 ans out → Q (.list [.bool ans, .str out]) g) : callN globV clsV ftab (d + 3) 25 [.str text, .int front, .int p1, .int p2] Q g := by
  refine ⟨fd25, rfl, rfl, ?_⟩
  show awpSs globV clsV (callN globV clsV ftab (d + 2)) m25 _ ⟨[some (.str text), some (.int front), some (.int p1), some (.int p2), none, none, none, none, none, none], g⟩
  have hb1 : 1 ≤ bound := by unfold bound; omega
  have hb2 : 2 ≤ bound := by unfold bound; omega
  have hb3 : 3 ≤ bound := by unfold bound; omega
  rw [m25_eq]
  generalize hM : m25T = M
  simp only [awpSs, awpS, awpE, awpEs, awpT, awpAnd, awpOr, List.set_cons_succ, List.set_cons_zero, List.getElem?_cons_succ, List.getElem?_cons_zero, Option.join_some, Option.some.injEq, exists_eq_left', glob0, ← kinds_v]
  refine c_longest (d := d + 1) (rs := kinds) (by omega) (small_rows (by kernel_rfl)) (by decide) fun e k B => ⟨[.str e, .int k], _, rfl, rfl, ?_⟩
  have hl := best_len B
  rw [List.length_drop] at hl
  have hsub : ((text.length : Int) - (e.length : Int)) = ((text.length - e.length : Nat) : Int) := by omega
  simp only [List.set_cons_succ, List.set_cons_zero, List.getElem?_cons_succ, List.getElem?_cons_zero, Option.join_some, Option.some.injEq, exists_eq_left', len_s (show text.length ≤ bound by omega), len_s (show e.length ≤ bound by omega), bin_sub, cmp_lt, cmp_gt, cmp_le, cmp_eq, cmp_ne, hsub]
  refine ⟨_, _, rfl, sl_hi (by omega) _, ?_⟩
  have bad : (k < 0 ∨ (k = 5 ∧ text.length - e.length < p1) ∨ (k ≠ 5 ∧ text.length - e.length < p2)) → Q (.list [.bool false, .str text]) g := fun q => hQ _ _ ⟨e, k, B, .inl ⟨q, rfl, rfl⟩⟩
  have hgood : ∀ out, (∃ m : Nat, k = (m : Int) ∧ (m = 5 → p1 ≤ text.length - e.length) ∧ (m ≠ 5 → p2 ≤ text.length - e.length) ∧ Fall m (text.take (text.length - e.length)) front p2 out) → Q (.list [.bool true, .str out]) g := fun out ⟨m, q1, q2, q3, q4⟩ => hQ _ _ ⟨e, k, B, .inr ⟨m, q1, q2, q3, rfl, q4⟩⟩
  have hhl : (text.take (text.length - e.length)).length = text.length - e.length := by rw [List.length_take]; omega
  generalize hat : text.length - e.length = at_ at *
  generalize hhd : text.take at_ = head at *
  by_cases hk : k < 0
  · rw [decide_eq_true hk]
    exact ⟨hb2, bad (.inl hk)⟩
  rw [decide_eq_false hk]
  dsimp only
  obtain ⟨m, rfl, hm⟩ := best_nat B hk
  have hm9 : m < 9 := hm
  have tl : (m = 5 → p1 ≤ at_) → (m ≠ 5 → p2 ≤ at_) → awpSs globV clsV (callN globV clsV ftab (d + 2)) M (fun o σ => match o with | .ret v => Q v σ.g | .next => Q .none σ.g | _ => False) ⟨l25 text front p1 p2 e m at_ head, g⟩ := by
    intro c1 c2
    have hgood2 : ∀ out, Fall m head front p2 out → Q (.list [.bool true, .str out]) g := fun out F => hgood out ⟨m, rfl, c1, c2, F⟩
    have hhb : head.length ≤ bound := by omega
    subst hM
    refine x_eqi' rfl (fun q => x_retE ?_) (fun n0 => x_nil ?_)
    · simp only [awpE, awpEs, l25, List.getElem?_cons_succ, List.getElem?_cons_zero, Option.join_some, Option.some.injEq, exists_eq_left']
      exact ⟨hb2, hgood2 _ (.inl ⟨by omega, rfl⟩)⟩
    refine x_eqi' rfl (fun q => x_retE ?_) (fun n1 => x_nil ?_)
    · simp only [awpE, awpEs, l25, List.getElem?_cons_succ, List.getElem?_cons_zero, Option.join_some, Option.some.injEq, exists_eq_left']
      exact ⟨hb1, hb1, c_ahead (rs := rIC) hhb sm_IC (by decide) fun rest pl A => ⟨_, idx0, hb2, hgood2 _ (.inr (.inl ⟨by omega, pl, A⟩))⟩⟩
    refine x_isin rfl (fun q => x_retE ?_) (fun n2 => x_nil ?_)
    · have hq : (m : Int) = 2 ∨ (m : Int) = 3 ∨ (m : Int) = 4 := by simpa using q
      obtain ⟨j, rfl, hj⟩ : ∃ j, m = j + 2 ∧ j < 3 := ⟨m - 2, by omega, by omega⟩
      obtain ⟨y, hy⟩ : ∃ y, adds[j]? = some y := ⟨_, List.getElem?_eq_getElem (show j < adds.length from hj)⟩
      have hyl : y.length ≤ 10 := by
        have : (adds.all fun x => Nat.ble x.length 10) = true := by kernel_rfl
        exact Nat.le_of_ble_eq_true (List.all_eq_true.mp this y (List.mem_of_getElem? hy))
      simp only [awpE, awpEs, l25, List.getElem?_cons_succ, List.getElem?_cons_zero, Option.join_some, Option.some.injEq, exists_eq_left', bin_sub]
      refine ⟨hb3, .str y, ?_, _, cat_s (by omega), hb2, hgood2 _ (.inr (.inr (.inl ⟨j, y, rfl, hy, rfl⟩)))⟩
      rw [show (((j + 2 : Nat) : Int) - 2) = (j : Int) from by omega]
      exact list_at (by show (adds.map V.str)[j]? = _; rw [List.getElem?_map, hy]; rfl) (by omega)
    have n2' : ¬ ((m : Int) = 2 ∨ (m : Int) = 3 ∨ (m : Int) = 4) := by simpa using n2
    refine x_eqi' rfl (fun q => ?_) (fun n5 => x_nil ?_)
    · exact x_k5 hhb fun out l F => hgood2 _ (.inr (.inr (.inr (.inl ⟨by omega, F⟩))))
    refine x_eqi' rfl (fun q => x_retE ?_) (fun n6 => x_nil ?_)
    · simp only [awpE, awpEs, l25, List.getElem?_cons_succ, List.getElem?_cons_zero, Option.join_some, Option.some.injEq, exists_eq_left']
      exact ⟨hb3, hb1, c_ahead (rs := rM) hhb sm_M (by decide) fun rest pl A => ⟨_, idx0, hb2, hgood2 _ (.inr (.inr (.inr (.inr (.inl ⟨by omega, pl, A⟩)))))⟩⟩
    refine x_eqi' rfl (fun q => x_retE ?_) (fun n7 => x_nil ?_)
    · simp only [awpE, awpEs, l25, List.getElem?_cons_succ, List.getElem?_cons_zero, Option.join_some, Option.some.injEq, exists_eq_left']
      exact ⟨hb3, hb1, c_ahead (rs := rI) hhb sm_I (by decide) fun rest pl A => ⟨_, idx0, hb2, hgood2 _ (.inr (.inr (.inr (.inr (.inr (.inl ⟨by omega, pl, A⟩))))))⟩⟩
    refine x_retE ?_
    simp only [awpE, awpEs, l25, List.getElem?_cons_succ, List.getElem?_cons_zero, Option.join_some, Option.some.injEq, exists_eq_left']
    exact ⟨hb1, hb1, c_ahead (rs := rAT) hhb sm_AT (by decide) fun rest pl A => ⟨_, idx0, hb2, hgood2 _ (.inr (.inr (.inr (.inr (.inr (.inr ⟨by omega, pl, A⟩))))))⟩⟩
  by_cases h5 : m = 5
  · rw [show ((m : Int) == 5) = true from beq_iff_eq.mpr (by omega)]
    dsimp only
    by_cases hv : at_ < p1
    · rw [decide_eq_true (show (p1 : Int) > (at_ : Int) by omega)]
      exact ⟨hb2, bad (.inr (.inl ⟨by omega, hv⟩))⟩
    rw [decide_eq_false (show ¬ (p1 : Int) > (at_ : Int) by omega)]
    dsimp only
    rw [show ((m : Int) != 5) = false from bne_eq_false_iff_eq.mpr (by omega)]
    exact tl (by omega) (by omega)
  · rw [show ((m : Int) == 5) = false from beq_eq_false_iff_ne.mpr (by omega)]
    dsimp only
    rw [show ((m : Int) != 5) = true from bne_iff_ne.mpr (by omega)]
    dsimp only
    by_cases hv : at_ < p2
    · rw [decide_eq_true (show (p2 : Int) > (at_ : Int) by omega)]
      exact ⟨hb2, bad (.inr (.inr ⟨by omega, hv⟩))⟩
    rw [decide_eq_false (show ¬ (p2 : Int) > (at_ : Int) by omega)]
    exact tl (by omega) (by omega)
end
end Mine

-- MStd2
namespace Mine
set_option maxRecDepth 100000
set_option maxHeartbeats 1000000
set_option linter.unusedVariables false

theorem good_3 : GoodT tab3 := goodT good3
theorem good_4 : GoodT tab4 := goodT good4
theorem good_5 : GoodT tab5 := goodT good5
theorem good_6 : GoodT tab6 := goodT good6
theorem nz4 : nzB tab4 = true := by kernel_rfl
theorem nz5 : nzB tab5 = true := by kernel_rfl
def rel3 (r : Int) (k : Nat) : Bool := (r == 1 && k == 0) || (r == -1 && k == 1)
theorem mt3 : matchB tab3 rA rel3 = true := by kernel_rfl
def relAny (r : Int) (k : Nat) : Bool := true
theorem mt4 : matchB tab4 rM relAny = true := by kernel_rfl
theorem mt5 : matchB tab5 rI relAny = true := by kernel_rfl

section
variable {d : Nat} {g : Gl} {b : Bool} {s : SF} {l : List (Option V)} {Q : KS} {r A : MSs}
/-- one piece ahead -/
theorem x_ahead_e {i : Nat} {x : L} (hx : x ≠ []) (hxl : x.length ≤ bound) {head tail rest : L} {front p1 p2 pv : Nat} {pl : Int} (hf : front ≤ head.length) (hb : (head ++ tail).length ≤ bound)
    (hl : ∀ x, ((l.set i x)[0]?).join = some (.stem b) ∧ ((l.set i x)[i]?).join = x) (h0 : (l[0]?).join = some (.stem b)) (H : ASpec [[x]] head front p2 rest pl) (W : Wk s head tail front p1 p2 pv) (hc : s.c = head.length)
    (kk : ∀ l' s', Wk s' rest tail front p1 p2 pv → awpSs globV clsV (callN globV clsV ftab (d + 3)) r Q ⟨l', at' g b s'⟩) :
    awpSs globV clsV (callN globV clsV ftab (d + 3)) (.cons (.assign i (.bin .sub (.attr (.loc 0) .limit) (.attr (.loc 0) .cursor)))
      (.cons (.tryP (.cons (.setAttr (.loc 0) .ket (.attr (.loc 0) .cursor))
      (.cons (.ite (.not (.val (.meth 3 (.loc 0) (.cons (.str x) .nil)))) (.cons (.setAttr (.loc 0) .cursor (.bin .sub (.attr (.loc 0) .limit) (.loc i))) (.cons .raise .nil)) .nil)
      (.cons (.setAttr (.loc 0) .bra (.attr (.loc 0) .cursor))
      (.cons (.ite (.not (.val (.meth 9 (.loc 0) .nil))) (.cons (.setAttr (.loc 0) .cursor (.bin .sub (.attr (.loc 0) .limit) (.loc i))) (.cons .raise .nil)) .nil)
      (.cons (.expr (.meth 7 (.loc 0) .nil)) .nil)))))) r)) Q ⟨l, at' g b s⟩ := by
  obtain ⟨l0, li⟩ := hl (some (.int ((s.l : Int) - (s.c : Nat))))
  exact x_save h0 (x_try (x_ahead_e0 hx hxl hf hb li (Int.sub_sub_self _ _) l0 H W hc fun s' W' => ⟨kk _ _ W', kk _ _ W'⟩))
/-- what may stand ahead of amente -/
theorem x_k6 {head tail out : L} {front p1 p2 pv : Nat} (hf : front ≤ head.length) (hb : (head ++ tail).length ≤ bound) {x1 x2 x3 x4 x5 x6 : Option V}
    (H : ∃ rest pl, ASpec rA head front p2 rest pl ∧ ((pl = 0 ∧ ∃ pl', ASpec rAT rest front p2 out pl') ∨ (pl ≠ 0 ∧ out = rest))) (W : Wk s head tail front p1 p2 pv) (hc : s.c = head.length)
    (kk : ∀ l' s', Wk s' out tail front p1 p2 pv → awpSs globV clsV (callN globV clsV ftab (d + 3)) r Q ⟨l', at' g b s'⟩) :
    awpSs globV clsV (callN globV clsV ftab (d + 3)) (.cons (.assign 3 (.bin .sub (.attr (.loc 0) .limit) (.attr (.loc 0) .cursor)))
  (.cons (.tryP (.cons (.setAttr (.loc 0) .ket (.attr (.loc 0) .cursor))
  (.cons (.assign 1 (.meth 4 (.loc 0) (.cons (.cls 3) .nil)))
  (.cons (.ite (.cmp .eq (.loc 1) (.int 0)) (.cons (.setAttr (.loc 0) .cursor (.bin .sub (.attr (.loc 0) .limit) (.loc 3)))
  (.cons .raise
  .nil)) .nil)
  (.cons (.setAttr (.loc 0) .bra (.attr (.loc 0) .cursor))
  (.cons (.ite (.not (.val (.meth 9 (.loc 0) .nil))) (.cons (.setAttr (.loc 0) .cursor (.bin .sub (.attr (.loc 0) .limit) (.loc 3)))
  (.cons .raise
  .nil)) .nil)
  (.cons (.expr (.meth 7 (.loc 0) .nil))
  (.cons (.ite (.cmp .eq (.loc 1) (.int 1)) (.cons (.setAttr (.loc 0) .ket (.attr (.loc 0) .cursor))
  (.cons (.ite (.not (.val (.meth 3 (.loc 0) (.cons (.str [97, 116]) .nil)))) (.cons (.setAttr (.loc 0) .cursor (.bin .sub (.attr (.loc 0) .limit) (.loc 3)))
  (.cons .raise
  .nil)) .nil)
  (.cons (.setAttr (.loc 0) .bra (.attr (.loc 0) .cursor))
  (.cons (.ite (.not (.val (.meth 9 (.loc 0) .nil))) (.cons (.setAttr (.loc 0) .cursor (.bin .sub (.attr (.loc 0) .limit) (.loc 3)))
  (.cons .raise
  .nil)) .nil)
  (.cons (.expr (.meth 7 (.loc 0) .nil))
  .nil))))) .nil)
  .nil))))))))
  r)) Q ⟨[some (.stem b), x1, x2, x3, x4, x5, x6], at' g b s⟩ := by
  obtain ⟨rest, pl, ⟨e, p, B, hcase⟩, hnext⟩ := H
  have M := match_of mt3
  have hcl : head.length ≤ (head ++ tail).length := by rw [List.length_append]; omega
  have hcur : s.cur.length ≤ bound := by rw [W.cur]; exact hb
  have hcc : s.c ≤ s.cur.length := by rw [hc]; exact wk_le W (Nat.le_refl _)
  have hlb := W.lb
  have hp2 := W.p2
  have W1 : ∀ c k br, Wk { s with c := c, ket := k, bra := br } head tail front p1 p2 pv := fun c k br => ⟨W.cur, W.l, W.lb, W.p1, W.p2, W.pv⟩
  have hw : ({ s with ket := s.c } : SF).w = head.drop front := wk_w (W1 s.c s.c s.bra) hc
  have hsame : pl = -1 → rest = head → out = head := by
    rintro rfl rfl
    rcases hnext with ⟨q, _⟩ | ⟨_, q⟩
    · exact absurd q (by decide)
    · exact q
  refine x_save rfl (x_try (x_ket rfl ?_))
  refine x_find (k := 3) (d := d + 2) rfl good_3 rfl (by dsimp only; omega) hcc hcur (fun en hen hs hmax => ?_) (fun hno => ?_)
  · rw [hw] at hs hmax
    obtain ⟨rfl, m, rfl, hrel, hm⟩ := agree_hit M hen hs hmax B
    have hm2 : m < 2 := hm
    have hr : (en.2.2 = 1 ∧ m = 0) ∨ (en.2.2 = -1 ∧ m = 1) := by
      simpa only [rel3, Bool.or_eq_true, Bool.and_eq_true, beq_iff_eq] using hrel
    have hle : en.1.length ≤ head.length - front := by have := hs.length_le; rw [List.length_drop] at this; exact this
    have hpos : 0 < en.1.length := List.length_pos_iff.mpr (M.ne en hen)
    refine x_eqi rfl (fun q => absurd q (by omega)) fun _ => x_nil ?_
    refine x_bra rfl (x_r2 (d := d + 2) rfl (fun hv => ?_) (fun hv => ?_))
    · dsimp only at hv
      refine x_del (d := d) (W1 _ _ _) rfl (Nat.le_refl _) (by dsimp only; omega) hc hb fun s' W' hc' => ?_
      dsimp only at W' hc'
      rw [hc] at W' hc'
      obtain ⟨rfl, rfl⟩ : rest = head.take (head.length - en.1.length) ∧ pl = (m : Int) := by
        rcases hcase with ⟨_, a1, a2⟩ | ⟨q, _⟩
        · exact ⟨a1, a2⟩
        · exact absurd ⟨by omega, by omega⟩ q
      have htl : (head.take (head.length - en.1.length)).length = head.length - en.1.length := by rw [List.length_take]; omega
      refine x_eqi rfl (fun q => ?_) (fun q => ?_)
      · rcases hnext with ⟨_, pl', A⟩ | ⟨q2, _⟩
        · refine x_ahead_e0 (i := 3) (x := [97, 116]) (by decide) (by decide) (by omega) (by rw [List.length_append, htl]; rw [List.length_append] at hb; omega) rfl ?_ rfl A W' (by omega) fun s'' W'' => ⟨x_nil (kk _ _ W''), kk _ _ W''⟩
          have e1 := W.l
          have e2 := W'.l
          rw [List.length_append] at e1 e2
          omega
        · exact absurd (by omega) q2
      · rcases hnext with ⟨q2, _⟩ | ⟨_, rfl⟩
        · exact absurd q2 (by omega)
        · exact x_nil (x_nil (kk _ _ W'))
    · dsimp only at hv
      rcases hcase with ⟨q, _⟩ | ⟨_, a1, a2⟩
      · exact absurd q.2 (by omega)
      · have := hsame a2 a1
        subst this
        exact x_back s.l s.c rfl rfl rfl (x_raise (kk _ _ (W1 _ _ _)))
  · rw [hw] at hno
    obtain ⟨rfl, rfl⟩ := agree_miss M hno B
    refine x_eqi rfl (fun _ => ?_) (fun q => absurd rfl q)
    rcases hcase with ⟨q, _⟩ | ⟨_, a1, a2⟩
    · exact absurd q.1 (by decide)
    · have := hsame a2 a1
      subst this
      exact x_back s.l s.c rfl rfl rfl (x_raise (kk _ _ (W1 s.c s.c s.bra)))
end

theorem adds_lt {m : Nat} {y : L} (h : adds[m]? = some y) : m < 3 := (List.getElem?_eq_some_iff.mp h).1
section
variable {m front p2 : Nat} {head out : L}
theorem fall_0 (h : m = 0) (F : Fall m head front p2 out) : out = head := by
  rcases F with ⟨q, r⟩ | ⟨q, r⟩ | ⟨j, y, q, r1, r2⟩ | ⟨q, r⟩ | ⟨q, r⟩ | ⟨q, r⟩ | ⟨q, r⟩
  · exact r
  · omega
  · have := adds_lt r1; omega
  · omega
  · omega
  · omega
  · omega
theorem fall_1 (h : m = 1) (F : Fall m head front p2 out) : ∃ pl, ASpec rIC head front p2 out pl := by
  rcases F with ⟨q, r⟩ | ⟨q, r⟩ | ⟨j, y, q, r1, r2⟩ | ⟨q, r⟩ | ⟨q, r⟩ | ⟨q, r⟩ | ⟨q, r⟩
  · omega
  · exact r
  · have := adds_lt r1; omega
  · omega
  · omega
  · omega
  · omega
theorem fall_5 (h : m = 5) (F : Fall m head front p2 out) : ∃ rest pl, ASpec rA head front p2 rest pl ∧ ((pl = 0 ∧ ∃ pl', ASpec rAT rest front p2 out pl') ∨ (pl ≠ 0 ∧ out = rest)) := by
  rcases F with ⟨q, r⟩ | ⟨q, r⟩ | ⟨j, y, q, r1, r2⟩ | ⟨q, r⟩ | ⟨q, r⟩ | ⟨q, r⟩ | ⟨q, r⟩
  · omega
  · omega
  · have := adds_lt r1; omega
  · exact r
  · omega
  · omega
  · omega
theorem fall_6 (h : m = 6) (F : Fall m head front p2 out) : ∃ pl, ASpec rM head front p2 out pl := by
  rcases F with ⟨q, r⟩ | ⟨q, r⟩ | ⟨j, y, q, r1, r2⟩ | ⟨q, r⟩ | ⟨q, r⟩ | ⟨q, r⟩ | ⟨q, r⟩
  · omega
  · omega
  · have := adds_lt r1; omega
  · omega
  · exact r
  · omega
  · omega
theorem fall_7 (h : m = 7) (F : Fall m head front p2 out) : ∃ pl, ASpec rI head front p2 out pl := by
  rcases F with ⟨q, r⟩ | ⟨q, r⟩ | ⟨j, y, q, r1, r2⟩ | ⟨q, r⟩ | ⟨q, r⟩ | ⟨q, r⟩ | ⟨q, r⟩
  · omega
  · omega
  · have := adds_lt r1; omega
  · omega
  · omega
  · exact r
  · omega
theorem fall_8 (h : m = 8) (F : Fall m head front p2 out) : ∃ pl, ASpec rAT head front p2 out pl := by
  rcases F with ⟨q, r⟩ | ⟨q, r⟩ | ⟨j, y, q, r1, r2⟩ | ⟨q, r⟩ | ⟨q, r⟩ | ⟨q, r⟩ | ⟨q, r⟩
  · omega
  · omega
  · have := adds_lt r1; omega
  · omega
  · omega
  · omega
  · exact r
theorem fall_add {i : Nat} {z : L} (h : m = i + 2) (hz : adds[i]? = some z) (F : Fall m head front p2 out) : out = head ++ z := by
  have hi := adds_lt hz
  rcases F with ⟨q, r⟩ | ⟨q, r⟩ | ⟨j, y, q, r1, r2⟩ | ⟨q, r⟩ | ⟨q, r⟩ | ⟨q, r⟩ | ⟨q, r⟩
  · omega
  · omega
  · have : j = i := by omega
    subst this
    rw [hz] at r1
    cases r1
    exact r2
  · omega
  · omega
  · omega
  · omega
end
theorem c_rstd {d : Nat} {g : Gl} {b : Bool} {s : SF} {text tail : L} {front p1 p2 pv : Nat} (St : Start s text tail front p1 p2 pv) (hft : front ≤ text.length) (hb : (text ++ tail).length + 100 ≤ bound) {ans : Bool} {out : L} (H : SSpec text front p1 p2 ans out) {Q : V → Gl → Prop}
    (hQ : ∀ s', Wk s' out tail front p1 p2 pv → Q (.bool ans) (at' g b s')) : callN globV clsV ftab (d + 4) 11 [.stem b] Q (at' g b s) := by
  refine ⟨fd11, rfl, rfl, ?_⟩
  show awpSs globV clsV (callN globV clsV ftab (d + 3)) m11 _ ⟨[some (.stem b), none, none, none, none, none, none], at' g b s⟩
  obtain ⟨e, k, B, hcase⟩ := H
  have M := match_of mt6
  have hcl : text.length ≤ (text ++ tail).length := by rw [List.length_append]; omega
  have hcur : s.cur.length ≤ bound := by rw [St.cur]; omega
  have hsc := St.c
  have hlb := St.lb
  have hp1 := St.p1
  have hp2 := St.p2
  have hcc : s.c ≤ s.cur.length := by rw [hsc]; exact wk_le St.wk (Nat.le_refl _)
  have W0 : ∀ k, Wk { s with ket := k } text tail front p1 p2 pv := fun k => ⟨St.cur, St.l, St.lb, St.p1, St.p2, St.pv⟩
  have W1 : ∀ c k br, Wk { s with c := c, ket := k, bra := br } text tail front p1 p2 pv := fun c k br => ⟨St.cur, St.l, St.lb, St.p1, St.p2, St.pv⟩
  have hw := wk_w (W0 s.c) hsc
  refine x_ket rfl (x_find (k := 6) (d := d + 2) rfl good_6 rfl (by dsimp only; omega) hcc hcur (fun en hen hs hmax => ?_) (fun hno => ?_))
  · rw [hw] at hs hmax
    obtain ⟨rfl, m, rfl, hrel, hm⟩ := agree_hit M hen hs hmax B
    have hm9 : m < 9 := hm
    have hr1 : en.2.2 = (m : Int) + 1 := by
      simp only [relPlus, beq_iff_eq] at hrel
      exact hrel
    have hle : en.1.length ≤ text.length - front := by have := hs.length_le; rw [List.length_drop] at this; exact this
    have hpos : 0 < en.1.length := List.length_pos_iff.mpr (M.ne en hen)
    have hbad : (m = 5 ∧ text.length - en.1.length < p1) ∨ (m ≠ 5 ∧ text.length - en.1.length < p2) → ans = false ∧ out = text := fun q => by
      rcases hcase with ⟨_, a1, a2⟩ | ⟨m', q1, q2, q3, _⟩
      · exact ⟨a1, a2⟩
      · have : m' = m := by omega
        subst this
        rcases q with ⟨q4, q5⟩ | ⟨q4, q5⟩
        · have := q2 q4; omega
        · have := q3 q4; omega
    have hgood : (m = 5 → p1 ≤ text.length - en.1.length) → (m ≠ 5 → p2 ≤ text.length - en.1.length) → ans = true ∧ Fall m (text.take (text.length - en.1.length)) front p2 out := fun c1 c2 => by
      rcases hcase with ⟨q, _⟩ | ⟨m', q1, q2, q3, a1, F⟩
      · by_cases h5 : m = 5
        · have := c1 h5
          rcases q with q | q | q <;> omega
        · have := c2 h5
          rcases q with q | q | q <;> omega
      · have : m' = m := by omega
        subst this
        exact ⟨a1, F⟩
    clear hcase
    rw [hr1]
    refine x_eqi rfl (fun q => absurd q (by omega)) fun _ => x_nil ?_
    refine x_bra rfl ?_
    generalize hat : text.length - en.1.length = at_ at *
    have hcat : s.c - en.1.length = at_ := by omega
    rw [hcat]
    generalize hhd : text.take at_ = head at *
    have hhl : head.length = at_ := by rw [← hhd, List.length_take]; omega
    have hfh : front ≤ head.length := by omega
    have hbh : (head ++ tail).length ≤ bound := by rw [List.length_append]; rw [List.length_append] at hb; omega
    have hfail2 : m ≠ 5 → ¬ p2 ≤ at_ → ∀ s', Wk s' text tail front p1 p2 pv → Q (.bool false) (at' g b s') := fun h5 hv s' W => by
      obtain ⟨rfl, rfl⟩ := hbad (.inr ⟨h5, by omega⟩)
      exact hQ s' W
    have hdel : ∀ (lc : List (Option V)) (r : MSs) (K : KS), (lc[0]?).join = some (V.stem b) → (∀ s', Wk s' head tail front p1 p2 pv → s'.c = head.length → awpSs globV clsV (callN globV clsV ftab (d + 3)) r K ⟨lc, at' g b s'⟩) →
        awpSs globV clsV (callN globV clsV ftab (d + 3)) (.cons (.expr (.meth 7 (.loc 0) .nil)) r) K ⟨lc, at' g b { s with c := at_, bra := at_, ket := s.c }⟩ := by
      intro lc r K h0 hK
      refine x_del (d := d) (W1 _ _ _) h0 (Nat.le_refl _) (by clear hK hgood hbad hfail2; dsimp only; omega) hsc (by clear hK hgood hbad hfail2; omega) fun s' W hc' => ?_
      dsimp only at W hc'
      rw [hhd] at W
      exact hK s' W (by rw [hc', hhl])
    have hfrom : ∀ (lc : List (Option V)) (y : L) (K : KS), (lc[0]?).join = some (V.stem b) → y.length ≤ 10 → (∀ s', Wk s' (head ++ y) tail front p1 p2 pv → K .next ⟨lc, at' g b s'⟩) →
        awpSs globV clsV (callN globV clsV ftab (d + 3)) (.cons (.expr (.meth 6 (.loc 0) (.cons (.str y) .nil))) .nil) K ⟨lc, at' g b { s with c := at_, bra := at_, ket := s.c }⟩ := by
      intro lc y K h0 hy hK
      refine x_from (d := d + 1) (W1 _ _ _) h0 (Nat.le_refl _) (by clear hK hgood hbad hfail2; dsimp only; omega) hsc (by clear hK hgood hbad hfail2; omega) fun s' W hc' => x_nil ?_
      dsimp only at W
      rw [hhd] at W
      exact hK s' W
    refine x_eqi rfl (fun q => ?_) (fun n1 => ?_)
    · refine x_r2 (d := d + 2) rfl (fun hv => ?_) (fun hv => x_retb (hfail2 (by omega) (by dsimp only at hv; omega) _ (W1 _ _ _)))
      dsimp only at hv
      obtain ⟨rfl, F⟩ := hgood (by omega) (by omega)
      have ho := fall_0 (by omega) F
      subst ho
      refine hdel _ _ _ rfl fun s' W2 hc => ?_
      repeat refine x_nil ?_
      exact x_retb (hQ _ W2)
    refine x_eqi rfl (fun q => ?_) (fun n2 => ?_)
    · refine x_r2 (d := d + 2) rfl (fun hv => ?_) (fun hv => x_retb (hfail2 (by omega) (by dsimp only at hv; omega) _ (W1 _ _ _)))
      dsimp only at hv
      obtain ⟨rfl, F⟩ := hgood (by omega) (by omega)
      obtain ⟨pl, A⟩ := fall_1 (by omega) F
      refine hdel _ _ _ rfl fun s' W hc => x_ahead_e (i := 2) (x := [105, 99]) (by decide) (by decide) hfh hbh (fun x => ⟨rfl, rfl⟩) rfl A W hc fun l' s2 W2 => ?_
      repeat refine x_nil ?_
      exact x_retb (hQ _ W2)
    refine x_eqi rfl (fun q => ?_) (fun n3 => ?_)
    · refine x_r2 (d := d + 2) rfl (fun hv => ?_) (fun hv => x_retb (hfail2 (by omega) (by dsimp only at hv; omega) _ (W1 _ _ _)))
      dsimp only at hv
      obtain ⟨rfl, F⟩ := hgood (by omega) (by omega)
      have ho := fall_add (i := 0) (z := [108, 111, 103]) (by omega) rfl F
      subst ho
      refine hfrom _ _ _ rfl (by decide) fun s' W2 => ?_
      repeat refine x_nil ?_
      exact x_retb (hQ _ W2)
    refine x_eqi rfl (fun q => ?_) (fun n4 => ?_)
    · refine x_r2 (d := d + 2) rfl (fun hv => ?_) (fun hv => x_retb (hfail2 (by omega) (by dsimp only at hv; omega) _ (W1 _ _ _)))
      dsimp only at hv
      obtain ⟨rfl, F⟩ := hgood (by omega) (by omega)
      have ho := fall_add (i := 1) (z := [117]) (by omega) rfl F
      subst ho
      refine hfrom _ _ _ rfl (by decide) fun s' W2 => ?_
      repeat refine x_nil ?_
      exact x_retb (hQ _ W2)
    refine x_eqi rfl (fun q => ?_) (fun n5 => ?_)
    · refine x_r2 (d := d + 2) rfl (fun hv => ?_) (fun hv => x_retb (hfail2 (by omega) (by dsimp only at hv; omega) _ (W1 _ _ _)))
      dsimp only at hv
      obtain ⟨rfl, F⟩ := hgood (by omega) (by omega)
      have ho := fall_add (i := 2) (z := [101, 110, 116, 101]) (by omega) rfl F
      subst ho
      refine hfrom _ _ _ rfl (by decide) fun s' W2 => ?_
      repeat refine x_nil ?_
      exact x_retb (hQ _ W2)
    refine x_eqi rfl (fun q => ?_) (fun n6 => ?_)
    · refine x_p1 rfl (fun hv => ?_) (fun hv => ?_)
      · dsimp only at hv
        obtain ⟨rfl, F⟩ := hgood (by omega) (by omega)
        refine hdel _ _ _ rfl fun s' W hc => x_k6 hfh hbh (fall_5 (by omega) F) W hc fun l' s2 W2 => ?_
        repeat refine x_nil ?_
        exact x_retb (hQ _ W2)
      · dsimp only at hv
        obtain ⟨rfl, rfl⟩ := hbad (.inl ⟨by omega, by omega⟩)
        exact x_retb (hQ _ (W1 _ _ _))
    refine x_eqi rfl (fun q => ?_) (fun n7 => ?_)
    · refine x_r2 (d := d + 2) rfl (fun hv => ?_) (fun hv => x_retb (hfail2 (by omega) (by dsimp only at hv; omega) _ (W1 _ _ _)))
      dsimp only at hv
      obtain ⟨rfl, F⟩ := hgood (by omega) (by omega)
      obtain ⟨pl, A⟩ := fall_6 (by omega) F
      refine hdel _ _ _ rfl fun s' W hc => x_ahead_t (i := 4) (k := 4) rfl good_4 (match_of mt4) nz4 hfh hbh (fun x => ⟨rfl, rfl⟩) rfl A W hc fun l' s2 W2 => ?_
      repeat refine x_nil ?_
      exact x_retb (hQ _ W2)
    refine x_eqi rfl (fun q => ?_) (fun n8 => ?_)
    · refine x_r2 (d := d + 2) rfl (fun hv => ?_) (fun hv => x_retb (hfail2 (by omega) (by dsimp only at hv; omega) _ (W1 _ _ _)))
      dsimp only at hv
      obtain ⟨rfl, F⟩ := hgood (by omega) (by omega)
      obtain ⟨pl, A⟩ := fall_7 (by omega) F
      refine hdel _ _ _ rfl fun s' W hc => x_ahead_t (i := 5) (k := 5) rfl good_5 (match_of mt5) nz5 hfh hbh (fun x => ⟨rfl, rfl⟩) rfl A W hc fun l' s2 W2 => ?_
      repeat refine x_nil ?_
      exact x_retb (hQ _ W2)
    refine x_r2 (d := d + 2) rfl (fun hv => ?_) (fun hv => x_retb (hfail2 (by omega) (by dsimp only at hv; omega) _ (W1 _ _ _)))
    dsimp only at hv
    obtain ⟨rfl, F⟩ := hgood (by omega) (by omega)
    obtain ⟨pl, A⟩ := fall_8 (by omega) F
    refine hdel _ _ _ rfl fun s' W hc => x_ahead_e (i := 6) (x := [97, 116]) (by decide) (by decide) hfh hbh (fun x => ⟨rfl, rfl⟩) rfl A W hc fun l' s2 W2 => ?_
    repeat refine x_nil ?_
    exact x_retb (hQ _ W2)
  · rw [hw] at hno
    obtain ⟨rfl, rfl⟩ := agree_miss M hno B
    refine x_eqi rfl (fun _ => ?_) (fun q => absurd rfl q)
    rcases hcase with ⟨_, rfl, rfl⟩ | ⟨m', q, _⟩
    · exact x_retb (hQ _ (W0 _))
    · exact absurd q (by omega)
end Mine

-- MEnd
namespace Mine
set_option maxRecDepth 100000
set_option maxHeartbeats 1000000
set_option linter.unusedVariables false

def init6 : Fields := [(.current, .str []), (.cursor, .int 0), (.limit, .int 0), (.lb, .int 0), (.bra, .int 0), (.ket, .int 0)]
/-- a stemmer made, or at work -/
def Ready (f : Fields) : Prop := f = init6 ∨ ∃ s : SF, f = s.f
theorem ready_len {f : Fields} (h : Ready f) : f.length ≤ 90 := by
  rcases h with rfl | ⟨s, rfl⟩
  · show 6 ≤ 90; decide
  · show 9 ≤ 90; decide
def setSF (text tail : L) (front p1 p2 pv : Nat) : SF := ⟨text ++ tail, text.length, (text ++ tail).length, front, 0, (text ++ tail).length, p1, p2, pv⟩
theorem start_set (text tail : L) (front p1 p2 pv : Nat) : Start (setSF text tail front p1 p2 pv) text tail front p1 p2 pv := ⟨rfl, rfl, rfl, rfl, rfl, rfl, rfl⟩
theorem ready_set {f : Fields} (h : Ready f) (text tail : L) (front p1 p2 pv : Nat) :
    setF .pV (.int pv) (setF .p2 (.int p2) (setF .p1 (.int p1) (setF .lb (.int front) (setF .cursor (.int text.length) (setF .ket (.int (text ++ tail).length) (setF .bra (.int 0) (setF .lb (.int 0) (setF .limit (.int (text ++ tail).length) (setF .cursor (.int 0) (setF .current (.str (text ++ tail)) f)))))))))) = (setSF text tail front p1 p2 pv).f := by
  rcases h with rfl | ⟨s, rfl⟩ <;> rfl
section
variable {step : Nat} {text tail : L} {front p1 p2 pv : Nat} {g : Gl}
theorem cs0 : idxV g (caseV step text tail front p1 p2 pv) (.int 0) = some (.int step) := list_at (m := 0) rfl (by unfold bound; omega)
theorem cs1 : idxV g (caseV step text tail front p1 p2 pv) (.int 1) = some (.str text) := list_at (m := 1) rfl (by unfold bound; omega)
theorem cs2 : idxV g (caseV step text tail front p1 p2 pv) (.int 2) = some (.str tail) := list_at (m := 2) rfl (by unfold bound; omega)
theorem cs3 : idxV g (caseV step text tail front p1 p2 pv) (.int 3) = some (.int front) := list_at (m := 3) rfl (by unfold bound; omega)
theorem cs4 : idxV g (caseV step text tail front p1 p2 pv) (.int 4) = some (.int p1) := list_at (m := 4) rfl (by unfold bound; omega)
theorem cs5 : idxV g (caseV step text tail front p1 p2 pv) (.int 5) = some (.int p2) := list_at (m := 5) rfl (by unfold bound; omega)
theorem cs6 : idxV g (caseV step text tail front p1 p2 pv) (.int 6) = some (.int pv) := list_at (m := 6) rfl (by unfold bound; omega)
theorem ex_stF {b : Bool} {F : Fields} {P : Bool → Fields → Prop} (h : F.length ≤ 100) : (∃ b' f, V.stem b = V.stem b' ∧ (g.setSt b F).st b' = some f ∧ f.length ≤ 100 ∧ P b' f) ↔ P b F := by
  constructor
  · rintro ⟨b', f, h1, h2, _, h4⟩
    cases h1
    rw [st_set] at h2; cases h2
    exact h4
  · exact fun k => ⟨b, F, rfl, st_set _ _ _, h, k⟩
end
section
variable {d : Nat} {g : Gl} {Q : V → Gl → Prop}
/-- the constructor -/
theorem c_init {b : Bool} (hQ : Q .none (g.setSt b init6)) : callN globV clsV ftab (d + 2) 0 [.stem b] Q (g.setSt b []) := by
  refine ⟨fd0, rfl, rfl, ?_⟩
  show awpSs globV clsV (callN globV clsV ftab (d + 1)) m0 _ ⟨[some (.stem b)], g.setSt b []⟩
  simp only [m0, awpSs, awpS, awpE, awpEs, List.getElem?_cons_zero, Option.join_some, Option.some.injEq, exists_eq_left']
  refine ⟨b, rfl, by rw [st_set]; rfl, c_cur (st_set _ _ _) (by decide) (by decide) ?_⟩
  rw [set_set]
  exact hQ
theorem c_set {b : Bool} {f : Fields} {step : Nat} {text tail : L} {front p1 p2 pv : Nat} (hf : g.st b = some f) (R : Ready f) (hb : text.length + tail.length ≤ bound) (hQ : Q .none (at' g b (setSF text tail front p1 p2 pv))) :
    callN globV clsV ftab (d + 2) 32 [.stem b, caseV step text tail front p1 p2 pv] Q g := by
  refine ⟨fd32, rfl, rfl, ?_⟩
  show awpSs globV clsV (callN globV clsV ftab (d + 1)) m32 _ ⟨[some (.stem b), some (caseV step text tail front p1 p2 pv)], g⟩
  have hl := ready_len R
  have n1 := set_len .current (.str (text ++ tail)) f
  have hcat : binV .add (.str text) (.str tail) = some (.str (text ++ tail)) := cat_s hb
  simp only [m32, awpSs, awpS, awpE, awpEs, List.getElem?_cons_zero, List.getElem?_cons_succ, Option.join_some, Option.some.injEq, exists_eq_left', cs1, cs2, cs3, cs4, cs5, cs6, hcat, len_s (show text.length ≤ bound by omega)]
  refine ⟨b, rfl, by rw [hf]; rfl, c_cur hf hl (by rw [List.length_append]; omega) ?_⟩
  generalize hF0 : setF .ket (.int (text ++ tail).length) (setF .bra (.int 0) (setF .lb (.int 0) (setF .limit (.int (text ++ tail).length) (setF .cursor (.int 0) (setF .current (.str (text ++ tail)) f))))) = F0
  have l0 : F0.length ≤ 96 := by
    rw [← hF0]
    have a1 := set_len .current (.str (text ++ tail)) f
    have a2 := set_len .cursor (.int 0) (setF .current (.str (text ++ tail)) f)
    have a3 := set_len .limit (.int (text ++ tail).length) (setF .cursor (.int 0) (setF .current (.str (text ++ tail)) f))
    have a4 := set_len .lb (.int 0) (setF .limit (.int (text ++ tail).length) (setF .cursor (.int 0) (setF .current (.str (text ++ tail)) f)))
    have a5 := set_len .bra (.int 0) (setF .lb (.int 0) (setF .limit (.int (text ++ tail).length) (setF .cursor (.int 0) (setF .current (.str (text ++ tail)) f))))
    have a6 := set_len .ket (.int (text ++ tail).length) (setF .bra (.int 0) (setF .lb (.int 0) (setF .limit (.int (text ++ tail).length) (setF .cursor (.int 0) (setF .current (.str (text ++ tail)) f)))))
    omega
  have l1 := set_len .cursor (.int text.length) F0
  have l2 := set_len .lb (.int front) (setF .cursor (.int text.length) F0)
  have l3 := set_len .p1 (.int p1) (setF .lb (.int front) (setF .cursor (.int text.length) F0))
  have l4 := set_len .p2 (.int p2) (setF .p1 (.int p1) (setF .lb (.int front) (setF .cursor (.int text.length) F0)))
  have fin := ready_set R text tail front p1 p2 pv
  rw [hF0] at fin
  simp only [ex_stF (show F0.length ≤ 100 by omega), set_set, ex_stF (show (setF .cursor (.int text.length) F0).length ≤ 100 by omega), ex_stF (show (setF .lb (.int front) (setF .cursor (.int text.length) F0)).length ≤ 100 by omega), ex_stF (show (setF .p1 (.int p1) (setF .lb (.int front) (setF .cursor (.int text.length) F0))).length ≤ 100 by omega), ex_stF (show (setF .p2 (.int p2) (setF .p1 (.int p1) (setF .lb (.int front) (setF .cursor (.int text.length) F0)))).length ≤ 100 by omega), fin]
  exact hQ

/-- what _law_due says -/
def DSpec (step : Nat) (text : L) (front p1 p2 pv : Nat) (ans : Bool) (out : L) : Prop :=
  (step = 0 ∧ SSpec text front p1 p2 ans out) ∨ (step = 1 ∧ PSpec text front pv ans out) ∨ (step = 2 ∧ YSpec text front pv ans out) ∨ (step = 3 ∧ VSpec text front pv ans out) ∨ (4 ≤ step ∧ RSpec text front pv ans out)
theorem c_due {step : Nat} {text tail : L} {front p1 p2 pv : Nat} (ht : text.length + 100 ≤ bound) (hQ : ∀ ans out, DSpec step text front p1 p2 pv ans out → Q (.list [.bool ans, .str out]) g) :
    callN globV clsV ftab (d + 4) 30 [caseV step text tail front p1 p2 pv] Q g := by
  refine ⟨fd30, rfl, rfl, ?_⟩
  show awpSs globV clsV (callN globV clsV ftab (d + 3)) m30 _ ⟨[some (caseV step text tail front p1 p2 pv), none, none, none, none, none, none, none], g⟩
  have hb : text.length ≤ bound := by omega
  simp only [m30, awpSs, awpS, awpE, awpEs, awpT, List.getElem?_cons_zero, List.getElem?_cons_succ, Option.join_some, Option.some.injEq, exists_eq_left']
  refine ⟨_, _, rfl, rfl, ?_⟩
  simp only [List.set_cons_succ, List.set_cons_zero, List.getElem?_cons_zero, List.getElem?_cons_succ, Option.join_some, Option.some.injEq, exists_eq_left', cmp_eq]
  by_cases h0 : step = 0
  · rw [show ((step : Int) == 0) = true from beq_iff_eq.mpr (by omega)]
    exact c_laws (d := d) ht fun ans out S => hQ _ _ (.inl ⟨h0, S⟩)
  rw [show ((step : Int) == 0) = false from beq_eq_false_iff_ne.mpr (by omega)]
  dsimp only
  by_cases h1 : step = 1
  · rw [show ((step : Int) == 1) = true from beq_iff_eq.mpr (by omega)]
    exact c_lawp (d := d + 1) hb (fun ans out S => hQ _ _ (.inr (.inl ⟨h1, S⟩))) ht
  rw [show ((step : Int) == 1) = false from beq_eq_false_iff_ne.mpr (by omega)]
  dsimp only
  by_cases h2 : step = 2
  · rw [show ((step : Int) == 2) = true from beq_iff_eq.mpr (by omega)]
    exact c_lawy (d := d + 1) hb fun ans out S => hQ _ _ (.inr (.inr (.inl ⟨h2, S⟩)))
  rw [show ((step : Int) == 2) = false from beq_eq_false_iff_ne.mpr (by omega)]
  dsimp only
  by_cases h3 : step = 3
  · rw [show ((step : Int) == 3) = true from beq_iff_eq.mpr (by omega)]
    exact c_lawv (d := d + 1) hb fun ans out S => hQ _ _ (.inr (.inr (.inr (.inl ⟨h3, S⟩))))
  rw [show ((step : Int) == 3) = false from beq_eq_false_iff_ne.mpr (by omega)]
  dsimp only
  exact c_lawr (d := d + 1) hb fun ans out S => hQ _ _ (.inr (.inr (.inr (.inr ⟨by omega, S⟩))))
theorem c_told {step : Nat} {b : Bool} {s : SF} {text tail : L} {front p1 p2 pv : Nat} (St : Start s text tail front p1 p2 pv) (hft : front ≤ text.length) (hb : (text ++ tail).length + 100 ≤ bound) {ans : Bool} {out : L} (H : DSpec step text front p1 p2 pv ans out)
    (hQ : ∀ s', Wk s' out tail front p1 p2 pv → Q (.bool ans) (at' g b s')) : callN globV clsV ftab (d + 5) 31 [.stem b, .int step] Q (at' g b s) := by
  refine ⟨fd31, rfl, rfl, ?_⟩
  show awpSs globV clsV (callN globV clsV ftab (d + 4)) m31 _ ⟨[some (.stem b), some (.int step)], at' g b s⟩
  have hb' : (text ++ tail).length ≤ bound := by omega
  simp only [m31, awpSs, awpS, awpE, awpEs, awpT, List.getElem?_cons_zero, List.getElem?_cons_succ, Option.join_some, Option.some.injEq, exists_eq_left', cmp_eq, ex_meth]
  rcases H with ⟨h, S⟩ | ⟨h, S⟩ | ⟨h, S⟩ | ⟨h, S⟩ | ⟨h, S⟩
  · rw [show ((step : Int) == 0) = true from beq_iff_eq.mpr (by omega)]
    exact c_rstd (d := d) St hft hb S hQ
  · rw [show ((step : Int) == 0) = false from beq_eq_false_iff_ne.mpr (by omega)]
    dsimp only
    rw [show ((step : Int) == 1) = true from beq_iff_eq.mpr (by omega)]
    exact c_rpro (d := d) St hft hb S hQ
  · rw [show ((step : Int) == 0) = false from beq_eq_false_iff_ne.mpr (by omega)]
    dsimp only
    rw [show ((step : Int) == 1) = false from beq_eq_false_iff_ne.mpr (by omega)]
    dsimp only
    rw [show ((step : Int) == 2) = true from beq_iff_eq.mpr (by omega)]
    exact c_ry (d := d) St hft hb' S fun s' A => hQ s' ⟨A.cur, A.l, A.lb.trans St.lb, A.p1.trans St.p1, A.p2.trans St.p2, A.pv.trans St.pv⟩
  · rw [show ((step : Int) == 0) = false from beq_eq_false_iff_ne.mpr (by omega)]
    dsimp only
    rw [show ((step : Int) == 1) = false from beq_eq_false_iff_ne.mpr (by omega)]
    dsimp only
    rw [show ((step : Int) == 2) = false from beq_eq_false_iff_ne.mpr (by omega)]
    dsimp only
    rw [show ((step : Int) == 3) = true from beq_iff_eq.mpr (by omega)]
    exact c_rverb (d := d) St hft hb' S hQ
  · rw [show ((step : Int) == 0) = false from beq_eq_false_iff_ne.mpr (by omega)]
    dsimp only
    rw [show ((step : Int) == 1) = false from beq_eq_false_iff_ne.mpr (by omega)]
    dsimp only
    rw [show ((step : Int) == 2) = false from beq_eq_false_iff_ne.mpr (by omega)]
    dsimp only
    rw [show ((step : Int) == 3) = false from beq_eq_false_iff_ne.mpr (by omega)]
    dsimp only
    exact c_rres (d := d) St hft hb' S hQ
end
end Mine

-- MLaw
namespace Mine
set_option maxRecDepth 100000
set_option maxHeartbeats 1000000
set_option linter.unusedVariables false

theorem fall_len {k : Nat} {head : L} {front p2 : Nat} {out : L} (F : Fall k head front p2 out) : out.length ≤ head.length + 10 := by
  rcases F with ⟨_, rfl⟩ | ⟨_, _, A⟩ | ⟨m, y, _, hy, rfl⟩ | ⟨_, rest, pl, A, ⟨_, _, A'⟩ | ⟨_, rfl⟩⟩ | ⟨_, _, A⟩ | ⟨_, _, A⟩ | ⟨_, _, A⟩
  · omega
  · have := aspec_le A; omega
  · have hyl : y.length ≤ 10 := by
      have : (adds.all fun x => Nat.ble x.length 10) = true := by kernel_rfl
      exact Nat.le_of_ble_eq_true (List.all_eq_true.mp this y (List.mem_of_getElem? hy))
    rw [List.length_append]; omega
  · have := aspec_le A; have := aspec_le A'; omega
  · have := aspec_le A; omega
  · have := aspec_le A; omega
  · have := aspec_le A; omega
  · have := aspec_le A; omega
theorem d_len {step : Nat} {text : L} {front p1 p2 pv : Nat} {ans : Bool} {out : L} (D : DSpec step text front p1 p2 pv ans out) : out.length ≤ text.length + 10 := by
  have tk : ∀ n, (text.take n).length ≤ text.length := fun n => by rw [List.length_take]; omega
  rcases D with ⟨_, e, k, _, ⟨_, _, rfl⟩ | ⟨m, _, _, _, _, F⟩⟩ | ⟨_, e, p, e2, k, _, _, ⟨_, _, rfl⟩ | ⟨_, ⟨m, y, _, hy, _, rfl⟩ | ⟨_, _, rfl⟩ | ⟨_, _, _, rfl⟩⟩⟩ | ⟨_, e, p, _, ⟨_, _, _, _, rfl⟩ | ⟨_, _, rfl⟩⟩ | ⟨_, e, p, _, ⟨_, _, rfl⟩ | ⟨_, _, _, rfl⟩ | ⟨_, _, _, rfl⟩⟩ | ⟨_, e, p, _, ⟨_, _, rfl⟩ | ⟨_, _, _, rfl⟩ | ⟨_, _, _, rfl⟩⟩
  · omega
  · have := fall_len F; have := tk (text.length - e.length); omega
  · omega
  · have hyl : y.length ≤ 10 := by
      have : (alts.all fun x => Nat.ble x.length 10) = true := by kernel_rfl
      exact Nat.le_of_ble_eq_true (List.all_eq_true.mp this y (List.mem_of_getElem? hy))
    have := tk (text.length - e.length - e2.length)
    rw [List.length_append]; omega
  · have := tk (text.length - e.length); omega
  · omega
  · have := tk (text.length - e.length); omega
  · omega
  · omega
  · have := tk (text.length - e.length - 1); omega
  · have := tk (text.length - e.length); omega
  · omega
  · have := tk (text.length - e.length - 1); omega
  · have := tk (text.length - e.length); omega
section
variable {d : Nat} {g : Gl} {Q : V → Gl → Prop}
theorem ne_int {a : Int} : cmpV .ne (.int a) (.int a) = some false := by
  show some (a != a) = _
  rw [bne_self_eq_false]
theorem ne_str {a : L} : cmpV .ne (.str a) (.str a) = some false := by
  show some (a != a) = _
  rw [bne_self_eq_false]
theorem ne_bool {a : Bool} : cmpV .ne (.bool a) (.bool a) = some false := by
  show some (a != a) = _
  rw [bne_self_eq_false]
theorem c_wrong {step : Nat} {b : Bool} {s : SF} {text tail : L} {front p1 p2 pv : Nat} (St : Start s text tail front p1 p2 pv) (hft : front ≤ text.length) (hb : text.length + tail.length + 200 ≤ bound)
    (hQ : ∀ s', Q (.int 0) (at' g b s')) : callN globV clsV ftab (d + 6) 33 [.stem b, caseV step text tail front p1 p2 pv] Q (at' g b s) := by
  refine ⟨fd33, rfl, rfl, ?_⟩
  show awpSs globV clsV (callN globV clsV ftab (d + 5)) m33 _ ⟨[some (.stem b), some (caseV step text tail front p1 p2 pv), none, none, none, none], at' g b s⟩
  simp only [m33, awpSs, awpS, awpE, awpEs, awpT, awpOr, List.getElem?_cons_zero, List.getElem?_cons_succ, Option.join_some, Option.some.injEq, exists_eq_left']
  refine c_due (d := d + 1) (by omega) fun ans out D => ⟨[.bool ans, .str out], _, rfl, rfl, ?_⟩
  have hol := d_len D
  simp only [List.set_cons_succ, List.set_cons_zero, List.getElem?_cons_zero, List.getElem?_cons_succ, Option.join_some, Option.some.injEq, exists_eq_left', cs0, cs2, cs3, cs4, cs5, cs6]
  refine c_told (d := d) St hft (by rw [List.length_append]; omega) D fun s' W => ?_
  have hcat : binV .add (.str out) (.str tail) = some (.str (out ++ tail)) := cat_s (by omega)
  simp only [List.set_cons_succ, List.set_cons_zero, List.getElem?_cons_zero, List.getElem?_cons_succ, Option.join_some, Option.some.injEq, exists_eq_left', hcat, ne_bool, ex_meth]
  refine c_get (d := d + 4) ?_
  simp only [W.cur, ne_str, Option.some.injEq, exists_eq_left', g_l, W.l, len_s (show (out ++ tail).length ≤ bound by rw [List.length_append]; omega), ne_int, g_lb, g_p1, g_p2, g_pv, W.lb, W.p1, W.p2, W.pv]
  exact hQ s'

def bLaw : MSs := (.cons (.assign 6 (.call 22 (.cons (.loc 1) .nil)))
  (.cons (.assign 7 (.call 22 (.cons (.loc 1) .nil)))
  (.cons (.expr (.call 32 (.cons (.loc 2) (.cons (.loc 6) .nil))))
  (.cons (.expr (.call 32 (.cons (.loc 3) (.cons (.loc 7) .nil))))
  (.cons (.assign 4 (.bin .add (.bin .add (.loc 4) (.call 33 (.cons (.loc 3) (.cons (.loc 7) .nil)))) (.call 33 (.cons (.loc 2) (.cons (.loc 6) .nil)))))
  .nil)))))
theorem m34_eq : m34 = (.cons (.assign 1 (.call 15 (.cons (.loc 0) .nil)))
  (.cons (.assign 2 (.newStem false))
  (.cons (.assign 3 (.newStem true))
  (.cons (.assign 4 (.int 0))
  (.cons (.for1 5 (.int 4) bLaw)
  (.cons (.ret (.cmp .eq (.loc 4) (.int 0)))
  .nil)))))) := rfl
/-- between two rounds -/
structure Inv (g : Gl) : Prop where
  t : TapeOK g
  r0 : ∃ f, g.s0 = some f ∧ Ready f
  r1 : ∃ f, g.s1 = some f ∧ Ready f
def l34 (sc : V) (k c1 c2 : Option V) : List (Option V) := [some sc, some .tape, some (.stem false), some (.stem true), some (.int 0), k, c1, c2]
theorem tape_set {g : Gl} {b : Bool} {f : Fields} (T : TapeOK g) : TapeOK (g.setSt b f) := by cases b <;> exact T
theorem at_comm {g : Gl} {s s' : SF} : at' (at' g false s) true s' = at' (at' g true s') false s := rfl
theorem law_body {K : KS} {sc : V} {k c1 c2 : Option V} (I : Inv g) (hK : ∀ c1 c2 g', Inv g' → K .next ⟨l34 sc k c1 c2, g'⟩) :
    awpSs globV clsV (callN globV clsV ftab (d + 6)) bLaw K ⟨l34 sc k c1 c2, g⟩ := by
  simp only [bLaw, l34, awpSs, awpS, awpE, awpEs, List.set_cons_succ, List.set_cons_zero, List.getElem?_cons_zero, List.getElem?_cons_succ, Option.join_some, Option.some.injEq, exists_eq_left']
  have hbd : bound = 1000000 := rfl
  refine c_case (d := d + 3) I.t fun step text tail front p1 p2 pv g1 a1 a2 a3 a4 a5 a6 a7 a8 t1 => ?_
  refine c_case (d := d + 3) t1.ok fun step' text' tail' front' p1' p2' pv' g2 b1 b2 b3 b4 b5 b6 b7 b8 t2 => ?_
  obtain ⟨f0, e0, R0⟩ := I.r0
  obtain ⟨f1, e1, R1⟩ := I.r1
  have t12 := t1.trans t2
  refine c_set (d := d + 4) (b := false) (f := f0) (t12.e0.trans e0) R0 (by omega) ?_
  refine c_set (d := d + 4) (b := true) (f := f1) (t12.e1.trans e1) R1 (by omega) ?_
  refine c_wrong (d := d) (start_set _ _ _ _ _ _) b5 (by omega) fun s' => ⟨_, bin_add _ _, ?_⟩
  rw [at_comm]
  refine c_wrong (d := d) (start_set _ _ _ _ _ _) a5 (by omega) fun s'' => ⟨_, bin_add _ _, ?_⟩
  exact hK _ _ _ ⟨tape_set (tape_set t2.ok), ⟨_, rfl, .inr ⟨_, rfl⟩⟩, ⟨_, rfl, .inr ⟨_, rfl⟩⟩⟩
theorem law_loop {K : KS} {sc : V} : ∀ (n a : Nat) (g : Gl) (k c1 c2 : Option V), Inv g → (∀ k c1 c2 g', K .next ⟨l34 sc k c1 c2, g'⟩) →
    forN (awpSs globV clsV (callN globV clsV ftab (d + 6)) bLaw) 5 K (rangeUp a n) ⟨l34 sc k c1 c2, g⟩
  | 0, a, g, k, c1, c2, I, hK => by
    unfold rangeUp forN
    exact hK _ _ _ _
  | n + 1, a, g, k, c1, c2, I, hK => by
    unfold rangeUp forN
    exact law_body (k := some (.int a)) I fun c1 c2 g' I' => law_loop n (a + 1) g' _ c1 c2 I' hK
end
theorem plain : Plain := by
  refine ⟨7, by decide, fun ns hn => ?_⟩
  refine ⟨fd34, rfl, rfl, ?_⟩
  show awpSs globV clsV (callN globV clsV ftab 6) m34 _ ⟨[some (.list (ns.map .int)), none, none, none, none, none, none, none], ⟨none, none, none⟩⟩
  rw [m34_eq]
  generalize hB : bLaw = B0
  simp only [awpSs, awpS, awpE, awpEs, List.set_cons_succ, List.set_cons_zero, List.getElem?_cons_zero, List.getElem?_cons_succ, Option.join_some, Option.some.injEq, exists_eq_left']
  subst hB
  refine c_tape (d := 5) hn rfl fun g t => ⟨t.e0, c_init (d := 4) ⟨rfl, t.e1, c_init (d := 4) ⟨rfl, 4, rfl, by unfold bound; omega, ?_⟩⟩⟩
  refine law_loop (d := 0) (sc := .list (ns.map .int)) 4 0 _ none none none ⟨tape_set (tape_set t.ok), ⟨_, rfl, .inl rfl⟩, ⟨_, rfl, .inl rfl⟩⟩ fun k c1 c2 g' => ?_
  simp only [l34, List.getElem?_cons_zero, List.getElem?_cons_succ, Option.join_some, Option.some.injEq, exists_eq_left', cmp_eq]
  rfl
end Mine

set_option maxRecDepth 100000 in
set_option maxHeartbeats 8000000 in
theorem PySem.Challenge.cw_br6030_01_holds : PySem.Challenge.rw_br6030_01.Holds := by
  o_law
  rename_i said
  exact Mine.row_holds Mine.plain said
