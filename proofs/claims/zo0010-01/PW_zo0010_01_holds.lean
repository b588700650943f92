import PyProof.Rows.All
import Wide.All
import OpenK.AllK
import Wide.FinOn
import Lean
import PySem.Challenge.RW_zo0010_01
set_option Elab.async false
set_option linter.all false
set_option compiler.extract_closed false
set_option genSizeOfSpec false
set_option genInjectivity false
set_option maxRecDepth 100000
/- Stp -/
section
namespace Mine
/-- a halt at a key that the text's own rules open -/
def Stop (P : Prop) : Prop := P
theorem Stop.out {P : Prop} (h : Stop P) : P := h
theorem Stop.into {P : Prop} (h : P) : Stop P := h
end Mine
end
/- GBase -/
section
open PySem PySem.W PySem.Calls PyProof.Rows
open Sem (wp)
namespace Mine
/-- a code that is no decoder -/
def okC : Code → Bool
  | .builtin id _ => !Builtin.Bytes.decodersThatHold.contains id
  | _ => true
/-- a context that bears no decoder -/
def Fine (Γ : Ctx) : Prop := okC Γ.code = true ∧ ∀ x ∈ Γ.below, okC x.1 = true
/-- `wpAny` over the fine contexts alone -/
def wpG {α : Type} (M : Model) (A : Around) (t : Sem α) (Q : α → Shared → Prop) (E : Value → Shared → Prop) (s : Shared) : Prop :=
  ∀ Γ p, Γ.In A → Fine Γ → wp M Γ t (fun a _ s' => Q a s') (fun e _ s' => E e s') p s
def codeG (M : Model) (A : Around) (c : Code) (R : Result → Shared → Prop) (s : Shared) : Prop :=
  ∀ Γ p, Γ.code = c → Γ.Below A → Fine Γ → wpCode M Γ R p s
section
variable {α β : Type} {M : Model} {A : Around} {E : Value → Shared → Prop} {s : Shared}
theorem wpG_of {t : Sem α} {Q : α → Shared → Prop} (h : wpAny M A t Q E s) : wpG M A t Q E s := fun Γ p hΓ _ => h Γ p hΓ
theorem codeG_of {c : Code} {R : Result → Shared → Prop} (h : codeAny M A c R s) : codeG M A c R s := fun Γ p hc hΓ _ => h Γ p hc hΓ
theorem wpG_mono {t : Sem α} {Q Q' : α → Shared → Prop} {E' : Value → Shared → Prop} (h : wpG M A t Q E s) (hQ : ∀ a s, Q a s → Q' a s) (hE : ∀ e s, E e s → E' e s) : wpG M A t Q' E' s :=
  fun Γ p hΓ g => Sem.wp_mono M Γ t (fun a _ s => hQ a s) (fun e _ s => hE e s) p s (h Γ p hΓ g)
theorem wpG_pure {a : α} {Q : α → Shared → Prop} (h : Q a s) : wpG M A (pure a) Q E s := fun _ _ _ _ => h
theorem wpG_bind {m : Sem α} {f : α → Sem β} {Q : β → Shared → Prop} (h : wpG M A m (fun a s' => wpG M A (f a) Q E s') E s) : wpG M A (m >>= f) Q E s := fun Γ p hΓ g => by
  rw [Sem.wp_bind']
  exact Sem.wp_mono M Γ m (fun a p' s' h' => h' Γ p' hΓ g) (fun _ _ _ h' => h') p s (h Γ p hΓ g)
theorem wpG_bind_any {m : Sem α} {f : α → Sem β} {Q : β → Shared → Prop} (h : wpAny M A m (fun a s' => wpG M A (f a) Q E s') E s) : wpG M A (m >>= f) Q E s := wpG_bind (wpG_of h)
theorem wpG_holding {vs : List Value} {m : Sem α} {Q : α → Shared → Prop} (h : wpG M A m Q E s) : wpG M A (holding vs m) Q E s := fun Γ p hΓ g => by rw [Sem.wp_holding]; exact h Γ p hΓ g
theorem wpG_keep {vs : List Value} {m : Sem α} {Q : α → Shared → Prop} (h : wpG M A m Q E s) : wpG M A (m.keep vs) Q E s := fun Γ p hΓ g => by rw [Sem.wp_keep]; exact h Γ p hΓ g
theorem wpG_onRaise {m : Sem α} {k : Value → Sem Unit} {Q : α → Shared → Prop} (h : wpG M A m Q (fun _ _ => False) s) : wpG M A (m.onRaise k) Q E s := fun Γ p hΓ g => by
  rw [Sem.wp_onRaise]
  exact Sem.wp_mono M Γ m (fun _ _ _ h' => h') (fun _ _ _ h' => h'.elim) p s (h Γ p hΓ g)
theorem wpG_standAt {pos : Pos} {f : Unit → Sem β} {Q : β → Shared → Prop} (h : wpG M A (f ()) Q E s) : wpG M A (standAt pos >>= f) Q E s := wpG_bind_any (wpAny_standAt h)
theorem wpG_eq {t t' : Sem α} {Q : α → Shared → Prop} (e : t = t') (h : wpG M A t' Q E s) : wpG M A t Q E s := e ▸ h
theorem Fine.enter {Γ : Ctx} (g : Fine Γ) {c : Code} (h : okC c = true) (hd : Option Value) (p : Pos) : Fine (Γ.enter c hd p) := ⟨h, fun x hx => by
  have : x ∈ (Γ.code, p) :: Γ.below := hx
  rcases List.mem_cons.mp this with rfl | hx
  · exact g.1
  · exact g.2 x hx⟩
theorem wpG_run {c : Code} {Q : Flow → Shared → Prop} (hok : okC c = true) (hc : codeG M A c (fun r s' => match r with | .ok f => Q f s' | .error e => E e s') s) : wpG M A (run c) Q E s :=
  fun Γ p hΓ g => by rw [Sem.wp_run]; exact hc _ p rfl (by have := hΓ.enter c none p (by intro x; cases x); simpa [Around.mark] using this) (g.enter hok none p)
theorem wpG_call {f : Value} {pos : List Value} {kw : List (Str × Value)} {Q : Value → Shared → Prop}
    (hc : codeG M A (.call f ⟨pos, kw⟩) (fun r s' => match r with | .ok (.ret v) => Q v s' | .ok _ => False | .error e => E e s') s) : wpG M A (call f pos kw) Q E s :=
  fun Γ p hΓ g => by
    show wp M Γ (runValue (.call f ⟨pos, kw⟩)) _ _ p s
    rw [Sem.wp_runValue]; exact hc _ p rfl (hΓ.enter _ none p (by intro x; cases x)) (g.enter rfl none p)
theorem Fine.goto {Γ : Ctx} (g : Fine Γ) {c : Code} (h : okC c = true) : Fine (Γ.goto c) := ⟨h, g.2⟩
theorem codeG_of_tree {c : Code} {R : Result → Shared → Prop}
    (h : wpG M (A.under c) (M.den c) (fun fin s' => match fin with | .done f => R (.ok f) s' | .again c' => c'.quiet = true ∧ okC c' = true ∧ codeG M A c' R s')
      (fun e s' => R (.error e) s') s) : codeG M A c R s := fun Γ p hc hΓ g => by
  rw [wpCode_iff_wp, hc]
  refine Sem.wp_mono M Γ _ (fun fin p' s' h' => ?_) (fun _ _ _ h' => h') p s (h Γ p (hc ▸ hΓ.in) g)
  cases fin with
  | done f => exact h'
  | again c' => exact ⟨h'.1, h'.2.2 (Γ.goto c') p' rfl (hΓ.goto c') (g.goto h'.2.1)⟩
theorem codeG_mono {c : Code} {R R' : Result → Shared → Prop} (h : codeG M A c R s) (hR : ∀ r s, R r s → R' r s) : codeG M A c R' s :=
  fun Γ p hc hΓ g => wpCode_mono hR (h Γ p hc hΓ g)
end
section
variable {prog : Program} {w : World} {A : Around} {E : Value → Shared → Prop} {s : Shared}
theorem codeG_builtin {R : Result → Shared → Prop} {id : String} {args : Args} {b : Builtin} (hb : entryFor table id = some b)
    (h : wpG (model prog w) (A.under (.builtin id args)) (b args)
      (fun fin s' => match fin with | .done f => R (.ok f) s' | .again c' => c'.quiet = true ∧ okC c' = true ∧ codeG (model prog w) A c' R s') (fun e s' => R (.error e) s') s) :
    codeG (model prog w) A (.builtin id args) R s := by
  refine codeG_of_tree ?_
  show wpG _ _ (match entryFor table id with | some b => b args | none => unsupported ((withoutEnding? id "#data").getD id)) _ _ s
  rw [hb]; exact h
theorem notGuard {id : String} {args : Args} (h : (Code.builtin id args).isGuard = false) : ∀ x ∈ guardIds, id ≠ x := fun x hx e => by
  subst e
  exact absurd (List.contains_iff_mem.mpr hx) (by rw [show guardIds.contains _ = false from h]; decide)
theorem fine1 (v : Value) (id : String) (args : Args) (q : Pos) (hq : (Code.builtin id args).isGuard = false) (ho : okC (.builtin id args) = true) : ¬ (Builtin.Bytes.exported.match_1 (fun _ => Bool) (Code.builtin id args, q)
    (fun v' _ _ _ => Builtin.Bytes.sameRef v' v) (fun v' _ _ _ => Builtin.Bytes.sameRef v' v) (fun _ v' _ _ _ => Builtin.Bytes.sameRef v' v) (fun v' _ _ _ => Builtin.Bytes.sameRef v' v) (fun _ _ held _ _ => held.any (Builtin.Bytes.sameRef v)) (fun id v' _ _ _ => Builtin.Bytes.sameRef v' v && Builtin.Bytes.decodersThatHold.contains id) (fun _ => false)) = true := by
  have n := notGuard hq
  have e : Builtin.Bytes.decodersThatHold.contains id = false := by simpa [okC] using ho
  delta Builtin.Bytes.exported.match_1
  dsimp only [Builtin.Bytes.exported._sparseCasesOn_1]
  rw [dif_neg (n _ (by decide)), dif_neg (n _ (by decide)), dif_neg (n _ (by decide)), dif_neg (n _ (by decide)), dif_neg (n _ (by decide))]
  obtain ⟨pos, kw⟩ := args
  cases pos with
  | nil => exact Bool.false_ne_true
  | cons a l =>
    show ¬ ((Builtin.Bytes.sameRef a v && Builtin.Bytes.decodersThatHold.contains id) = true)
    rw [e, Bool.and_false]
    exact Bool.false_ne_true
theorem fine0 (v : Value) (c : Code) (q : Pos) (hq : c.isGuard = false) (ho : okC c = true) : ¬ (Builtin.Bytes.exported.match_1 (fun _ => Bool) (c, q)
    (fun v' _ _ _ => Builtin.Bytes.sameRef v' v) (fun v' _ _ _ => Builtin.Bytes.sameRef v' v) (fun _ v' _ _ _ => Builtin.Bytes.sameRef v' v) (fun v' _ _ _ => Builtin.Bytes.sameRef v' v) (fun _ _ held _ _ => held.any (Builtin.Bytes.sameRef v)) (fun id v' _ _ _ => Builtin.Bytes.sameRef v' v && Builtin.Bytes.decodersThatHold.contains id) (fun _ => false)) = true := by
  cases c with
  | builtin id args => exact fine1 v id args q hq ho
  | _ => exact Bool.false_ne_true
/-- no frame holds a bytearray -/
theorem exported_fine {v : Value} {Q : Bool → Shared → Prop} (hg : A.guards = some []) (h : Q false s) : wpG (model prog w) A (Builtin.Bytes.exported v) Q E s := fun Γ p hΓ g => by
  have hall : ∀ x ∈ (Γ.code, p) :: Γ.below, x.1.isGuard = false ∧ okC x.1 = true := by
    have hgs := hΓ.2.2.2.1 [] hg
    have h1 := (List.append_eq_nil_iff.mp hgs).1
    have h2 := (List.append_eq_nil_iff.mp hgs).2
    intro x hx
    rcases List.mem_cons.mp hx with rfl | hx
    · refine ⟨?_, g.1⟩
      cases hb : Γ.code.isGuard with
      | false => rfl
      | true => rw [Code.guards, hb] at h1; cases h1
    · refine ⟨?_, g.2 x hx⟩
      cases hb : x.1.isGuard with
      | false => rfl
      | true =>
        have : x.1 ∈ guardsOf Γ.below := List.mem_filter.mpr ⟨List.mem_map_of_mem hx, hb⟩
        rw [h2] at this; cases this
  show wp _ Γ (Sem.bind stack _) _ _ p s
  unfold stack
  rw [Sem.wp_bind, Sem.wp_stack, Sem.wp_pure]
  show Q (((Γ.code, p) :: Γ.below).any _) s
  rw [List.any_eq_false.mpr ?_]
  · exact h
  · intro x hx
    obtain ⟨hq, ho⟩ := hall x hx
    obtain ⟨c, q⟩ := x
    exact fine0 v c q hq ho
theorem codeG_call_builtin {R : Result → Shared → Prop} {id : String} {args : Args} {b : Builtin} (hq : plainId id = true) (hok : okC (.builtin id args) = true) (hb : entryFor table id = some b)
    (h : wpAny (model prog w) A.in1 (checkBuiltinCall id args) (fun _ s₁ => wpG (model prog w) A.in1 (b args)
      (fun fin s' => match fin with | .done f => R (.ok f) s' | .again c' => c'.quiet = true ∧ okC c' = true ∧ codeG (model prog w) A c' R s') (fun e s' => R (.error e) s') s₁)
      (fun e s' => R (.error e) s') s) : codeG (model prog w) A (.call (.builtin id) args) R s := by
  refine codeG_of_tree ?_
  show wpG _ A.in1 (do checkBuiltinCall id args; again (.builtin id args)) _ _ s
  refine wpG_bind_any (wpAny_mono h (fun _ s₁ h₁ => wpG_pure (And.intro (plainId_quiet hq args) ⟨hok, codeG_builtin hb ?_⟩)) fun _ _ h' => h')
  rw [Around.under_plainId hq args]
  exact h₁
theorem wpG_if_false {α : Type} {M : Model} {c : Bool} {a b : Sem α} {Q : α → Shared → Prop} (hc : c = false) (h : wpG M A b Q E s) : wpG M A (if c = true then a else b) Q E s := by
  subst hc; exact h
theorem wpG_if_true {α : Type} {M : Model} {c : Bool} {a b : Sem α} {Q : α → Shared → Prop} (hc : c = true) (h : wpG M A a Q E s) : wpG M A (if c = true then a else b) Q E s := by
  subst hc; exact h
theorem callSpecialG {self : Value} {T : String} {name : Str} {id : String} {args : List Value} {kw : List (Str × Value)}
    {Q : Option Value → Shared → Prop} (hT : s.TypeIs self T) (h : Slot T name id)
    (hc : wpG (model prog w) A (call (.builtin id) (self :: args) kw) (fun v => Q (some v)) E s) : wpG (model prog w) A (callSpecial? self name args kw) Q E s := by
  simp only [callSpecial?]
  refine wpG_bind_any (wpAny_specialOf hT h.lookup ?_)
  simp only [h.bind]
  exact wpG_holding (wpG_bind_any (wpAny_pure (wpG_bind (wpG_mono hc (fun v s' h' => wpG_pure h') fun _ _ h' => h'))))
theorem callTypeG {T newId initId : String} {Bi : Builtin} {args : List Value} {Q Q₁ : Value → Shared → Prop} (ft : TypeCalled T newId initId)
    (hct : checkTypeCall T ⟨args, []⟩ = pure ()) (entryI : entryFor table initId = some Bi) (hoi : ∀ a, okC (.builtin initId a) = true)
    (hnew : codeAny (model prog w) A.in1 (.call (.builtin newId) ⟨.type T :: args, []⟩) (wants Q₁ E) s)
    (hnext : ∀ obj s₁, Q₁ obj s₁ → s₁.TypeIs obj T ∧ argsOk initId ⟨obj :: args, []⟩ ∧
      wpG (model prog w) A.in1.in1 (Bi ⟨obj :: args, []⟩)
        (fun fin s' => match fin with | .done f => wants (fun r s₂ => r = .none ∧ Q obj s₂) E (.ok f) s' | .again c' => c'.quiet = true ∧ okC c' = true ∧ codeG (model prog w) A.in1 c' (wants (fun r s₂ => r = .none ∧ Q obj s₂) E) s')
        (fun e s' => wants (fun r s₂ => r = .none ∧ Q obj s₂) E (.error e) s') s₁) :
    wpG (model prog w) A (call (.type T) args) Q E s := by
  obtain ⟨c, tl, hmro⟩ := ft.mro
  have hmade := ft.made
  have hsub := ft.sub
  refine wpG_call (codeG_of_tree ?_)
  show wpG _ _ (callAny (.type T) _) _ _ _
  refine wpG_pure ⟨Code.quiet_builtin _ (by decide +kernel), (by show (!Builtin.Bytes.decodersThatHold.contains "type.__call__") = true; decide +kernel), codeG_builtin F.entry_type_call ?_⟩
  rw [Around.under_plain (weight_type_call_type T args []) rfl]
  have h1 := ft.notType
  have h2 := ft.canCreate
  unfold Builtin.«type.__call__»
  refine wpG_if_false h1 ?_
  refine wpG_if_false h2 ?_
  refine wpG_bind_any (wpAny_of_eq hct ?_)
  refine wpG_bind_any (wpAny_of_eq hmro ?_)
  refine wpG_if_false rfl ?_
  refine wpG_bind_any (wpAny_of_eq hmade ?_)
  refine wpG_bind_any (wpAny_pure ?_)
  refine wpG_bind_any (wpAny_holding (wpAny_call (codeAny_mono hnew fun r s₁ hr => ?_)))
  cases r with
  | error e => exact hr
  | ok fl =>
    cases fl with
    | ret obj =>
      obtain ⟨hT, hok, hsi⟩ := hnext _ _ hr
      refine wpG_bind_any (wpAny_isInstance hT hsub ?_)
      refine wpG_if_false rfl ?_
      refine wpG_bind (wpG_holding (callSpecialG hT ft.init (wpG_call (codeG_mono (codeG_call_builtin ft.init.plain (hoi _) entryI (ft.init.check _ _ _ _ _ _ _ _ hT hok hsi)) fun r₂ s₂ hr₂ => ?_))))
      cases r₂ with
      | error e => exact hr₂
      | ok fl₂ =>
        cases fl₂ with
        | ret r =>
          obtain ⟨rfl, hq⟩ := hr₂
          refine wpG_if_false rfl ?_
          exact wpG_pure hq
        | _ => exact hr₂.elim
    | _ => exact hr.elim
end
end Mine
end
/- HeadG -/
section
open PySem PySem.W PySem.Calls PySem.Spec PyProof.Rows
open Sem (wp)
namespace Mine
/-- the caller's own context bears no decoder -/
theorem caller_fine : Fine ⟨.builtin "claim.caller" {}, none, none, [], none⟩ := ⟨by decide +kernel, fun x hx => nomatch hx⟩
theorem ends_G {prog : Program} {w : World} {t : Sem Fin} {s : Shared} {R : Result → Shared → Prop} (hreg : s.asleep)
    (h : wpG (model prog w) callerA t (fun fin s' => ∃ f, fin = .done f ∧ (R (.ok f) s' ∧ leftWithCleanup s'.gens = false)) (fun e s' => R (.error e) s' ∧ leftWithCleanup s'.gens = false) s) :
    ∃ n r s' s'', runN (denote table) prog w n s ⟨t, .builtin "claim.caller" {}, default, []⟩ = .halted (outcomeOf r) s' ∧
      schedN (denote table) prog w n (.single s ⟨t, .builtin "claim.caller" {}, default, []⟩) = .halted (outcomeOf r) s' ∧ s'.forget = s''.forget ∧ R r s'' := by
  obtain ⟨n, r, a, b, e1, e2, e3, e4⟩ := wp_halts_full (M := model prog w) (R := R) (p := default) hreg
    (Sem.wp_mono (model prog w) _ t (fun fin p' s' h' => by obtain ⟨f, rfl, hf⟩ := h'; exact hf) (fun _ _ _ h' => h') default s (h _ default caller_in caller_fine))
  exact ⟨n, r, b, a, e2, e1, e3, e4⟩
theorem callFrom_G {c : ClaimW} {tree : List Value → Sem Fin} {w : World} {s : Shared} {free : Addr → Prop} {gens : Prop} {kept : Heap → Prop} (hz : s.asleep) (hgens : s.gens = #[])
    (hspec : ∀ args, c.pre args = true → WData.layableAll args = true → ∀ ord : List DictEntry → List DictEntry, (∀ l, (ord l).Perm l) →
      ∃ vs s₁, layAllW c.records (classAt s.heap) w.params ord args s = some (vs, s₁) ∧
        wpG (model c.prog w) callerA (tree vs) (fun fin s' => ∃ f, fin = .done f ∧ (c.Ends s args vs s₁ (.ok f) s' ∧ s'.os = s.os ∧ AllBare s'.gens ∧ kept s'.heap))
          (fun e s' => c.Ends s args vs s₁ (.error e) s' ∧ s'.os = s.os ∧ AllBare s'.gens ∧ kept s'.heap) s₁) :
    c.CallFrom (fun vs => ⟨tree vs, .builtin "claim.caller" {}, default, []⟩) w free gens kept s := by
  intro args hpre hlay ord hord
  obtain ⟨vs, s₁, hlaid, hcode⟩ := hspec args hpre hlay ord hord
  have laid := layAllW_rest _ _ _ hlaid
  have sleeps : s₁.asleep := Shared.asleep_of_life laid.2.2.2 hz
  have quiet := wpG_mono (Q' := fun fin s' => ∃ f, fin = .done f ∧ ((c.Ends s args vs s₁ (.ok f) s' ∧ s'.os = s.os ∧ kept s'.heap) ∧ leftWithCleanup s'.gens = false))
    (E' := fun e s' => (c.Ends s args vs s₁ (.error e) s' ∧ s'.os = s.os ∧ kept s'.heap) ∧ leftWithCleanup s'.gens = false) hcode
    (fun fin s' x => by obtain ⟨f, e, a1, a2, a3, a4⟩ := x; exact ⟨f, e, ⟨a1, a2, a4⟩, leftWithCleanup_false_of_bare a3⟩)
    (fun e s' x => ⟨⟨x.1, x.2.1, x.2.2.2⟩, leftWithCleanup_false_of_bare x.2.2.1⟩)
  obtain ⟨k, r, s', s'', hrun, hsched, hfo, hcase, hos, hkp⟩ := ends_G (R := fun r s' => c.Ends s args vs s₁ r s' ∧ s'.os = s.os ∧ kept s'.heap) sleeps quiet
  obtain ⟨eh, _, _, eo, _⟩ := Shared.forget_eq hfo
  have ends := hcase.congr eh
  have keeps : kept s'.heap := by first | exact eh ▸ hkp | (rw [eh] at hkp; exact hkp) | (rw [← eh] at hkp; exact hkp)
  rw [← eo] at hos
  have life : s'.heap.life = s.heap.life := (runN_life _ _ _ hrun).trans laid.2.2.2
  refine ⟨vs, s₁, hlaid, k, _, s', hsched, ?_, (fun _ i x hx => by rw [hgens] at hx; simp at hx), keeps, by rw [life], Shared.rest_eq hos⟩
  rcases ends with ⟨v, rfl, d1, d2, d3, d4, d5⟩ | ⟨e, ob, cls, rfl, d1, d2, d3, d4, d5⟩
  · exact .inl ⟨v, rfl, d1, d2, d3, fun b o y _ => d4 b o y, d5⟩
  · exact .inr ⟨e, ob, cls, rfl, d1, d2, d3, d4, fun b o y _ => d5 b o y⟩
end Mine
namespace Mine
/-- what is asked of the law's call: as the library's `WalkO`, over the contexts that bear no decoder -/
abbrev WalkG (q : Program) (loose : List Str) (XP : (Str → Option Value) → Heap → Prop) (YP : World → Heap → Prop) (r : RowW) (d : DefRec) (kwd : List (Str × PySem.Expr)) : Prop :=
  ∀ (w : World) (s₀ s₁ : Shared) (mg mb : Str → Option Value), Ground q loose r.records XP w s₀ mg mb s₁.heap → YP w s₁.heap → ∀ (a : Addr) (o : Obj) (pm cd doc dV kV : Value), s₁.heap.get? a = some o →
    o.data = .func { docDef d.name d.params d.body d.scope pm cd doc with defaults := dV, kwdefaults := kV } → s₁.heap.CodeRec cd d.name → Dflts mg s₁.heap d.params kwd dV kV → mg d.name = some (.ref a) → s₁.gens = #[] →
    ∀ (args : List WData) (vals : List Value) (as : List Addr), r.claim.pre args = true → WData.layableAll args = true → ReadsAllW r.records (classAt s₀.heap) s₁.heap vals args as → WellAll w.params s₁.heap vals args → (∀ a ∈ as, (a == sysModules) = false) →
      wpG (model r.prog w) callerA (PySem.call (.ref a) vals) (fun v s' => GoodWG r.claim (classAt s₀.heap) (ExcName.means s₀.heap) args s₁ (.ok (.ret v)) s')
        (fun e s' => GoodWG r.claim (classAt s₀.heap) (ExcName.means s₀.heap) args s₁ (.error e) s') s₁
theorem PySem.W.holds_open {r : OpenRow} {q : Program} {loose : List Str} {Xt : Shared → Bool} {XP : (Str → Option Value) → Heap → Prop} {α : Type} {Yf : Shared → α} {Ya : World → α} {YP : World → Heap → Prop} {d : DefRec} {kwd : List (Str × PySem.Expr)} {N : Nat}
    (_left0 : ∀ _w : World, (0 : Nat) = 0) (hY : ∀ w s, Yf s = Ya w → YP w s.heap) (hYk : ∀ w h h', YP w h → (∀ b o, h.get? b = some o → h'.get? b = some o) → YP w h')
    (hX : ∀ s, Xt s = true → XP (s.heap.nsMap mainGlobals) s.heap) (hXk : ∀ mg h h', XP mg h → (∀ b o, h.get? b = some o → h'.get? b = some o) → XP mg h')
    (hdef : defOf q r.name = some (d, kwd)) (hp : r.prog.theDef r.name = some (d.params, d.body, d.scope)) (hk : kwWritten? d.params.kwonlyargs d.params.kw_defaults = some kwd) (hRf : ∀ s, Xt s = true → RecFacts r.records s.heap) (hwr : (!r.writes || r.records.isEmpty) = true)
    (k1 : r.wellSaid = true) (ok : (chainsOk q && opensWell r.prog && (frees r.toRowW && r.within.isEmpty)) = true) (hb : r.prog.bare) (hw : r.toRowW.promised)
    (walk : LeftO r.prog q loose Xt Yf Ya N ∧ WalkG q loose XP YP r.toRowW d kwd) : r.Holds := by
  obtain ⟨left, walk⟩ := walk
  refine ⟨k1, hw, ?_⟩
  obtain ⟨ok, ok2⟩ := Bool.and_eq_true_iff.mp ok
  obtain ⟨chains, tops⟩ := Bool.and_eq_true_iff.mp ok
  obtain ⟨free, within⟩ := Bool.and_eq_true_iff.mp ok2
  obtain ⟨hsame, hu, ha, hap, hm⟩ := frees_parts free
  refine ⟨⟨hb, tops, by show r.makers.map _ = []; rw [show r.makers = [] from hm]; rfl⟩, hw.witness, fun w => ⟨(left.behind hX chains w).1, fun s' hs' => ?_⟩⟩
  obtain ⟨s₀, hf, hg0, s, hT, hz, hgens, hg, GX, y⟩ := (left.behind (XP := fun mg h => XP mg h ∧ RecFacts r.records h) (fun s hs => ⟨hX s hs, hRf s hs⟩) chains w).2 s' hs'
  have G0 : Ground q loose [] XP w s (s.heap.nsMap mainGlobals) (s.heap.nsMap builtinsNs) s.heap := ⟨GX.T, GX.B, GX.D, GX.TE, GX.TD, GX.W, GX.X.1, GX.cls, GX.has, GX.apart, GX.once, GX.K⟩
  have RF := GX.X.2
  have top := hT
  refine ⟨s₀, hf, hg0, s, hT, ?_, RF.1, RF.2.1, ?_⟩
  · intro n hn
    obtain rfl : n = r.name := by split at hn <;> simp_all
    exact pinned_of_view hg G0 hdef hp hk
  have nogens : s.gens = #[] := Array.eq_empty_of_size_eq_zero (beq_iff_eq.mp hgens)
  have G : Ground q loose r.records XP w s _ _ s.heap := RF.ground G0
  refine callFrom_G (c := r.toRowW.claim) hz nogens fun args hpre hlay ord hord => ?_
  obtain ⟨⟨vs, s₁⟩, hlaid⟩ := Option.isSome_iff_exists.mp (layAllW_isSome (P := w.params) (ord := ord) G.has args r.args s (pre_splitW hpre).1)
  have keeps := layAllW_keeps _ _ _ hlaid
  have rest := layAllW_rest _ _ _ hlaid
  obtain ⟨as, hrd, hin, hold⟩ := reads_layAllW hord _ _ _ hlaid hlay s₁.heap (fun _ _ e => e)
  have L : Laid r.records w s s₁ args vs as := ⟨⟨ord, hord, hlaid⟩, hrd, hin, hold, keeps, rest.1.trans nogens, rest.2.2.1⟩
  have G₁ := G.keeps hXk keeps
  obtain ⟨a, o, pm, cd, doc, dV, kV, h1, h2, h3, h4, h5⟩ := G₁.fn hdef
  have C := walk w s s₁ _ _ G₁ (hYk _ _ _ (hY w s y) keeps) a o pm cd doc dV kV h2 h3 h4 h5 (defOf_name hdef ▸ h1) L.gens args vs as hpre hlay L.reads L.well (L.low G.low)
  have hi := ident_freeW hu ha hap
  have hwi : r.toRowW.claim.within = [] := List.isEmpty_iff.mp within
  refine ⟨vs, s₁, hlaid, ?_⟩
  refine wpG_bind_any (wpAny_nsGet G₁.T.g ?_)
  rw [h1]
  refine wpG_bind (wpG_mono C (fun v s' g => wpG_pure ⟨_, rfl, ?_⟩) fun e s' g => ?_)
  · have z := g.laid (c := r.toRowW.claim) hsame hwi hi L
    exact ⟨z.1, z.2.1, z.2.2, fun q => ⟨namesKept_of top hg _ keeps g.2.1.old, noTable hwr q⟩⟩
  · have z := g.laid (c := r.toRowW.claim) hsame hwi hi L
    exact ⟨z.1, z.2.1, z.2.2, fun q => ⟨namesKept_of top hg _ keeps g.2.1.old, noTable hwr q⟩⟩
end Mine
end
/- Hd -/
section
open PySem PySem.W PyProof.Rows
namespace Mine
set_option maxRecDepth 100000 in
set_option maxHeartbeats 8000000 in
open_top hd for PySem.Challenge.rw_zo0010_01.row
end Mine
end
/- Base -/
section
open PySem PySem.W PySem.Calls PyProof.Rows
namespace Mine
/-- what a call leaves: the caller's frame, all that stood before, and the word on the value -/
def CRet (h₀ : Heap) (L : Addr) (m : Str → Option Value) (s : Shared) (Q : Value → Shared → Prop) (post : Value → Heap → Prop) : Prop :=
  ∀ (v : Value) (h' : Heap) (tk' : Nat), Fr h₀ L h' m → s.heap.StaysIn h' → post v h' → Q v { s with heap := h', toks := tk' }
section
variable {prog : Program} {w : World} {A₀ A : Around} {s : Shared} {base h₀ : Heap} {outer : List Env} {L : Addr} {m : Str → Option Value} {env : Env} {K : Frag} {p : Program} {loose : List Str} {mean : ExcName → Option Value} {mg mb : Str → Option Value}
  {Q E : Value → Shared → Prop} {name qual : Str} {params : Arguments} {body : List Stmt} {scope : Scope} {dV kV doc pm cdv ct oc : Value} {an od : Option Addr} {osl : Array (Option Value)} {f : Addr} {args : List Value} {binds : List (Str × Value)}
theorem enterC (post : Value → Heap → Prop) (B : Below A₀ base outer h₀) (F : Fr h₀ L s.heap m) (X₀ : K.In h₀) (T : Top p loose mean mg mb h₀) (hA : A.frames = some (env :: outer)) (hf : env.frame = some L) (hke : env.scope.kind = .function)
    (hret : CRet h₀ L m s Q post)
    (ho : K.lookup f = some ⟨oc, od, .func (fnOf name qual params body scope dV kV doc pm an cdv ct), osl⟩) (hcd : codeIn K cdv qual = true) (hroom : A.depth < recursionLimit)
    (hbind : BindsTo s (fnOf name qual params body scope dV kV doc pm an cdv ct) ⟨args, []⟩ binds) (hloc : ∀ y ∈ binds, scope.names.lookup y.1 = some .local)
    (h : ∀ (g : Heap) (L' : Addr) (h₁ : Heap) (tk : Nat) (Q' : Value → Shared → Prop), (∀ (v : Value) (h' : Heap) (tk' : Nat) (L₂ : Addr) (m' : Str → Option Value), Fr g L₂ h' m' → post v h' → Q' v { s with heap := h', toks := tk' }) →
      g = s.heap → 0 < tk → Fr g L' h₁ (fun y => binds.reverse.lookup y) → News g L' h₁ [] → Below A base (env :: outer) g → K.In g → Top p loose mean mg mb g →
      wpAny (model prog w) (A.deeper (envOf qual scope L' f cdv)) (execs body (envOf qual scope L' f cdv))
        (fun fl s' => Q' (match fl with | .ret v => v | _ => .none) s') (fun _ _ => False) { s with heap := h₁, toks := tk })
    (hco : scope.isCoroutine = false) (hgen : scope.isGenerator = false) (hk : scope.kind = .function)
    (hcell : ∀ x ∈ scope.names, x.2 ≠ .cell) (hpos : 0 < binds.length) : wpAny (model prog w) A (call (.ref f) args) Q E s := by
  refine wpAny_call ?_
  have B₁ := pushX B F hf hke
  have B₂ : Below A base (env :: outer) s.heap := ⟨hA, B₁.stays, B₁.frames⟩
  refine codeAny_call_def (fd := fnOf name qual params body scope dV kV doc pm an cdv ct) (body := body) (binds := binds) hroom ((X₀.keeps F.keep) _ _ ho) rfl (T.nolimit.keeps F.keep) (codeRec_of (X₀.keeps F.keep) hcd) rfl hbind hcell hloc (fun h₁ hns hk₁ => ?_) hco hgen hk
  have W := h s.heap s.heap.objs.size h₁ (s.toks + binds.length) Q (fun v h' tk' L₂ m' F' P => hret v h' tk' (F.after F'.keep) F'.keep P) rfl (by omega) ⟨hns, hk₁, Nat.le_refl _⟩ News.nil B₂ (X₀.keeps F.keep) (T.keeps F.keep)
  exact wpAny_mono W (fun _ _ x => x) (fun _ _ x => x.elim)
end
end Mine
namespace Mine
theorem toks_gen1 {α : Type} {M : Model} {A : Around} {t : Sem α} {Q : α → Shared → Prop} {E : Value → Shared → Prop} {h : Heap} {g : Array GenState} {d : Drawn} {n : Nat} {o : OsState}
    (k : ∀ tk, 0 < tk → wpAny M A t Q E ⟨h, g, d, tk, o⟩) : wpAny M A t Q E ⟨h, g, d, n + 1, o⟩ := k _ (Nat.succ_pos _)
abbrev Claim (prog : Program) (w : World) (mean : ExcName → Option Value) (mg mb : Str → Option Value) (f : Addr) (vs : List Value) (dd uu : Nat) (pre : Heap → Prop) (post : Heap → Value → Heap → Prop) : Prop :=
  ∀ (dp un : Nat) (gd : Option (List Code)) (cn : Str) (cs : Scope) (a : Addr) (ccd : Value) (cl : List (Str × Addr)) (outer : List Env) (A₀ : Around) (base h₀ : Heap) (L : Addr) (m : Str → Option Value) (s : Shared) (Q E : Value → Shared → Prop),
    Below A₀ base outer h₀ → Fr h₀ L s.heap m → (hd.heap_1 w.params).In h₀ → Top hd.view_1 (looseW hd.view_1 []) mean mg mb h₀ → cs.kind = .function →
    dp + dd < recursionLimit → un + uu < cLine → pre s.heap → CRet h₀ L m s Q (post s.heap) →
      wpAny (model prog w) (ktrTop dp un gd cn cs L a ccd cl outer) (call (.ref f) vs) Q E s
end Mine
example : (PySem.Challenge.rw_zo0010_01 = PySem.Challenge.rw_zo0010_01) ∧ (Mine.hd.heap_1 = Mine.hd.heap_1) := by k_fill; exact ⟨rfl, rfl⟩
end
/- Flt3 -/
section
open PySem PySem.W PySem.Calls PyProof.Rows PySem.Flt
namespace Mine
def mx (x y : UInt64) : UInt64 := if (Float64.cmp x y == some .lt) = true then y else x
def mn (x y : UInt64) : UInt64 := if (Float64.cmp y x == some .lt) = true then y else x
section
variable {prog : Program} {w : World} {A : Around} {E : Value → Shared → Prop} {s : Shared} {Q : Value → Shared → Prop} {x y z : UInt64} {t u v : Tok} {h₀ : Heap} {L : Addr} {m : Str → Option Value} {news : List (Addr × Obj)}
theorem max3 (hh : A.handled = none) (F : Fr h₀ L s.heap m) (N : News h₀ L s.heap news)
    (h : ∀ h' tk k, Fr h₀ L h' m → News h₀ L h' news → Q (.float (mx (mx x y) z) k) { s with heap := h', toks := tk }) :
    wpAny (model prog w) A (call (.builtin "max") [.float x t, .float y u, .float z v]) Q E s := by
  have hT : (s.heap.push { cls := .type "tuple", data := .seq #[.float x t, .float y u, .float z v] }).IsTuple s.heap.objs.size #[.float x t, .float y u, .float z v] := ⟨_, Heap.get?_push_size _ rfl, rfl, 0, rfl⟩
  refine call_max_three (wpAny_pyIter_tuple hT ?_)
  have hsz : (s.heap.push { cls := .type "tuple", data := .seq #[.float x t, .float y u, .float z v] }).objs.size = s.heap.objs.size + 1 := Heap.size_push ..
  refine ⟨_, [_, s.heap.objs.size], [_], _, _, _, _, rfl, Walks.tuple (A := A.in1) hh _ s.heap.objs.size (by rw [hsz]; exact Nat.ne_of_lt (Nat.lt_succ_self _)) #[.float x t, .float y u, .float z v],
    ⟨⟨_, Heap.get?_push_size _ rfl, rfl, rfl⟩, hT.push _⟩, fun d hd => ?_, by simp, cmpOf_gt #[.float x t, .float y u, .float z v] (by intro v hv; simp at hv; rcases hv with rfl | rfl | rfl <;> constructor), fun r h' tk hP hk => ?_⟩
  · show d < ((s.heap.push _).push _).objs.size
    rw [Heap.size_push, hsz]
    simp only [List.mem_cons, List.not_mem_nil, or_false] at hd
    rcases hd with rfl | rfl
    · rw [hsz]; exact Nat.lt_succ_self _
    · exact Nat.lt_succ_of_lt (Nat.lt_succ_self _)
  · have hold : ∀ d o, s.heap.get? d = some o → h'.get? d = some o := fun d o e => by
      refine hk d o (fun hm => ?_) (Heap.get?_push_of_some _ (Heap.get?_push_of_some _ e))
      simp only [List.mem_cons, List.not_mem_nil, or_false] at hm
      have := Heap.lt_size e; rw [hm, hsz] at this; exact Nat.lt_irrefl _ (Nat.lt_of_succ_lt this)
    have hv : ∃ k, r = .float (mx (mx x y) z) k := by
      by_cases h1 : Float64.cmp x y = some .lt
      · by_cases h2 : Float64.cmp y z = some .lt
        · have e : mx (mx x y) z = z := by simp [mx, h1, h2]
          simp [argBest, ltV, h1, h2] at hP
          exact ⟨_, by rw [e]; exact hP.symm⟩
        · have e : mx (mx x y) z = y := by simp [mx, h1, h2]
          simp [argBest, ltV, h1, h2] at hP
          exact ⟨_, by rw [e]; exact hP.symm⟩
      · by_cases h2 : Float64.cmp x z = some .lt
        · have e : mx (mx x y) z = z := by simp [mx, h1, h2]
          simp [argBest, ltV, h1, h2] at hP
          exact ⟨_, by rw [e]; exact hP.symm⟩
        · have e : mx (mx x y) z = x := by simp [mx, h1, h2]
          simp [argBest, ltV, h1, h2] at hP
          exact ⟨_, by rw [e]; exact hP.symm⟩
    obtain ⟨k, rfl⟩ := hv
    exact h h' tk k (F.grownK hold) (N.grown hold)
theorem min3 (hh : A.handled = none) (F : Fr h₀ L s.heap m) (N : News h₀ L s.heap news)
    (h : ∀ h' tk k, Fr h₀ L h' m → News h₀ L h' news → Q (.float (mn (mn x y) z) k) { s with heap := h', toks := tk }) :
    wpAny (model prog w) A (call (.builtin "min") [.float x t, .float y u, .float z v]) Q E s := by
  have hT : (s.heap.push { cls := .type "tuple", data := .seq #[.float x t, .float y u, .float z v] }).IsTuple s.heap.objs.size #[.float x t, .float y u, .float z v] := ⟨_, Heap.get?_push_size _ rfl, rfl, 0, rfl⟩
  refine call_min_three (wpAny_pyIter_tuple hT ?_)
  have hsz : (s.heap.push { cls := .type "tuple", data := .seq #[.float x t, .float y u, .float z v] }).objs.size = s.heap.objs.size + 1 := Heap.size_push ..
  refine ⟨_, [_, s.heap.objs.size], [_], _, _, _, _, rfl, Walks.tuple (A := A.in1) hh _ s.heap.objs.size (by rw [hsz]; exact Nat.ne_of_lt (Nat.lt_succ_self _)) #[.float x t, .float y u, .float z v],
    ⟨⟨_, Heap.get?_push_size _ rfl, rfl, rfl⟩, hT.push _⟩, fun d hd => ?_, by simp, cmpOf_lt #[.float x t, .float y u, .float z v] (by intro v hv; simp at hv; rcases hv with rfl | rfl | rfl <;> constructor), fun r h' tk hP hk => ?_⟩
  · show d < ((s.heap.push _).push _).objs.size
    rw [Heap.size_push, hsz]
    simp only [List.mem_cons, List.not_mem_nil, or_false] at hd
    rcases hd with rfl | rfl
    · rw [hsz]; exact Nat.lt_succ_self _
    · exact Nat.lt_succ_of_lt (Nat.lt_succ_self _)
  · have hold : ∀ d o, s.heap.get? d = some o → h'.get? d = some o := fun d o e => by
      refine hk d o (fun hm => ?_) (Heap.get?_push_of_some _ (Heap.get?_push_of_some _ e))
      simp only [List.mem_cons, List.not_mem_nil, or_false] at hm
      have := Heap.lt_size e; rw [hm, hsz] at this; exact Nat.lt_irrefl _ (Nat.lt_of_succ_lt this)
    have hv : ∃ k, r = .float (mn (mn x y) z) k := by
      by_cases h1 : Float64.cmp y x = some .lt
      · by_cases h2 : Float64.cmp z y = some .lt
        · have e : mn (mn x y) z = z := by simp [mn, h1, h2]
          simp [argBest, ltV, h1, h2] at hP
          exact ⟨_, by rw [e]; exact hP.symm⟩
        · have e : mn (mn x y) z = y := by simp [mn, h1, h2]
          simp [argBest, ltV, h1, h2] at hP
          exact ⟨_, by rw [e]; exact hP.symm⟩
      · by_cases h2 : Float64.cmp z x = some .lt
        · have e : mn (mn x y) z = z := by simp [mn, h1, h2]
          simp [argBest, ltV, h1, h2] at hP
          exact ⟨_, by rw [e]; exact hP.symm⟩
        · have e : mn (mn x y) z = x := by simp [mn, h1, h2]
          simp [argBest, ltV, h1, h2] at hP
          exact ⟨_, by rw [e]; exact hP.symm⟩
    obtain ⟨k, rfl⟩ := hv
    exact h h' tk k (F.grownK hold) (N.grown hold)
end
end Mine
end
/- LetF -/
section
open PySem PySem.W PySem.Calls PyProof.Rows
namespace Mine
/-- at a statement: the ledger and the map get short names -/
theorem toks_let {α : Type} {M : Model} {A : Around} {t : Sem α} {Q : α → Shared → Prop} {E : Value → Shared → Prop} {h : Heap} {g : Array GenState} {d : Drawn} {n : Nat} {o : OsState}
    {h₀ : Heap} {L : Addr} {m : Str → Option Value} {news : List (Addr × Obj)} (F : Fr h₀ L h m) (N : News h₀ L h news)
    (k : let m' := m; let n' := news; ∀ tk, 0 < tk → Fr h₀ L h m' → News h₀ L h n' → wpAny M A t Q E ⟨h, g, d, tk, o⟩) : wpAny M A t Q E ⟨h, g, d, n + 1, o⟩ := k _ (Nat.succ_pos _) F N
theorem memAt {α : Type} {l : List α} {e : α} (i : Nat) (h : l[i]? = some e) : e ∈ l := List.mem_of_getElem? h
end Mine
namespace Mine
/-- at the entry: the contexts' record, the frame's and the state's parts get short names -/
theorem letAE {M : Model} {A : Around} {body : List Stmt} {env : Env} {Q : Flow → Shared → Prop} {E : Value → Shared → Prop} {h : Heap} {g : Array GenState} {d : Drawn} {n : Nat} {o : OsState}
    (k : let A' := A; let e' := env; let g' := g; let d' := d; let o' := o; wpAny M A' (execs body e') Q E ⟨h, g', d', n, o'⟩) : wpAny M A (execs body env) Q E ⟨h, g, d, n, o⟩ := k
theorem letFN {P : Prop} {h₀ h : Heap} {L : Addr} {m : Str → Option Value} {news : List (Addr × Obj)} (F : Fr h₀ L h m) (N : News h₀ L h news) (k : let m' := m; let n' := news; Fr h₀ L h m' → News h₀ L h n' → P) : P := k F N
end Mine
end
/- TextL -/
section
open PySem PySem.W PySem.Calls PyProof.Rows
namespace Mine
/-- a text with each sign c turned into z -/
def R (c : Nat) (z x : Str) : Str := ⟨(x.cps.toList.flatMap fun k => if k = c then z.cps.toList else [k]).toArray⟩
theorem R_list (c : Nat) (z x : Str) : (R c z x).cps.toList = x.cps.toList.flatMap fun k => if k = c then z.cps.toList else [k] := by simp [R]
theorem flat_free (c : Nat) (z : List Nat) : ∀ l : List Nat, c ∉ l → (l.flatMap fun k => if k = c then z else [k]) = l
  | [], _ => rfl
  | k :: r, h => by
    have h1 : ¬ k = c := fun e => h (e ▸ List.mem_cons_self ..)
    have h2 : c ∉ r := fun m => h (List.mem_cons_of_mem _ m)
    rw [List.flatMap_cons, if_neg h1, flat_free c z r h2]; rfl
theorem R_free {c : Nat} {z x : Str} (h : c ∉ x.cps.toList) : R c z x = x := by
  unfold R
  rw [flat_free _ _ _ h]
theorem flat_join (c : Nat) (z : Str) : ∀ parts : List Str, (∀ p ∈ parts, c ∉ p.cps.toList) →
    ((Str.join ⟨#[c]⟩ parts).cps.toList.flatMap fun k => if k = c then z.cps.toList else [k]) = (Str.join z parts).cps.toList
  | [], _ => rfl
  | [p], h => flat_free c _ _ (h p (List.mem_singleton.mpr rfl))
  | p :: q :: r, h => by
    have ih := flat_join c z (q :: r) fun a ha => h a (List.mem_cons_of_mem _ ha)
    show ((p ++ ⟨#[c]⟩ ++ Str.join ⟨#[c]⟩ (q :: r)).cps.toList.flatMap fun k => if k = c then z.cps.toList else [k]) = (p ++ z ++ Str.join z (q :: r)).cps.toList
    simp only [Str.cps_append, Array.toList_append, List.flatMap_append]
    rw [ih, flat_free c _ _ (h p (List.mem_cons_self ..))]
    simp
theorem replace_R (x z : Str) (c : Nat) : Txt.replace x ⟨#[c]⟩ z = R c z x := by
  have e : (Txt.replace x ⟨#[c]⟩ z).cps.toList = (R c z x).cps.toList := by
    rw [StrLaws.replace_one, ← flat_join c z _ (StrLaws.split_free x c), StrLaws.join_split, R_list]
  exact Str.ext' (Array.toList_inj.mp e)
theorem R_none {x y z : Str} {c : Nat} (hy : y = ⟨#[c]⟩) (h : (Builtin.Str.occurrences x y 0 x.length 1).isEmpty = true) : R c z x = x := by
  subst hy
  have := StrLaws.found_one x c
  rw [h] at this
  exact R_free (of_decide_eq_false this.symm)
theorem flat_len (c : Nat) (z : List Nat) (n : Nat) (hz : z.length ≤ n) (hn : 1 ≤ n) : ∀ l : List Nat, (l.flatMap fun k => if k = c then z else [k]).length ≤ l.length * n
  | [] => by simp
  | k :: r => by
    have ih := flat_len c z n hz hn r
    rw [List.flatMap_cons, List.length_append, List.length_cons, Nat.add_mul]
    have : (if k = c then z else [k]).length ≤ n := by split; (· exact hz); (· exact hn)
    omega
theorem R_len {c : Nat} {z x : Str} (n : Nat) (hz : z.length ≤ n) (hn : 1 ≤ n) : (R c z x).length ≤ x.length * n := by
  have := flat_len c z.cps.toList n (by simpa [Str.length] using hz) hn x.cps.toList
  simpa [R, Str.length] using this
end Mine
end
/- Rules -/
section
open PySem PySem.W PySem.Calls PyProof.Rows
namespace Mine
/-- so many of one sign -/
def mulS (c n : Nat) : Str := ⟨(List.replicate n c).toArray⟩
theorem mulS_len (c n : Nat) : (mulS c n).length = n := by simp [mulS, Str.length]
theorem mul_mulS {x : Str} {c : Nat} (hx : x = ⟨#[c]⟩) {n : Int} (h0 : 0 ≤ n) : Txt.mul x n = mulS c n.toNat := by
  subst hx
  have key : ∀ (k : Nat) (acc : Array Nat), ((List.replicate k (#[c] : Array Nat)).foldl (· ++ ·) acc).toList = acc.toList ++ List.replicate k c := by
    intro k
    induction k with
    | zero => intro acc; simp
    | succ k ih => intro acc; rw [List.replicate_succ, List.foldl_cons, ih]; simp [List.replicate_succ]
  unfold Txt.mul
  by_cases h1 : n < 1
  · rw [if_pos h1]
    have : n.toNat = 0 := by omega
    rw [this]; rfl
  · rw [if_neg h1]
    by_cases h2 : (n == 1 || (⟨#[c]⟩ : Str).length == 0) = true
    · rw [if_pos h2]
      have e : n = 1 := by
        rcases Bool.or_eq_true_iff.mp h2 with q | q
        · exact eq_of_beq q
        · exact absurd q (by simp [Str.length])
      subst e; rfl
    · rw [if_neg h2]
      refine Str.ext' (Array.toList_inj.mp ?_)
      rw [key]; simp [mulS]
section
variable {prog : Program} {w : World} {A : Around} {E : Value → Shared → Prop} {s : Shared} {x y : Str} {t u : Tok} {Q : Value → Shared → Prop}
theorem mulR {c : Nat} {n : Int} (hx : x = ⟨#[c]⟩) (h0 : 0 ≤ n) (h1 : n ≤ 100000) (h : ∀ t' k, Q (.str (mulS c n.toNat) t') { s with toks := k }) : wpAny (model prog w) A (binaryOp .Mult (.str x t) (.int n u)) Q E s := by
  refine SB.mul ?_ (by rw [mul_mulS hx h0]; exact h)
  subst hx
  refine ⟨?_, fun _ _ => ?_, fun _ _ => ?_⟩
  · rw [Bool.or_eq_false_iff]; exact ⟨decide_eq_false (by omega), decide_eq_false (by omega)⟩
  · have : (1 : Int) ≤ (2 ^ 63 - 1) / n := by
      rw [Int.le_ediv_iff_mul_le (by omega)]; omega
    show ¬ ((1 : Nat) : Int) > _
    omega
  · show decide _ = false
    refine decide_eq_false ?_
    rw [sizeLine_eq]
    show ¬ 1 * n.toNat > _
    omega
theorem addR (hsz : x.length + y.length ≤ sizeLine) (h : ∀ t' k, Q (.str (x ++ y) t') { s with toks := k }) : wpAny (model prog w) A (binaryOp .Add (.str x t) (.str y u)) Q E s := PyProof.Rows.add_str h hsz
theorem item_L {value slice : PySem.Expr} {l : Addr} {vs : List Value} {k : Int} {v : Value} (hl : s.heap.IsList l vs.toArray) (h0 : 0 ≤ k) (hhi : k < 2 ^ 63) (hx : vs[k.toNat]? = some v) (h : Q v s)
    (hs : subscripted slice false (.ref l) (.int k u) = operate [.ref l, .int k u] (getItem (.ref l) (.int k u)) := by with_unfolding_all rfl) :
    wpAny (model prog w) A (subscriptTail value slice (.ref l) (.int k u)) Q E s :=
  tail_any hl.typeIs slot_list_getitem.lookup (wpAny_getItem_list hl h0 hhi (by simpa using hx) h) hs
theorem len_B {b : Array UInt8} {n : Nat} (hn : b.size = n) (hz : n ≤ 1000) (h : Q (.int n (s.toks + 1)) { s with toks := s.toks + 1 + 1 }) : wpAny (model prog w) A (call (.builtin "len") [.bytes b t]) Q E s :=
  len_bytes (by omega) (by rw [hn]; exact h)
theorem item_B {value slice : PySem.Expr} {b : Array UInt8} {k : Int} {v : UInt8} (hx : b.toList[k.toNat]? = some v) (hfit : b.size ≤ 1000) (h0 : 0 ≤ k) (h : Q (.int (v.toNat : Nat) s.toks) { s with toks := s.toks + 1 })
    (hs : subscripted slice false (.bytes b t) (.int k u) = operate [.bytes b t, .int k u] (getItem (.bytes b t) (.int k u)) := by with_unfolding_all rfl) (ht : ∀ r, letTemporaryGo value (.bytes b t) r = pure () := by intro _; with_unfolding_all rfl) :
    wpAny (model prog w) A (subscriptTail value slice (.bytes b t) (.int k u)) Q E s := by
  replace hx : b[k.toNat]? = some v := by simpa using hx
  refine subscriptTail_builtin (typeIs_bytes _ _ _) FB.slot_bytes_getitem.lookup ?_ hs ht
  have hlt : k.toNat < b.size := by
    rcases Nat.lt_or_ge k.toNat b.size with q | q
    · exact q
    · rw [Array.getElem?_eq_none q] at hx; cases hx
  have e : b.toList.getD k.toNat 0 = v := by simp [hx]
  have := getItem_bytes (prog := prog) (w := w) (A := A) (E := E) (s := s) (t := t) (u := u) (l := b.toList) (i := k) (Q := Q) (by simp; omega) h0 (by simp; omega) (by rw [e]; exact h)
  simpa using this
end
end Mine
namespace Mine
open LCg
section
variable {prog : Program} {w : World} {A : Around} {E : Value → Shared → Prop} {s : Shared} {h₀ : Heap} {L : Addr} {m : Str → Option Value} {env : Env}
/-- the source of a comprehension is a bytes -/
def SrcB (prog : Program) (w : World) (A : Around) (h₀ : Heap) (L : Addr) (m : Str → Option Value) (env : Env) (elt : PySem.Expr) (x : Str) (scope : Scope) (cl : List (Str × Addr)) (Fin : Shared → List Value → List (Addr × Obj) → Prop) (xv : Value) (s₁ : Shared) : Prop :=
  ∃ (b : Array UInt8) (t : Tok) (news : List (Addr × Obj)), xv = .bytes b t ∧ A.handled = none ∧ Fr h₀ L s₁.heap m ∧ News h₀ L s₁.heap news ∧ b.size ≤ sizeLine ∧
    ∀ g, CompRest prog w A h₀ L m env elt x scope cl { s₁ with heap := g } (fun _ => True) (fun i v => ∃ c u, b.toList[i]? = some c ∧ v = .int (c.toNat : Nat) u) (Fin { s₁ with heap := g }) b.size 0 [] news
theorem SrcB.intro {elt : PySem.Expr} {x : Str} {scope : Scope} {cl : List (Str × Addr)} {Fin : Shared → List Value → List (Addr × Obj) → Prop} {b : Array UInt8} {t : Tok} {news : List (Addr × Obj)} {s₁ : Shared} (k : Nat)
    (hh : A.handled = none) (F : Fr h₀ L s₁.heap m) (N : News h₀ L s₁.heap news) (hk : b.size = k) (hsz : k ≤ sizeLine)
    (h : ∀ g, CompRest prog w A h₀ L m env elt x scope cl { s₁ with heap := g } (fun _ => True) (fun i v => ∃ c u, b.toList[i]? = some c ∧ v = .int (c.toNat : Nat) u) (Fin { s₁ with heap := g }) k 0 [] news) :
    SrcB prog w A h₀ L m env elt x scope cl Fin (.bytes b t) s₁ := ⟨b, t, news, rfl, hh, F, N, hk ▸ hsz, hk.symm ▸ h⟩
theorem ListComp_B {elt iter : PySem.Expr} {x : Str} {px : Pos} {scope : Scope} {cl : List (Str × Addr)} {pos : Pos} {Q : Value → Shared → Prop} (F₀ : Fr h₀ L s.heap m)
    (hclos : closureFor scope env = pure cl) (hcell : ∀ y ∈ scope.names, y.2 ≠ .cell) (hkind : scope.kind = .function)
    (hnames : ∀ y ∈ scope.names, y.2 = .local → scope.names.lookup y.1 = some .local) (hx : scope.names.lookup x = some .local)
    (h : wpAny (model prog w) A (eval iter env) (SrcB prog w A h₀ L m env elt x scope cl (fun s₂ => FinE h₀ L m s₂ Q)) E s)
    (hs : ∀ x, foldedSetIterable iter env x = pure x := by intro _; rfl) :
    wpAny (model prog w) A (eval (.ListComp elt [⟨.Name x px, iter, [], 0⟩] scope pos) env) Q E s := by
  rw [eval_ListComp]
  refine wpAny_comprehension_free (use := none) rfl hs hclos hkind hnames (wpAny_mono h (fun xv s₁ h₁ => ?_) fun _ _ e => e)
  obtain ⟨b, t, news, rfl, hh, F, N, hsz, R⟩ := h₁
  refine KBw.pyIter_bytes ?_
  have W := KBw.walks (prog := prog) (w := w) hh s₁.heap.objs.size b t
  have up : ∀ c o, s₁.heap.get? c = some o → (s₁.heap.push { cls := .type "bytes_iterator", data := .fields #[.bytes b t, .int 0 0] }).get? c = some o := fun c o e => Heap.get?_push_of_some _ e
  have R' := R (s₁.heap.push { cls := .type "bytes_iterator", data := .fields #[.bytes b t, .int 0 0] })
  simp only [Array.getElem?_toList] at R'
  refine block_U (S := fun _ => True) W hsz (fun i h st => by obtain ⟨o, e, _⟩ := st; exact ⟨o, e⟩) (fun i h h' o nw st e e' _ _ _ => by obtain ⟨o', q, r⟩ := st; rw [e] at q; cases q; exact ⟨o, e', r⟩) hcell hkind hx ⟨_, Heap.get?_push_size _ rfl, rfl, rfl⟩ (fun c hc => ?_)
      (F.keeps up) (N.grown up) (Nat.ne_of_lt F.ns.lt) (next_is_new F) (fun p hp => Nat.ne_of_lt (Heap.lt_size (N p hp).1)) trivial R' ?_
  · rw [List.mem_singleton.mp hc]
    show s₁.heap.objs.size < (s₁.heap.push _).objs.size
    rw [Heap.size_push]; exact Nat.lt_succ_self _
  · intro D C h tk m' ys news' F' N' o1 hn hC₀ hD₀ hCL hDL hCD offC fin
    refine ⟨m', hn, fun h'' hs'' => fin D h'' tk (F'.change hs'' hCL hC₀) (fun p hp => ?_) o1⟩
    refine ⟨hs''.extBut _ _ ?_ (N' p hp).1, (N' p hp).2⟩
    rcases List.mem_cons.mp hp with rfl | hp
    · exact Ne.symm hCD
    · exact offC p hp
end
end Mine
namespace Mine
/-- _law_name's text -/
def nmT (a b c : Int) : Str := Txt.join (Str.ofString "-") [Str.ofString (toString a), Str.ofString (toString b), Str.ofString (toString c)]
theorem num_len {a : Int} (h : 0 ≤ a ∧ a ≤ 255) : (Str.ofString (toString a)).length ≤ 1000 := by
  rw [PySem.ofString_length]
  have := int_text_length_le10 (a := a) (k := 3) (by decide) (by omega)
  omega
section
variable {prog : Program} {w : World} {A : Around} {E : Value → Shared → Prop} {s : Shared} {x y z : Str} {t t1 t2 t3 : Tok} {Q : Value → Shared → Prop}
theorem join3 {sep : Str} {D : Addr} (hl : s.heap.IsList D [Value.str x t1, Value.str y t2, Value.str z t3].toArray) (hs : sep.length ≤ 1000) (hx : x.length ≤ 1000) (hy : y.length ≤ 1000) (hz : z.length ≤ 1000)
    (h : ∀ t' k, Q (.str (Txt.join sep [x, y, z]) t') { s with toks := k }) : wpAny (model prog w) A (call (.builtin "str.join") [.str sep t, .ref D]) Q E s := by
  refine SC.join (l := [(x, t1), (y, t2), (z, t3)]) hl rfl ?_ h
  unfold JoinOk
  rw [Bool.not_eq_true']
  unfold Builtin.Str.tooLong
  refine decide_eq_false ?_
  show ¬ 0 + x.length + sep.length + (y.length) + sep.length + z.length + sep.length > sizeLine
  rw [sizeLine_eq]; omega
end
end Mine
end
/- BArr -/
section
open PySem PySem.W PySem.Calls PyProof.Rows
namespace Mine
namespace BA
theorem mro : mroOf (.type "bytearray") = pure [.type "bytearray", .type "object"] := by rw [mroOf_type]; kernel_rfl
theorem lookup_new : typeLookup (.type "bytearray") "__new__" = pure (some (.builtin "bytearray.__new__")) := by rw [typeLookup_type, builtinLookup_eq_fast]; kernel_rfl
theorem slot_init : Slot "bytearray" "__init__" "bytearray.__init__" :=
  .of (owner := "bytearray") (n := "__init__") (by rw [typeLookup_type, builtinLookup_eq_fast]; kernel_rfl) (by decide +kernel) (by decide +kernel) (by decide +kernel)
    (by first | exact .inl (by decide +kernel) | exact .inr (by decide +kernel)) (by rw [isSubtype_type]; kernel_rfl)
theorem sub : isSubtype (.type "bytearray") (.type "bytearray") = pure true := by rw [isSubtype_type]; kernel_rfl
theorem called : TypeCalled "bytearray" "bytearray.__new__" "bytearray.__init__" :=
  ⟨by decide +kernel, by decide +kernel, ⟨_, _, mro⟩, madeBy_type mro lookup_new (by decide +kernel), by decide +kernel, sub, slot_init⟩
theorem typeCall (a : Value) : checkTypeCall "bytearray" ⟨[a], []⟩ = pure () := by kernel_rfl
theorem newCall (a : Value) : checkBuiltinCall "bytearray.__new__" ⟨[.type "bytearray", a], []⟩ = pure () := by kernel_rfl
theorem plain_new : plainId "bytearray.__new__" = true := by decide +kernel
theorem entry_new : entryFor table "bytearray.__new__" = some Builtin.«list.__new__» := entryFor_alias (id' := "list.__new__") (by kernel_rfl) rfl (by decide +kernel) (by kernel_rfl)
theorem entry_init : entryFor table "bytearray.__init__" = some Builtin.«bytearray.__init__» := by first | exact entryFor_of_fast (by kernel_rfl) | exact entryFor_of_tree (by kernel_rfl)
set_option maxRecDepth 1000000 in
set_option maxHeartbeats 4000000 in
theorem owner_new : ("bytearray.__new__".splitOn ".__new__").headD "" = "bytearray" := by simp +decide [String.splitOn, String.splitOnAux]
theorem release : typeLookup (.type "bytearray") "__release_buffer__" = pure (some (.builtin "bytearray.__release_buffer__")) := by rw [typeLookup_type, builtinLookup_eq_fast]; kernel_rfl
theorem int_index : typeLookup (.type "int") "__index__" = pure (some (.builtin "int.__index__")) := by rw [typeLookup_type, builtinLookup_eq_fast]; kernel_rfl
theorem bind (v : Value) : Builtin.Bytes.bindOptional "bytearray.__init__" "bytearray" ["source", "encoding", "errors"] [v] [] = pure [some v, none, none] := by kernel_rfl
theorem slot_set : Slot "bytearray" "__setitem__" "bytearray.__setitem__" :=
  .of (owner := "bytearray") (n := "__setitem__") (by rw [typeLookup_type, builtinLookup_eq_fast]; kernel_rfl) (by decide +kernel) (by decide +kernel) (by decide +kernel)
    (by first | exact .inl (by decide +kernel) | exact .inr (by decide +kernel)) (by rw [isSubtype_type]; kernel_rfl)
theorem entry_set : entryFor table "bytearray.__setitem__" = some Builtin.«bytearray.__setitem__» := by first | exact entryFor_of_fast (by kernel_rfl) | exact entryFor_of_tree (by kernel_rfl)
theorem args_set (a b c : Value) : argsOk "bytearray.__setitem__" ⟨[a, b, c], []⟩ := by unfold argsOk; kernel_rfl
theorem no_bytes : typeLookup (.type "bytearray") "__bytes__" = pure none := by rw [typeLookup_type, builtinLookup_eq_fast]; kernel_rfl
theorem noIndex : typeLookup (.type "bytearray") "__index__" = pure none := by rw [typeLookup_type, builtinLookup_eq_fast]; kernel_rfl
theorem buffer : typeLookup (.type "bytearray") "__buffer__" = pure (some (.builtin "bytearray.__buffer__")) := by rw [typeLookup_type, builtinLookup_eq_fast]; kernel_rfl
theorem args_init (a b : Value) : argsOk "bytearray.__init__" ⟨[a, b], []⟩ := by unfold argsOk; kernel_rfl
end BA
end Mine
namespace Mine
section
variable {prog : Program} {w : World} {A : Around} {E : Value → Shared → Prop} {s : Shared}
abbrev baObj (b : Array UInt8) : Obj := { cls := .type "bytearray", data := .bytearray b }
theorem ba_new (a : Value) {Q₁ : Value → Shared → Prop} (h : Q₁ (.ref s.heap.objs.size) { s with heap := s.heap.push (baObj #[]) }) :
    codeAny (model prog w) A (.call (.builtin "bytearray.__new__") ⟨[.type "bytearray", a], []⟩) (wants Q₁ E) s := by
  refine codeAny_of_tree ?_
  show wpAny _ A.in1 (do checkBuiltinCall "bytearray.__new__" ⟨[.type "bytearray", a], []⟩; again (.builtin "bytearray.__new__" ⟨[.type "bytearray", a], []⟩)) _ _ s
  refine wpAny_bind (wpAny_of_eq (BA.newCall a) (wpAny_pure ⟨plainId_quiet BA.plain_new _, codeAny_builtin_stack BA.entry_new rfl fun p st => ?_⟩))
  rw [Around.under_plainId BA.plain_new _]
  have hsub := BA.sub
  have hown := BA.owner_new
  obtain ⟨hp, g, d, tk, os⟩ := s
  simp only [hown]
  wp_walk
  exact h
theorem ba_release {D : Addr} {b : Array UInt8} {Q : Bool → Shared → Prop} (ho : s.heap.get? D = some (baObj b)) (h : Q false s) : wpAny (model prog w) A (Builtin.Bytes.ownRelease (.ref D)) Q E s := by
  have hT : s.TypeIs (.ref D) "bytearray" := ⟨_, ho, rfl⟩
  unfold Builtin.Bytes.ownRelease
  refine wpAny_bind ?_
  unfold Builtin.Bytes.slotIsOwn
  refine wpAny_bind (wpAny_specialOf hT BA.release ?_)
  dsimp only
  rw [if_neg (by decide +kernel)]
  have e : "bytearray.__release_buffer__".dropRight ("__release_buffer__".length + 1) = "bytearray" := by decide +kernel
  rw [e]
  exact wpAny_isInstance hT BA.sub (wpAny_pure h)
theorem ba_exportsOf {D : Addr} {b : Array UInt8} {Q : Nat → Shared → Prop} (ho : s.heap.get? D = some (baObj b)) (h : Q 0 s) : wpAny (model prog w) A (Builtin.Bytes.exportsOf (.ref D)) Q E s := by
  unfold Builtin.Bytes.exportsOf
  exact wpAny_bind (wpAny_load ho (wpAny_pure h))
theorem ba_write {D : Addr} {b b' : Array UInt8} {f : Array UInt8 → Array UInt8} {Q : Unit → Shared → Prop} (ho : s.heap.get? D = some (baObj b)) (hf : f b = b') (hz : b'.size ≤ 1000)
    (h : ∀ h', Heap.SameBut D s.heap h' → h'.get? D = some (baObj b') → Q () { s with heap := h' }) : wpAny (model prog w) A (Builtin.Bytes.write (.ref D) f) Q E s := by
  show wpAny _ _ (updateBytearray D f) _ _ _
  unfold updateBytearray
  refine wpAny_bind (wpAny_load ho ?_)
  show wpAny _ _ (update D (Obj.mapBytearray f) >>= fun _ => lookBehind D) _ _ _
  refine wpAny_bind (wpAny_update ho ?_)
  have h₂ : (s.heap.update D (Obj.mapBytearray f)).get? D = some (baObj b') := by
    have := Heap.get?_update_self (Obj.mapBytearray f) ho rfl
    rw [this]
    subst hf
    rfl
  refine wpAny_lookBehind h₂ ?_ (h _ (Heap.SameBut.update ..) h₂)
  show (if b'.size > sizeLine then some "bytearray:memory" else none) = none
  rw [if_neg]; rw [sizeLine_eq]; omega
theorem ba_int {n : Int} {t : Tok} {Q : Value → Shared → Prop} (hg : A.guards = some []) (h0 : 0 < n) (h1 : n ≤ 1000)
    (h : ∀ D h', s.heap.objs.size ≤ D → (∀ c o, s.heap.get? c = some o → h'.get? c = some o) → h'.get? D = some (baObj (Array.replicate n.toNat 0)) → Q (.ref D) { s with heap := h' }) : wpG (model prog w) A (call (.type "bytearray") [.int n t]) Q E s := by
  refine callTypeG (Q₁ := fun obj s₁ => obj = .ref s.heap.objs.size ∧ s₁ = { s with heap := s.heap.push (baObj #[]) }) BA.called (BA.typeCall _) BA.entry_init (fun _ => by show (!Builtin.Bytes.decodersThatHold.contains "bytearray.__init__") = true; decide +kernel) (ba_new _ ⟨rfl, rfl⟩) fun obj s₁ h₁ => ?_
  obtain ⟨rfl, rfl⟩ := h₁
  have ho : (s.heap.push (baObj #[])).get? s.heap.objs.size = some (baObj #[]) := Heap.get?_push_size _ rfl
  refine ⟨⟨_, ho, rfl⟩, BA.args_init _ _, ?_⟩
  unfold Builtin.«bytearray.__init__»
  dsimp only
  refine wpG_bind_any (ba_release ho ?_)
  refine wpG_if_false rfl ?_
  refine wpG_bind_any (wpAny_of_eq (BA.bind _) ?_)
  dsimp only
  refine wpG_bind_any (wpAny_of_eq (a := ()) rfl ?_)
  refine wpG_bind_any (wpAny_of_eq (a := ()) rfl ?_)
  refine wpG_bind (m := Builtin.Bytes.exported _ <||> _) (wpG_bind (exported_fine hg ?_))
  refine wpG_bind_any (m := Builtin.Bytes.exportsOf _) (ba_exportsOf ho ?_)
  refine wpG_pure ?_
  refine wpG_if_false rfl (wpG_of ?_)
  refine wpAny_bind (ba_write ho (b' := #[]) rfl (by decide) fun h2 k2 ho2 => ?_)
  refine wpAny_bind (wpAny_of_eq (a := none) rfl ?_)
  simp only [Option.isSome_none, Bool.false_eq_true, if_false]
  refine wpAny_bind (wpAny_pure ?_)
  refine wpAny_bind (wpAny_specialOf (typeIs_int _ _ _) BA.int_index ?_)
  simp only [Option.isSome_some, if_true]
  refine wpAny_bind (wpAny_attempt (wpAny_of_eq (a := n) rfl ?_))
  refine bm_if_false (by simp only [Builtin.Bytes.fitsIndex, Bool.not_eq_false', Bool.and_eq_true, decide_eq_true_eq]; omega) ?_
  rw [if_neg (by omega : ¬ n < 0)]
  refine bm_if_false (by rw [beq_eq_false_iff_ne]; omega) ?_
  refine bm_if_false (by unfold Builtin.Bytes.tooLong; rw [decide_eq_false_iff_not, sizeLine_eq]; omega) ?_
  refine wpAny_bind (wpAny_rule ?_)
  rw [if_pos (by omega : n > 0)]
  refine wpAny_bind (ba_write ho2 (b' := Array.replicate n.toNat 0) rfl (by simp; omega) fun h3 k3 ho3 => ?_)
  refine wpAny_pure ⟨rfl, h _ h3 (Nat.le_refl _) (fun c o e => ?_) ho3⟩
  have hne : c ≠ s.heap.objs.size := Nat.ne_of_lt (Heap.lt_size e)
  exact k3.extBut _ _ hne (k2.extBut _ _ hne (Heap.get?_push_of_some _ e))
theorem ba_subscript {k : Int} {t : Tok} {Q : Option Int → Shared → Prop} (h0 : 0 ≤ k) (h1 : k < 1000) (h : Q (some k) s) : wpAny (model prog w) A (Builtin.Bytes.subscript? (.int k t)) Q E s := by
  unfold Builtin.Bytes.subscript?
  refine wpAny_bind (wpAny_specialOf (typeIs_int s k t) BA.int_index ?_)
  refine bm_if_false rfl ?_
  refine wpAny_bind (wpAny_of_eq (a := k) rfl ?_)
  refine bm_if_false (by simp only [Builtin.Bytes.fitsIndex, Bool.not_eq_false', Bool.and_eq_true, decide_eq_true_eq]; omega) ?_
  exact wpAny_pure h
theorem ba_set {D : Addr} {b b' : Array UInt8} {k v : Int} {t u : Tok} {Q : Unit → Shared → Prop} (ho : s.heap.get? D = some (baObj b)) (h0 : 0 ≤ k) (h1 : k < b.size) (hz : b.size ≤ 1000) (hv : 0 ≤ v ∧ v < 256)
    (e : b.setIfInBounds k.toNat v.toNat.toUInt8 = b') (h : ∀ h', Heap.SameBut D s.heap h' → h'.get? D = some (baObj b') → Q () { s with heap := h' }) :
    wpAny (model prog w) A (setItem (.ref D) (.int k t) (.int v u)) Q E s := by
  have hT : s.TypeIs (.ref D) "bytearray" := ⟨_, ho, rfl⟩
  unfold setItem
  try with_reducible refine wpAny_holding ?_
  first | refine wpAny_bind (wpAny_pure ?_) | skip
  refine wpAny_bind (wpAny_sequenceKey hT (by decide) ?_)
  refine wpAny_bind (wpAny_callSpecial?_slot (name := Str.ofString "__setitem__") hT BA.slot_set
    (wpAny_call_entry BA.slot_set hT BA.entry_set ?_ (BA.args_set _ _ _)))
  unfold Builtin.«bytearray.__setitem__»
  refine bm_if_false rfl ?_
  dsimp only
  refine wpAny_bind (ba_subscript h0 (by omega) ?_)
  dsimp only
  refine wpAny_bind ?_
  unfold Builtin.Bytes.byteValue
  refine wpAny_bind (wpAny_of_eq (a := v) rfl ?_)
  refine bm_if_false (by simp only [Bool.or_eq_false_iff, decide_eq_false_iff_not]; omega) ?_
  refine wpAny_pure ?_
  refine wpAny_bind ?_
  unfold Builtin.Bytes.payload Builtin.Bytes.payload?
  refine wpAny_bind (wpAny_bind (wpAny_load ho ?_))
  refine wpAny_pure (wpAny_pure ?_)
  have hs : seqIndex? k b.size = some k.toNat := by simp [seqIndex?, h0, h1, Int.not_lt.mpr h0]
  rw [hs]
  dsimp only
  refine wpAny_bind (ba_write ho (b' := b') e (by rw [← e]; simpa using hz) fun h2 k2 ho2 => ?_)
  exact wpAny_pure ⟨_, rfl, wpAny_pure (h h2 k2 ho2)⟩
theorem ba_bytes_new {D : Addr} {b : Array UInt8} {Q : Value → Shared → Prop} (ho : s.heap.get? D = some (baObj b)) (hz : b.size ≤ 1000)
    (hQ : ∀ t k, Q (.bytes b t) { s with toks := k }) :
    codeAny (model prog w) A (.call (.builtin "bytes.__new__") ⟨[.type "bytes", .ref D], []⟩) (wants Q E) s := by
  have hT : s.TypeIs (.ref D) "bytearray" := ⟨_, ho, rfl⟩
  refine codeAny_of_tree ?_
  show wpAny _ A.in1 (do checkBuiltinCall "bytes.__new__" ⟨[.type "bytes", .ref D], []⟩; again (.builtin "bytes.__new__" ⟨[.type "bytes", .ref D], []⟩)) _ _ s
  refine wpAny_bind (wpAny_of_eq (F.bm_newCall _) (wpAny_pure ⟨plainId_quiet F.bm_plain _, codeAny_builtin F.bm_entry ?_⟩))
  rw [Around.under_plainId F.bm_plain _]
  unfold Builtin.«bytes.__new__»
  refine wpAny_bind (wpAny_of_eq (a := true) rfl ?_)
  refine bm_if_false rfl ?_
  refine wpAny_bind (wpAny_of_eq F.bm_sub ?_)
  refine bm_if_false rfl ?_
  refine wpAny_bind (wpAny_of_eq (F.bm_bind _) ?_)
  refine wpAny_bind (wpAny_of_eq (a := ()) rfl ?_)
  refine wpAny_bind (wpAny_of_eq (a := ()) rfl ?_)
  refine bm_if_false rfl ?_
  refine wpAny_bind (wpAny_specialOf hT BA.no_bytes ?_)
  refine wpAny_bind (wpAny_bind ?_)
  show wpAny _ _ (load D >>= _) _ _ _
  refine wpAny_bind (wpAny_load ho ?_)
  refine wpAny_pure (wpAny_pure ?_)
  refine bm_if_false rfl ?_
  refine wpAny_bind (wpAny_specialOf hT BA.noIndex ?_)
  refine bm_if_true rfl ?_
  first
    | show wpAny _ _ (Builtin.Bytes.buffer? "bytes.__new__" (.ref D) true >>= _) _ _ _
    | (refine wpAny_bind ?_; show wpAny _ _ (Builtin.Bytes.buffer? "bytes.__new__" (.ref D) true >>= _) _ _ _)
  refine wpAny_bind ?_
  unfold Builtin.Bytes.buffer?
  refine wpAny_bind (wpAny_specialOf hT BA.buffer ?_)
  dsimp only
  refine wpAny_bind ?_
  unfold Builtin.Bytes.slotIsOwn
  refine wpAny_bind (wpAny_specialOf hT BA.buffer ?_)
  dsimp only
  rw [if_neg (by decide +kernel)]
  have e : "bytearray.__buffer__".dropRight ("__buffer__".length + 1) = "bytearray" := by decide +kernel
  rw [e]
  refine wpAny_isInstance hT BA.sub ?_
  refine bm_if_false rfl ?_
  refine wpAny_bind (wpAny_specialOf hT BA.buffer ?_)
  refine wpAny_bind (ba_release ho ?_)
  refine bm_if_false rfl ?_
  refine wpAny_bind ?_
  unfold Builtin.Bytes.payload Builtin.Bytes.payload?
  refine wpAny_bind (wpAny_bind (wpAny_load ho ?_))
  refine wpAny_pure (wpAny_pure ?_)
  refine wpAny_pure ?_
  dsimp only
  refine wpAny_bind (wpAny_rule ?_)
  refine wpAny_bind (wpAny_mkBytes ?_ (by rw [sizeLine_eq]; omega))
  show wpAny _ _ (if (Value.type "bytes" == Value.type "bytes") = true then _ else _) _ _ _
  refine bm_if_true (by decide) ?_
  first
    | exact wpAny_pure (hQ _ _)
    | exact wpAny_bind (wpAny_pure (wpAny_pure (hQ _ _)))
theorem ba_bytes {D : Addr} {b : Array UInt8} {Q : Value → Shared → Prop} (ho : s.heap.get? D = some (baObj b)) (hz : b.size ≤ 1000)
    (hQ : ∀ t k, Q (.bytes b t) { s with toks := k }) : wpAny (model prog w) A (call (.type "bytes") [.ref D]) Q E s := by
  refine callType_codes (Q₁ := fun obj s₁ => s₁.TypeIs obj "bytes" ∧ Q obj s₁) F.bm_called (F.bm_typeCall _) F.entry_object_init
    (ba_bytes_new ho hz fun t k => ⟨PySem.W.typeIs_bytes _ _ _, hQ t k⟩) fun obj s₁ h₁ => ?_
  exact ⟨h₁.1, F.args_object_init_2 obj _, object_init_meets F.bm_called.init.lookup F.bm_called.made (by decide) prog w A.in1 _ s₁ ⟨h₁.1, rfl, h₁.2⟩⟩
theorem ba_setN {h₀ : Heap} {L D : Addr} {m : Str → Option Value} {news news' : List (Addr × Obj)} {b b' : Array UInt8} {k v : Int} {t u : Tok} {Q : Unit → Shared → Prop} (F : Fr h₀ L s.heap m) (N : News h₀ L s.heap news) (U : Upd D (baObj b) (baObj b') news news')
    (e : b.setIfInBounds k.toNat v.toNat.toUInt8 = b') (h0 : 0 ≤ k) (h1 : k < b.size) (hz : b.size ≤ 1000) (hv : 0 ≤ v ∧ v < 256)
    (h : ∀ h', Fr h₀ L h' m → News h₀ L h' news' → Q () { s with heap := h' }) :
    wpAny (model prog w) A (setItem (.ref D) (.int k t) (.int v u)) Q E s := by
  obtain ⟨pre, post, rfl, rfl, a, c⟩ := U.split
  have hD := N (D, baObj b) (by simp)
  refine ba_set hD.1 h0 h1 hz hv e fun h' hs ho' => ?_
  exact h h' (F.change hs hD.2.1 hD.2.2) (N.setAt a c hs ho')
theorem ba_set0 {h₀ : Heap} {L D : Addr} {m : Str → Option Value} {news news' : List (Addr × Obj)} {p q c : UInt8} {k v : Int} {t u : Tok} {Q : Unit → Shared → Prop} (F : Fr h₀ L s.heap m) (N : News h₀ L s.heap news) (hk : k = 0) (hv : v = (c.toNat : Nat))
    (U : Upd D (baObj #[p, q]) (baObj #[c, q]) news news') (h : ∀ h', Fr h₀ L h' m → News h₀ L h' news' → Q () { s with heap := h' }) :
    wpAny (model prog w) A (setItem (.ref D) (.int k t) (.int v u)) Q E s := by
  subst hk; subst hv
  have := c.toNat_lt
  exact ba_setN F N U (by simp) (by decide) (by simp) (by simp) (by omega) h
theorem ba_set1 {h₀ : Heap} {L D : Addr} {m : Str → Option Value} {news news' : List (Addr × Obj)} {p q c : UInt8} {k v : Int} {t u : Tok} {Q : Unit → Shared → Prop} (F : Fr h₀ L s.heap m) (N : News h₀ L s.heap news) (hk : k = 1) (hv : v = (c.toNat : Nat))
    (U : Upd D (baObj #[p, q]) (baObj #[p, c]) news news') (h : ∀ h', Fr h₀ L h' m → News h₀ L h' news' → Q () { s with heap := h' }) :
    wpAny (model prog w) A (setItem (.ref D) (.int k t) (.int v u)) Q E s := by
  subst hk; subst hv
  have := c.toNat_lt
  exact ba_setN F N U (by simp) (by decide) (by simp) (by simp) (by omega) h
end
end Mine
end
/- GStruct -/
section
open PySem PySem.W PySem.Calls PyProof.Rows
open Sem (wp)
namespace Mine
section
variable {M : Model} {A : Around} {E : Value → Shared → Prop} {s : Shared} {env : Env}
theorem execsG_cons {st : Stmt} {rest : List Stmt} {Q : Flow → Shared → Prop}
    (h : wpG M A (exec st env) (fun f s' => match f with | .next => wpG M A (execs rest env) Q E s' | f => Q f s') E s) : wpG M A (execs (st :: rest) env) Q E s := by
  rw [execs_cons]
  refine wpG_bind (wpG_mono h (fun f s' h' => ?_) fun _ _ x => x)
  cases f <;> first | exact h' | exact wpG_pure h'
theorem assignG {x : Str} {pos' pos : Pos} {value : PySem.Expr} {Q : Flow → Shared → Prop}
    (h : wpG M A (eval value env) (fun v s₁ => wpAny M A (storeName env x v) (fun _ => Q .next) E s₁) E s)
    (hs : swapsWith value (some (.Name x pos')) pos.line env = pure false := by rfl) : wpG M A (exec (.Assign [.Name x pos'] value pos) env) Q E s := by
  rw [exec_Assign_Name env x pos' value pos hs]
  refine wpG_standAt (wpG_bind (wpG_mono h (fun v s₁ h₁ => wpG_standAt (wpG_bind_any (wpAny_bindName ?_))) fun _ _ x => x))
  exact wpAny_mono h₁ (fun _ _ q => wpG_pure q) fun _ _ x => x
theorem ifG {test : PySem.Expr} {body orelse : List Stmt} {pos : Pos} {Q : Flow → Shared → Prop} (b : Bool)
    (h : wpAny M A (isTrue test env (eval test env)) (fun c s₁ => c = b ∧ wpG M A (if b = true then execs body env else execs orelse env) Q E s₁) E s) :
    wpG M A (exec (.If test body orelse pos) env) Q E s := by
  rw [exec_If]
  refine wpG_standAt (wpG_bind_any (wpAny_mono h (fun c s₁ h₁ => ?_) fun _ _ x => x))
  obtain ⟨rfl, h₂⟩ := h₁
  exact h₂
theorem ifG_t {test : PySem.Expr} {body orelse : List Stmt} {pos : Pos} {Q : Flow → Shared → Prop}
    (h : wpAny M A (isTrue test env (eval test env)) (fun c s₁ => c = true ∧ wpG M A (execs body env) Q E s₁) E s) : wpG M A (exec (.If test body orelse pos) env) Q E s := ifG true (wpAny_mono h (fun _ _ x => x) fun _ _ x => x)
theorem ifG_f {test : PySem.Expr} {body orelse : List Stmt} {pos : Pos} {Q : Flow → Shared → Prop}
    (h : wpAny M A (isTrue test env (eval test env)) (fun c s₁ => c = false ∧ wpG M A (execs orelse env) Q E s₁) E s) : wpG M A (exec (.If test body orelse pos) env) Q E s := ifG false (wpAny_mono h (fun _ _ x => x) fun _ _ x => x)
theorem exprG {e : PySem.Expr} {pos : Pos} {Q : Flow → Shared → Prop} (h : wpG M A (eval e env) (fun v s₁ => v = .none ∧ Q .next s₁) E s)
    (hi : interactive env = false := by rfl) (hs : swapsWith e none pos.line env = pure false := by rfl) : wpG M A (exec (.Expr e pos) env) Q E s := by
  rw [exec_Expr env e pos hi hs]
  refine wpG_standAt (wpG_bind (wpG_mono h (fun v s₁ h₁ => ?_) fun _ _ x => x))
  obtain ⟨rfl, h₂⟩ := h₁
  rw [dropValue_plain (by intro a q; cases q)]
  exact wpG_pure h₂
theorem binG {l r : PySem.Expr} {op : Operator} {pos : Pos} {Q : Value → Shared → Prop}
    (h : wpG M A (eval l env) (fun a s₁ => wpG M A (eval r env) (fun b s₂ => wpAny M A (binaryOp op a b) Q E s₂) E s₁) E s) : wpG M A (eval (.BinOp l op r pos) env) Q E s := by
  rw [eval_BinOp]
  refine wpG_bind (wpG_mono h (fun a s₁ h₁ => wpG_bind (wpG_holding (wpG_mono h₁ (fun b s₂ h₂ => wpG_standAt (wpG_of ?_)) fun _ _ x => x))) fun _ _ x => x)
  intro Γ p hΓ
  rw [Sem.wp_operate]
  exact h₂ Γ p hΓ
theorem callEG {f : PySem.Expr} {args : List PySem.Expr} {pos : Pos} {Q : Value → Shared → Prop}
    (h : wpAny M A (eval f env) (fun fv s₁ => wpG M A (callWith pos fv [] (backTo pos (starEach args env)) []) Q E s₁) E s)
    (he : eval (.Call f args [] pos) env = (do callWith pos (← eval f env) [] (backTo pos (starEach args env)) []) := by rfl) : wpG M A (eval (.Call f args [] pos) env) Q E s := by
  rw [he]
  exact wpG_bind_any h
theorem methEG {o : PySem.Expr} {name : Str} {apos : Pos} {args : List PySem.Expr} {pos : Pos} {pl : Sem Bool} {Q : Value → Shared → Prop}
    (h : wpAny M A (eval o env) (fun ov s₁ => wpAny M A (getMethod ov name pl) (fun fx s₂ => wpG M A (callWith pos fx.1 fx.2 (backTo pos (starEach args env)) []) Q E s₂) E s₁) E s)
    (he : eval (.Call (.Attribute o name apos) args [] pos) env = (do
      let ov ← eval o env
      standAt apos.atName
      let (f, first) ← holding [ov] (getMethod ov name pl)
      callWith pos f first (backTo pos (starEach args env)) []) := by rfl) : wpG M A (eval (.Call (.Attribute o name apos) args [] pos) env) Q E s := by
  rw [he]
  exact wpG_bind_any (wpAny_mono h (fun ov s₁ h₁ => wpG_standAt (wpG_bind_any (wpAny_holding (wpAny_mono h₁ (fun fx s₂ h₂ => h₂) fun _ _ x => x)))) fun _ _ x => x)
theorem splicedG {x : Sem Value} {rest : List (Bool × Sem Value)} {Q : List Value → Shared → Prop}
    (h : wpG M A x (fun v s₁ => wpG M A (spliced rest) (fun vs s₂ => Q (v :: vs) s₂) E s₁) E s) : wpG M A (spliced ((false, x) :: rest)) Q E s := by
  unfold spliced
  refine wpG_bind (wpG_mono h (fun v s₁ h₁ => ?_) fun _ _ x => x)
  simp only [Bool.false_eq_true, if_false]
  exact wpG_bind_any (wpAny_pure (wpG_bind (wpG_holding (wpG_mono h₁ (fun vs s₂ h₂ => wpG_pure h₂) fun _ _ x => x))))
theorem callWithG {P : Heap → Prop} {pos : Pos} {f : Value} {first : List Value} {x : Sem Value} {rest : List (Bool × Sem Value)} {Q : Value → Shared → Prop} (hplain : rest.any (·.1) = false)
    (hk : ∀ h, P h → ∃ k, (k = Keeper.frame ∨ k = Keeper.machine ∨ k = Keeper.boundFrame) ∧ Looks M h (keeperOf f) k)
    (h : wpG M A (spliced ((false, x) :: rest)) (fun vs s₁ => P s₁.heap ∧ wpG M A (call f (first ++ vs)) Q E s₁) E s) : wpG M A (callWith pos f first ((false, x) :: rest) []) Q E s := by
  unfold callWith
  refine wpG_bind (wpG_holding ?_)
  unfold evalArgs
  show wpG M A (spliced ((false, x) :: rest) >>= _) _ E s
  refine wpG_bind (wpG_mono h (fun vs s₁ h₁ => ?_) fun _ _ x => x)
  refine wpG_holding (wpG_bind_any (wpAny_pure (wpG_bind_any (wpAny_pure (wpG_pure (wpG_standAt ?_))))))
  obtain ⟨k, hk', L⟩ := hk _ h₁.1
  have hpl : (((false, x) :: rest).any (·.1) || ([] : List (Option Str × Sem Value)).any (·.1.isNone)) = false := by
    show ((false || rest.any (·.1)) || false) = false
    rw [hplain]; rfl
  simp only [hpl]
  refine wpG_bind_any (L.here ?_)
  have tail : ∀ {t : Sem Value}, wpG M A t Q E s₁ → wpG M A (t >>= fun r => holding [r] point >>= fun _ => pure r) Q E s₁ :=
    fun ht => wpG_bind (wpG_mono ht (fun r s₂ hr => wpG_bind_any (wpAny_holding (wpAny_point (wpG_pure hr)))) fun _ _ x => x)
  have marked (mk : Value) : wpG M A (callMarked mk f (first ++ vs) []) Q E s₁ := by unfold callMarked; exact wpG_keep h₁.2
  rcases hk' with rfl | rfl | rfl <;> dsimp only <;> first | exact tail h₁.2 | (split <;> first | exact tail h₁.2 | exact tail (marked _))
theorem callG {P : Heap → Prop} {pos : Pos} {f : Value} {first : List Value} {e : PySem.Expr} {rest : List PySem.Expr} {Q : Value → Shared → Prop}
    (hk : ∀ h, P h → ∃ k, (k = Keeper.frame ∨ k = Keeper.machine ∨ k = Keeper.boundFrame) ∧ Looks M h (keeperOf f) k)
    (h : wpG M A (spliced (backTo pos (starEach (e :: rest) env))) (fun vs s₁ => P s₁.heap ∧ wpG M A (call f (first ++ vs)) Q E s₁) E s)
    (he : starEach (e :: rest) env = (false, eval e env) :: starEach rest env := by rfl) (hplain : (backTo pos (starEach rest env)).any (·.1) = false := by rfl) :
    wpG M A (callWith pos f first (backTo pos (starEach (e :: rest) env)) []) Q E s := by
  rw [he] at h ⊢
  exact callWithG hplain hk h
theorem callG_m {pos : Pos} {f : Value} {first : List Value} {e : PySem.Expr} {rest : List PySem.Expr} {Q : Value → Shared → Prop} (hf : keeperOf f = pure .machine)
    (h : wpG M A (spliced (backTo pos (starEach (e :: rest) env))) (fun vs s₁ => wpG M A (call f (first ++ vs)) Q E s₁) E s)
    (he : starEach (e :: rest) env = (false, eval e env) :: starEach rest env := by rfl) (hplain : (backTo pos (starEach rest env)).any (·.1) = false := by rfl) :
    wpG M A (callWith pos f first (backTo pos (starEach (e :: rest) env)) []) Q E s :=
  callG (P := fun _ => True) (fun _ _ => ⟨.machine, .inr (.inl rfl), Looks.of_pure hf⟩) (wpG_mono h (fun _ _ x => ⟨trivial, x⟩) fun _ _ x => x) he hplain
theorem splicedEG {pos : Pos} {e : PySem.Expr} {rest : List PySem.Expr} {Q : List Value → Shared → Prop}
    (h : wpG M A (eval e env) (fun v s₁ => wpG M A (spliced (backTo pos (starEach rest env))) (fun vs s₂ => Q (v :: vs) s₂) E s₁) E s)
    (he : starEach (e :: rest) env = (false, eval e env) :: starEach rest env := by rfl) :
    wpG M A (spliced (backTo pos (starEach (e :: rest) env))) Q E s := by
  rw [he]
  exact splicedG h
end
section
variable {prog : Program} {w : World} {A : Around} {E : Value → Shared → Prop} {s : Shared}
theorem codeG_call_function {R : Result → Shared → Prop} {a : Addr} {args : Args} {o : Obj} {fd : FuncData} {body : List Stmt} (hroom : A.depth < recursionLimit)
    (ho : s.heap.get? a = some o)
    (hd' : o.data = .func fd) (hco : fd.scope.isCoroutine = false) (hgen : fd.scope.isGenerator = false) (hbody : fd.body = .stmts body) (hcd : s.heap.CodeRec fd.code fd.qualname)
    (h : wpAny (model prog w) A.in1 (bindArgs fd args) (fun binds s₁ =>
      wpAny (model prog w) A.in1 (newFunctionEnv fd.scope fd.globals fd.closure binds (fd.qualname ++ ".<locals>.") (some a) fd.code none fd.builtins)
        (fun env s₂ => s₂.heap.NoLimit ∧ codeG (model prog w) A (.func body env) R s₂) (fun e s' => R (.error e) s') s₁) (fun e s' => R (.error e) s') s) :
    codeG (model prog w) A (.call (.ref a) args) R s := by
  refine codeG_of_tree ?_
  show wpG _ A.in1 (callAny (.ref a) args) _ _ s
  simp only [callAny]
  refine wpG_bind_any (wpAny_load ho ?_)
  obtain ⟨c, oc, vs, tq, hc, hoc, hdc, hq⟩ := hcd
  simp only [hd', callFunction, hco, hgen, hbody, hc]
  rw [hc] at h
  refine wpG_bind_any (m := field (.ref c) 1) (wpAny_field hoc hdc hq (wpG_bind_any (wpAny_pure ?_)))
  exact wpG_bind_any (wpAny_mono h (fun binds s₁ h₁ => wpG_bind_any (wpAny_mono h₁ (fun env s₂ h₂ => wpG_bind_any (wpAny_enterFrame h₂.1 hroom
    (wpG_pure ⟨rfl, rfl, h₂.2⟩))) fun _ _ h' => h')) fun _ _ h' => h')
theorem codeG_func {R : Result → Shared → Prop} {body : List Stmt} {env : Env}
    (h : wpG (model prog w) (A.deeper env) (execs body env) (fun f s' => R (.ok (.ret (match f with | .ret v => v | _ => .none))) s') (fun _ _ => False) s) :
    codeG (model prog w) A (.func body env) R s := by
  refine codeG_of_tree ?_
  show wpG _ (A.deeper env) (do point; match ← (execs body env).onRaise (leaving env) with | .ret v => ret v | _ => ret .none) _ _ s
  refine wpG_bind_any (wpAny_point (wpG_bind (wpG_onRaise (wpG_mono h (fun f s' h' => ?_) fun _ _ h' => h'))))
  cases f <;> exact wpG_pure h'
end
end Mine
end
/- GEnter -/
section
open PySem PySem.W PySem.Calls PyProof.Rows
namespace Mine
section
variable {prog : Program} {w : World} {A₀ A : Around} {s : Shared} {base h₀ : Heap} {outer : List Env} {L : Addr} {m : Str → Option Value} {env : Env} {K : Frag} {p : Program} {loose : List Str} {mean : ExcName → Option Value} {mg mb : Str → Option Value}
  {Q E : Value → Shared → Prop} {name qual : Str} {params : Arguments} {body : List Stmt} {scope : Scope} {dV kV doc pm cdv ct oc : Value} {an od : Option Addr} {osl : Array (Option Value)} {f : Addr} {args : List Value} {binds : List (Str × Value)}
theorem enterG (post : Value → Heap → Prop) (B : Below A₀ base outer h₀) (F : Fr h₀ L s.heap m) (X₀ : K.In h₀) (T : Top p loose mean mg mb h₀) (hA : A.frames = some (env :: outer)) (hf : env.frame = some L) (hke : env.scope.kind = .function)
    (hret : CRet h₀ L m s Q post)
    (ho : K.lookup f = some ⟨oc, od, .func (fnOf name qual params body scope dV kV doc pm an cdv ct), osl⟩) (hcd : codeIn K cdv qual = true) (hroom : A.depth < recursionLimit)
    (hbind : BindsTo s (fnOf name qual params body scope dV kV doc pm an cdv ct) ⟨args, []⟩ binds) (hloc : ∀ y ∈ binds, scope.names.lookup y.1 = some .local)
    (h : ∀ (g : Heap) (L' : Addr) (h₁ : Heap) (tk : Nat) (Q' : Value → Shared → Prop), (∀ (v : Value) (h' : Heap) (tk' : Nat) (L₂ : Addr) (m' : Str → Option Value), Fr g L₂ h' m' → post v h' → Q' v { s with heap := h', toks := tk' }) →
      g = s.heap → 0 < tk → Fr g L' h₁ (fun y => binds.reverse.lookup y) → News g L' h₁ [] → Below A base (env :: outer) g → K.In g → Top p loose mean mg mb g →
      wpG (model prog w) (A.deeper (envOf qual scope L' f cdv)) (execs body (envOf qual scope L' f cdv))
        (fun fl s' => Q' (match fl with | .ret v => v | _ => .none) s') (fun _ _ => False) { s with heap := h₁, toks := tk })
    (hco : scope.isCoroutine = false) (hgen : scope.isGenerator = false) (hk : scope.kind = .function)
    (hcell : ∀ x ∈ scope.names, x.2 ≠ .cell) (hpos : 0 < binds.length) : wpG (model prog w) A (call (.ref f) args) Q E s := by
  refine wpG_call ?_
  have B₁ := pushX B F hf hke
  have B₂ : Below A base (env :: outer) s.heap := ⟨hA, B₁.stays, B₁.frames⟩
  have hlim : s.heap.NoLimit := T.nolimit.keeps F.keep
  refine codeG_call_function (fd := fnOf name qual params body scope dV kV doc pm an cdv ct) (body := body) hroom ((X₀.keeps F.keep) _ _ ho) rfl hco hgen rfl (codeRec_of (X₀.keeps F.keep) hcd) (hbind _ _ _ _ ?_)
  refine wpAny_newFunctionEnv hcell hloc (fun h₁ hns hsb => ⟨hlim.fresh _ hsb, codeG_func ?_⟩) hk
  have hk₁ : ∀ b o, s.heap.get? b = some o → h₁.get? b = some o := fun b o e => hsb.extBut b o (Nat.ne_of_lt (Heap.lt_size e)) (Heap.get?_push_of_some _ e)
  have W := h s.heap s.heap.objs.size h₁ (s.toks + binds.length) Q (fun v h' tk' L₂ m' F' P => hret v h' tk' (F.after F'.keep) F'.keep P) rfl (by omega) ⟨hns, hk₁, Nat.le_refl _⟩ News.nil B₂ (X₀.keeps F.keep) (T.keeps F.keep)
  exact wpG_mono W (fun _ _ x => x) (fun _ _ x => x.elim)
abbrev ClaimG (prog : Program) (w : World) (mean : ExcName → Option Value) (mg mb : Str → Option Value) (f : Addr) (vs : List Value) (dd uu : Nat) (pre : Heap → Prop) (post : Heap → Value → Heap → Prop) : Prop :=
  ∀ (dp un : Nat) (cn : Str) (cs : Scope) (a : Addr) (ccd : Value) (cl : List (Str × Addr)) (outer : List Env) (A₀ : Around) (base h₀ : Heap) (L : Addr) (m : Str → Option Value) (s : Shared) (Q E : Value → Shared → Prop),
    Below A₀ base outer h₀ → Fr h₀ L s.heap m → (hd.heap_1 w.params).In h₀ → Top hd.view_1 (looseW hd.view_1 []) mean mg mb h₀ → cs.kind = .function →
    dp + dd < recursionLimit → un + uu < cLine → pre s.heap → CRet h₀ L m s Q (post s.heap) →
      wpG (model prog w) (ktrTop dp un (some []) cn cs L a ccd cl outer) (call (.ref f) vs) Q E s
end
end Mine
end
/- GLoop -/
section
open PySem PySem.W PySem.Calls PyProof.Rows
open Sem (wp)
namespace Mine
abbrev RIt (i n : Nat) : Obj := { cls := .type "range_iterator", dict := none, data := .fields #[rawInt ((i : Nat) : Int), rawInt ((n : Int) - (i : Nat)), rawInt 1], slots := #[] }
section
variable {prog : Program} {w : World} {A : Around} {E : Value → Shared → Prop} {s : Shared}
/-- the turns of `for x in range(n)`, one by one, over the fine contexts -/
def UnrG (prog : Program) (w : World) (A : Around) (h₀ : Heap) (env : Env) (x : Str) (body : List Stmt) (Q : Flow → Shared → Prop) (I : Addr) (n : Nat) (s : Shared) : Nat → Nat → (Str → Option Value) → List (Addr × Obj) → Prop
  | 0, _, m₁, news₁ => ∀ h' tk, Fr h₀ env.locals h' m₁ → News h₀ env.locals h' news₁ → Q .next { s with heap := h', toks := tk }
  | k + 1, i, m₁, news₁ => ∀ h₁ tk₁ t, Fr h₀ env.locals h₁ m₁ → News h₀ env.locals h₁ ((I, RIt (i + 1) n) :: news₁) →
      wpAny (model prog w) A (storeName env x (.int ((i : Nat) : Int) t)) (fun _ s₂ => wpG (model prog w) A (execs body env)
        (fun f s₃ => f = .next ∧ ∃ h' tk m₂ news₂, s₃ = { s with heap := h', toks := tk } ∧ Fr h₀ env.locals h' m₂ ∧ News h₀ env.locals h' ((I, RIt (i + 1) n) :: news₂) ∧ (∀ p ∈ news₂, p.1 ≠ I) ∧ UnrG prog w A h₀ env x body Q I n s k (i + 1) m₂ news₂)
        (fun _ _ => False) s₂) (fun _ _ => False) { s with heap := h₁, toks := tk₁ }
theorem codeG_forRange {R : Result → Shared → Prop} {h₀ : Heap} {env : Env} {x : Str} {px : Pos} {body : List Stmt} {I : Addr} {n : Nat} (hh : A.handled = none) (hIL : I ≠ env.locals) (hI : h₀.get? I = none) :
    ∀ (k i : Nat) (s' : Shared) (h' : Heap) (tk : Nat) (m : Str → Option Value) (news : List (Addr × Obj)), s' = { s with heap := h', toks := tk } → i + k = n → IsRangeIter h' I ((i : Nat) : Int) ((n : Int) - (i : Nat)) 1 → Fr h₀ env.locals h' m → News h₀ env.locals h' news → (∀ p ∈ news, p.1 ≠ I) →
      UnrG prog w A h₀ env x body (fun f s' => R (.ok f) s') I n s k i m news → codeG (model prog w) A (.forLoop (.Name x px) (.ref I) body [] env) R s' := by
  intro k
  induction k with
  | zero =>
    intro i s' h' tk m news hs hi hit F N hne hU
    subst hs
    refine codeG_of_tree ?_
    show wpG _ A ((forTurn (.Name x px) (.ref I) body [] env).onRaise _) _ _ _
    refine wpG_onRaise ?_
    simp only [forTurn]
    refine wpG_standAt (wpG_bind_any (wpAny_onRaise (wpAny_pyNext_range_end hh hit (by omega) fun h₁ k₁ => ?_)))
    refine wpG_pure ⟨rfl, rfl, codeG_of (codeAny_block (wpAny_execs_nil ?_))⟩
    refine hU h₁ _ ⟨F.ns.at' fun o e => k₁ _ o (Ne.symm hIL) e, fun b o e => k₁ b o (fun q => ?_) (F.keep b o e), F.above⟩ (fun p hp => ⟨k₁ _ _ (hne p hp) (N p hp).1, (N p hp).2⟩)
    subst q; rw [hI] at e; cases e
  | succ k ih =>
    intro i s' h' tk m news hs hi hit F N hne hU
    subst hs
    refine codeG_of_tree ?_
    show wpG _ A ((forTurn (.Name x px) (.ref I) body [] env).onRaise _) _ _ _
    refine wpG_onRaise ?_
    simp only [forTurn]
    refine wpG_standAt (wpG_bind_any (wpAny_onRaise (wpAny_pyNext_range_item hit (by omega) fun h₁ hit₁ k₁ => ?_)))
    have F₁ : Fr h₀ env.locals h₁ m := F.change k₁ hIL hI
    have e1 : ((i : Nat) : Int) + 1 = ((i + 1 : Nat) : Int) := by omega
    have e2 : (n : Int) - (i : Nat) - 1 = (n : Int) - ((i + 1 : Nat) : Nat) := by omega
    rw [e1, e2] at hit₁
    have N₁ : News h₀ env.locals h₁ ((I, RIt (i + 1) n) :: news) := fun p hp => by
      rcases List.mem_cons.mp hp with rfl | hp
      · exact ⟨hit₁, hIL, hI⟩
      · exact ⟨(k₁.2 _ (hne p hp)).trans (N p hp).1, (N p hp).2⟩
    dsimp only
    refine wpG_bind_any (wpAny_pure ?_)
    refine wpG_bind_any (wpAny_assign_Name (wpAny_mono (hU h₁ _ tk F₁ N₁) (fun _ s₂ h₂ => ?_) fun _ _ e => e.elim))
    refine wpG_bind (wpG_mono h₂ (fun f s₃ h₃ => ?_) fun _ _ e => e.elim)
    obtain ⟨rfl, h₃', tk₃, m₂, news₂, rfl, F₃, N₃, ne₃, U₃⟩ := h₃
    exact wpG_pure ⟨rfl, rfl, ih (i + 1) _ h₃' tk₃ m₂ news₂ rfl (by omega) (N₃ _ (.head _)).1 F₃ (fun p hp => N₃ p (List.mem_cons_of_mem _ hp)) ne₃ U₃⟩
/-- what the source of the loop must be: a range(n) just made -/
def RngG (prog : Program) (w : World) (A : Around) (h₀ : Heap) (env : Env) (x : Str) (body : List Stmt) (Q : Flow → Shared → Prop) (n : Nat) (xv : Value) (s₁ : Shared) : Prop :=
  ∃ r t u v m news, xv = .ref r ∧ IsRange s₁.heap r 0 (n : Int) 1 t u v ∧ Fr h₀ env.locals s₁.heap m ∧ News h₀ env.locals s₁.heap news ∧ n ≤ 1000 ∧
    ∀ I, I ≠ env.locals → h₀.get? I = none → (∀ p ∈ news, p.1 ≠ I) → UnrG prog w A h₀ env x body Q I n s₁ n 0 m news
theorem range_size (n : Nat) : Builtin.Range.rangeSize 0 (n : Int) 1 = (n : Int) := by
  simp [Builtin.Range.rangeSize]
  try omega
theorem forRangeG {h₀ : Heap} {env : Env} {x : Str} {px pos : Pos} {iter : PySem.Expr} {body : List Stmt} {Q : Flow → Shared → Prop} {m : Str → Option Value} (n : Nat) (_F : Fr h₀ env.locals s.heap m) (hh : A.handled = none)
    (h : wpAny (model prog w) A (eval iter env) (RngG prog w A h₀ env x body Q n) (fun _ _ => False) s)
    (hs : ∀ x, foldedSetIterable iter env x = pure x := by intro _; rfl) :
    wpG (model prog w) A (exec (.For (.Name x px) iter body [] pos) env) Q (fun _ _ => False) s := by
  rw [exec_For]
  refine wpG_standAt (wpG_bind_any (wpAny_mono h (fun xv s₁ h₁ => ?_) fun _ _ e => e))
  obtain ⟨r, t, u, v, m, news, rfl, hr, F, N, hn, hU⟩ := h₁
  refine wpG_bind_any (wpAny_of_eq (hs _) (wpG_standAt (wpG_bind_any (wpAny_holding (wpAny_pyIter_range (b := (n : Int)) hr (small_one (by decide) (by decide) (by omega) (by omega)) ?_)))))
  · unfold runOwn
    refine wpG_onRaise (wpG_run rfl ?_)
    refine codeG_forRange (s := s₁) (h₀ := h₀) (n := n) hh (Ne.symm (Nat.ne_of_lt F.ns.lt)) (Heap.get?_none_of_le (Nat.le_of_lt (Nat.lt_of_le_of_lt F.above F.ns.lt))) n 0 _ _ s₁.toks m news rfl (by omega) ?_ (F.push _) (fun p hp => ⟨Heap.get?_push_of_some _ (N p hp).1, (N p hp).2⟩)
      (fun p hp => Nat.ne_of_lt (Heap.lt_size (N p hp).1)) ?_
    · show (s₁.heap.push _).get? _ = _
      rw [range_size, Heap.get?_push_size _ rfl]
      simp
    · exact hU _ (Ne.symm (Nat.ne_of_lt F.ns.lt)) (Heap.get?_none_of_le (Nat.le_of_lt (Nat.lt_of_le_of_lt F.above F.ns.lt))) (fun p hp => Nat.ne_of_lt (Heap.lt_size (N p hp).1))
end
end Mine
namespace Mine
theorem nilG {M : Model} {A : Around} {E : Value → Shared → Prop} {s : Shared} {env : Env} {Q : Flow → Shared → Prop} (h : Q .next s) : wpG M A (execs [] env) Q E s := wpG_pure h
end Mine
end
/- Use -/
section
open PySem PySem.W PySem.Calls PyProof.Rows
namespace Mine
def AllNe (d : Nat) : List (Addr × Obj) → Prop
  | [] => True
  | p :: r => @Ne Nat p.1 d ∧ AllNe d r
theorem allNe_of {d : Addr} : ∀ {l : List (Addr × Obj)}, (∀ p ∈ l, p.1 ≠ d) → AllNe d l
  | [], _ => trivial
  | p :: _, h => ⟨h p (.head _), allNe_of fun q hq => h q (.tail _ hq)⟩
section
variable {prog : Program} {w : World} {mean : ExcName → Option Value} {mg mb : Str → Option Value} {f : Addr} {vs : List Value} {dd uu : Nat} {pre : Heap → Prop} {post : Heap → Value → Heap → Prop}
  {dp un : Nat} {gd : Option (List Code)} {cn : Str} {cs : Scope} {a : Addr} {ccd : Value} {cl : List (Str × Addr)} {outer : List Env} {A₀ : Around} {base h₀ : Heap} {L : Addr} {m : Str → Option Value} {s : Shared} {Q E : Value → Shared → Prop} {news : List (Addr × Obj)}
theorem stays_news {h h' : Heap} (N : News h₀ L h news) (st : h.StaysIn h') : News h₀ L h' news := fun p hp => ⟨st _ _ (N p hp).1, (N p hp).2⟩
theorem useC (C : Claim prog w mean mg mb f vs dd uu pre post) (B : Below A₀ base outer h₀) (F : Fr h₀ L s.heap m) (N : News h₀ L s.heap news) (X : (hd.heap_1 w.params).In h₀) (T : Top hd.view_1 (looseW hd.view_1 []) mean mg mb h₀) (hk : cs.kind = .function)
    (hd' : dp + dd < recursionLimit) (hu : un + uu < cLine) (hp : pre s.heap)
    (ret : ∀ v h' tk', Fr h₀ L h' m → News h₀ L h' news → post s.heap v h' → Q v { s with heap := h', toks := tk' }) : wpAny (model prog w) (ktrTop dp un gd cn cs L a ccd cl outer) (call (.ref f) vs) Q E s :=
  C _ _ _ _ _ _ _ _ _ _ _ _ _ _ _ _ _ B F X T hk hd' hu hp fun v h' tk' F' st P => ret v h' tk' F' (stays_news N st) P
theorem useG (C : ClaimG prog w mean mg mb f vs dd uu pre post) (B : Below A₀ base outer h₀) (F : Fr h₀ L s.heap m) (N : News h₀ L s.heap news) (X : (hd.heap_1 w.params).In h₀) (T : Top hd.view_1 (looseW hd.view_1 []) mean mg mb h₀) (hk : cs.kind = .function)
    (hd' : dp + dd < recursionLimit) (hu : un + uu < cLine) (hp : pre s.heap)
    (ret : ∀ v h' tk', Fr h₀ L h' m → News h₀ L h' news → post s.heap v h' → Q v { s with heap := h', toks := tk' }) : wpG (model prog w) (ktrTop dp un (some []) cn cs L a ccd cl outer) (call (.ref f) vs) Q E s :=
  C _ _ _ _ _ _ _ _ _ _ _ _ _ _ _ _ B F X T hk hd' hu hp fun v h' tk' F' st P => ret v h' tk' F' (stays_news N st) P
end
section
variable {M : Model} {A : Around} {E : Value → Shared → Prop} {s : Shared} {env : Env}
theorem callG_K {K : Frag} {h₀ : Heap} {pos : Pos} {f : Value} {first : List Value} {e : PySem.Expr} {rest : List PySem.Expr} {Q : Value → Shared → Prop} (_X : K.In h₀) (hk : keepIn K f = true)
    (h : wpG M A (spliced (backTo pos (starEach (e :: rest) env))) (fun vs s₁ => K.In s₁.heap ∧ wpG M A (call f (first ++ vs)) Q E s₁) E s)
    (he : starEach (e :: rest) env = (false, eval e env) :: starEach rest env := by rfl) (hplain : (backTo pos (starEach rest env)).any (·.1) = false := by rfl) :
    wpG M A (callWith pos f first (backTo pos (starEach (e :: rest) env)) []) Q E s := callG (keeps_K hk) h he hplain
end
end Mine
namespace Mine
section
variable {prog : Program} {w : World} {A : Around} {E : Value → Shared → Prop} {s : Shared} {value slice : PySem.Expr} {b r : Array UInt8} {t : Tok} {h₀ : Heap} {L : Addr} {m : PySem.Str → Option Value} {news : List (Addr × Obj)} {l u : Value} {lo hi : Option Int} {Q : Value → Shared → Prop}
theorem slice_B (hF : Fr h₀ L s.heap m) (hN : News h₀ L s.heap news) (hl : IsPart l lo) (hu : IsPart u hi) (hne : KBy.whole b lo hi = false) (e : KBy.picked b lo hi = r) (hz : r.size ≤ 16777216)
    (h : ∀ h' t' k, Fr h₀ L h' m → News h₀ L h' news → Q (.bytes r t') { s with heap := h', toks := k })
    (hs : subscripted slice false (.bytes b t) (.ref s.heap.objs.size) = operate [.ref s.heap.objs.size, .bytes b t] (getItem (.bytes b t) (.ref s.heap.objs.size)) := by with_unfolding_all rfl)
    (ht : ∀ r, letTemporaryGo value (.bytes b t) r = pure () := by intro _; with_unfolding_all rfl) :
    wpAny (model prog w) A (subscriptTail value slice (.bytes b t) (.ref s.heap.objs.size)) Q E { s with heap := s.heap.push { cls := .type "slice", data := .fields #[l, u, .none] } } := by
  subst e
  exact KBy.slice_N hF hN hl hu hne hz h hs ht
end
end Mine
namespace Mine
theorem cut_to2 (x y z : UInt8) : KBy.picked #[x, y, z] none (some 2) = #[x, y] := rfl
theorem cut_of2 (x y z : UInt8) : KBy.picked #[x, y, z] (some 2) none = #[z] := by
  unfold KBy.picked
  have e : sliceBounds (some 2) none none 3 = (2, 3, 1) := by decide +kernel
  show Builtin.Bytes.sliced _ (sliceBounds (some 2) none none 3).1 (sliceBounds (some 2) none none 3).2.1 (sliceBounds (some 2) none none 3).2.2 = _
  rw [e]
  rfl
theorem cut_to1 (x y z : UInt8) : KBy.picked #[x, y, z] none (some 1) = #[x] := rfl
theorem cut_of1 (x y z : UInt8) : KBy.picked #[x, y, z] (some 1) none = #[y, z] := by
  unfold KBy.picked
  have e : sliceBounds (some 1) none none 3 = (1, 3, 1) := by decide +kernel
  show Builtin.Bytes.sliced _ (sliceBounds (some 1) none none 3).1 (sliceBounds (some 1) none none 3).2.1 (sliceBounds (some 1) none none 3).2.2 = _
  rw [e]
  rfl
theorem glue21 (x y z : UInt8) : (#[x, y] ++ #[z] : Array UInt8) = #[x, y, z] := rfl
theorem glue12 (x y z : UInt8) : (#[x] ++ #[y, z] : Array UInt8) = #[x, y, z] := rfl
section
variable {prog : Program} {w : World} {A : Around} {E : Value → Shared → Prop} {s : Shared} {b c r : Array UInt8} {t u : Tok} {Q : Value → Shared → Prop}
theorem add_B (e : b ++ c = r) (hsz : b.size + c.size ≤ 16777216) (h : ∀ t' k, Q (.bytes r t') { s with toks := k }) : wpAny (model prog w) A (binaryOp .Add (.bytes b t) (.bytes c u)) Q E s := by
  subst e
  exact KBy.add_bytes hsz h
end
end Mine
namespace Mine
/-- a new object of a call joins a ledger that grew already -/
theorem gain2 {h₀ h h' : Heap} {L D : Addr} {m : Str → Option Value} {news more : List (Addr × Obj)} {o : Obj} (F : Fr h₀ L h m) (_N : News h₀ L h news) (N' : News h₀ L h' more) (hn : h.get? D = none) (ho : h'.get? D = some o) (hne : ∀ p ∈ more, p ∈ news ∨ p.1 ≠ D := by exact fun p hp => .inl hp) :
    News h₀ L h' ((D, o) :: more) ∧ AllNe D more := by
  refine ⟨fun p hp => ?_, allNe_of fun p hp => ?_⟩
  · rcases List.mem_cons.mp hp with rfl | hp
    · refine ⟨ho, ?_, ?_⟩
      · intro e
        obtain ⟨oL, a1, a2, hL, a3⟩ := F.ns
        have : h.get? D = some oL := (show D = L from e) ▸ hL
        rw [hn] at this; cases this
      · cases q : h₀.get? D with
        | none => rfl
        | some o' => have := F.keep D o' q; rw [hn] at this; cases this
    · exact N' p hp
  · rcases hne p hp with hm | hm
    · intro e
      have := (_N p hm).1
      rw [e, hn] at this; cases this
    · exact hm
end Mine
namespace Mine
theorem allNe_mem {d : Addr} {l : List (Addr × Obj)} (h : AllNe d l) : ∀ p ∈ l, p.1 ≠ d := by
  induction l with
  | nil => intro p hp; cases hp
  | cons q r ih =>
    intro p hp
    rcases List.mem_cons.mp hp with e | hp
    · rw [e]; exact h.1
    · exact ih h.2 p hp
end Mine
end
/- RTurn -/
section
open PySem PySem.W PySem.Calls PyProof.Rows
namespace Mine
section
variable {prog : Program} {w : World} {A : Around} {E : Value → Shared → Prop} {s : Shared} {env : Env} {h₀ : Heap} {x : Str} {px : Pos} {body : List Stmt} {Q : Flow → Shared → Prop}
end
end Mine
end
/- ALoop -/
section
open PySem PySem.W PySem.Calls PyProof.Rows
open Sem (wp)
namespace Mine
theorem onRaiseF {α : Type} {M : Model} {A : Around} {E : Value → Shared → Prop} {s : Shared} {m : Sem α} {k : Value → Sem Unit} {Q : α → Shared → Prop} (h : wpAny M A m Q (fun _ _ => False) s) : wpAny M A (m.onRaise k) Q E s :=
  wpAny_onRaise (wpAny_mono h (fun _ _ x => x) fun _ _ e => e.elim)
/-- the end of a turn -/
inductive EndA (h₀ : Heap) (L : Addr) (s : Shared) (I : Addr) (o : Obj) (rest : (Str → Option Value) → List (Addr × Obj) → Prop) (s₃ : Shared) : Prop
  | mk (h' : Heap) (tk : Nat) (m₂ : Str → Option Value) (news₂ : List (Addr × Obj)) : (s₃ = { s with heap := h', toks := tk }) → (Fr h₀ L h' m₂) → (News h₀ L h' ((I, o) :: news₂)) → ((∀ p ∈ news₂, p.1 ≠ I)) → (rest m₂ news₂) → EndA h₀ L s I o rest s₃
section
variable {prog : Program} {w : World} {A : Around} {s : Shared}
/-- the turns of `for x in range(n)`, one by one -/
def UnrA (prog : Program) (w : World) (A : Around) (h₀ : Heap) (env : Env) (x : Str) (body : List Stmt) (Q : Flow → Shared → Prop) (I : Addr) (n : Nat) (s : Shared) : Nat → Nat → (Str → Option Value) → List (Addr × Obj) → Prop
  | 0, _, m₁, news₁ => ∀ h' tk, Fr h₀ env.locals h' m₁ → News h₀ env.locals h' news₁ → Q .next { s with heap := h', toks := tk }
  | k + 1, i, m₁, news₁ => ∀ h₁ tk₁ t, Fr h₀ env.locals h₁ m₁ → News h₀ env.locals h₁ ((I, RIt (i + 1) n) :: news₁) →
      wpAny (model prog w) A (storeName env x (.int ((i : Nat) : Int) t)) (fun _ s₂ => wpAny (model prog w) A (execs body env)
        (fun f s₃ => match f with
          | .ret v => Q (.ret v) s₃
          | .brk => False
          | _ => EndA h₀ env.locals s I (RIt (i + 1) n) (UnrA prog w A h₀ env x body Q I n s k (i + 1)) s₃)
        (fun _ _ => False) s₂) (fun _ _ => False) { s with heap := h₁, toks := tk₁ }
theorem codeA_forRange {R : Result → Shared → Prop} {h₀ : Heap} {env : Env} {x : Str} {px : Pos} {body : List Stmt} {I : Addr} {n : Nat} (hh : A.handled = none) (hIL : I ≠ env.locals) (hI : h₀.get? I = none) :
    ∀ (k i : Nat) (s' : Shared) (h' : Heap) (tk : Nat) (m : Str → Option Value) (news : List (Addr × Obj)), s' = { s with heap := h', toks := tk } → i + k = n → IsRangeIter h' I ((i : Nat) : Int) ((n : Int) - (i : Nat)) 1 → Fr h₀ env.locals h' m → News h₀ env.locals h' news → (∀ p ∈ news, p.1 ≠ I) →
      UnrA prog w A h₀ env x body (fun f s' => R (.ok f) s') I n s k i m news → codeAny (model prog w) A (.forLoop (.Name x px) (.ref I) body [] env) R s' := by
  intro k
  induction k with
  | zero =>
    intro i s' h' tk m news hs hi hit F N hne hU
    subst hs
    refine codeAny_of_tree ?_
    show wpAny _ A ((forTurn (.Name x px) (.ref I) body [] env).onRaise _) _ _ _
    refine onRaiseF ?_
    simp only [forTurn]
    refine wpAny_bind (wpAny_standAt (wpAny_bind (wpAny_onRaise (wpAny_pyNext_range_end hh hit (by omega) fun h₁ k₁ => ?_))))
    refine wpAny_pure ⟨rfl, codeAny_block (wpAny_execs_nil ?_)⟩
    refine hU h₁ _ ⟨F.ns.at' fun o e => k₁ _ o (Ne.symm hIL) e, fun b o e => k₁ b o (fun q => ?_) (F.keep b o e), F.above⟩ (fun p hp => ⟨k₁ _ _ (hne p hp) (N p hp).1, (N p hp).2⟩)
    subst q; rw [hI] at e; cases e
  | succ k ih =>
    intro i s' h' tk m news hs hi hit F N hne hU
    subst hs
    refine codeAny_of_tree ?_
    show wpAny _ A ((forTurn (.Name x px) (.ref I) body [] env).onRaise _) _ _ _
    refine onRaiseF ?_
    simp only [forTurn]
    refine wpAny_bind (wpAny_standAt (wpAny_bind (wpAny_onRaise (wpAny_pyNext_range_item hit (by omega) fun h₁ hit₁ k₁ => ?_))))
    have F₁ : Fr h₀ env.locals h₁ m := F.change k₁ hIL hI
    have e1 : ((i : Nat) : Int) + 1 = ((i + 1 : Nat) : Int) := by omega
    have e2 : (n : Int) - (i : Nat) - 1 = (n : Int) - ((i + 1 : Nat) : Nat) := by omega
    rw [e1, e2] at hit₁
    have N₁ : News h₀ env.locals h₁ ((I, RIt (i + 1) n) :: news) := fun p hp => by
      rcases List.mem_cons.mp hp with rfl | hp
      · exact ⟨hit₁, hIL, hI⟩
      · exact ⟨(k₁.2 _ (hne p hp)).trans (N p hp).1, (N p hp).2⟩
    dsimp only
    refine wpAny_bind (wpAny_pure ?_)
    refine wpAny_bind (wpAny_assign_Name (wpAny_mono (hU h₁ _ tk F₁ N₁) (fun _ s₂ h₂ => ?_) fun _ _ e => e.elim))
    refine wpAny_bind (wpAny_mono h₂ (fun f s₃ h₃ => ?_) fun _ _ e => e.elim)
    cases f with
    | ret v => exact wpAny_pure h₃
    | brk => exact h₃.elim
    | next =>
      obtain ⟨h₃', tk₃, m₂, news₂, rfl, F₃, N₃, ne₃, U₃⟩ := h₃
      exact wpAny_pure ⟨rfl, ih (i + 1) _ h₃' tk₃ m₂ news₂ rfl (by omega) (N₃ _ (.head _)).1 F₃ (fun p hp => N₃ p (List.mem_cons_of_mem _ hp)) ne₃ U₃⟩
    | cont =>
      obtain ⟨h₃', tk₃, m₂, news₂, rfl, F₃, N₃, ne₃, U₃⟩ := h₃
      exact wpAny_pure ⟨rfl, ih (i + 1) _ h₃' tk₃ m₂ news₂ rfl (by omega) (N₃ _ (.head _)).1 F₃ (fun p hp => N₃ p (List.mem_cons_of_mem _ hp)) ne₃ U₃⟩
/-- what the source of the loop must be: a range(n) just made -/
def RngA (prog : Program) (w : World) (A : Around) (h₀ : Heap) (env : Env) (x : Str) (body : List Stmt) (Q : Flow → Shared → Prop) (n : Nat) (xv : Value) (s₁ : Shared) : Prop :=
  ∃ r t u v m news, xv = .ref r ∧ IsRange s₁.heap r 0 (n : Int) 1 t u v ∧ Fr h₀ env.locals s₁.heap m ∧ News h₀ env.locals s₁.heap news ∧ n ≤ 1000 ∧
    ∀ I, AllNe I news → UnrA prog w A h₀ env x body Q I n s₁ n 0 m news
theorem forRangeA {h₀ : Heap} {env : Env} {x : Str} {px pos : Pos} {iter : PySem.Expr} {body : List Stmt} {Q : Flow → Shared → Prop} {m : Str → Option Value} {E : Value → Shared → Prop} (n : Nat) (_F : Fr h₀ env.locals s.heap m) (hh : A.handled = none)
    (h : wpAny (model prog w) A (eval iter env) (RngA prog w A h₀ env x body Q n) (fun _ _ => False) s)
    (hs : ∀ x, foldedSetIterable iter env x = pure x := by intro _; rfl) :
    wpAny (model prog w) A (exec (.For (.Name x px) iter body [] pos) env) Q E s := by
  rw [exec_For]
  refine wpAny_bind (wpAny_standAt (wpAny_bind (wpAny_mono h (fun xv s₁ h₁ => ?_) fun _ _ e => e.elim)))
  obtain ⟨r, t, u, v, m, news, rfl, hr, F, N, hn, hU⟩ := h₁
  refine wpAny_bind (wpAny_of_eq (hs _) (wpAny_bind (wpAny_standAt (wpAny_bind (wpAny_holding (wpAny_pyIter_range (b := (n : Int)) hr (small_one (by decide) (by decide) (by omega) (by omega)) ?_))))))
  unfold runOwn
  refine onRaiseF (wpAny_run ?_ (by intro x; cases x))
  refine codeA_forRange (s := s₁) (h₀ := h₀) (n := n) (R := fun r s' => match r with | .ok f => Q f s' | .error _ => False) hh (Ne.symm (Nat.ne_of_lt F.ns.lt)) (Heap.get?_none_of_le (Nat.le_of_lt (Nat.lt_of_le_of_lt F.above F.ns.lt))) n 0 _ _ s₁.toks m news rfl (by omega) ?_ (F.push _) (fun p hp => ⟨Heap.get?_push_of_some _ (N p hp).1, (N p hp).2⟩)
    (fun p hp => Nat.ne_of_lt (Heap.lt_size (N p hp).1)) ?_
  · show (s₁.heap.push _).get? _ = _
    rw [range_size, Heap.get?_push_size _ rfl]
    simp
  · exact hU _ (allNe_of fun p hp => Nat.ne_of_lt (Heap.lt_size (N p hp).1))
end
end Mine
end
/- DLoop -/
section
open PySem PySem.W PySem.Calls PyProof.Rows
namespace Mine
section
variable {prog : Program} {w : World} {A : Around} {s : Shared} {h₀ : Heap} {env : Env} {body : List Stmt} {Q : Flow → Shared → Prop} {d : Addr} {od : Obj} {kvs : List (Str × Value)}
abbrev DictObj (prog : Program) (w : World) (o : Obj) (kvs : List (Str × Value)) : Prop := o.IsDictOf (PySem.strKind prog w) kvs
/-- after a turn -/
def TurnEnd (h₀ : Heap) (L : Addr) (s : Shared) (I : Addr) (o : Obj) (rest : (Str → Option Value) → List (Addr × Obj) → Prop) (Q : Flow → Shared → Prop) (f : Flow) (s₃ : Shared) : Prop :=
  match f with
  | .ret v => Q (.ret v) s₃
  | .brk => False
  | _ => EndA h₀ L s I o rest s₃
/-- the turns of `for a, b in d.items()`, by an invariant -/
theorem codeA_items {R : Result → Shared → Prop} {elts : List PySem.Expr} {kk : Nat} {pos : Pos} {I : Addr} (hh : A.handled = none) (hIL : I ≠ env.locals) (hI : h₀.get? I = none) (hne : d ≠ I) (ep : Nat)
    (J : Nat → (Str → Option Value) → List (Addr × Obj) → Prop) (hd : ∀ i h m news, J i m news → Fr h₀ env.locals h m → News h₀ env.locals h news → h.get? d = some od)
    (step : ∀ i k x t T m₁ news₁ o h₁ tk₁, kvs[i]? = some (k, x) → J i m₁ news₁ → AllNe I news₁ → IsTup h₁ T #[.str k t, x] → Fr h₀ env.locals h₁ m₁ → News h₀ env.locals h₁ ((I, o) :: news₁) →
      wpAny (model prog w) A (assign (.Tuple elts kk pos) env (.ref T)) (fun _ s₂ => wpAny (model prog w) A (execs body env) (TurnEnd h₀ env.locals s I o (J (i + 1)) (fun f s' => R (.ok f) s')) (fun _ _ => False) s₂) (fun _ _ => False) { s with heap := h₁, toks := tk₁ })
    (done : ∀ h' tk m news, J kvs.length m news → Fr h₀ env.locals h' m → News h₀ env.locals h' news → R (.ok .next) { s with heap := h', toks := tk }) :
    ∀ (k i : Nat) (s' : Shared) (h' : Heap) (tk : Nat) (m : Str → Option Value) (news : List (Addr × Obj)), s' = { s with heap := h', toks := tk } → i + k = kvs.length →
      (∃ ok ov, IsItemIter h' I d i kvs.length ep ok ov) ∧ h'.DictAt (PySem.strKind prog w) d kvs ep → Fr h₀ env.locals h' m → News h₀ env.locals h' news → (∀ p ∈ news, p.1 ≠ I) →
      J i m news → codeAny (model prog w) A (.forLoop (.Tuple elts kk pos) (.ref I) body [] env) R s' := by
  have W := kti_itemsTurns (knd := PySem.strKind prog w) (A := A) (elts := elts) (kk := kk) (pos := pos) hh I d hne kvs ep
  intro k
  induction k with
  | zero =>
    intro i s' h' tk m news hs hi st F N hneq hJ
    subst hs
    have hi' : i = kvs.length := by omega
    subst hi'
    refine codeAny_of_tree ?_
    show wpAny _ A ((forTurn (.Tuple elts kk pos) (.ref I) body [] env).onRaise _) _ _ _
    refine onRaiseF ?_
    simp only [forTurn]
    refine wpAny_bind (wpAny_standAt (wpAny_bind (wpAny_onRaise (W.done _ _ _ st fun h₁ tk₁ k₁ => ?_))))
    refine wpAny_pure ⟨rfl, codeAny_block (wpAny_execs_nil ?_)⟩
    have hkeep : ∀ b o, b ≠ I → h'.get? b = some o → h₁.get? b = some o := fun b o hb e => k₁ b o (by simpa using hb) e
    refine done h₁ _ m news hJ ⟨F.ns.at' fun o e => hkeep _ o (Ne.symm hIL) e, fun b o e => hkeep b o (fun q => ?_) (F.keep b o e), F.above⟩ (fun p hp => ⟨hkeep _ _ (hneq p hp) (N p hp).1, (N p hp).2⟩)
    subst q; rw [hI] at e; cases e
  | succ k ih =>
    intro i s' h' tk m news hs hi st F N hneq hJ
    subst hs
    refine codeAny_of_tree ?_
    show wpAny _ A ((forTurn (.Tuple elts kk pos) (.ref I) body [] env).onRaise _) _ _ _
    refine onRaiseF ?_
    simp only [forTurn]
    refine wpAny_bind (wpAny_standAt (wpAny_bind (wpAny_onRaise (W.item i _ _ _ (by omega) st fun v h₁ tk₁ md k₁ => ?_))))
    dsimp only
    refine wpAny_bind (W.go i v _ _ _ md fun h₂ hP st₂ k₂ => ?_)
    obtain ⟨T, key, kx, x, rfl, hx, hkey, hT⟩ := hP
    obtain ⟨t, rfl⟩ := Value.isStrOf_shape hkey
    have hkeep : ∀ b o, b ≠ I → h'.get? b = some o → h₂.get? b = some o := fun b o hb e => k₂ b o (by simpa using hb) (k₁ b o (by simpa using hb) e)
    have F₂ : Fr h₀ env.locals h₂ m := ⟨F.ns.at' fun o e => hkeep _ o (Ne.symm hIL) e, fun b o e => hkeep b o (fun q => by subst q; rw [hI] at e; cases e) (F.keep b o e), F.above⟩
    have N₂ : News h₀ env.locals h₂ news := fun p hp => ⟨hkeep _ _ (hneq p hp) (N p hp).1, (N p hp).2⟩
    obtain ⟨⟨ok, ov, it₂⟩, dat₂⟩ := id st₂
    have N₃ : News h₀ env.locals h₂ ((I, _) :: news) := fun p hp => by
      rcases List.mem_cons.mp hp with rfl | hp
      · exact ⟨it₂, hIL, hI⟩
      · exact N₂ p hp
    refine wpAny_bind (wpAny_mono (step i kx x t T m news _ h₂ tk₁ hx hJ (allNe_of hneq) hT F₂ N₃) (fun _ s₂ h₂' => ?_) fun _ _ e => e.elim)
    refine wpAny_bind (wpAny_mono h₂' (fun f s₃ h₃ => ?_) fun _ _ e => e.elim)
    have fin : EndA h₀ env.locals s I _ (J (i + 1)) s₃ → codeAny (model prog w) A (.forLoop (.Tuple elts kk pos) (.ref I) body [] env) R s₃ := fun h₃ => by
      obtain ⟨h₃', tk₃, m₂, news₂, rfl, F₃, N₃', ne₃, J₃⟩ := h₃
      have N₄ : News h₀ env.locals h₃' news₂ := fun p hp => N₃' p (List.mem_cons_of_mem _ hp)
      refine ih (i + 1) _ h₃' tk₃ m₂ news₂ rfl (by omega) ?_ F₃ N₄ ne₃ J₃
      refine W.frame (i + 1) _ _ st₂ fun b hb o e => ?_
      have hb' : b = I ∨ b = d := by simpa using hb
      rcases hb' with hb' | hb'
      · rw [hb'] at e ⊢
        have : h₂.get? I = some _ := it₂
        rw [this] at e
        exact e ▸ (N₃' _ (.head _)).1
      · rw [hb'] at e ⊢
        have a : h₂.get? d = some od := hd i h₂ m news hJ F₂ N₂
        rw [a] at e
        rw [hd (i + 1) h₃' m₂ news₂ J₃ F₃ N₄, ← e]
    cases f with
    | ret v => exact wpAny_pure h₃
    | brk => exact h₃.elim
    | next => exact wpAny_pure ⟨rfl, fin h₃⟩
    | cont => exact wpAny_pure ⟨rfl, fin h₃⟩
/-- the turns of `for x in d.values()`, by an invariant -/
theorem codeA_values {R : Result → Shared → Prop} {x : Str} {px : Pos} {I : Addr} (hh : A.handled = none) (hIL : I ≠ env.locals) (hI : h₀.get? I = none) (hne : d ≠ I) (ep : Nat)
    (J : Nat → (Str → Option Value) → List (Addr × Obj) → Prop) (hd : ∀ i h m news, J i m news → Fr h₀ env.locals h m → News h₀ env.locals h news → h.get? d = some od)
    (step : ∀ i k v m₁ news₁ o h₁ tk₁, kvs[i]? = some (k, v) → J i m₁ news₁ → AllNe I news₁ → Fr h₀ env.locals h₁ m₁ → News h₀ env.locals h₁ ((I, o) :: news₁) →
      wpAny (model prog w) A (storeName env x v) (fun _ s₂ => wpAny (model prog w) A (execs body env) (TurnEnd h₀ env.locals s I o (J (i + 1)) (fun f s' => R (.ok f) s')) (fun _ _ => False) s₂) (fun _ _ => False) { s with heap := h₁, toks := tk₁ })
    (done : ∀ h' tk m news, J kvs.length m news → Fr h₀ env.locals h' m → News h₀ env.locals h' news → R (.ok .next) { s with heap := h', toks := tk }) :
    ∀ (k i : Nat) (s' : Shared) (h' : Heap) (tk : Nat) (m : Str → Option Value) (news : List (Addr × Obj)), s' = { s with heap := h', toks := tk } → i + k = kvs.length →
      h'.IsValIter I d i kvs.length ep ∧ h'.DictAt (PySem.strKind prog w) d kvs ep → Fr h₀ env.locals h' m → News h₀ env.locals h' news → (∀ p ∈ news, p.1 ≠ I) →
      J i m news → codeAny (model prog w) A (.forLoop (.Name x px) (.ref I) body [] env) R s' := by
  have W := Walks.dictValues (knd := PySem.strKind prog w) (A := A) hh I d hne kvs ep
  intro k
  induction k with
  | zero =>
    intro i s' h' tk m news hs hi st F N hneq hJ
    subst hs
    have hi' : i = kvs.length := by omega
    subst hi'
    refine codeAny_of_tree ?_
    show wpAny _ A ((forTurn (.Name x px) (.ref I) body [] env).onRaise _) _ _ _
    refine onRaiseF ?_
    simp only [forTurn]
    refine wpAny_bind (wpAny_standAt (wpAny_bind (wpAny_onRaise (W.done _ _ _ st fun h₁ tk₁ k₁ => ?_))))
    refine wpAny_pure ⟨rfl, codeAny_block (wpAny_execs_nil ?_)⟩
    have hkeep : ∀ b o, b ≠ I → h'.get? b = some o → h₁.get? b = some o := fun b o hb e => k₁ b o (by simpa using hb) e
    refine done h₁ _ m news hJ ⟨F.ns.at' fun o e => hkeep _ o (Ne.symm hIL) e, fun b o e => hkeep b o (fun q => ?_) (F.keep b o e), F.above⟩ (fun p hp => ⟨hkeep _ _ (hneq p hp) (N p hp).1, (N p hp).2⟩)
    subst q; rw [hI] at e; cases e
  | succ k ih =>
    intro i s' h' tk m news hs hi st F N hneq hJ
    subst hs
    refine codeAny_of_tree ?_
    show wpAny _ A ((forTurn (.Name x px) (.ref I) body [] env).onRaise _) _ _ _
    refine onRaiseF ?_
    simp only [forTurn]
    refine wpAny_bind (wpAny_standAt (wpAny_bind (wpAny_onRaise (W.item i _ _ _ (by omega) st fun v h₂ tk₁ hP st₂ k₂ => ?_))))
    dsimp only
    refine wpAny_bind (wpAny_of_eq (a := ()) rfl ?_)
    obtain ⟨kx, hx⟩ := hP
    have hkeep : ∀ b o, b ≠ I → h'.get? b = some o → h₂.get? b = some o := fun b o hb e => k₂ b o (by simpa using hb) e
    have F₂ : Fr h₀ env.locals h₂ m := ⟨F.ns.at' fun o e => hkeep _ o (Ne.symm hIL) e, fun b o e => hkeep b o (fun q => by subst q; rw [hI] at e; cases e) (F.keep b o e), F.above⟩
    have N₂ : News h₀ env.locals h₂ news := fun p hp => ⟨hkeep _ _ (hneq p hp) (N p hp).1, (N p hp).2⟩
    obtain ⟨⟨oI, it₂, _⟩, dat₂⟩ := id st₂
    have N₃ : News h₀ env.locals h₂ ((I, oI) :: news) := fun p hp => by
      rcases List.mem_cons.mp hp with rfl | hp
      · exact ⟨it₂, hIL, hI⟩
      · exact N₂ p hp
    refine wpAny_bind (wpAny_assign_Name (wpAny_mono (step i kx v m news _ h₂ tk₁ hx hJ (allNe_of hneq) F₂ N₃) (fun _ s₂ h₂' => ?_) fun _ _ e => e.elim))
    refine wpAny_bind (wpAny_mono h₂' (fun f s₃ h₃ => ?_) fun _ _ e => e.elim)
    have fin : EndA h₀ env.locals s I oI (J (i + 1)) s₃ → codeAny (model prog w) A (.forLoop (.Name x px) (.ref I) body [] env) R s₃ := fun h₃ => by
      obtain ⟨h₃', tk₃, m₂, news₂, rfl, F₃, N₃', ne₃, J₃⟩ := h₃
      have N₄ : News h₀ env.locals h₃' news₂ := fun p hp => N₃' p (List.mem_cons_of_mem _ hp)
      refine ih (i + 1) _ h₃' tk₃ m₂ news₂ rfl (by omega) ?_ F₃ N₄ ne₃ J₃
      refine W.frame (i + 1) _ _ st₂ fun b hb o e => ?_
      have hb' : b = I ∨ b = d := by simpa using hb
      rcases hb' with hb' | hb'
      · rw [hb'] at e ⊢
        rw [it₂] at e
        exact e ▸ (N₃' _ (.head _)).1
      · rw [hb'] at e ⊢
        have a : h₂.get? d = some od := hd i h₂ m news hJ F₂ N₂
        rw [a] at e
        rw [hd (i + 1) h₃' m₂ news₂ J₃ F₃ N₄, ← e]
    cases f with
    | ret v => exact wpAny_pure h₃
    | brk => exact h₃.elim
    | next => exact wpAny_pure ⟨rfl, fin h₃⟩
    | cont => exact wpAny_pure ⟨rfl, fin h₃⟩
/-- the view of the items of a dict, with what the loop over it keeps -/
def ItemsSrc (prog : Program) (w : World) (A : Around) (h₀ : Heap) (env : Env) (target : PySem.Expr) (body : List Stmt) (Q : Flow → Shared → Prop) (xv : Value) (s₁ : Shared) : Prop :=
  ∃ (vw d : Addr) (od : Obj) (kvs : List (Str × Value)) (J : Nat → (Str → Option Value) → List (Addr × Obj) → Prop) (m : Str → Option Value) (news : List (Addr × Obj)),
    xv = .ref vw ∧ s₁.heap.IsItemsView vw d ∧ DictObj prog w od kvs ∧ Fr h₀ env.locals s₁.heap m ∧ News h₀ env.locals s₁.heap news ∧ J 0 m news ∧
    (∀ i h m news, J i m news → Fr h₀ env.locals h m → News h₀ env.locals h news → h.get? d = some od) ∧
    (∀ I i k x t T m₁ news₁ o h₁ tk₁, kvs[i]? = some (k, x) → J i m₁ news₁ → AllNe I news₁ → IsTup h₁ T #[.str k t, x] → Fr h₀ env.locals h₁ m₁ → News h₀ env.locals h₁ ((I, o) :: news₁) →
      wpAny (model prog w) A (assign target env (.ref T)) (fun _ s₂ => wpAny (model prog w) A (execs body env) (TurnEnd h₀ env.locals s₁ I o (J (i + 1)) Q) (fun _ _ => False) s₂) (fun _ _ => False) { s₁ with heap := h₁, toks := tk₁ }) ∧
    (∀ h' tk m news, J kvs.length m news → Fr h₀ env.locals h' m → News h₀ env.locals h' news → Q .next { s₁ with heap := h', toks := tk })
theorem forItems {elts : List PySem.Expr} {kk : Nat} {tpos pos : Pos} {iter : PySem.Expr} {m : Str → Option Value} {E : Value → Shared → Prop} (_F : Fr h₀ env.locals s.heap m) (hh : A.handled = none)
    (h : wpAny (model prog w) A (eval iter env) (ItemsSrc prog w A h₀ env (.Tuple elts kk tpos) body Q) (fun _ _ => False) s)
    (hs : ∀ x, foldedSetIterable iter env x = pure x := by intro _; rfl) :
    wpAny (model prog w) A (exec (.For (.Tuple elts kk tpos) iter body [] pos) env) Q E s := by
  rw [exec_For]
  refine wpAny_bind (wpAny_standAt (wpAny_bind (wpAny_mono h (fun xv s₁ h₁ => ?_) fun _ _ e => e.elim)))
  obtain ⟨vw, d, od, kvs, J, m, news, rfl, hv, hod, F, N, hJ, hd, step, done⟩ := h₁
  obtain ⟨ep, hat⟩ := (Heap.dictOf_iff.mpr ⟨od, hd 0 _ m news hJ F N, hod⟩ : s₁.heap.DictOf (PySem.strKind prog w) d kvs).dictAt
  refine wpAny_bind (wpAny_of_eq (hs _) (wpAny_bind (wpAny_standAt (wpAny_bind (wpAny_holding (wpAny_pyIter_items hv hat ?_))))))
  unfold runOwn
  refine onRaiseF (wpAny_run ?_ (by intro x; cases x))
  refine codeA_items (s := s₁) (h₀ := h₀) (R := fun r s' => match r with | .ok f => Q f s' | .error _ => False) hh (Ne.symm (Nat.ne_of_lt F.ns.lt)) (next_is_new F) (Nat.ne_of_lt hat.lt_size) ep J hd (step _) done kvs.length 0 _ _ s₁.toks m news rfl (by omega) ?_ (F.push _) (fun p hp => ⟨Heap.get?_push_of_some _ (N p hp).1, (N p hp).2⟩)
    (fun p hp => Nat.ne_of_lt (Heap.lt_size (N p hp).1)) hJ
  exact ⟨⟨.none, .none, Heap.get?_push_size _ rfl⟩, hat.push _⟩
def ValuesSrc (prog : Program) (w : World) (A : Around) (h₀ : Heap) (env : Env) (x : Str) (body : List Stmt) (Q : Flow → Shared → Prop) (xv : Value) (s₁ : Shared) : Prop :=
  ∃ (vw d : Addr) (od : Obj) (kvs : List (Str × Value)) (J : Nat → (Str → Option Value) → List (Addr × Obj) → Prop) (m : Str → Option Value) (news : List (Addr × Obj)),
    xv = .ref vw ∧ s₁.heap.IsValuesView vw d ∧ DictObj prog w od kvs ∧ Fr h₀ env.locals s₁.heap m ∧ News h₀ env.locals s₁.heap news ∧ J 0 m news ∧
    (∀ i h m news, J i m news → Fr h₀ env.locals h m → News h₀ env.locals h news → h.get? d = some od) ∧
    (∀ I i k v m₁ news₁ o h₁ tk₁, kvs[i]? = some (k, v) → J i m₁ news₁ → AllNe I news₁ → Fr h₀ env.locals h₁ m₁ → News h₀ env.locals h₁ ((I, o) :: news₁) →
      wpAny (model prog w) A (storeName env x v) (fun _ s₂ => wpAny (model prog w) A (execs body env) (TurnEnd h₀ env.locals s₁ I o (J (i + 1)) Q) (fun _ _ => False) s₂) (fun _ _ => False) { s₁ with heap := h₁, toks := tk₁ }) ∧
    (∀ h' tk m news, J kvs.length m news → Fr h₀ env.locals h' m → News h₀ env.locals h' news → Q .next { s₁ with heap := h', toks := tk })
theorem forValues {x : Str} {px pos : Pos} {iter : PySem.Expr} {m : Str → Option Value} {E : Value → Shared → Prop} (_F : Fr h₀ env.locals s.heap m) (hh : A.handled = none)
    (h : wpAny (model prog w) A (eval iter env) (ValuesSrc prog w A h₀ env x body Q) (fun _ _ => False) s)
    (hs : ∀ x, foldedSetIterable iter env x = pure x := by intro _; rfl) :
    wpAny (model prog w) A (exec (.For (.Name x px) iter body [] pos) env) Q E s := by
  rw [exec_For]
  refine wpAny_bind (wpAny_standAt (wpAny_bind (wpAny_mono h (fun xv s₁ h₁ => ?_) fun _ _ e => e.elim)))
  obtain ⟨vw, d, od, kvs, J, m, news, rfl, hv, hod, F, N, hJ, hd, step, done⟩ := h₁
  obtain ⟨ep, hat⟩ := (Heap.dictOf_iff.mpr ⟨od, hd 0 _ m news hJ F N, hod⟩ : s₁.heap.DictOf (PySem.strKind prog w) d kvs).dictAt
  refine wpAny_bind (wpAny_of_eq (hs _) (wpAny_bind (wpAny_standAt (wpAny_bind (wpAny_holding (wpAny_pyIter_values hv hat ?_))))))
  unfold runOwn
  refine onRaiseF (wpAny_run ?_ (by intro x; cases x))
  refine codeA_values (s := s₁) (h₀ := h₀) (R := fun r s' => match r with | .ok f => Q f s' | .error _ => False) hh (Ne.symm (Nat.ne_of_lt F.ns.lt)) (next_is_new F) (Nat.ne_of_lt hat.lt_size) ep J hd (step _) done kvs.length 0 _ _ s₁.toks m news rfl (by omega) ?_ (F.push _) (fun p hp => ⟨Heap.get?_push_of_some _ (N p hp).1, (N p hp).2⟩)
    (fun p hp => Nat.ne_of_lt (Heap.lt_size (N p hp).1)) hJ
  exact ⟨⟨_, Heap.get?_push_size _ rfl, rfl, rfl⟩, hat.push _⟩
end
section
variable {prog : Program} {w : World} {A : Around} {E : Value → Shared → Prop} {s : Shared} {h₀ : Heap} {L d : Addr} {m : Str → Option Value} {news : List (Addr × Obj)} {kvs : List (Str × Value)} {o : Obj} {k : Str} {tk : Tok} {v : Value}
abbrev DictIn (prog : Program) (w : World) (h : Heap) (d : Addr) (kvs : List (Str × Value)) : Prop := h.DictOf (PySem.strKind prog w) d kvs
theorem dict_items_method {pl : Sem Bool} {Q : Value × List Value → Shared → Prop} (hD : DictIn prog w s.heap d kvs) (h : Q (.builtin "dict.items", [.ref d]) s) : wpAny (model prog w) A (getMethod (.ref d) (Str.ofString "items") pl) Q E s :=
  getMethod_builtin hD.typeIs PySem.F.plainAttrs_dict PySem.F.slot_dict_items PySem.F.type_dict_items hD.mapOf.noDict h
theorem dict_values_method {pl : Sem Bool} {Q : Value × List Value → Shared → Prop} (hD : DictIn prog w s.heap d kvs) (h : Q (.builtin "dict.values", [.ref d]) s) : wpAny (model prog w) A (getMethod (.ref d) (Str.ofString "values") pl) Q E s :=
  getMethod_builtin hD.typeIs PySem.F.plainAttrs_dict PySem.F.slot_dict_values PySem.F.type_dict_values hD.mapOf.noDict h
theorem dict_items_call {Q : Value → Shared → Prop} (hD : DictIn prog w s.heap d kvs) (lo : (d == sysModules) = false) (F : Fr h₀ L s.heap m) (N : News h₀ L s.heap news)
    (h : ∀ vw h', h'.IsItemsView vw d → Fr h₀ L h' m → News h₀ L h' news → Q (.ref vw) { s with heap := h' }) : wpAny (model prog w) A (call (.builtin "dict.items") [.ref d]) Q E s :=
  call_meetsIn PySem.F.slot_dict_items hD.typeIs PySem.F.entry_dict_items (PySem.F.args_dict_items_1 _) (meets_dict_items (PySem.strKind prog w) d lo) ⟨⟨kvs, hD⟩, h _ _ ⟨_, Heap.get?_push_size _ rfl, rfl, rfl⟩ (F.push _) fun p hp => ⟨Heap.get?_push_of_some _ (N p hp).1, (N p hp).2⟩⟩
theorem dict_values_call {Q : Value → Shared → Prop} (hD : DictIn prog w s.heap d kvs) (lo : (d == sysModules) = false) (F : Fr h₀ L s.heap m) (N : News h₀ L s.heap news)
    (h : ∀ vw h', h'.IsValuesView vw d → Fr h₀ L h' m → News h₀ L h' news → Q (.ref vw) { s with heap := h' }) : wpAny (model prog w) A (call (.builtin "dict.values") [.ref d]) Q E s :=
  call_meetsIn PySem.F.slot_dict_values hD.typeIs PySem.F.entry_dict_values (PySem.F.args_dict_values_1 _) (meets_dict_values (PySem.strKind prog w) d lo) ⟨⟨kvs, hD⟩, h _ _ ⟨_, Heap.get?_push_size _ rfl, rfl, rfl⟩ (F.push _) fun p hp => ⟨Heap.get?_push_of_some _ (N p hp).1, (N p hp).2⟩⟩
end
end Mine
namespace Mine
/-- a dict's pairs are texts with whole numbers -/
inductive Cont : List (Str × Value) → List (Str × Int) → Prop
  | nil : Cont [] []
  | cons (k : Str) (n : Int) (t : Tok) {kvs cs} : Cont kvs cs → Cont ((k, .int n t) :: kvs) ((k, n) :: cs)
theorem Cont.length {kvs : List (Str × Value)} {cs : List (Str × Int)} (h : Cont kvs cs) : kvs.length = cs.length := by
  induction h with
  | nil => rfl
  | cons => simp [*]
theorem Cont.at {kvs : List (Str × Value)} {cs : List (Str × Int)} (h : Cont kvs cs) {i : Nat} {k : Str} {v : Value} (e : kvs[i]? = some (k, v)) : ∃ n t, v = .int n t ∧ cs[i]? = some (k, n) := by
  induction h generalizing i with
  | nil => simp at e
  | cons k' n' t' _ ih =>
    cases i with
    | zero => simp at e; obtain ⟨rfl, rfl⟩ := e; exact ⟨n', t', rfl, by simp⟩
    | succ i => exact ih (by simpa using e)
def total (cs : List (Str × Int)) : Int := (cs.map (·.2)).sum
theorem total_take {cs : List (Str × Int)} {i : Nat} {k : Str} {n : Int} (e : cs[i]? = some (k, n)) : total (cs.take (i + 1)) = total (cs.take i) + n := by
  unfold total
  have : cs.take (i + 1) = cs.take i ++ [(k, n)] := by
    rw [List.take_add_one, e]; rfl
  rw [this]; simp [List.sum_append]
section
variable {prog : Program} {w : World} {A : Around} {s : Shared} {h₀ : Heap} {env : Env} {body : List Stmt} {Q : Flow → Shared → Prop} {d : Addr} {od : Obj} {kvs : List (Str × Value)}
theorem ValuesSrc.ofM {x : Str} {vw : Addr} {s₁ : Shared} {m₀ : Str → Option Value} {news : List (Addr × Obj)} (JJ : (Str → Option Value) → Nat → (Str → Option Value) → List (Addr × Obj) → Prop)
    (hv : s₁.heap.IsValuesView vw d) (hod : DictObj prog w od kvs) (F : Fr h₀ env.locals s₁.heap m₀) (N : News h₀ env.locals s₁.heap news) (h0 : JJ m₀ 0 m₀ news)
    (hd : ∀ i h m news, JJ m₀ i m news → Fr h₀ env.locals h m → News h₀ env.locals h news → h.get? d = some od)
    (step : ∀ I i k v m₁ news₁ o h₁ tk₁, kvs[i]? = some (k, v) → JJ m₀ i m₁ news₁ → AllNe I news₁ → Fr h₀ env.locals h₁ m₁ → News h₀ env.locals h₁ ((I, o) :: news₁) →
      wpAny (model prog w) A (storeName env x v) (fun _ s₂ => wpAny (model prog w) A (execs body env) (TurnEnd h₀ env.locals s₁ I o (JJ m₀ (i + 1)) Q) (fun _ _ => False) s₂) (fun _ _ => False) { s₁ with heap := h₁, toks := tk₁ })
    (done : ∀ h' tk m news, JJ m₀ kvs.length m news → Fr h₀ env.locals h' m → News h₀ env.locals h' news → Q .next { s₁ with heap := h', toks := tk }) : ValuesSrc prog w A h₀ env x body Q (.ref vw) s₁ :=
  ⟨vw, d, od, kvs, JJ m₀, m₀, news, rfl, hv, hod, F, N, h0, hd, step, done⟩
theorem ItemsSrc.ofM {target : PySem.Expr} {vw : Addr} {s₁ : Shared} {m₀ : Str → Option Value} {news : List (Addr × Obj)} (JJ : (Str → Option Value) → Nat → (Str → Option Value) → List (Addr × Obj) → Prop)
    (hv : s₁.heap.IsItemsView vw d) (hod : DictObj prog w od kvs) (F : Fr h₀ env.locals s₁.heap m₀) (N : News h₀ env.locals s₁.heap news) (h0 : JJ m₀ 0 m₀ news)
    (hd : ∀ i h m news, JJ m₀ i m news → Fr h₀ env.locals h m → News h₀ env.locals h news → h.get? d = some od)
    (step : ∀ I i k v t T m₁ news₁ o h₁ tk₁, kvs[i]? = some (k, v) → JJ m₀ i m₁ news₁ → AllNe I news₁ → IsTup h₁ T #[.str k t, v] → Fr h₀ env.locals h₁ m₁ → News h₀ env.locals h₁ ((I, o) :: news₁) →
      wpAny (model prog w) A (assign target env (.ref T)) (fun _ s₂ => wpAny (model prog w) A (execs body env) (TurnEnd h₀ env.locals s₁ I o (JJ m₀ (i + 1)) Q) (fun _ _ => False) s₂) (fun _ _ => False) { s₁ with heap := h₁, toks := tk₁ })
    (done : ∀ h' tk m news, JJ m₀ kvs.length m news → Fr h₀ env.locals h' m → News h₀ env.locals h' news → Q .next { s₁ with heap := h', toks := tk }) : ItemsSrc prog w A h₀ env target body Q (.ref vw) s₁ :=
  ⟨vw, d, od, kvs, JJ m₀, m₀, news, rfl, hv, hod, F, N, h0, hd, step, done⟩
end
end Mine
end
/- DPure -/
section
open PySem PySem.W PySem.Calls PyProof.Rows
namespace Mine
theorem Cont.append {kvs kvs' : List (Str × Value)} {cs cs' : List (Str × Int)} (h : Cont kvs cs) (h' : Cont kvs' cs') : Cont (kvs ++ kvs') (cs ++ cs') := by
  induction h with
  | nil => exact h'
  | cons k n t _ ih => exact .cons k n t ih
/-- a count joins a dict of counts -/
def updC (cs : List (Str × Int)) (k : Str) (n : Int) : List (Str × Int) :=
  if cs.any (fun p => p.1 = k) then cs.map (fun p => if p.1 = k then (p.1, p.2 + n) else p) else cs ++ [(k, n)]
theorem Cont.any {kvs : List (Str × Value)} {cs : List (Str × Int)} (h : Cont kvs cs) (k : Str) : kvs.any (fun p => p.1 = k) = cs.any (fun p => p.1 = k) := by
  induction h with
  | nil => rfl
  | cons k' n' t' _ ih => simp only [List.any_cons, ih]
theorem valueAt_isSome (kvs : List (Str × Value)) (k : Str) : (valueAt kvs k).isSome = kvs.any (fun p => p.1 = k) := by
  unfold valueAt
  rw [Option.isSome_map, List.isSome_find?]
theorem Cont.map_same {kvs : List (Str × Value)} {cs : List (Str × Int)} (h : Cont kvs cs) {k : Str} {v : Value} {n : Int} (hn : k ∉ kvs.map (·.1)) :
    Cont (kvs.map fun kv => if kv.1 = k then (kv.1, v) else kv) (cs.map fun p => if p.1 = k then (p.1, p.2 + n) else p) := by
  induction h with
  | nil => exact .nil
  | @cons k' n' t' kvs0 cs0 _ ih =>
    have h1 : k' ≠ k := fun e => hn (by simp [e])
    have h2 : k ∉ kvs0.map (·.1) := fun e => hn (List.mem_cons_of_mem _ e)
    simp only [List.map_cons, h1, if_false]
    exact .cons k' n' t' (ih h2)
theorem Cont.upd_in {kvs : List (Str × Value)} {cs : List (Str × Int)} (h : Cont kvs cs) (nd : (kvs.map (·.1)).Nodup) {k : Str} {v : Value} (hv : valueAt kvs k = some v) :
    ∃ n0 t0, v = .int n0 t0 ∧ ∀ n t, Cont (stored kvs k (.int (n0 + n) t)) (updC cs k n) := by
  have hany : kvs.any (fun p => p.1 = k) = true := by rw [← valueAt_isSome, hv]; rfl
  have hany' : cs.any (fun p => p.1 = k) = true := by rw [← h.any]; exact hany
  unfold stored updC
  simp only [hany, hany', if_true]
  clear hany hany'
  induction h with
  | nil => simp [valueAt] at hv
  | @cons k' n' t' kvs0 cs0 hc ih =>
    have nd' := List.nodup_cons.mp nd
    by_cases e : k' = k
    · subst e
      have hv' : v = .int n' t' := by simpa [valueAt] using hv.symm
      refine ⟨n', t', hv', fun n t => ?_⟩
      simp only [List.map_cons, if_true]
      exact .cons _ _ _ (hc.map_same nd'.1)
    · have hv' : valueAt kvs0 k = some v := by simpa [valueAt, e] using hv
      obtain ⟨n0, t0, e0, f⟩ := ih nd'.2 hv'
      refine ⟨n0, t0, e0, fun n t => ?_⟩
      simp only [List.map_cons, e, if_false]
      exact .cons _ _ _ (f n t)
theorem Cont.upd_out {kvs : List (Str × Value)} {cs : List (Str × Int)} (h : Cont kvs cs) {k : Str} (hv : (valueAt kvs k).isSome = false) (n : Int) (t : Tok) : Cont (stored kvs k (.int n t)) (updC cs k n) := by
  rw [valueAt_isSome] at hv
  have hv' : cs.any (fun p => p.1 = k) = false := by rw [← h.any]; exact hv
  unfold stored updC
  simp only [hv, hv', Bool.false_eq_true, if_false]
  exact h.append (.cons _ _ _ .nil)
theorem stored_take {kvs : List (Str × Value)} {i : Nat} {k : Str} {v : Value} (nd : (kvs.map (·.1)).Nodup) (e : kvs[i]? = some (k, v)) : stored (kvs.take i) k v = kvs.take (i + 1) := by
  have hi : i < kvs.length := by
    rcases Nat.lt_or_ge i kvs.length with h | h
    · exact h
    · rw [List.getElem?_eq_none h] at e; cases e
  have hno : (kvs.take i).any (fun p => p.1 = k) = false := by
    rw [List.any_eq_false]
    intro p hp hpk
    have hpk' : p.1 = k := by simpa using hpk
    obtain ⟨j, hj, ej⟩ := List.getElem_of_mem hp
    have hj' : j < i := by simp at hj; omega
    have h1 : (kvs.map (·.1))[j]? = some k := by
      rw [List.getElem?_map, List.getElem?_eq_getElem (by omega)]
      rw [List.getElem_take] at ej
      rw [ej]; simp [hpk']
    have h2 : (kvs.map (·.1))[i]? = some k := by rw [List.getElem?_map, e]; rfl
    have := (List.getElem?_inj (by simp; omega) nd).mp (h1.trans h2.symm)
    omega
  unfold stored
  rw [hno]
  simp only [Bool.false_eq_true, if_false]
  rw [List.take_add_one, e]; rfl
theorem dict_nodup {prog : Program} {w : World} {o : Obj} {kvs : List (Str × Value)} (h : DictObj prog w o kvs) : (kvs.map (·.1)).Nodup := by
  obtain ⟨_, _, _, _, _, _, h⟩ := h; exact h
end Mine
end
/- Hold -/
section
open PySem PySem.W PySem.Calls PyProof.Rows
namespace Mine
/-- a goal at which the walk halts -/
def Hold (P : Prop) : Prop := P
theorem Hold.out {P : Prop} (h : Hold P) : P := h
/-- the sign that it shall halt -/
def Pause : Prop := True
theorem pause : Pause := trivial
end Mine
end
/- Fast -/
section
open PySem PySem.W PySem.Calls PyProof.Rows
namespace Mine
section
variable {h₀ : Heap} {L I C D : Addr} {m : Str → Option Value} {s₁ : Shared} {oI oC oD : Obj} {S : List (Addr × Obj) → Prop} {rest : Value → List (Addr × Obj) → Prop} {y : Value} {h' : Heap} {tk : Nat} {news : List (Addr × Obj)}
/-- an element that makes no object -/
theorem compEnd_same (F : Fr h₀ L h' m) (N : News h₀ L h' ((I, oI) :: (C, oC) :: (D, oD) :: news)) (off : LCg.Off3 I C D news) (hS : S news) (r : rest y news) :
    LCg.CompEnd h₀ L m s₁ I oI C oC D oD S rest y { s₁ with heap := h', toks := tk } := ⟨h', tk, news, rfl, F, N, off, hS, r⟩
end
end Mine
end
/- Cell -/
section
open PySem PySem.W PySem.Calls PyProof.Rows
namespace Mine
section
variable {prog : Program} {w : World} {A₀ A : Around} {s : Shared} {base h₀ : Heap} {outer : List Env} {L : Addr} {m : Str → Option Value} {env : Env} {K : Frag} {p : Program} {loose : List Str} {mean : ExcName → Option Value} {mg mb : Str → Option Value}
  {Q E : Value → Shared → Prop} {name qual : Str} {params : Arguments} {body : List Stmt} {scope : Scope} {dV kV doc pm cdv ct oc : Value} {an od : Option Addr} {osl : Array (Option Value)} {f : Addr} {args : List Value} {binds : List (Str × Value)}
/-- the way into a def of which some names are cells -/
theorem enterCC (post : Value → Heap → Prop) (B : Below A₀ base outer h₀) (F : Fr h₀ L s.heap m) (X₀ : K.In h₀) (T : Top p loose mean mg mb h₀) (hA : A.frames = some (env :: outer)) (hf : env.frame = some L) (hke : env.scope.kind = .function)
    (hret : CRet h₀ L m s Q post)
    (ho : K.lookup f = some ⟨oc, od, .func (fnOf name qual params body scope dV kV doc pm an cdv ct), osl⟩) (hcd : codeIn K cdv qual = true) (hroom : A.depth < recursionLimit)
    (hbind : BindsTo s (fnOf name qual params body scope dV kV doc pm an cdv ct) ⟨args, []⟩ binds) (hkind : (binds.all fun y => scope.names.lookup y.1 == some .local || scope.names.lookup y.1 == some .cell) = true)
    (hnd : ((cellsFrom 0 scope.names []).map (·.1)).Nodup)
    (h : ∀ (g : Heap) (L' : Addr) (h₁ : Heap) (tk : Nat) (cells : List (Addr × Obj)) (Q' : Value → Shared → Prop), (∀ (v : Value) (h' : Heap) (tk' : Nat) (L₂ : Addr) (m' : Str → Option Value), Fr g L₂ h' m' → post v h' → Q' v { s with heap := h', toks := tk' }) →
      g = s.heap → Fr g L' h₁ (bindL (envOfC qual scope L' f cdv).kindOf binds fun _ => none) → News g L' h₁ cells → CellsAre (bindC (envOfC qual scope L' f cdv).kindOf binds fun _ => none) (cellsFrom (L' + 1) scope.names []) cells →
      Below A base (env :: outer) g → K.In g → Top p loose mean mg mb g →
      wpAny (model prog w) (A.deeper (envOfC qual scope L' f cdv)) (execs body (envOfC qual scope L' f cdv))
        (fun fl s' => Q' (match fl with | .ret v => v | _ => .none) s') (fun _ _ => False) { s with heap := h₁, toks := tk })
    (hco : scope.isCoroutine = false) (hgen : scope.isGenerator = false) (hk : scope.kind = .function) : wpAny (model prog w) A (call (.ref f) args) Q E s := by
  refine wpAny_call ?_
  have B₁ := pushX B F hf hke
  have B₂ : Below A base (env :: outer) s.heap := ⟨hA, B₁.stays, B₁.frames⟩
  have hlim : s.heap.NoLimit := T.nolimit.keeps F.keep
  refine codeAny_call_function (fd := fnOf name qual params body scope dV kV doc pm an cdv ct) (body := body) hroom ((X₀.keeps F.keep) _ _ ho) rfl hco hgen rfl (codeRec_of (X₀.keeps F.keep) hcd) (hbind _ _ _ _ ?_)
  refine wpAny_newFunctionEnv_cells hk (kindsX hkind _) fun env' he s' x => ?_
  subst he
  refine ⟨hlim.keeps x.toInCall.keep, codeAny_func ?_⟩
  obtain ⟨h₁, tk, rfl, _⟩ := x.done
  have hk₁ := x.toInCall.keep
  obtain ⟨cells, NC, Y⟩ := Cl.news (h₀ := s.heap) (Nat.le_refl _) fun n c hm => ⟨x.cell n c (lookup_of_mem_nodup (cellsFrom_names scope.names 0 (s.heap.objs.size + 1) [] [] rfl ▸ hnd) hm), x.above n c hm⟩
  have W := h s.heap s.heap.objs.size h₁ tk cells Q (fun v h' tk' L₂ m' F' P => hret v h' tk' (F.after F'.keep) F'.keep P) rfl ⟨x.toInCall.ns, hk₁, Nat.le_refl _⟩ NC Y B₂ (X₀.keeps F.keep) (T.keeps F.keep)
  exact wpAny_mono W (fun _ _ x => x) (fun _ _ x => x.elim)
end
end Mine
end
/- SumF -/
section
open PySem PySem.W PySem.Calls PyProof.Rows
namespace Mine
section
variable {prog : Program} {w : World} {A : Around} {E : Value → Shared → Prop} {s : Shared} {Q : Value → Shared → Prop} {h₀ : Heap} {L l : Addr} {m : Str → Option Value} {news : List (Addr × Obj)} {a b c : UInt64} {t1 t2 t3 : Tok}
/-- the sum of a list of three floats -/
theorem sum3F (hh : A.handled = none) (F : Fr h₀ L s.heap m) (N : News h₀ L s.heap news) (hl : s.heap.IsList l #[.float a t1, .float b t2, .float c t3])
    (h : ∀ h' tk t, Fr h₀ L h' m → News h₀ L h' news → Q (.float (Flt.sumOf [a, b, c]) t) { s with heap := h', toks := tk }) : wpAny (model prog w) A (call (.builtin "sum") [.ref l]) Q E s := by
  refine Flt.call_sum_walkF (Flt.sumInts_map (bs := [a, b, c]) (by simp)) (Flt.iter_list_ hl fun s₂ e st below apart => ?_)
  subst e
  refine ⟨_, _, _, _, _, _, rfl, (Walks.list (prog := prog) (w := w) (A := A.in1) hh _ l apart #[.float a t1, .float b t2, .float c t3]).toS, st, below, fun i v hP => ?_, fun s' v hv hm => ?_⟩
  · match i, hP with
    | 0, hP => exact ⟨_, rfl, (Option.some.inj hP : Value.float a t1 = v) ▸ .float a t1⟩
    | 1, hP => exact ⟨_, rfl, (Option.some.inj hP : Value.float b t2 = v) ▸ .float b t2⟩
    | 2, hP => exact ⟨_, rfl, (Option.some.inj hP : Value.float c t3 = v) ▸ .float c t3⟩
    | n + 3, hP => exact absurd hP (by simp)
  · have grown := Flt.kept_iter hm.heap
    have eg : s'.gens = s.gens := hm.gens
    have ed : s'.drawn = s.drawn := hm.drawn
    have eo : s'.os = s.os := hm.os
    obtain ⟨hp, g, d, tk, os⟩ := s'
    dsimp only at eg ed eo
    subst eg ed eo
    cases hv
    exact h hp tk _ (F.grownK grown) (N.grown grown)
end
end Mine
end
/- LLoop -/
section
open PySem PySem.W PySem.Calls PyProof.Rows
namespace Mine
section
variable {prog : Program} {w : World} {A : Around} {s : Shared} {h₀ : Heap} {env : Env} {target : PySem.Expr} {body : List Stmt} {Q : Flow → Shared → Prop} {ax : Addr} {oa : Obj}
def Kept (h₀ : Heap) (ax : Addr) (oa : Obj) (news : List (Addr × Obj)) : Prop := h₀.get? ax = some oa ∨ (ax, oa) ∈ news
theorem Kept.get {h : Heap} {L : Addr} {m : Str → Option Value} {news : List (Addr × Obj)} (k : Kept h₀ ax oa news) (F : Fr h₀ L h m) (N : News h₀ L h news) : h.get? ax = some oa := by
  rcases k with k | k
  · exact F.keep _ _ k
  · exact (N _ k).1
/-- the turns of `for x in l`, item by item -/
def UnrL (prog : Program) (w : World) (A : Around) (h₀ : Heap) (env : Env) (target : PySem.Expr) (body : List Stmt) (Q : Flow → Shared → Prop) (ax : Addr) (oa : Obj) (s : Shared) : List Value → (Str → Option Value) → List (Addr × Obj) → Prop
  | [], m, news => ∀ h' tk, Fr h₀ env.locals h' m → News h₀ env.locals h' news → Q .next { s with heap := h', toks := tk }
  | v :: r, m, news => ∀ I o h₁ tk₁, AllNe I news → Fr h₀ env.locals h₁ m → News h₀ env.locals h₁ ((I, o) :: news) →
      wpAny (model prog w) A (assign target env v) (fun _ s₂ => wpAny (model prog w) A (execs body env)
        (TurnEnd h₀ env.locals s I o (fun m' n' => Kept h₀ ax oa n' ∧ UnrL prog w A h₀ env target body Q ax oa s r m' n') Q) (fun _ _ => False) s₂) (fun _ _ => False) { s with heap := h₁, toks := tk₁ }
theorem codeA_list {R : Result → Shared → Prop} {vs : List Value} {n₀ : Nat} {I : Addr} (hh : A.handled = none) (hIL : I ≠ env.locals) (hI : h₀.get? I = none) (hne : ax ≠ I) (hoc : oa.cls = .type "list") (hod : oa.data = .seq vs.toArray n₀) :
    ∀ (k i : Nat) (s' : Shared) (h' : Heap) (tk : Nat) (m : Str → Option Value) (news : List (Addr × Obj)), s' = { s with heap := h', toks := tk } → i + k = vs.length →
      h'.IsListIter I ax i → Fr h₀ env.locals h' m → News h₀ env.locals h' news → (∀ p ∈ news, p.1 ≠ I) →
      Kept h₀ ax oa news → UnrL prog w A h₀ env target body (fun f s' => R (.ok f) s') ax oa s (vs.drop i) m news → codeAny (model prog w) A (.forLoop target (.ref I) body [] env) R s' := by
  have W := Walks.list (prog := prog) (w := w) (A := A) hh I ax hne vs.toArray
  have hsize : vs.toArray.size = vs.length := by simp
  rw [hsize] at W
  intro k
  induction k with
  | zero =>
    intro i s' h' tk m news hs hi hit F N hneq hK hU
    subst hs
    have hi' : i = vs.length := by omega
    subst hi'
    rw [List.drop_length] at hU
    have hl : h'.IsList ax vs.toArray := ⟨oa, hK.get F N, hoc, n₀, hod⟩
    refine codeAny_of_tree ?_
    show wpAny _ A ((forTurn target (.ref I) body [] env).onRaise _) _ _ _
    refine onRaiseF ?_
    simp only [forTurn]
    refine wpAny_bind (wpAny_standAt (wpAny_bind (wpAny_onRaise (W.done _ _ _ ⟨hit, hl⟩ fun h₁ tk₁ k₁ => ?_))))
    refine wpAny_pure ⟨rfl, codeAny_block (wpAny_execs_nil ?_)⟩
    have hkeep : ∀ b o, b ≠ I → h'.get? b = some o → h₁.get? b = some o := fun b o hb e => k₁ b o (by simpa using hb) e
    refine hU h₁ _ ⟨F.ns.at' fun o e => hkeep _ o (Ne.symm hIL) e, fun b o e => hkeep b o (fun q => ?_) (F.keep b o e), F.above⟩ (fun p hp => ⟨hkeep _ _ (hneq p hp) (N p hp).1, (N p hp).2⟩)
    subst q; rw [hI] at e; cases e
  | succ k ih =>
    intro i s' h' tk m news hs hi hit F N hneq hK hU
    subst hs
    have hl : h'.IsList ax vs.toArray := ⟨oa, hK.get F N, hoc, n₀, hod⟩
    have hlt : i < vs.length := by omega
    rw [List.drop_eq_getElem_cons hlt] at hU
    refine codeAny_of_tree ?_
    show wpAny _ A ((forTurn target (.ref I) body [] env).onRaise _) _ _ _
    refine onRaiseF ?_
    simp only [forTurn]
    refine wpAny_bind (wpAny_standAt (wpAny_bind (wpAny_onRaise (W.item i _ _ _ hlt ⟨hit, hl⟩ fun v h₂ tk₁ hP st₂ k₂ => ?_))))
    dsimp only
    have hv : v = vs[i] := by
      have : vs.toArray[i]? = some v := hP
      rw [List.getElem?_toArray, List.getElem?_eq_getElem hlt] at this
      exact (Option.some.inj this).symm
    subst hv
    refine wpAny_bind (letGo_listiter st₂.1 ?_)
    have hkeep : ∀ b o, b ≠ I → h'.get? b = some o → h₂.get? b = some o := fun b o hb e => k₂ b o (by simpa using hb) e
    have F₂ : Fr h₀ env.locals h₂ m := ⟨F.ns.at' fun o e => hkeep _ o (Ne.symm hIL) e, fun b o e => hkeep b o (fun q => by subst q; rw [hI] at e; cases e) (F.keep b o e), F.above⟩
    have N₂ : News h₀ env.locals h₂ news := fun p hp => ⟨hkeep _ _ (hneq p hp) (N p hp).1, (N p hp).2⟩
    obtain ⟨⟨oI, it₂, it₂'⟩, _⟩ := id st₂
    have N₃ : News h₀ env.locals h₂ ((I, oI) :: news) := fun p hp => by
      rcases List.mem_cons.mp hp with rfl | hp
      · exact ⟨it₂, hIL, hI⟩
      · exact N₂ p hp
    refine wpAny_bind (wpAny_mono (hU I oI h₂ tk₁ (allNe_of hneq) F₂ N₃) (fun _ s₂ h₂' => ?_) fun _ _ e => e.elim)
    refine wpAny_bind (wpAny_mono h₂' (fun f s₃ h₃ => ?_) fun _ _ e => e.elim)
    have fin : EndA h₀ env.locals s I oI (fun m' n' => Kept h₀ ax oa n' ∧ UnrL prog w A h₀ env target body (fun f s' => R (.ok f) s') ax oa s (vs.drop (i + 1)) m' n') s₃ → codeAny (model prog w) A (.forLoop target (.ref I) body [] env) R s₃ := fun h₃ => by
      obtain ⟨h₃', tk₃, m₂, news₂, rfl, F₃, N₃', ne₃, K₃, U₃⟩ := h₃
      exact ih (i + 1) _ h₃' tk₃ m₂ news₂ rfl (by omega) ⟨oI, (N₃' _ (.head _)).1, it₂'⟩ F₃ (fun p hp => N₃' p (List.mem_cons_of_mem _ hp)) ne₃ K₃ U₃
    cases f with
    | ret v => exact wpAny_pure h₃
    | brk => exact h₃.elim
    | next => exact wpAny_pure ⟨rfl, fin h₃⟩
    | cont => exact wpAny_pure ⟨rfl, fin h₃⟩
/-- what the source of the loop must be: a list whose items are known -/
def LstSrc (prog : Program) (w : World) (A : Around) (h₀ : Heap) (env : Env) (target : PySem.Expr) (body : List Stmt) (Q : Flow → Shared → Prop) (xv : Value) (s₁ : Shared) : Prop :=
  ∃ (ax : Addr) (oa : Obj) (vs : List Value) (n : Nat) (m : Str → Option Value) (news : List (Addr × Obj)), xv = .ref ax ∧ oa.cls = .type "list" ∧ oa.data = .seq vs.toArray n ∧ Fr h₀ env.locals s₁.heap m ∧ News h₀ env.locals s₁.heap news ∧ Kept h₀ ax oa news ∧
    UnrL prog w A h₀ env target body Q ax oa s₁ vs m news
theorem forListA {pos : Pos} {iter : PySem.Expr} {m : Str → Option Value} {E : Value → Shared → Prop} (_F : Fr h₀ env.locals s.heap m) (hh : A.handled = none)
    (h : wpAny (model prog w) A (eval iter env) (LstSrc prog w A h₀ env target body Q) (fun _ _ => False) s)
    (hs : ∀ x, foldedSetIterable iter env x = pure x := by intro _; rfl) :
    wpAny (model prog w) A (exec (.For target iter body [] pos) env) Q E s := by
  rw [exec_For]
  refine wpAny_bind (wpAny_standAt (wpAny_bind (wpAny_mono h (fun xv s₁ h₁ => ?_) fun _ _ e => e.elim)))
  obtain ⟨ax, oa, vs, n, m, news, rfl, hc, hd, F, N, K, hU⟩ := h₁
  have hget := K.get F N
  have hl : s₁.heap.IsList ax vs.toArray := ⟨oa, hget, hc, n, hd⟩
  refine wpAny_bind (wpAny_of_eq (hs _) (wpAny_bind (wpAny_standAt (wpAny_bind (wpAny_holding (wpAny_pyIter_list hl ?_))))))
  unfold runOwn
  refine onRaiseF (wpAny_run ?_ (by intro x; cases x))
  refine codeA_list (s := s₁) (h₀ := h₀) (R := fun r s' => match r with | .ok f => Q f s' | .error _ => False) hh (Ne.symm (Nat.ne_of_lt F.ns.lt)) (next_is_new F) (Nat.ne_of_lt (Heap.lt_size hget)) hc hd vs.length 0 _ _ s₁.toks m news rfl (by omega) ⟨_, Heap.get?_push_size _ rfl, rfl, rfl⟩ (F.push _) (fun p hp => ⟨Heap.get?_push_of_some _ (N p hp).1, (N p hp).2⟩)
    (fun p hp => Nat.ne_of_lt (Heap.lt_size (N p hp).1)) K ?_
  rw [List.drop_zero]
  exact hU
theorem UnrL.cons {v : Value} {r : List Value} {m : Str → Option Value} {news : List (Addr × Obj)}
    (h : ∀ I o h₁ tk₁, AllNe I news → Fr h₀ env.locals h₁ m → News h₀ env.locals h₁ ((I, o) :: news) →
      wpAny (model prog w) A (assign target env v) (fun _ s₂ => wpAny (model prog w) A (execs body env)
        (TurnEnd h₀ env.locals s I o (fun m' n' => Kept h₀ ax oa n' ∧ UnrL prog w A h₀ env target body Q ax oa s r m' n') Q) (fun _ _ => False) s₂) (fun _ _ => False) { s with heap := h₁, toks := tk₁ }) :
    UnrL prog w A h₀ env target body Q ax oa s (v :: r) m news := h
theorem UnrL.nil {m : Str → Option Value} {news : List (Addr × Obj)} (h : ∀ h' tk, Fr h₀ env.locals h' m → News h₀ env.locals h' news → Q .next { s with heap := h', toks := tk }) : UnrL prog w A h₀ env target body Q ax oa s [] m news := h
end
end Mine
end
/- Off -/
section
open PySem PySem.W PySem.Calls PyProof.Rows
namespace Mine
/-- two addresses apart, in a word that omega does not read (it would part every ≠ into two cases) -/
def Off (a b : Nat) : Prop := a ≠ b
theorem Off.ne {a b : Nat} (h : Off a b) : a ≠ b := h
theorem Off.sym {a b : Nat} (h : Off a b) : b ≠ a := fun e => h e.symm
def AllOff (d : Nat) : List (Addr × Obj) → Prop
  | [] => True
  | p :: r => Off p.1 d ∧ AllOff d r
theorem allOff_ne {d : Addr} : ∀ {l : List (Addr × Obj)}, AllNe d l → AllOff d l
  | [], _ => trivial
  | _ :: _, h => ⟨h.1, allOff_ne h.2⟩
theorem allOff_1 {d : Addr} : ∀ {l : List (Addr × Obj)}, LCg.Off1 d l → AllOff d l
  | [], _ => trivial
  | _ :: _, h => ⟨h.1, allOff_1 h.2⟩
end Mine
namespace Mine
/-- three addresses apart, in one word -/
def Apart3 (a b c : Nat) : Prop := a ≠ b ∧ a ≠ c ∧ b ≠ c
theorem apart3 {a b c : Nat} (h : (@Ne Nat a b) ∧ (@Ne Nat a c) ∧ (@Ne Nat b c)) : Apart3 a b c := h
end Mine
namespace Mine
theorem tail2 {h₀ h : Heap} {L : Addr} {news : List (Addr × Obj)} {p q : Addr × Obj} (N : News h₀ L h (p :: q :: news)) : News h₀ L h news := fun r hr => N r (.tail _ (.tail _ hr))
end Mine
end
/- LJ -/
section
open PySem PySem.W PySem.Calls PyProof.Rows
namespace Mine
theorem sub_cons {α : Type} {x : α} {r l : List α} (h1 : x ∈ l) (h2 : ∀ p ∈ r, p ∈ l) : ∀ p ∈ x :: r, p ∈ l := fun p hp => by
  rcases List.mem_cons.mp hp with rfl | hp
  · exact h1
  · exact h2 p hp
theorem sub_tail {α : Type} {x : α} {K l : List α} (h : ∀ p ∈ K, p ∈ l) : ∀ p ∈ K, p ∈ x :: l := fun p hp => .tail _ (h p hp)
theorem sub_refl {α : Type} {K : List α} : ∀ p ∈ K, p ∈ K := fun _ hp => hp
theorem sub_nil {α : Type} {l : List α} : ∀ p ∈ ([] : List α), p ∈ l := fun _ hp => nomatch hp
theorem newsSub {h₀ h : Heap} {L : Addr} {l l' : List (Addr × Obj)} (N : News h₀ L h l) (hs : ∀ p ∈ l', p ∈ l) : News h₀ L h l' := fun p hp => N p (hs p hp)
/-- new objects of a call join the ledger, all at once -/
theorem gainK {h₀ h h' : Heap} {L : Addr} {m : Str → Option Value} {news K : List (Addr × Obj)} (F : Fr h₀ L h m) (N : News h₀ L h news) (N' : News h₀ L h' news) (hK : ∀ p ∈ K, h.get? p.1 = none ∧ h'.get? p.1 = some p.2) :
    News h₀ L h' (K ++ news) ∧ ∀ q ∈ news, ∀ p ∈ K, p.1 ≠ q.1 := by
  refine ⟨fun p hp => ?_, fun q hq p hp e => ?_⟩
  · rcases List.mem_append.mp hp with hp | hp
    · obtain ⟨a, b⟩ := hK p hp
      refine ⟨b, fun e => ?_, ?_⟩
      · obtain ⟨oL, _, _, hL, _⟩ := F.ns
        have : h.get? p.1 = some oL := (show p.1 = L from e) ▸ hL
        rw [a] at this; cases this
      · cases q : h₀.get? p.1 with
        | none => rfl
        | some o' => have := F.keep _ o' q; rw [a] at this; cases this
    · exact N' p hp
  · have := (N q hq).1
    rw [← e, (hK p hp).1] at this; cases this
section
variable {prog : Program} {w : World} {A : Around} {s : Shared} {h₀ : Heap} {env : Env} {target : PySem.Expr} {body : List Stmt} {Q : Flow → Shared → Prop} {ax : Addr} {oa : Obj}
theorem TurnEnd.mono {L : Addr} {I : Addr} {o : Obj} {P P' : (Str → Option Value) → List (Addr × Obj) → Prop} {f : Flow} {s₃ : Shared} (h : TurnEnd h₀ L s I o P Q f s₃) (hP : ∀ m n, P m n → P' m n) : TurnEnd h₀ L s I o P' Q f s₃ := by
  cases f with
  | ret v => exact h
  | brk => exact h
  | next => obtain ⟨a, b, c, d, e, f, g, i, j⟩ := h; exact ⟨a, b, c, d, e, f, g, i, hP _ _ j⟩
  | cont => obtain ⟨a, b, c, d, e, f, g, i, j⟩ := h; exact ⟨a, b, c, d, e, f, g, i, hP _ _ j⟩
/-- a loop over a list by an invariant over what is left -/
theorem UnrL.byJ (J : List Value → (Str → Option Value) → List (Addr × Obj) → Prop) (hk : ∀ vs m news, J vs m news → Kept h₀ ax oa news)
    (step : ∀ v r m news, J (v :: r) m news → ∀ I o h₁ tk₁, AllNe I news → Fr h₀ env.locals h₁ m → News h₀ env.locals h₁ ((I, o) :: news) →
      wpAny (model prog w) A (assign target env v) (fun _ s₂ => wpAny (model prog w) A (execs body env)
        (TurnEnd h₀ env.locals s I o (J r) Q) (fun _ _ => False) s₂) (fun _ _ => False) { s with heap := h₁, toks := tk₁ })
    (done : ∀ m news, J [] m news → ∀ h' tk, Fr h₀ env.locals h' m → News h₀ env.locals h' news → Q .next { s with heap := h', toks := tk }) :
    ∀ vs m news, J vs m news → UnrL prog w A h₀ env target body Q ax oa s vs m news := by
  intro vs
  induction vs with
  | nil => intro m news hJ; exact UnrL.nil fun h' tk F N => done m news hJ h' tk F N
  | cons v r ih =>
    intro m news hJ
    refine UnrL.cons fun I o h₁ tk₁ hne F N => ?_
    refine wpAny_mono (step v r m news hJ I o h₁ tk₁ hne F N) (fun _ s₂ h₂ => ?_) fun _ _ e => e
    exact wpAny_mono h₂ (fun f s₃ h₃ => TurnEnd.mono h₃ fun m' n' j => ⟨hk _ _ _ j, ih m' n' j⟩) fun _ _ e => e
theorem LstSrc.byM {ax : Addr} {oa : Obj} {vs : List Value} {n : Nat} {s₁ : Shared} {m₀ : Str → Option Value} {news : List (Addr × Obj)} (JJ : (Str → Option Value) → List Value → (Str → Option Value) → List (Addr × Obj) → Prop)
    (hc : oa.cls = .type "list") (hd : oa.data = .seq vs.toArray n) (F : Fr h₀ env.locals s₁.heap m₀) (N : News h₀ env.locals s₁.heap news) (h0 : JJ m₀ vs m₀ news) (hk : ∀ vs m news, JJ m₀ vs m news → Kept h₀ ax oa news)
    (step : ∀ v r m news, JJ m₀ (v :: r) m news → ∀ I o h₁ tk₁, AllNe I news → Fr h₀ env.locals h₁ m → News h₀ env.locals h₁ ((I, o) :: news) →
      wpAny (model prog w) A (assign target env v) (fun _ s₂ => wpAny (model prog w) A (execs body env)
        (TurnEnd h₀ env.locals s₁ I o (JJ m₀ r) Q) (fun _ _ => False) s₂) (fun _ _ => False) { s₁ with heap := h₁, toks := tk₁ })
    (done : ∀ m news, JJ m₀ [] m news → ∀ h' tk, Fr h₀ env.locals h' m → News h₀ env.locals h' news → Q .next { s₁ with heap := h', toks := tk }) :
    LstSrc prog w A h₀ env target body Q (.ref ax) s₁ :=
  ⟨ax, oa, vs, n, m₀, news, rfl, hc, hd, F, N, hk _ _ _ h0, UnrL.byJ (JJ m₀) hk step done vs m₀ news h0⟩
end
end Mine
end
/- RJ -/
section
open PySem PySem.W PySem.Calls PyProof.Rows
namespace Mine
section
variable {prog : Program} {w : World} {A : Around} {s : Shared} {h₀ : Heap} {env : Env} {x : Str} {body : List Stmt} {Q : Flow → Shared → Prop} {I : Addr} {n : Nat}
/-- a loop over range(n) by an invariant over the turn's number -/
theorem UnrA.byJ (J : Nat → (Str → Option Value) → List (Addr × Obj) → Prop)
    (step : ∀ i m news, i < n → J i m news → (∀ p ∈ news, p.1 ≠ I) → ∀ h₁ tk₁ t, Fr h₀ env.locals h₁ m → News h₀ env.locals h₁ ((I, RIt (i + 1) n) :: news) →
      wpAny (model prog w) A (storeName env x (.int ((i : Nat) : Int) t)) (fun _ s₂ => wpAny (model prog w) A (execs body env)
        (TurnEnd h₀ env.locals s I (RIt (i + 1) n) (J (i + 1)) Q) (fun _ _ => False) s₂) (fun _ _ => False) { s with heap := h₁, toks := tk₁ })
    (done : ∀ m news, J n m news → ∀ h' tk, Fr h₀ env.locals h' m → News h₀ env.locals h' news → Q .next { s with heap := h', toks := tk }) :
    ∀ k i m news, i + k = n → J i m news → (∀ p ∈ news, p.1 ≠ I) → UnrA prog w A h₀ env x body Q I n s k i m news := by
  intro k
  induction k with
  | zero =>
    intro i m news hi hJ hne h' tk F N
    have e : i = n := by omega
    exact done m news (e ▸ hJ) h' tk F N
  | succ k ih =>
    intro i m news hi hJ hne h₁ tk₁ t F N
    refine wpAny_mono (step i m news (by omega) hJ hne h₁ tk₁ t F N) (fun _ s₂ h₂ => ?_) fun _ _ e => e
    refine wpAny_mono h₂ (fun f s₃ h₃ => ?_) fun _ _ e => e
    have go : EndA h₀ env.locals s I (RIt (i + 1) n) (J (i + 1)) s₃ → EndA h₀ env.locals s I (RIt (i + 1) n) (UnrA prog w A h₀ env x body Q I n s k (i + 1)) s₃ := by
      rintro ⟨a, b, c, d, e, f, g, hh, j⟩
      exact ⟨a, b, c, d, e, f, g, hh, ih (i + 1) c d (by omega) j hh⟩
    cases f with
    | ret v => exact h₃
    | brk => exact h₃
    | next => exact go h₃
    | cont => exact go h₃
theorem RngA.byM {r : Addr} {t u v : Tok} {m₀ : Str → Option Value} {news : List (Addr × Obj)} {s₁ : Shared} (JJ : (Str → Option Value) → Nat → (Str → Option Value) → List (Addr × Obj) → Prop)
    (hr : IsRange s₁.heap r 0 (n : Int) 1 t u v) (F : Fr h₀ env.locals s₁.heap m₀) (N : News h₀ env.locals s₁.heap news) (hn : n ≤ 1000) (h0 : JJ m₀ 0 m₀ news)
    (step : ∀ I i m news, i < n → JJ m₀ i m news → (∀ p ∈ news, p.1 ≠ I) → ∀ h₁ tk₁ t, Fr h₀ env.locals h₁ m → News h₀ env.locals h₁ ((I, RIt (i + 1) n) :: news) →
      wpAny (model prog w) A (storeName env x (.int ((i : Nat) : Int) t)) (fun _ s₂ => wpAny (model prog w) A (execs body env)
        (TurnEnd h₀ env.locals s₁ I (RIt (i + 1) n) (JJ m₀ (i + 1)) Q) (fun _ _ => False) s₂) (fun _ _ => False) { s₁ with heap := h₁, toks := tk₁ })
    (done : ∀ m news, JJ m₀ n m news → ∀ h' tk, Fr h₀ env.locals h' m → News h₀ env.locals h' news → Q .next { s₁ with heap := h', toks := tk }) :
    RngA prog w A h₀ env x body Q n (.ref r) s₁ :=
  ⟨r, t, u, v, m₀, news, rfl, hr, F, N, hn, fun I hne => UnrA.byJ (JJ m₀) (step I) done n 0 m₀ news (by omega) h0 (allNe_mem hne)⟩
end
end Mine
end
/- Mm -/
section
namespace Mine
/-- what is known of the greatest and the least of three -/
structure MM (a b c hi lo : Nat) : Prop where
  a1 : a ≤ hi
  b1 : b ≤ hi
  c1 : c ≤ hi
  a2 : lo ≤ a
  b2 : lo ≤ b
  c2 : lo ≤ c
  h : a = hi ∨ b = hi ∨ c = hi
  l : a = lo ∨ b = lo ∨ c = lo
theorem mm3 {a b c hi lo : Nat} (hma : max (max a b) c = hi) (hmi : min (min a b) c = lo) : MM a b c hi lo := by
  subst hma; subst hmi
  refine ⟨Nat.le_trans (Nat.le_max_left _ _) (Nat.le_max_left _ _), Nat.le_trans (Nat.le_max_right _ _) (Nat.le_max_left _ _), Nat.le_max_right _ _, Nat.le_trans (Nat.min_le_left _ _) (Nat.min_le_left _ _), Nat.le_trans (Nat.min_le_left _ _) (Nat.min_le_right _ _), Nat.min_le_right _ _, ?_, ?_⟩
  · rcases Nat.le_total (max a b) c with h | h
    · exact .inr (.inr (Nat.max_eq_right h).symm)
    · rw [Nat.max_eq_left h]
      rcases Nat.le_total a b with g | g
      · exact .inr (.inl (Nat.max_eq_right g).symm)
      · exact .inl (Nat.max_eq_left g).symm
  · rcases Nat.le_total (min a b) c with h | h
    · rw [Nat.min_eq_left h]
      rcases Nat.le_total a b with g | g
      · exact .inl (Nat.min_eq_left g).symm
      · exact .inr (.inl (Nat.min_eq_right g).symm)
    · exact .inr (.inr (Nat.min_eq_right h).symm)
theorem MM.max {a b c hi lo : Nat} (m : MM a b c hi lo) : Max.max (Max.max a b) c = hi := by
  refine Nat.le_antisymm (Nat.max_le.mpr ⟨Nat.max_le.mpr ⟨m.a1, m.b1⟩, m.c1⟩) ?_
  rcases m.h with h | h | h
  · exact h ▸ Nat.le_trans (Nat.le_max_left _ _) (Nat.le_max_left _ _)
  · exact h ▸ Nat.le_trans (Nat.le_max_right _ _) (Nat.le_max_left _ _)
  · exact h ▸ Nat.le_max_right _ _
theorem MM.min {a b c hi lo : Nat} (m : MM a b c hi lo) : Min.min (Min.min a b) c = lo := by
  refine Nat.le_antisymm ?_ (Nat.le_min.mpr ⟨Nat.le_min.mpr ⟨m.a2, m.b2⟩, m.c2⟩)
  rcases m.l with h | h | h
  · exact h ▸ Nat.le_trans (Nat.min_le_left _ _) (Nat.min_le_left _ _)
  · exact h ▸ Nat.le_trans (Nat.min_le_left _ _) (Nat.min_le_right _ _)
  · exact h ▸ Nat.min_le_right _ _
theorem MM.ab {a b c hi lo : Nat} (m : MM a b c hi lo) : MM b a c hi lo := ⟨m.b1, m.a1, m.c1, m.b2, m.a2, m.c2, m.h.elim (fun x => .inr (.inl x)) fun x => x.elim .inl fun y => .inr (.inr y), m.l.elim (fun x => .inr (.inl x)) fun x => x.elim .inl fun y => .inr (.inr y)⟩
theorem MM.bc {a b c hi lo : Nat} (m : MM a b c hi lo) : MM a c b hi lo := ⟨m.a1, m.c1, m.b1, m.a2, m.c2, m.b2, m.h.elim .inl fun x => .inr x.symm, m.l.elim .inl fun x => .inr x.symm⟩
theorem MM.le {a b c hi lo : Nat} (m : MM a b c hi lo) : lo ≤ hi := Nat.le_trans m.a2 m.a1
/-- the greatest and the least of a small row are small -/
theorem MM.sum {a b c hi lo n : Nat} (m : MM a b c hi lo) (h : a + b + c ≤ n) : hi ≤ n ∧ lo ≤ n := by
  have h1 : hi ≤ n := by
    obtain ⟨_, _, _, _, _, _, x, _⟩ := m
    omega
  exact ⟨h1, Nat.le_trans m.le h1⟩
/-- the sum of both is small too -/
theorem MM.both {a b c hi lo n : Nat} (m : MM a b c hi lo) (h : a + b + c ≤ n) : hi + lo ≤ n := by
  obtain ⟨_, _, _, y1, y2, y3, x, _⟩ := m
  rcases x with rfl | rfl | rfl
  · have := Nat.add_le_add_left y2 a; omega
  · have := Nat.add_le_add_left y1 b; omega
  · have := Nat.add_le_add_left y1 c; omega
theorem sorted3 {a b c : Int} {p q r : Nat} (h : [a, b, c].Perm [(p : Int), q, r]) (hab : a ≤ b) (hbc : b ≤ c) {hi lo : Nat} (hmax : Max.max (Max.max p q) r = hi) (hmin : Min.min (Min.min p q) r = lo) : a = lo ∧ c = hi := by
  have m := mm3 hmax hmin
  have low : ∀ x ∈ [a, b, c], a ≤ x := fun x hx => by
    simp only [List.mem_cons, List.not_mem_nil, or_false] at hx
    rcases hx with rfl | rfl | rfl
    · exact Int.le_refl _
    · exact hab
    · exact Int.le_trans hab hbc
  have high : ∀ x ∈ [a, b, c], x ≤ c := fun x hx => by
    simp only [List.mem_cons, List.not_mem_nil, or_false] at hx
    rcases hx with rfl | rfl | rfl
    · exact Int.le_trans hab hbc
    · exact hbc
    · exact Int.le_refl _
  have low' : ∀ x ∈ [(p : Int), q, r], (lo : Int) ≤ x := fun x hx => by
    simp only [List.mem_cons, List.not_mem_nil, or_false] at hx
    rcases hx with rfl | rfl | rfl
    · exact Int.ofNat_le.mpr m.a2
    · exact Int.ofNat_le.mpr m.b2
    · exact Int.ofNat_le.mpr m.c2
  have high' : ∀ x ∈ [(p : Int), q, r], x ≤ (hi : Int) := fun x hx => by
    simp only [List.mem_cons, List.not_mem_nil, or_false] at hx
    rcases hx with rfl | rfl | rfl
    · exact Int.ofNat_le.mpr m.a1
    · exact Int.ofNat_le.mpr m.b1
    · exact Int.ofNat_le.mpr m.c1
  have inl : (lo : Int) ∈ [(p : Int), q, r] := by
    rcases m.l with h | h | h
    · exact h ▸ .head _
    · exact h ▸ .tail _ (.head _)
    · exact h ▸ .tail _ (.tail _ (.head _))
  have inh : (hi : Int) ∈ [(p : Int), q, r] := by
    rcases m.h with h | h | h
    · exact h ▸ .head _
    · exact h ▸ .tail _ (.head _)
    · exact h ▸ .tail _ (.tail _ (.head _))
  exact ⟨Int.le_antisymm (low _ (h.mem_iff.mpr inl)) (low' _ (h.mem_iff.mp (.head _))), Int.le_antisymm (high' _ (h.mem_iff.mp (.tail _ (.tail _ (.head _))))) (high _ (h.mem_iff.mpr inh))⟩
end Mine
end
/- Ovs -/
section
open PySem PySem.W PySem.Calls PyProof.Rows
namespace Mine
/-- names stored over a map -/
def ovs : List (Str × Option Value) → (Str → Option Value) → Str → Option Value
  | [], m₀, y => m₀ y
  | (x, o) :: l, m₀, y => if y = x then o else ovs l m₀ y
theorem ovs_start (m₀ : Str → Option Value) : ∀ xs : List Str, m₀ = ovs (xs.map fun x => (x, m₀ x)) m₀
  | [] => rfl
  | x :: xs => by
    funext y
    have := congrFun (ovs_start m₀ xs) y
    rw [List.map_cons]
    unfold ovs
    split
    · subst_vars; rfl
    · exact this
theorem ovs_out {y : Str} {m : Str → Option Value} : ∀ {l : List (Str × Option Value)}, y ∉ l.map (·.1) → ovs l m y = m y
  | [], _ => rfl
  | (x, o) :: l, h => by
    unfold ovs
    rw [if_neg (fun e => h (by simp [e]))]
    exact ovs_out fun hm => h (List.mem_cons_of_mem _ hm)
theorem ovs_in {y : Str} {m m' : Str → Option Value} : ∀ {l : List (Str × Option Value)}, y ∈ l.map (·.1) → ovs l m y = ovs l m' y
  | [], h => by simp at h
  | (x, o) :: l, h => by
    unfold ovs
    by_cases e : y = x
    · rw [if_pos e, if_pos e]
    · rw [if_neg e, if_neg e]
      refine ovs_in ?_
      simpa [e] using h
theorem ovs_again {l l' : List (Str × Option Value)} {m₀ : Str → Option Value} (h : l'.map (·.1) = l.map (·.1)) : ovs l (ovs l' m₀) = ovs l m₀ := by
  funext y
  by_cases hy : y ∈ l.map (·.1)
  · exact ovs_in hy
  · rw [ovs_out hy, ovs_out hy, ovs_out (by rw [h]; exact hy)]
end Mine
namespace Mine
theorem newsAt {h₀ h : Heap} {L d : Addr} {o : Obj} {l : List (Addr × Obj)} (N : News h₀ L h l) (hm : (d, o) ∈ l) : h.get? d = some o := (N _ hm).1
theorem all_cons {I : Addr} {x : Addr × Obj} {r : List (Addr × Obj)} (h1 : x.1 ≠ I) (h2 : ∀ p ∈ r, p.1 ≠ I) : ∀ p ∈ x :: r, p.1 ≠ I := fun p hp => by
  rcases List.mem_cons.mp hp with rfl | hp
  · exact h1
  · exact h2 p hp
theorem all_nil {I : Addr} : ∀ p ∈ ([] : List (Addr × Obj)), p.1 ≠ I := fun _ hp => nomatch hp
/-- a member of the ledger's opaque rest -/
def InK (p : Addr × Obj) (K : List (Addr × Obj)) : Prop := p ∈ K
theorem InK.mem {p : Addr × Obj} {K : List (Addr × Obj)} (h : InK p K) : p ∈ K := h
end Mine
end
/- BSort -/
section
open PySem PySem.W PySem.Calls PyProof.Rows
namespace Mine
theorem bytes_len : typeLookup (.type "bytes") "__len__" = pure (some (.builtin "bytes.__len__")) := by rw [typeLookup_type, builtinLookup_eq_fast]; kernel_rfl
section
variable {prog : Program} {w : World} {A : Around} {E : Value → Shared → Prop} {s : Shared}
/-- the octets of a bytes, taken into a list -/
theorem collectB {Q : List Value → Shared → Prop} (hh : A.handled = none) (b : Array UInt8) (t : Tok)
    (hQ : ∀ s' acc, (∀ a o, s.heap.get? a = some o → s'.heap.get? a = some o) → s'.gens = s.gens → s'.drawn = s.drawn → s'.os = s.os → ItemsOf (fun i v => ∃ c u, b[i]? = some c ∧ v = .int (c.toNat : Int) u) acc b.size → Q acc.toList s') (hn : b.size ≤ sizeLine) :
    wpAny (model prog w) A (collect (.bytes b t)) Q E s := by
  unfold collect
  refine wpAny_bind (wpAny_runValue (codeAny_builtin F.entry_proto_collect ?_))
  rw [Around.under_plainId F.plain_proto_collect _]
  show wpAny _ A.in1 (newList [] >>= fun l => again (.builtin "list.__iadd__" ⟨[l, .bytes b t], []⟩)) _ _ s
  refine wpAny_bind (wpAny_newObj_type ?_)
  refine wpAny_pure ⟨plainId_quiet F.plain_list_iadd _, codeAny_builtin F.entry_list_iadd ?_⟩
  rw [Around.under_plainId F.plain_list_iadd _]
  show wpAny _ A.in1 (Builtin.List.listExtendWith (.ref s.heap.objs.size) (.bytes b t) (.ref s.heap.objs.size)) _ _ _
  unfold Builtin.List.listExtendWith
  refine wpAny_bind (wpAny_typeOf (T := "bytes") (v := .bytes b t) rfl ?_)
  have h1 : Builtin.List.listSameRef (.ref s.heap.objs.size) (.bytes b t) = false := rfl
  have h2 : (Value.type "bytes" == Value.type "list") = false := by decide
  have h3 : (Value.type "bytes" == Value.type "tuple") = false := by decide
  simp only [h1, h2, h3, Bool.or_false, Bool.false_eq_true, if_false]
  refine wpAny_bind (KBw.pyIter_bytes ?_)
  refine wpAny_bind (wpAny_holding ?_)
  unfold Builtin.List.listLengthHint
  refine wpAny_bind (wpAny_specialOf (T := "bytes") (v := .bytes b t) rfl bytes_len ?_)
  wp_delta
  refine wpAny_bind (wpAny_isInstance (T := "bytes") (v := .bytes b t) (b := true) rfl (by rw [isSubtype_type]; kernel_rfl) ?_)
  show wpAny _ A.in1 (typeOf (Value.bytes b t) >>= _) _ _ _
  refine wpAny_bind (wpAny_typeOf (T := "bytes") (v := .bytes b t) rfl ?_)
  refine wpAny_pure ?_
  rw [if_neg (by decide)]
  dsimp only
  generalize hH : s.heap.push { cls := .type "list", data := .seq ([] : List Value).toArray } = H
  have hHs : H.objs.size = s.heap.objs.size + 1 := by rw [← hH, Heap.size_push]
  have hSf : s.heap.objs.size ∉ [H.objs.size] := fun hm => by rw [List.mem_singleton.mp hm] at hHs; exact absurd hHs (Nat.ne_of_lt (Nat.lt_succ_self _))
  have hS : (H.push { cls := .type "bytes_iterator", data := .fields #[.bytes b t, .int 0 0] }).get? s.heap.objs.size = some { cls := .type "list", data := .seq ([] : List Value).toArray } := Heap.get?_push_of_some _ (hH ▸ Heap.get?_push_size _ rfl)
  have hst : KBw.IsBytesIter (H.push { cls := .type "bytes_iterator", data := .fields #[.bytes b t, .int 0 0] }) H.objs.size b t 0 := ⟨_, Heap.get?_push_size _ rfl, rfl, rfl⟩
  refine wpAny_pure ⟨plainId_quiet F.plain_extend_loop _, codeAny_extend_loopS (KBw.walks (A := A.in1) hh H.objs.size b t).toS hn _ hSf _ b.size 0 _ _ _ rfl (Nat.zero_le _) hst hS (ItemsOf.nil _) fun s' acc' c' hm hS' hacc => ?_⟩
  show wpAny _ A (load s.heap.objs.size >>= _) _ _ s'
  refine wpAny_bind (wpAny_load hS' ?_)
  refine wpAny_pure (hQ s' acc' (fun a ob e => hm.heap a ob (fun hb => ?_) (Heap.get?_push_of_some _ (hH ▸ Heap.get?_push_of_some _ e))) hm.gens hm.drawn hm.os hacc)
  have hlt := Heap.lt_size e
  rcases List.mem_cons.mp hb with h | h
  · exact absurd hlt (h ▸ Nat.lt_irrefl _)
  · rw [List.mem_singleton.mp h, hHs] at hlt; exact absurd hlt (Nat.not_lt.mpr (Nat.le_succ _))
end
end Mine
namespace Mine
theorem ints3 {x y z : UInt8} {acc : Array Value} (h : ItemsOf (fun i v => ∃ c u, (#[x, y, z] : Array UInt8)[i]? = some c ∧ v = .int (c.toNat : Int) u) acc 3) : ∃ t1 t2 t3, acc.toList = [.int x.toNat t1, .int y.toNat t2, .int z.toNat t3] := by
  obtain ⟨hs, hP⟩ := h
  obtain ⟨l⟩ := acc
  match l, hs, hP with
  | [a, b, c], _, hP =>
    obtain ⟨c1, u1, e1, rfl⟩ := hP 0 a rfl
    obtain ⟨c2, u2, e2, rfl⟩ := hP 1 b rfl
    obtain ⟨c3, u3, e3, rfl⟩ := hP 2 c rfl
    cases e1; cases e2; cases e3
    exact ⟨u1, u2, u3, rfl⟩
theorem intsAre3 {vs : List Value} {ns : List Int} (h : IntsAre vs ns) (hl : ns.length = 3) : ∃ a b c t1 t2 t3, ns = [a, b, c] ∧ vs = [.int a t1, .int b t2, .int c t3] := by
  cases h with
  | nil => cases hl
  | cons a t1 h =>
    cases h with
    | nil => cases hl
    | cons b t2 h =>
      cases h with
      | nil => cases hl
      | cons c t3 h =>
        cases h with
        | nil => exact ⟨a, b, c, t1, t2, t3, rfl, rfl⟩
        | cons d t4 h => simp at hl
section
variable {prog : Program} {w : World} {A : Around} {E : Value → Shared → Prop} {s : Shared} {h₀ : Heap} {L : Addr} {m : Str → Option Value} {news : List (Addr × Obj)}
/-- sorted() of three octets -/
theorem sortedB3 {x y z : UInt8} {t : Tok} {Q : Value → Shared → Prop} (hh : A.handled = none) (F : Fr h₀ L s.heap m) (N : News h₀ L s.heap news)
    (h : ∀ (D : Addr) (h' : Heap) (tk : Nat) (a b c : Int) (t1 t2 t3 : Tok) (e : Nat), Fr h₀ L h' m → News h₀ L h' ((D, W.listOf #[.int a t1, .int b t2, .int c t3] e) :: news) → (∀ p ∈ news, p.1 < D) →
      [a, b, c].Perm [(x.toNat : Int), y.toNat, z.toNat] → a ≤ b → b ≤ c → Q (.ref D) { s with heap := h', toks := tk }) :
    wpAny (model prog w) A (call (.builtin "sorted") [.bytes #[x, y, z] t]) Q E s := by
  refine Calls.call_function_entry kind_sorted plain_sorted entry_sorted (args_sorted1 _) ?_
  unfold Builtin.«sorted»
  refine wpAny_bind (m := checkCount "sorted" 1 1 _) (wpAny_pure ?_)
  refine wpAny_bind (collectB (by first | exact hh | rfl) #[x, y, z] t (fun s' acc old g d o hacc => ?_) (by rw [sizeLine_eq]; exact Nat.le_of_ble_eq_true rfl))
  obtain ⟨u1, u2, u3, ha⟩ := ints3 hacc
  rw [ha]
  obtain ⟨hp, g', d', tk', o'⟩ := s'
  dsimp only at g d o old
  subst g d o
  refine wpAny_bind (wpAny_newList ?_)
  have hoL : (hp.push (seqObj "list" [Value.int x.toNat u1, .int y.toNat u2, .int z.toNat u3].toArray 0)).get? hp.objs.size = some (seqObj "list" [Value.int x.toNat u1, .int y.toNat u2, .int z.toNat u3].toArray 0) := Heap.get?_push_size _ rfl
  refine wpAny_bind (wpAny_holding (wpAny_call_entry slot_list_sort ⟨_, hoL, rfl⟩ entry_list_sort (list_sort_tree hoL (.cons _ _ (.cons _ _ (.cons _ _ .nil))) (Nat.le_of_ble_eq_true rfl) fun out ns' a1 a2 a3 => ⟨_, rfl, ?_⟩) (args_list_sort _)))
  refine wpAny_pure ⟨_, rfl, ?_⟩
  obtain ⟨a, b, c, t1, t2, t3, rfl, hout⟩ := intsAre3 a1 (by rw [a2.length_eq]; rfl)
  have keep : ∀ q ob, hp.get? q = some ob → (sortedHeap (hp.push (seqObj "list" [Value.int x.toNat u1, .int y.toNat u2, .int z.toNat u3].toArray 0)) hp.objs.size [Value.int x.toNat u1, .int y.toNat u2, .int z.toNat u3] out).get? q = some ob := fun q ob e => by
    have hlt := Heap.lt_size e
    rw [sortedHeap_old (Nat.ne_of_lt hlt) (by rw [Heap.size_push]; exact Nat.lt_succ_of_lt hlt)]
    exact Heap.get?_push_of_some _ e
  obtain ⟨e, he⟩ := sortedHeap_at (vs := [Value.int x.toNat u1, .int y.toNat u2, .int z.toNat u3]) (out := out) hoL
  have e3 : out = #[.int a t1, .int b t2, .int c t3] := by rw [← Array.toList_inj]; exact hout
  subst e3
  have F1 : Fr h₀ L hp m := F.kept old
  have N1 : News h₀ L hp news := fun p hp' => ⟨old _ _ (N p hp').1, (N p hp').2⟩
  have hsrt := List.pairwise_cons.mp a3
  have hsrt2 := List.pairwise_cons.mp hsrt.2
  exact h _ _ _ a b c t1 t2 t3 e (F1.kept keep) (N1.kept_cons F1 keep (Nat.le_refl _) he) (fun p hp' => Heap.lt_size (N1 p hp').1) a2 (hsrt.1 _ (.head _)) (hsrt2.1 _ (.head _))
end
end Mine
end
/- Lt -/
section
open PySem PySem.W PySem.Calls PyProof.Rows
namespace Mine
/-- room for a call within the room that is left -/
theorem room {U un b c lim : Nat} (k : Nat) (h : un + b < lim) (e : U = un + k) (hk : Nat.ble (k + c) b = true) : U + c < lim := by
  subst e
  rw [Nat.add_assoc]
  exact Nat.lt_of_le_of_lt (Nat.add_le_add_left (Nat.le_of_ble_eq_true hk) _) h
theorem room' {U un b lim : Nat} (k : Nat) (h : un + b < lim) (e : U = un + k) (hk : Nat.ble k b = true) : U ≤ lim := by
  subst e
  exact Nat.le_of_lt (Nat.lt_of_le_of_lt (Nat.add_le_add_left (Nat.le_of_ble_eq_true hk) _) h)
/-- a text is at most so long -/
def TLe (x : Str) (n : Nat) : Prop := x.length ≤ n
theorem TLe.lit {x : Str} (h : x.length ≤ 16) : TLe x 16 := h
theorem TLe.add {x y : Str} {m n : Nat} (h1 : TLe x m) (h2 : TLe y n) : TLe (x ++ y) (m + n) := by
  unfold TLe
  rw [Str.length_append]
  exact Nat.add_le_add h1 h2
theorem TLe.mul {x : Str} {n : Nat} (h : x.length ≤ 16) (hn : n ≤ 21) : TLe (Txt.mul x (n : Int)) 336 :=
  len_mul_leN h (Int.ofNat_le.mpr hn)
theorem addT {prog : Program} {w : World} {A : Around} {E : Value → Shared → Prop} {s : Shared} {x y : Str} {t u : Tok} {m n : Nat} {Q : Value → Shared → Prop} (h1 : TLe x m) (h2 : TLe y n) (hm : Nat.ble (m + n) 16777216 = true)
    (h : ∀ t' k, Q (.str (x ++ y) t') { s with toks := k }) : wpAny (model prog w) A (binaryOp .Add (.str x t) (.str y u)) Q E s :=
  addR (Nat.le_trans (Nat.add_le_add h1 h2) (sizeLine_eq ▸ Nat.le_of_ble_eq_true hm)) h
theorem MM.all {a b c hi lo : Nat} (m : MM a b c hi lo) (h : a + b + c ≤ 21) : hi ≤ 21 ∧ lo ≤ hi ∧ hi + lo ≤ 21 := ⟨(m.sum h).1, m.le, m.both h⟩
theorem MM.tab {a b c hi lo : Nat} (m : MM a b c hi lo) (h : a + b + c ≤ 21) : hi < 22 ∧ lo < 22 - hi :=
  ⟨Nat.lt_succ_of_le (m.all h).1, by have := (m.all h).2.2; omega⟩
theorem le21 {a b c : Nat} (h : a + b + c ≤ 21) : a ≤ 21 ∧ b ≤ 21 ∧ c ≤ 21 := ⟨by omega, by omega, by omega⟩
theorem n21 {n : Nat} (h : n ≤ 21) : 0 ≤ ((n : Nat) : Int) ∧ ((n : Nat) : Int) ≤ 21 := ⟨Int.natCast_nonneg n, Int.ofNat_le.mpr h⟩
example : (Str.ofString "&lt;&#xD;").length ≤ 16 := Nat.le_of_ble_eq_true rfl
end Mine
end
/- GJ -/
section
open PySem PySem.W PySem.Calls PyProof.Rows
namespace Mine
section
variable {prog : Program} {w : World} {A : Around} {s : Shared} {h₀ : Heap} {env : Env} {x : Str} {body : List Stmt} {Q : Flow → Shared → Prop} {I : Addr} {n : Nat}
/-- what a turn over the fine contexts leaves -/
inductive EndG (h₀ : Heap) (L : Addr) (s : Shared) (I : Addr) (o : Obj) (R : (Str → Option Value) → List (Addr × Obj) → Prop) (f : Flow) (s₃ : Shared) : Prop
  | mk (h' : Heap) (tk : Nat) (m₂ : Str → Option Value) (news₂ : List (Addr × Obj)) : f = .next → s₃ = { s with heap := h', toks := tk } → Fr h₀ L h' m₂ → News h₀ L h' ((I, o) :: news₂) → (∀ p ∈ news₂, p.1 ≠ I) → R m₂ news₂ → EndG h₀ L s I o R f s₃
theorem UnrG.byJ (J : Nat → (Str → Option Value) → List (Addr × Obj) → Prop)
    (step : ∀ i m news, i < n → J i m news → (∀ p ∈ news, p.1 ≠ I) → ∀ h₁ tk₁ t, Fr h₀ env.locals h₁ m → News h₀ env.locals h₁ ((I, RIt (i + 1) n) :: news) →
      wpAny (model prog w) A (storeName env x (.int ((i : Nat) : Int) t)) (fun _ s₂ => wpG (model prog w) A (execs body env)
        (EndG h₀ env.locals s I (RIt (i + 1) n) (J (i + 1))) (fun _ _ => False) s₂) (fun _ _ => False) { s with heap := h₁, toks := tk₁ })
    (done : ∀ m news, J n m news → ∀ h' tk, Fr h₀ env.locals h' m → News h₀ env.locals h' news → Q .next { s with heap := h', toks := tk }) :
    ∀ k i m news, i + k = n → J i m news → (∀ p ∈ news, p.1 ≠ I) → UnrG prog w A h₀ env x body Q I n s k i m news := by
  intro k
  induction k with
  | zero =>
    intro i m news hi hJ hne h' tk F N
    have e : i = n := hi
    exact done m news (e ▸ hJ) h' tk F N
  | succ k ih =>
    intro i m news hi hJ hne h₁ tk₁ t F N
    refine wpAny_mono (step i m news (by omega) hJ hne h₁ tk₁ t F N) (fun _ s₂ h₂ => ?_) fun _ _ e => e
    refine wpG_mono h₂ (fun f s₃ h₃ => ?_) fun _ _ e => e
    obtain ⟨h', tk, m₂, news₂, hf, e, F', N', ne, j⟩ := h₃
    exact ⟨hf, h', tk, m₂, news₂, e, F', N', ne, ih (i + 1) m₂ news₂ (by omega) j ne⟩
theorem RngG.byM {r : Addr} {t u v : Tok} {m₀ : Str → Option Value} {news : List (Addr × Obj)} {s₁ : Shared} (JJ : (Str → Option Value) → Nat → (Str → Option Value) → List (Addr × Obj) → Prop)
    (hr : IsRange s₁.heap r 0 (n : Int) 1 t u v) (F : Fr h₀ env.locals s₁.heap m₀) (N : News h₀ env.locals s₁.heap news) (hn : n ≤ 1000) (h0 : JJ m₀ 0 m₀ news)
    (step : ∀ I i m news, i < n → JJ m₀ i m news → (∀ p ∈ news, p.1 ≠ I) → ∀ h₁ tk₁ t, Fr h₀ env.locals h₁ m → News h₀ env.locals h₁ ((I, RIt (i + 1) n) :: news) →
      wpAny (model prog w) A (storeName env x (.int ((i : Nat) : Int) t)) (fun _ s₂ => wpG (model prog w) A (execs body env)
        (EndG h₀ env.locals s₁ I (RIt (i + 1) n) (JJ m₀ (i + 1))) (fun _ _ => False) s₂) (fun _ _ => False) { s₁ with heap := h₁, toks := tk₁ })
    (done : ∀ m news, JJ m₀ n m news → ∀ h' tk, Fr h₀ env.locals h' m → News h₀ env.locals h' news → Q .next { s₁ with heap := h', toks := tk }) :
    RngG prog w A h₀ env x body Q n (.ref r) s₁ :=
  ⟨r, t, u, v, m₀, news, rfl, hr, F, N, hn, fun I _ _ hne => UnrG.byJ (JJ m₀) (step I) done n 0 m₀ news (Nat.zero_add n) h0 hne⟩
end
theorem letAG {M : Model} {A : Around} {body : List Stmt} {env : Env} {Q : Flow → Shared → Prop} {E : Value → Shared → Prop} {h : Heap} {g : Array GenState} {d : Drawn} {n : Nat} {o : OsState}
    (k : let A' := A; let e' := env; let g' := g; let d' := d; let o' := o; wpG M A' (execs body e') Q E ⟨h, g', d', n, o'⟩) : wpG M A (execs body env) Q E ⟨h, g, d, n, o⟩ := k
/-- the ring of the six turns -/
def rg (p q r : UInt8) (i : Nat) : UInt8 × UInt8 × UInt8 := [(p, q, r), (q, p, r), (q, r, p), (r, q, p), (r, p, q), (p, r, q)].getD i (p, q, r)
theorem rg_even {p q r a b c : UInt8} {i : Nat} (h : rg p q r i = (a, b, c)) (hi : i < 6) (h2 : i % 2 = 0) : rg p q r (i + 1) = (b, a, c) := by
  have e : i = 0 ∨ i = 2 ∨ i = 4 := by omega
  have e2 : rg p q r (i + 1) = ((rg p q r i).2.1, (rg p q r i).1, (rg p q r i).2.2) := by rcases e with rfl | rfl | rfl <;> rfl
  rw [e2, h]
theorem rg_odd {p q r a b c : UInt8} {i : Nat} (h : rg p q r i = (a, b, c)) (hi : i < 6) (h2 : ¬ i % 2 = 0) : rg p q r (i + 1) = (a, c, b) := by
  have e : i = 1 ∨ i = 3 ∨ i = 5 := by omega
  have e2 : rg p q r (i + 1) = ((rg p q r i).1, (rg p q r i).2.2, (rg p q r i).2.1) := by rcases e with rfl | rfl | rfl <;> rfl
  rw [e2, h]
/-- the ring so far -/
def Rg (p q r : UInt8) (i : Nat) (xs : List Value) : Prop := xs.length = i + 1 ∧ ∀ j, j ≤ i → ∃ t, xs[j]? = some (.bytes #[(rg p q r j).1, (rg p q r j).2.1, (rg p q r j).2.2] t)
theorem Rg.start (p q r : UInt8) (t : Tok) : Rg p q r 0 [.bytes #[p, q, r] t] := ⟨rfl, fun j hj => by cases Nat.le_zero.mp hj; exact ⟨t, rfl⟩⟩
theorem Rg.snoc {p q r a b c : UInt8} {i : Nat} {xs : List Value} {t : Tok} (h : Rg p q r i xs) (e : rg p q r (i + 1) = (a, b, c)) : Rg p q r (i + 1) (xs ++ [.bytes #[a, b, c] t]) := by
  refine ⟨by rw [List.length_append, h.1]; rfl, fun j hj => ?_⟩
  rcases Nat.lt_or_ge j (i + 1) with g | g
  · obtain ⟨t', e'⟩ := h.2 j (Nat.le_of_lt_succ g)
    exact ⟨t', by rw [List.getElem?_append_left (by rw [h.1]; exact g)]; exact e'⟩
  · have : j = i + 1 := Nat.le_antisymm hj g
    subst this
    rw [e]
    exact ⟨t, by rw [List.getElem?_append_right (by rw [h.1]; exact Nat.le_refl _), h.1, Nat.sub_self]; rfl⟩
theorem Rg.at_ {p q r : UInt8} {i : Nat} {xs : List Value} (h : Rg p q r i xs) : ∃ a b c t, rg p q r i = (a, b, c) ∧ xs[((i : Nat) : Int).toNat]? = some (.bytes #[a, b, c] t) :=
  let ⟨t, e⟩ := h.2 i (Nat.le_refl _)
  ⟨_, _, _, t, rfl, e⟩
inductive Seven (p q r : UInt8) (xs : List Value) : Prop
  | mk (t0 t1 t2 t3 t4 t5 t6 : Tok) : xs = [.bytes #[p, q, r] t0, .bytes #[q, p, r] t1, .bytes #[q, r, p] t2, .bytes #[r, q, p] t3, .bytes #[r, p, q] t4, .bytes #[p, r, q] t5, .bytes #[p, q, r] t6] → Seven p q r xs
theorem Rg.drop {p q r : UInt8} {i : Nat} {xs : List Value} (h : Rg p q r i xs) (j : Nat) (hj : j ≤ i) {a b c : UInt8} (e : rg p q r j = (a, b, c)) : ∃ t, xs.drop j = .bytes #[a, b, c] t :: xs.drop (j + 1) :=
  (h.2 j hj).elim fun t e' => ⟨t, by
    obtain ⟨hlt, e'⟩ := List.getElem?_eq_some_iff.mp e'
    rw [List.drop_eq_getElem_cons hlt, e', e]⟩
theorem Rg.all {p q r : UInt8} {xs : List Value} (h : Rg p q r 6 xs) : Seven p q r xs := by
  obtain ⟨t0, e0⟩ := h.drop 0 (by decide) rfl
  obtain ⟨t1, e1⟩ := h.drop 1 (by decide) rfl
  obtain ⟨t2, e2⟩ := h.drop 2 (by decide) rfl
  obtain ⟨t3, e3⟩ := h.drop 3 (by decide) rfl
  obtain ⟨t4, e4⟩ := h.drop 4 (by decide) rfl
  obtain ⟨t5, e5⟩ := h.drop 5 (by decide) rfl
  obtain ⟨t6, e6⟩ := h.drop 6 (by decide) rfl
  have z : xs.drop 7 = [] := List.drop_eq_nil_of_le (Nat.le_of_eq h.1)
  exact ⟨t0, t1, t2, t3, t4, t5, t6, e0.trans (congrArg _ (e1.trans (congrArg _ (e2.trans (congrArg _ (e3.trans (congrArg _ (e4.trans (congrArg _ (e5.trans (congrArg _ (e6.trans (congrArg _ z)))))))))))))⟩
/-- _law_turned's loop between two turns -/
inductive TuJ (p q r : UInt8) (D : Addr) (m₀ : Str → Option Value) (i : Nat) : (Str → Option Value) → List (Addr × Obj) → Prop
  | mk (x1 x2 : Option Value) (xs : List Value) : Rg p q r i xs → TuJ p q r D m₀ i (ovs [(Str.ofString "last", x2), (Str.ofString "turn", x1)] m₀) [(D, W.listOf xs.toArray i)]
theorem TuJ.start {p q r : UInt8} {D : Addr} {m₀ : Str → Option Value} {t : Tok} : TuJ p q r D m₀ 0 m₀ [(D, W.listOf #[.bytes #[p, q, r] t] 0)] :=
  (congrArg (fun m => TuJ p q r D m₀ 0 m [(D, W.listOf #[.bytes #[p, q, r] t] 0)]) (ovs_start m₀ [Str.ofString "last", Str.ofString "turn"])).mpr (.mk _ _ [.bytes #[p, q, r] t] (Rg.start p q r t))
theorem TuJ.mk' {p q r : UInt8} {D : Addr} {m₀ : Str → Option Value} {i : Nat} {x1 x2 x3 x4 : Option Value} {xs : List Value} (h : Rg p q r i xs) :
    TuJ p q r D m₀ i (ovs [(Str.ofString "last", x2), (Str.ofString "turn", x1)] (ovs [(Str.ofString "last", x4), (Str.ofString "turn", x3)] m₀)) [(D, W.listOf xs.toArray i)] := by
  rw [ovs_again (l := [(Str.ofString "last", x2), (Str.ofString "turn", x1)]) (l' := [(Str.ofString "last", x4), (Str.ofString "turn", x3)]) rfl]
  exact .mk x1 x2 xs h
end Mine
end
/- BCmp -/
section
open PySem PySem.W PySem.Calls PyProof.Rows PySem.SeqAt PySem.SeqAt
namespace Mine
section
variable {prog : Program} {w : World} {A : Around} {E : Value → Shared → Prop} {s : Shared}
theorem eqAt_bytes (b c : Array UInt8) (t u : Tok) : EqAt A s (.bytes b t) (.bytes c u) (b.toList == c.toList) := by
  intro prog w E Q h
  unfold eqBool
  refine wpAny_holding ?_
  refine wpAny_ite_split (fun hab => ?_) (fun hab => ?_)
  · have e : b = c := by have := eq_of_beq hab; injection this
    subst e
    exact wpAny_bind (wpAny_rule (wpAny_pure (by simpa using h)))
  · exact wpAny_bind (richCompare_gives (typeIs_bytes s b t) (typeIs_bytes s c u) FB.slot_bytes_eq FB.entry_bytes_eq (FB.args_bytes_eq_2 _ _) (gives_bytes_eq b c t u) (by simp [Made.takes]) (wpAny_truthy_bool h))
/-- octets behind a value -/
def octs : Value → List UInt8
  | .bytes b _ => b.toList
  | _ => []
def BytesAll (vs : List Value) : Prop := ∀ v ∈ vs, ∃ b t, v = .bytes b t
/-- two lists of bytes of the same octets -/
theorem ne_bytesLists {a b : Addr} {vs us : List Value} {Q : Value → Shared → Prop} (hl : s.heap.IsList a vs.toArray) (hl' : s.heap.IsList b us.toArray) (hv : BytesAll vs) (hu : BytesAll us) (he : vs.map octs = us.map octs) (hr : A.units < cLine)
    (h : Q (.bool false) s) : wpAny (model prog w) A (compareOp .NotEq (.ref a) (.ref b)) Q E s := by
  refine cmp_ofNotEq ?_
  have hlen : vs.length = us.length := by have := congrArg List.length he; simpa using this
  refine RcNeAt.lists (e := fun _ => true) hl hl' (by simpa using hlen) hr (fun j h1 h2 => ?_) prog w E Q ?_
  · have h1' : j < vs.length := by simpa using h1
    have h2' : j < us.length := by simpa using h2
    obtain ⟨x, t, ex⟩ := hv _ (List.getElem_mem h1')
    obtain ⟨y, u, ey⟩ := hu _ (List.getElem_mem h2')
    have e1 : vs.toArray[j] = .bytes x t := by simpa using ex
    have e2 : us.toArray[j] = .bytes y u := by simpa using ey
    rw [e1, e2]
    have e3 : x.toList = y.toList := by
      have q1 : (vs.map octs)[j]? = some x.toList := by rw [List.getElem?_map, List.getElem?_eq_getElem h1', ex]; rfl
      have q2 : (us.map octs)[j]? = some y.toList := by rw [List.getElem?_map, List.getElem?_eq_getElem h2', ey]; rfl
      rw [he, q2] at q1
      exact (Option.some.inj q1).symm
    have := eqAt_bytes (A := A.in1) (s := s) x y t u
    rw [e3, beq_self_eq_true] at this
    exact this
  · have : (!(List.range vs.toArray.size).all fun _ => true) = false := by simp
    rw [this]; exact h
/-- a list that is not empty against the empty one -/
theorem eq_emptyList {a b : Addr} {vs : List Value} {Q : Value → Shared → Prop} (hl : s.heap.IsList a vs.toArray) (hl' : s.heap.IsList b #[]) (hv : 0 < vs.length) (hr : A.units < cLine) (h : Q (.bool false) s) :
    wpAny (model prog w) A (compareOp .Eq (.ref a) (.ref b)) Q E s := by
  refine cmp_ofEq ?_
  exact RcAt.lists_lengths hl hl' (bne_iff_ne.mpr (by rw [List.size_toArray]; show vs.length ≠ 0; omega)) hr prog w E Q h
end
/-- bytes as keys of a sort -/
@[reducible] def bytesKind : KeyKind where
  α := List Nat
  blt a b := decide (a < b)
  irrefl a := by simpa using List.lt_irrefl a
  trans a b c h1 h2 := by simp only [decide_eq_true_eq] at *; exact List.lt_trans h1 h2
  negTrans a b c h := by
    simp only [decide_eq_true_eq] at *
    by_cases hab : a < b
    · exact .inl hab
    · exact .inr (List.lt_of_le_of_lt (List.not_lt.mp hab) h)
  total a b h1 h2 := by simp only [decide_eq_false_iff_not] at *; exact List.le_antisymm (List.not_lt.mp h2) (List.not_lt.mp h1)
  keyOf v := match v with | .bytes b _ => some (b.toList.map (·.toNat)) | _ => none
  dflt := []
theorem order_lt : ∀ a b : List UInt8, (Builtin.Bytes.order a b == .lt) = decide (a.map (·.toNat) < b.map (·.toNat))
  | [], [] => by decide
  | [], _ :: _ => by simp [Builtin.Bytes.order]
  | _ :: _, [] => by simp [Builtin.Bytes.order]
  | x :: a, y :: b => by
    simp only [Builtin.Bytes.order, List.map_cons]
    by_cases h1 : x < y
    · have : x.toNat < y.toNat := h1
      simp [h1, List.cons_lt_cons_iff, this]
    · by_cases h2 : x > y
      · have h3 : y.toNat < x.toNat := h2
        have n1 : ¬ x.toNat < y.toNat := by omega
        have n2 : x.toNat ≠ y.toNat := by omega
        simp [h1, h2, List.cons_lt_cons_iff, n1, n2]
      · have e : x = y := UInt8.le_antisymm (UInt8.not_lt.mp h2) (UInt8.not_lt.mp h1)
        subst e
        simp [List.cons_lt_cons_iff, order_lt a b]
theorem slot_bytes_lt : Slot "bytes" (cmpInfo .Lt).2.1 "bytes.__lt__" :=
  .of (owner := "bytes") (n := "__lt__") (by rw [typeLookup_type, builtinLookup_eq_fast]; kernel_rfl) (by decide +kernel) (by decide +kernel) (by decide +kernel)
    (by first | exact .inl (by decide +kernel) | exact .inr (by decide +kernel)) (by rw [isSubtype_type]; kernel_rfl)
theorem entry_bytes_lt : entryFor table "bytes.__lt__" = some Builtin.«bytes.__lt__» := entryFor_of_fast (by kernel_rfl)
theorem args_bytes_lt (a b : Value) : argsOk "bytes.__lt__" ⟨[a, b], []⟩ := by unfold argsOk; kernel_rfl
section
variable {prog : Program} {w : World} {A : Around} {E : Value → Shared → Prop} {s : Shared}
theorem call_bytes_lt {a b : Array UInt8} {t u : Tok} {Q : Value → Shared → Prop} (h : Q (.bool (decide (a.toList.map (·.toNat) < b.toList.map (·.toNat)))) s) : wpAny (model prog w) A (call (.builtin "bytes.__lt__") [.bytes a t, .bytes b u]) Q E s := by
  refine wpAny_call_entry slot_bytes_lt (typeIs_bytes s a t) entry_bytes_lt ?_ (args_bytes_lt _ _)
  show wpAny _ _ (isInstance (.bytes b u) (.type "bytes") >>= fun r => _) _ _ s
  refine wpAny_bind (wpAny_isInstance (typeIs_bytes s b u) F.sub_bytes_bytes ?_)
  exact wpAny_pure ⟨_, rfl, by rw [← order_lt] at h; exact h⟩
theorem oneLt_bytes {a b : Array UInt8} {t u : Tok} {Q : Bool → Shared → Prop} (h : Q (decide (a.toList.map (·.toNat) < b.toList.map (·.toNat))) s) : wpAny (model prog w) A (oneLt' true (.bytes a t) (.bytes b u)) Q E s := by
  rw [oneLt'_eq]
  simp only [if_true]
  refine wpAny_bind (wpAny_cRoomFor_byValue rfl ?_)
  refine wpAny_bind (wpAny_callSpecialIfBound?_slot (typeIs_bytes s a t) slot_bytes_lt (call_bytes_lt ?_))
  exact wpAny_truthy_bool h
end
theorem bytesKind_oneLt : bytesKind.OneLt := by
  intro prog w A E s x y a b Q ha hb h
  cases x <;> simp only [bytesKind, reduceCtorEq, Option.some.injEq] at ha
  cases y <;> simp only [bytesKind, reduceCtorEq, Option.some.injEq] at hb
  cases ha; cases hb
  exact oneLt_bytes h
end Mine
namespace Mine
theorem BytesAll.keysOf {vs : List Value} (h : BytesAll vs) : KeysOf bytesKind (pairsOf vs) := by
  intro p hp
  rw [pairsOf_toList] at hp
  obtain ⟨b, t, e⟩ := h _ (mem_zip_self hp).2
  exact ⟨b.toList.map (·.toNat), by rw [e]⟩
theorem mapM_first_bytes : ∀ {vs : List Value}, BytesAll vs → vs.mapM firstOfTuple' = pure (vs.map fun _ => none)
  | [], _ => by simp
  | v :: vs, h => by
    obtain ⟨b, t, e⟩ := h v (List.mem_cons_self ..)
    have e1 : firstOfTuple' v = pure none := by rw [e]; rfl
    rw [List.mapM_cons, e1, mapM_first_bytes fun u hu => h u (List.mem_cons_of_mem _ hu)]; simp
theorem mapM_typeOf_bytes : ∀ {vs : List Value}, BytesAll vs → vs.mapM typeOf = pure (vs.map fun _ => Value.type "bytes")
  | [], _ => by simp
  | v :: vs, h => by
    obtain ⟨b, t, e⟩ := h v (List.mem_cons_self ..)
    rw [List.mapM_cons, mapM_typeOf_bytes fun u hu => h u (List.mem_cons_of_mem _ hu), e]
    show (pure (Value.type "bytes") >>= fun b => pure _ >>= fun bs => pure (b :: bs)) = _
    simp
theorem keyKind_bytes {v₁ v₂ : Value} {vs : List Value} (h : BytesAll (v₁ :: v₂ :: vs)) : keyKind' (v₁ :: v₂ :: vs).toArray = pure oneType' := by
  rw [keyKind'_eq, List.mapM_toArray, mapM_first_bytes h]
  simp only [map_pure, pure_bind]
  rw [if_neg (by simp), if_neg (by simp)]
  rw [oneTypeOnly'_eq, List.mapM_toArray, mapM_typeOf_bytes h]
  simp only [map_pure, pure_bind]
  have hall : ((List.map (fun _ => Value.type "bytes") (v₁ :: v₂ :: vs)).toArray.all fun x => x == Value.type "bytes") = true := by
    simp only [List.all_toArray, List.all_map, List.all_eq_true]
    intro _ _
    rfl
  have h0 : (List.map (fun _ => Value.type "bytes") (v₁ :: v₂ :: vs)).toArray[0]? = some (Value.type "bytes") := by simp
  rw [h0]
  simp only [hall, if_true, pure_bind, Option.isSome_some]
def keyB (v : Value) : List Nat := (octs v).map (·.toNat)
section
variable {prog : Program} {w : World} {A : Around} {E : Value → Shared → Prop} {s : Shared} {h₀ : Heap} {L : Addr} {m : Str → Option Value} {news : List (Addr × Obj)}
/-- sorted() of a list of bytes -/
theorem sortedBs {l : Addr} {vs : List Value} {Q : Value → Shared → Prop} (F : Fr h₀ L s.heap m) (N : News h₀ L s.heap news) (hl : s.heap.IsList l vs.toArray) (hB : BytesAll vs) (h64 : vs.length < 64)
    (h : ∀ (D : Addr) (h' : Heap) (vs' : List Value) (e : Nat), Fr h₀ L h' m → News h₀ L h' ((D, W.listOf vs'.toArray e) :: news) → (∀ p ∈ news, p.1 < D) → vs'.Perm vs → (vs'.map keyB).Pairwise (fun a b => ¬ b < a) → Q (.ref D) { s with heap := h' }) :
    wpAny (model prog w) A (call (.builtin "sorted") [.ref l]) Q E s := by
  refine sortedK bytesKind_oneLt hl hB.keysOf (fun v₁ v₂ rest e => keyKind_bytes (by rw [← e]; exact hB)) h64 fun st' hp hs => ?_
  obtain ⟨e, he⟩ := sortedAll_at s.heap vs ((arrOf st').map (·.2))
  have hlp : (arrOf st').toList.Perm (vs.zip vs) := by rw [← pairsOf_toList]; exact Array.perm_iff_toList_perm.mp hp
  have hmem : ∀ p, p ∈ (arrOf st').toList → p.1 = p.2 ∧ p.1 ∈ vs := fun p hp' => mem_zip_self (hlp.mem_iff.mp hp')
  have eq2 : ((arrOf st').map (·.2)).toList = (arrOf st').toList.map (·.1) := by
    rw [Array.toList_map]; exact List.map_congr_left fun p hp' => (hmem p hp').1.symm
  have perm : ((arrOf st').map (·.2)).toList.Perm vs := by
    rw [eq2]
    have := hlp.map Prod.fst
    rwa [List.map_fst_zip (Nat.le_refl _)] at this
  refine h _ _ ((arrOf st').map (·.2)).toList e (F.kept fun _ _ => sortedAll_old) (N.kept_cons F (fun _ _ => sortedAll_old) (Nat.le_succ _) (by rw [Array.toArray_toList]; exact he)) (fun p hp' => Nat.lt_succ_of_lt (Heap.lt_size (N p hp').1)) perm ?_
  rw [eq2, List.map_map, List.pairwise_iff_getElem]
  intro i j hi hj hij
  have hi' : i < (arrOf st').size := by simpa using hi
  have hj' : j < (arrOf st').size := by simpa using hj
  have h1 := hs i j (Nat.le_of_lt hij) (by rw [← hp.size_eq]; exact hj')
  obtain ⟨x, t, ex⟩ := hB _ (hmem (arrOf st')[i] (by simp)).2
  obtain ⟨y, u, ey⟩ := hB _ (hmem (arrOf st')[j] (by simp)).2
  have k1 : KK bytesKind (arrOf st') i = x.toList.map (·.toNat) := by unfold KK; rw [getElem?_pos (arrOf st') i hi']; simp [ex]
  have k2 : KK bytesKind (arrOf st') j = y.toList.map (·.toNat) := by unfold KK; rw [getElem?_pos (arrOf st') j hj']; simp [ey]
  rw [k1, k2] at h1
  change decide (y.toList.map (·.toNat) < x.toList.map (·.toNat)) = false at h1
  simp only [List.getElem_map, Array.getElem_toList, Function.comp]
  rw [ex, ey]
  exact of_decide_eq_false h1
end
end Mine
end
/- Comp2 -/
section
open PySem PySem.W PySem.Calls PyProof.Rows
open Sem (wp)
namespace Mine
abbrev e2 (elt t0 i0 t1 i1 c1 : PySem.Expr) (scope : Scope) (pos : Pos) : PySem.Expr := .ListComp elt [⟨t0, i0, [], 0⟩, ⟨t1, i1, [c1], 0⟩] scope pos
section
variable {prog : Program} {w : World} {A : Around} {R : Result → Shared → Prop} {s : Shared} {elt t0 i0 t1 i1 c1 : PySem.Expr} {scope : Scope} {pos : Pos} {it acc : Value} {env : Env}
theorem turn1 : compTurn (e2 elt t0 i0 t1 i1 c1 scope pos) 1 it acc env = (do
      standAt i1.pos
      match ← pyNext it with
      | none => pure (.done .next)
      | some v =>
        letOwnedTupleGo t1 it v
        assign t1 env v
        let mut ok := true
        for c in [c1] do
          if ok then ok ← isTrue c env (eval c env)
        if ok then
          (do let _ ← call (.builtin "list.append") [acc, ← eval elt env])
        again (.compLoop (e2 elt t0 i0 t1 i1 c1 scope pos) 1 it acc env)) := by rfl
theorem turn0 : compTurn (e2 elt t0 i0 t1 i1 c1 scope pos) 0 it acc env = (do
      standAt i0.pos
      match ← pyNext it with
      | none => pure (.done .next)
      | some v =>
        letOwnedTupleGo t0 it v
        assign t0 env v
        let x ← eval i1 env
        standAt i1.pos
        let x ← foldedSetIterable i1 env x
        let _ ← runOwn (.compStart (e2 elt t0 i0 t1 i1 c1 scope pos) 1 (← holding [x] (pyIter x)) acc env) env
        again (.compLoop (e2 elt t0 i0 t1 i1 c1 scope pos) 0 it acc env)) := by rfl
/-- the inner loop of a comprehension with two fors and an if -/
theorem loop1 (J : Nat → Shared → Prop)
    (turn : ∀ n s, J n s → wpAny (model prog w) A (pyNext it) (fun r s₁ => match r with
      | none => R (.ok .next) s₁
      | some v => wpAny (model prog w) A (assign t1 env v) (fun _ s₂ => wpAny (model prog w) A (isTrue c1 env (eval c1 env)) (fun ok s₃ =>
          if ok = true then wpAny (model prog w) A (eval elt env) (fun x s₄ => wpAny (model prog w) A (call (.builtin "list.append") [acc, x]) (fun _ s₅ => ∃ m, m < n ∧ J m s₅) (fun _ _ => False) s₄) (fun _ _ => False) s₃
          else ∃ m, m < n ∧ J m s₃) (fun _ _ => False) s₂) (fun _ _ => False) s₁) (fun _ _ => False) s)
    (n : Nat) (h : J n s) (ht : ∀ v, letOwnedTupleGo t1 it v = pure () := by intro _; rfl) : codeAny (model prog w) A (.compLoop (e2 elt t0 i0 t1 i1 c1 scope pos) 1 it acc env) R s := by
  refine codeAny_loop rfl J (fun n s hJ => ?_) n h
  show wpAny _ A ((compTurn (e2 elt t0 i0 t1 i1 c1 scope pos) 1 it acc env).onRaise (fun x => do noteFrame x env; theTreesLotGoes x)) _ _ s
  refine onRaiseF ?_
  rw [turn1]
  refine wpAny_bind (wpAny_standAt (wpAny_bind (wpAny_mono (turn n s hJ) (fun r s₁ h₁ => ?_) fun _ _ h' => h')))
  cases r with
  | none => exact wpAny_pure h₁
  | some v =>
    refine wpAny_bind (wpAny_of_eq (ht v) ?_)
    refine wpAny_bind (wpAny_mono h₁ (fun _ s₂ h₂ => wpAny_bind (wpAny_tests_one (wpAny_mono h₂ (fun ok s₃ h₃ => ?_) fun _ _ h' => h'))) fun _ _ h' => h')
    cases ok with
    | false => exact wpAny_pure ⟨rfl, h₃⟩
    | true => exact wpAny_bind (wpAny_bind (wpAny_mono h₃ (fun x s₄ h₄ => wpAny_bind (wpAny_mono h₄ (fun _ s₅ h₅ => wpAny_pure (wpAny_pure ⟨rfl, h₅⟩)) fun _ _ h' => h')) fun _ _ h' => h'))
theorem start1 (h0 : codeAny (model prog w) A (.compLoop (e2 elt t0 i0 t1 i1 c1 scope pos) 1 it acc env) R s)
    (h : wpAny (model prog w) A (pyIter it) (fun it' s' => codeAny (model prog w) A (.compLoop (e2 elt t0 i0 t1 i1 c1 scope pos) 1 it' acc env) R s') (fun _ _ => False) s) :
    codeAny (model prog w) A (.compStart (e2 elt t0 i0 t1 i1 c1 scope pos) 1 it acc env) R s := by
  refine codeAny_of_tree ?_
  show wpAny _ _ ((compStart (e2 elt t0 i0 t1 i1 c1 scope pos) 1 it acc env).onRaise (fun x => do noteFrame x env; standAt theWindowsPlace)) _ _ s
  refine onRaiseF ?_
  unfold compStart
  show wpAny _ _ (ask >>= _) _ _ s
  refine wpAny_bind (wpAny_askSetting (wpAny_ite ?_))
  split
  · first
      | exact wpAny_bind (wpAny_pure (wpAny_pure (And.intro rfl h0)))
      | exact wpAny_pure (And.intro rfl h0)
  · first
      | exact wpAny_bind (wpAny_rule (wpAny_bind (wpAny_standAt (wpAny_bind (wpAny_mono h (fun it' s' h' => wpAny_pure (And.intro rfl h')) fun _ _ x => x)))))
      | exact wpAny_rule (wpAny_bind (wpAny_standAt (wpAny_bind (wpAny_mono h (fun it' s' h' => wpAny_pure (And.intro rfl h')) fun _ _ x => x))))
/-- the outer loop -/
theorem loop0 (J : Nat → Shared → Prop)
    (turn : ∀ n s, J n s → wpAny (model prog w) A (pyNext it) (fun r s₁ => match r with
      | none => R (.ok .next) s₁
      | some v => wpAny (model prog w) A (assign t0 env v) (fun _ s₂ => wpAny (model prog w) A (eval i1 env) (fun x s₃ => wpAny (model prog w) A (pyIter x) (fun it' s₄ =>
          codeAny (model prog w) A (.compStart (e2 elt t0 i0 t1 i1 c1 scope pos) 1 it' acc env) (fun r s₅ => r = .ok .next ∧ ∃ m, m < n ∧ J m s₅) s₄) (fun _ _ => False) s₃) (fun _ _ => False) s₂) (fun _ _ => False) s₁) (fun _ _ => False) s)
    (n : Nat) (h : J n s) (ht : ∀ v, letOwnedTupleGo t0 it v = pure () := by intro _; rfl) (hs : ∀ x, foldedSetIterable i1 env x = pure x := by intro _; rfl) :
    codeAny (model prog w) A (.compLoop (e2 elt t0 i0 t1 i1 c1 scope pos) 0 it acc env) R s := by
  refine codeAny_loop rfl J (fun n s hJ => ?_) n h
  show wpAny _ A ((compTurn (e2 elt t0 i0 t1 i1 c1 scope pos) 0 it acc env).onRaise (fun x => do noteFrame x env; theTreesLotGoes x)) _ _ s
  refine onRaiseF ?_
  rw [turn0]
  refine wpAny_bind (wpAny_standAt (wpAny_bind (wpAny_mono (turn n s hJ) (fun r s₁ h₁ => ?_) fun _ _ h' => h')))
  cases r with
  | none => exact wpAny_pure h₁
  | some v =>
    refine wpAny_bind (wpAny_of_eq (ht v) ?_)
    refine wpAny_bind (wpAny_mono h₁ (fun _ s₂ h₂ => wpAny_bind (wpAny_mono h₂ (fun x s₃ h₃ => ?_) fun _ _ h' => h')) fun _ _ h' => h')
    refine wpAny_bind (wpAny_standAt (wpAny_bind (wpAny_of_eq (hs x) (wpAny_bind (wpAny_holding (wpAny_mono h₃ (fun it' s₄ h₄ => ?_) fun _ _ h' => h'))))))
    unfold runOwn
    refine wpAny_bind (onRaiseF (wpAny_run (codeAny_mono h₄ fun r s₅ h₅ => ?_) (by intro x; cases x)))
    obtain ⟨rfl, h₅⟩ := h₅
    exact wpAny_pure ⟨rfl, h₅⟩
end
end Mine
end
/- Comp3 -/
section
open PySem PySem.W PySem.Calls PyProof.Rows PyProof.Rows.LCg
namespace Mine
section
variable {prog : Program} {w : World} {A : Around} {s : Shared} {h₀ : Heap} {L : Addr} {m : Str → Option Value} {env : Env} {elt i0 i1 c1 : PySem.Expr} {x0 x1 : Str} {p0 p1 : Pos} {scope : Scope} {cl : List (Str × Addr)} {pos : Pos} {news : List (Addr × Obj)} {J : Nat → Nat → List Value → Prop}
/-- one inner turn of a comprehension over two ranges of three with a test -/
def Step2 (prog : Program) (w : World) (A : Around) (h₀ : Heap) (L : Addr) (m : Str → Option Value) (env : Env) (elt c1 : PySem.Expr) (x0 x1 : Str) (scope : Scope) (cl : List (Str × Addr)) (s : Shared) (news : List (Addr × Obj)) (J : Nat → Nat → List Value → Prop) : Prop :=
  ∀ (i j : Nat) (ys : List Value), i < 3 → j < 3 → J i j ys → ∀ (I : Addr) (oI : Obj) (I0 : Addr) (oI0 : Obj) (C : Addr) (oC : Obj) (D : Addr) (m₂ : Str → Option Value) (h : Heap) (tk : Nat) (t0 t1 : Tok), NsObj oC m₂ → m₂ x0 = some (.int ((i : Nat) : Int) t0) → m₂ x1 = some (.int ((j : Nat) : Int) t1) →
    Fr h₀ L h m → News h₀ L h ((I, oI) :: (C, oC) :: (D, lst ys) :: (I0, oI0) :: news) → Off3 I C D ((I0, oI0) :: news) → ((@Ne Nat I C) ∧ (@Ne Nat I D) ∧ (@Ne Nat C D)) →
    wpAny (model prog w) A (isTrue c1 (compEnvC scope cl C env) (eval c1 (compEnvC scope cl C env))) (fun ok s' => if ok = true then
        wpAny (model prog w) A (eval elt (compEnvC scope cl C env)) (CompEnd h₀ L m { s with heap := h, toks := tk } I oI C oC D (lst ys) (fun nw => ∀ p ∈ (I0, oI0) :: news, p ∈ nw) (fun y _ => J i (j + 1) (ys ++ [y]))) (fun _ _ => False) s'
      else CompEnd h₀ L m { s with heap := h, toks := tk } I oI C oC D (lst ys) (fun nw => ∀ p ∈ (I0, oI0) :: news, p ∈ nw) (fun _ _ => J i (j + 1) ys) Value.none s') (fun _ _ => False) { s with heap := h, toks := tk }
/-- the inner source: range(3), made anew each outer turn -/
def Rng2 (h₀ : Heap) (L : Addr) (m : Str → Option Value) (s : Shared) (all : List (Addr × Obj)) (x : Value) (s' : Shared) : Prop :=
  ∃ r t u v h' tk', x = .ref r ∧ s' = { s with heap := h', toks := tk' } ∧ IsRange h' r 0 ((3 : Nat) : Int) 1 t u v ∧ Fr h₀ L h' m ∧ News h₀ L h' all
def Row2 (prog : Program) (w : World) (A : Around) (h₀ : Heap) (L : Addr) (m : Str → Option Value) (env : Env) (i1 : PySem.Expr) (x0 : Str) (scope : Scope) (cl : List (Str × Addr)) (s : Shared) (news : List (Addr × Obj)) : Prop :=
  ∀ (i : Nat) (ys : List Value), i < 3 → ∀ (I0 : Addr) (oI0 : Obj) (C : Addr) (oC : Obj) (D : Addr) (m₂ : Str → Option Value) (h : Heap) (tk : Nat) (t0 : Tok), NsObj oC m₂ → m₂ x0 = some (.int ((i : Nat) : Int) t0) →
    Fr h₀ L h m → News h₀ L h ((I0, oI0) :: (C, oC) :: (D, lst ys) :: news) → Off3 I0 C D news → ((@Ne Nat I0 C) ∧ (@Ne Nat I0 D) ∧ (@Ne Nat C D)) →
    wpAny (model prog w) A (eval i1 (compEnvC scope cl C env)) (Rng2 h₀ L m s ((I0, oI0) :: (C, oC) :: (D, lst ys) :: news)) (fun _ _ => False) { s with heap := h, toks := tk }
theorem inner2 (hh : A.handled = none) (hkind : scope.kind = .function) (hx1 : scope.names.lookup x1 = some .local) (hx01 : x0 ≠ x1) (S2 : Step2 prog w A h₀ L m env elt c1 x0 x1 scope cl s news J) {i : Nat} (hi : i < 3) {I C D I0 : Addr} {oI0 : Obj} {t0 : Tok}
    (hIL : L ≠ I) (hI₀ : h₀.get? I = none) (hCL : C ≠ L) (hC₀ : h₀.get? C = none) (hDL : D ≠ L) (hD₀ : h₀.get? D = none) (hIC : I ≠ C) (hID : I ≠ D) (hCD : C ≠ D) (off : Off3 I C D ((I0, oI0) :: news)) {R : Result → Shared → Prop}
    (hR : ∀ h tk m' ys, Fr h₀ L h m → News h₀ L h ((D, lst ys) :: (I0, oI0) :: news) → h.Ns C m' → J i 3 ys → ys.length ≤ 3 * i + 3 → R (.ok .next) { s with heap := h, toks := tk })
    (h : Heap) (tk : Nat) (m' : Str → Option Value) (ys : List Value) (hit : IsRangeIter h I ((0 : Nat) : Int) ((3 : Nat) - ((0 : Nat) : Int)) 1) (F : Fr h₀ L h m) (hn : h.Ns C m') (hm : m' x0 = some (.int ((i : Nat) : Int) t0)) (N : News h₀ L h ((D, lst ys) :: (I0, oI0) :: news)) (hJ : J i 0 ys) (hl : ys.length ≤ 3 * i) :
    codeAny (model prog w) A (.compLoop (e2 elt (.Name x0 p0) i0 (.Name x1 p1) i1 c1 scope pos) 1 (.ref I) (.ref D) (compEnvC scope cl C env)) R { s with heap := h, toks := tk } := by
  have off3 := off.mem
  refine loop1 (fun k s' => ∃ h tk j m' ys, s' = { s with heap := h, toks := tk } ∧ j ≤ 3 ∧ k = 3 - j ∧ IsRangeIter h I ((j : Nat) : Int) ((3 : Nat) - ((j : Nat) : Int)) 1 ∧ Fr h₀ L h m ∧ h.Ns C m' ∧ m' x0 = some (.int ((i : Nat) : Int) t0) ∧ News h₀ L h ((D, lst ys) :: (I0, oI0) :: news) ∧ J i j ys ∧ ys.length ≤ 3 * i + j) ?_ 3
    ⟨h, tk, 0, m', ys, rfl, by omega, rfl, hit, F, hn, hm, N, hJ, hl⟩
  rintro k s' ⟨h, tk, j, m', ys, rfl, hj, rfl, hit, F, hn, hm, N, hJ, hl⟩
  have N₀ : News h₀ L h ((I0, oI0) :: news) := fun p hp => N p (.tail _ hp)
  rcases Nat.lt_or_ge j 3 with hlt | hge
  · refine wpAny_pyNext_range_item hit (by omega) fun h₂ hit₂ k₂ => ?_
    have hk : ∀ b o, b ∉ [I] → h.get? b = some o → h₂.get? b = some o := fun b o hb e => k₂.extBut b o (by simpa using hb) e
    have e1 : ((j : Nat) : Int) + 1 = ((j + 1 : Nat) : Int) := by omega
    have e2 : ((3 : Nat) : Int) - (j : Nat) - 1 = ((3 : Nat) : Int) - ((j + 1 : Nat) : Nat) := by omega
    rw [e1, e2] at hit₂
    refine wpAny_assign_Name (wpAny_storeName_local (lookup_relabel_local hx1) (hn.at' fun o e => hk _ o (by simpa using Ne.symm hIC) e) (fun h₃ hn₃ hs₃ => ?_) (by simp [compEnvC, relabel, hkind]))
    have heI : h₃.get? I = some _ := hs₃.extBut _ _ hIC hit₂
    obtain ⟨oC, heC, hoC⟩ := ns_obj hn₃
    have F₃ : Fr h₀ L h₃ m := (fr_but F hk hIL hI₀).change hs₃ hCL hC₀
    have N₂ : News h₀ L h₂ ((D, lst ys) :: (I0, oI0) :: news) := news_but N hk fun p hp => by
      rcases List.mem_cons.mp hp with rfl | hp
      · exact Ne.symm hID
      · exact (off3 p hp).1
    have N₃ : News h₀ L h₃ ((I, _) :: (C, oC) :: (D, lst ys) :: (I0, oI0) :: news) := fun p hp => by
      rcases List.mem_cons.mp hp with rfl | hp
      · exact ⟨heI, Ne.symm hIL, hI₀⟩
      · rcases List.mem_cons.mp hp with rfl | hp
        · exact ⟨heC, hCL, hC₀⟩
        · have z := N₂ p hp
          refine ⟨hs₃.extBut _ _ ?_ z.1, z.2⟩
          rcases List.mem_cons.mp hp with rfl | hp
          · exact Ne.symm hCD
          · exact (off3 p hp).2.1
    refine wpAny_mono (S2 i j ys hi hlt hJ I _ I0 oI0 C oC D _ h₃ _ t0 tk hoC (by simp [hx01, hm]) (by simp) F₃ N₃ off ⟨hIC, hID, hCD⟩) (fun ok s₄ h₄ => ?_) fun _ _ e => e
    cases ok with
    | true =>
      simp only [if_true] at h₄ ⊢
      refine wpAny_mono h₄ (fun y s₅ h₅ => ?_) fun _ _ e => e
      obtain ⟨h₄, tk₄, news₄, rfl, F₄, N₄, off₄, hS₄, J₄⟩ := h₅
      have zI := (N₄ (I, _) (.head _)).1
      have zC := (N₄ (C, oC) (.tail _ (.head _))).1
      have zD := (N₄ (D, lst ys) (.tail _ (.tail _ (.head _)))).1
      have N₄' : News h₀ L h₄ news₄ := fun p hp => N₄ p (.tail _ (.tail _ (.tail _ hp)))
      refine append_at (hsz := by show ys.toArray.size ≤ sizeLine; rw [List.size_toArray, sizeLine_eq]; omega) zD fun h₅ hs₅ hD₅ => ?_
      refine ⟨3 - (j + 1), by omega, h₅, tk₄, j + 1, _, ys ++ [y], rfl, hlt, rfl, hs₅.extBut _ _ hID zI, F₄.change hs₅ hDL hD₀, (hoC.ns zC).sameBut hs₅ hCD, by simp [hx01, hm], fun p hp => ?_, J₄, by rw [List.length_append, List.length_singleton]; omega⟩
      rcases List.mem_cons.mp hp with rfl | hp
      · exact ⟨hD₅.trans (congrArg some (lst_snoc ys y)), hDL, hD₀⟩
      · have hp' := hS₄ p hp
        exact ⟨hs₅.extBut _ _ (off₄.mem p hp').2.2 (N₄' p hp').1, (N₄' p hp').2⟩
    | false =>
      simp only [Bool.false_eq_true, if_false] at h₄ ⊢
      obtain ⟨h₄, tk₄, news₄, rfl, F₄, N₄, off₄, hS₄, J₄⟩ := h₄
      have zI := (N₄ (I, _) (.head _)).1
      have zC := (N₄ (C, oC) (.tail _ (.head _))).1
      have N₄' : News h₀ L h₄ news₄ := fun p hp => N₄ p (.tail _ (.tail _ (.tail _ hp)))
      refine ⟨3 - (j + 1), by omega, h₄, tk₄, j + 1, _, ys, rfl, hlt, rfl, zI, F₄, hoC.ns zC, by simp [hx01, hm], fun p hp => ?_, J₄, by omega⟩
      rcases List.mem_cons.mp hp with rfl | hp
      · exact N₄ _ (.tail _ (.tail _ (.head _)))
      · exact N₄' p (hS₄ p hp)
  · have e3 : j = 3 := by omega
    subst e3
    refine wpAny_pyNext_range_end hh hit (by omega) fun h₂ k₂ => ?_
    have hk : ∀ b o, b ∉ [I] → h.get? b = some o → h₂.get? b = some o := fun b o hb e => k₂ b o (by simpa using hb) e
    exact hR h₂ tk m' ys (fr_but F hk hIL hI₀) (news_but N hk fun p hp => by
      rcases List.mem_cons.mp hp with rfl | hp
      · exact Ne.symm hID
      · exact (off3 p hp).1) (hn.at' fun o e => hk _ o (by simpa using Ne.symm hIC) e) hJ hl
theorem outer2 (hh : A.handled = none) (hkind : scope.kind = .function) (hx0 : scope.names.lookup x0 = some .local) (hx1 : scope.names.lookup x1 = some .local) (hx01 : x0 ≠ x1) (S2 : Step2 prog w A h₀ L m env elt c1 x0 x1 scope cl s news J) (R2 : Row2 prog w A h₀ L m env i1 x0 scope cl s news)
    (hJn : ∀ i ys, i < 3 → J i 3 ys → J (i + 1) 0 ys) (hs1 : ∀ e x, foldedSetIterable i1 e x = pure x) {I0 C D : Addr}
    (hIL : L ≠ I0) (hI₀ : h₀.get? I0 = none) (hCL : C ≠ L) (hC₀ : h₀.get? C = none) (hDL : D ≠ L) (hD₀ : h₀.get? D = none) (hIC : I0 ≠ C) (hID : I0 ≠ D) (hCD : C ≠ D) (off : Off3 I0 C D news) {R : Result → Shared → Prop}
    (hR : ∀ h tk m' ys, Fr h₀ L h m → News h₀ L h ((D, lst ys) :: news) → h.Ns C m' → J 3 0 ys → R (.ok .next) { s with heap := h, toks := tk })
    (h : Heap) (tk : Nat) (m' : Str → Option Value) (ys : List Value) (hit : IsRangeIter h I0 ((0 : Nat) : Int) ((3 : Nat) - ((0 : Nat) : Int)) 1) (F : Fr h₀ L h m) (hn : h.Ns C m') (N : News h₀ L h ((D, lst ys) :: news)) (hJ : J 0 0 ys) (hl : ys.length ≤ 0) :
    codeAny (model prog w) A (.compLoop (e2 elt (.Name x0 p0) i0 (.Name x1 p1) i1 c1 scope pos) 0 (.ref I0) (.ref D) (compEnvC scope cl C env)) R { s with heap := h, toks := tk } := by
  have off3 := off.mem
  refine loop0 (fun k s' => ∃ h tk i m' ys, s' = { s with heap := h, toks := tk } ∧ i ≤ 3 ∧ k = 3 - i ∧ IsRangeIter h I0 ((i : Nat) : Int) ((3 : Nat) - ((i : Nat) : Int)) 1 ∧ Fr h₀ L h m ∧ h.Ns C m' ∧ News h₀ L h ((D, lst ys) :: news) ∧ J i 0 ys ∧ ys.length ≤ 3 * i) ?_ 3
    ⟨h, tk, 0, m', ys, rfl, by omega, rfl, hit, F, hn, N, hJ, by omega⟩ (hs := fun x => hs1 _ x)
  rintro k s' ⟨h, tk, i, m', ys, rfl, hj, rfl, hit, F, hn, N, hJ, hl⟩
  have N₀ : News h₀ L h news := fun p hp => N p (.tail _ hp)
  rcases Nat.lt_or_ge i 3 with hlt | hge
  · refine wpAny_pyNext_range_item hit (by omega) fun h₂ hit₂ k₂ => ?_
    have hk : ∀ b o, b ∉ [I0] → h.get? b = some o → h₂.get? b = some o := fun b o hb e => k₂.extBut b o (by simpa using hb) e
    have e1 : ((i : Nat) : Int) + 1 = ((i + 1 : Nat) : Int) := by omega
    have e2 : ((3 : Nat) : Int) - (i : Nat) - 1 = ((3 : Nat) : Int) - ((i + 1 : Nat) : Nat) := by omega
    rw [e1, e2] at hit₂
    refine wpAny_assign_Name (wpAny_storeName_local (lookup_relabel_local hx0) (hn.at' fun o e => hk _ o (by simpa using Ne.symm hIC) e) (fun h₃ hn₃ hs₃ => ?_) (by simp [compEnvC, relabel, hkind]))
    have heI : h₃.get? I0 = some _ := hs₃.extBut _ _ hIC hit₂
    obtain ⟨oC, heC, hoC⟩ := ns_obj hn₃
    have F₃ : Fr h₀ L h₃ m := (fr_but F hk hIL hI₀).change hs₃ hCL hC₀
    have N₂ : News h₀ L h₂ ((D, lst ys) :: news) := news_but N hk fun p hp => by
      rcases List.mem_cons.mp hp with rfl | hp
      · exact Ne.symm hID
      · exact (off3 p hp).1
    have N₃ : News h₀ L h₃ ((I0, _) :: (C, oC) :: (D, lst ys) :: news) := fun p hp => by
      rcases List.mem_cons.mp hp with rfl | hp
      · exact ⟨heI, Ne.symm hIL, hI₀⟩
      · rcases List.mem_cons.mp hp with rfl | hp
        · exact ⟨heC, hCL, hC₀⟩
        · have z := N₂ p hp
          refine ⟨hs₃.extBut _ _ ?_ z.1, z.2⟩
          rcases List.mem_cons.mp hp with rfl | hp
          · exact Ne.symm hCD
          · exact (off3 p hp).2.1
    refine wpAny_mono (R2 i ys hlt I0 _ C oC D _ h₃ _ tk hoC (by simp) F₃ N₃ off ⟨hIC, hID, hCD⟩) (fun x s₄ h₄ => ?_) fun _ _ e => e
    obtain ⟨r, t, u, v, h₄, tk₄, rfl, rfl, hr, F₄, N₄⟩ := h₄
    refine wpAny_pyIter_range (b := ((3 : Nat) : Int)) hr (by decide) ?_
    have hsz : Builtin.Range.rangeSize 0 ((3 : Nat) : Int) 1 = 3 := by decide
    have gone : h₀.get? h₄.objs.size = none := by
      cases e : h₀.get? h₄.objs.size with
      | none => rfl
      | some o' => exact absurd (Heap.lt_size (F₄.keep _ o' e)) (Nat.lt_irrefl _)
    have far : ∀ p ∈ (I0, _) :: (C, oC) :: (D, lst ys) :: news, p.1 < h₄.objs.size := fun p hp => Heap.lt_size (N₄ p hp).1
    have up : ∀ {o' : Obj} b o, h₄.get? b = some o → (h₄.push o').get? b = some o := fun b o e => Heap.get?_push_of_some _ e
    have off' : Off3 h₄.objs.size C D ((I0, _) :: news) := Off3.of fun p hp => by
      rcases List.mem_cons.mp hp with rfl | hp
      · exact ⟨Nat.ne_of_lt (far _ (.head _)), hIC, hID⟩
      · exact ⟨Nat.ne_of_lt (far _ (.tail _ (.tail _ (.tail _ hp)))), (off3 p hp).2⟩
    have hnC : (h₄.push { cls := .type "range_iterator", data := .fields #[rawInt 0, rawInt (Builtin.Range.rangeSize 0 ((3 : Nat) : Int) 1), rawInt 1] }).Ns C _ := hoC.ns (up _ _ (N₄ (C, oC) (.tail _ (.head _))).1)
    have lp := inner2 (elt := elt) (i0 := i0) (i1 := i1) (c1 := c1) (p0 := p0) (p1 := p1) (pos := pos) (t0 := tk) hh hkind hx1 hx01 S2 hlt (I := h₄.objs.size) (Ne.symm (Nat.ne_of_gt F₄.ns.lt)) gone hCL hC₀ hDL hD₀ (Nat.ne_of_gt (far _ (.tail _ (.head _)))) (Nat.ne_of_gt (far _ (.tail _ (.tail _ (.head _))))) hCD off'
      (R := fun r s₅ => r = .ok .next ∧ ∃ k, k < 3 - i ∧ ∃ h tk i m' ys, s₅ = { s with heap := h, toks := tk } ∧ i ≤ 3 ∧ k = 3 - i ∧ IsRangeIter h I0 ((i : Nat) : Int) ((3 : Nat) - ((i : Nat) : Int)) 1 ∧ Fr h₀ L h m ∧ h.Ns C m' ∧ News h₀ L h ((D, lst ys) :: news) ∧ J i 0 ys ∧ ys.length ≤ 3 * i)
      (fun h₅ tk₅ m₅ ys₅ F₅ N₅ hn₅ J₅ l₅ => ⟨rfl, 3 - (i + 1), by omega, h₅, tk₅, i + 1, m₅, ys₅, rfl, by omega, rfl, (N₅ (I0, _) (.tail _ (.head _))).1, F₅, hn₅, fun p hp => by
        rcases List.mem_cons.mp hp with rfl | hp
        · exact N₅ _ (.head _)
        · exact N₅ p (.tail _ (.tail _ hp)), hJn i ys₅ hlt J₅, by omega⟩)
      (h₄.push { cls := .type "range_iterator", data := .fields #[rawInt 0, rawInt (Builtin.Range.rangeSize 0 ((3 : Nat) : Int) 1), rawInt 1] }) tk₄ _ ys (by
        show (h₄.push _).get? _ = _
        rw [Heap.get?_push_size _ rfl, hsz]; rfl) (F₄.push _) hnC (by simp) (fun p hp => by
        rcases List.mem_cons.mp hp with rfl | hp
        · exact ⟨up _ _ (N₄ _ (.tail _ (.tail _ (.head _)))).1, (N₄ (D, lst ys) (.tail _ (.tail _ (.head _)))).2⟩
        · rcases List.mem_cons.mp hp with rfl | hp
          · exact ⟨up _ _ (N₄ _ (.head _)).1, (N₄ (I0, _) (.head _)).2⟩
          · exact ⟨up _ _ (N₄ _ (.tail _ (.tail _ (.tail _ hp)))).1, (N₄ p (.tail _ (.tail _ (.tail _ hp)))).2⟩) hJ hl
    refine start1 lp (wpAny_pyIter_rangeiter (x := 0) (left := 3) (step := 1) ?_ lp)
    show (h₄.push _).get? _ = _
    rw [Heap.get?_push_size _ rfl, hsz]
  · have e3 : i = 3 := by omega
    subst e3
    refine wpAny_pyNext_range_end hh hit (by omega) fun h₂ k₂ => ?_
    have hk : ∀ b o, b ∉ [I0] → h.get? b = some o → h₂.get? b = some o := fun b o hb e => k₂ b o (by simpa using hb) e
    exact hR h₂ tk m' ys (fr_but F hk hIL hI₀) (news_but N hk fun p hp => by
      rcases List.mem_cons.mp hp with rfl | hp
      · exact Ne.symm hID
      · exact (off3 p hp).1) (hn.at' fun o e => hk _ o (by simpa using Ne.symm hIC) e) hJ
theorem start0 {it acc : Value} {env : Env} {R : Result → Shared → Prop} {t0 t1 : PySem.Expr} (h0 : codeAny (model prog w) A (.compLoop (e2 elt t0 i0 t1 i1 c1 scope pos) 0 it acc env) R s)
    (h : wpAny (model prog w) A (pyIter it) (fun it' s' => codeAny (model prog w) A (.compLoop (e2 elt t0 i0 t1 i1 c1 scope pos) 0 it' acc env) R s') (fun _ _ => False) s) :
    codeAny (model prog w) A (.compStart (e2 elt t0 i0 t1 i1 c1 scope pos) 0 it acc env) R s := by
  refine codeAny_of_tree ?_
  show wpAny _ _ ((compStart (e2 elt t0 i0 t1 i1 c1 scope pos) 0 it acc env).onRaise (fun x => do noteFrame x env; standAt theWindowsPlace)) _ _ s
  refine onRaiseF ?_
  unfold compStart
  show wpAny _ _ (ask >>= _) _ _ s
  refine wpAny_bind (wpAny_askSetting (wpAny_ite ?_))
  split
  · first
      | exact wpAny_bind (wpAny_pure (wpAny_pure (And.intro rfl h0)))
      | exact wpAny_pure (And.intro rfl h0)
  · first
      | exact wpAny_bind (wpAny_rule (wpAny_bind (wpAny_standAt (wpAny_bind (wpAny_mono h (fun it' s' h' => wpAny_pure (And.intro rfl h')) fun _ _ x => x)))))
      | exact wpAny_rule (wpAny_bind (wpAny_standAt (wpAny_bind (wpAny_mono h (fun it' s' h' => wpAny_pure (And.intro rfl h')) fun _ _ x => x))))
/-- the source of a comprehension over two ranges of three -/
def Src2 (prog : Program) (w : World) (A : Around) (h₀ : Heap) (L : Addr) (m : Str → Option Value) (env : Env) (elt c1 i1 : PySem.Expr) (x0 x1 : Str) (scope : Scope) (cl : List (Str × Addr)) (J : Nat → Nat → List Value → Prop) (Fin : Shared → List Value → List (Addr × Obj) → Prop) (xv : Value) (s₁ : Shared) : Prop :=
  ∃ r t u v news, xv = .ref r ∧ A.handled = none ∧ Fr h₀ L s₁.heap m ∧ News h₀ L s₁.heap news ∧ IsRange s₁.heap r 0 ((3 : Nat) : Int) 1 t u v ∧ J 0 0 [] ∧ (∀ i ys, i < 3 → J i 3 ys → J (i + 1) 0 ys) ∧
    ∀ g, Step2 prog w A h₀ L m env elt c1 x0 x1 scope cl { s₁ with heap := g } news J ∧ Row2 prog w A h₀ L m env i1 x0 scope cl { s₁ with heap := g } news ∧ ∀ ys, J 3 0 ys → Fin { s₁ with heap := g } ys news
theorem Assign_ListComp_2 {y : Str} {py spos : Pos} {Q : Flow → Shared → Prop} {E : Value → Shared → Prop} (J : Nat → Nat → List Value → Prop) (_F₀ : Fr h₀ L s.heap m) (hLe : env.locals = L)
    (hsw : swapsWith (e2 elt (.Name x0 p0) i0 (.Name x1 p1) i1 c1 scope pos) (some (.Name y py)) spos.line env = pure true)
    (hclos : closureFor scope env = pure cl) (hcell : ∀ z ∈ scope.names, z.2 ≠ .cell) (hkind : scope.kind = .function)
    (hnames : ∀ z ∈ scope.names, z.2 = .local → scope.names.lookup z.1 = some .local) (hx0 : scope.names.lookup x0 = some .local) (hx1 : scope.names.lookup x1 = some .local) (hx01 : x0 ≠ x1)
    (hy : env.kindOf y = some .local) (hp : (env.scope.kind == .class || (env.scope.kind == .module && env.locals != env.globals)) = false)
    (h : wpAny (model prog w) A (eval i0 env) (Src2 prog w A h₀ L m env elt c1 i1 x0 x1 scope cl J (fun s₂ => FinA h₀ L m s₂ y Q)) E s)
    (hs : ∀ x, foldedSetIterable i0 env x = pure x := by intro _; rfl) (hs1 : ∀ e x, foldedSetIterable i1 e x = pure x := by intro _ _; rfl) :
    wpAny (model prog w) A (exec (.Assign [.Name y py] (e2 elt (.Name x0 p0) i0 (.Name x1 p1) i1 c1 scope pos) spos) env) Q E s := by
  subst hLe
  rw [exec_Assign_Name_used _ _ _ _ hsw]
  refine wpAny_bind (wpAny_standAt (wpAny_bind ?_))
  show wpAny _ A (do let _ ← comprehension (e2 elt (.Name x0 p0) i0 (.Name x1 p1) i1 c1 scope pos) scope env _ (newList []) false (eval i0 env) (some (assign (.Name y py) env))) _ _ s
  refine wpAny_bind (wpAny_mono (wpAny_comprehension_free (use := some (assign (.Name y py) env)) (Q := fun _ s' => Q .next s') rfl hs hclos hkind hnames
    (wpAny_mono h (fun xv s₁ h₁ => ?_) fun _ _ e => e)) (fun _ s' hq => wpAny_pure (wpAny_pure hq)) fun _ _ e => e)
  obtain ⟨r, t, u, v, news, rfl, hh, F, N, hr, J0, hJn, T⟩ := h₁
  refine wpAny_pyIter_range (b := ((3 : Nat) : Int)) hr (by decide) ?_
  have hsz : Builtin.Range.rangeSize 0 ((3 : Nat) : Int) 1 = 3 := by decide
  rw [hsz]
  refine wpAny_newObj_type (wpAny_newFunctionEnv hcell (by intro y hy; simp at hy) (fun h₁ hns₁ hsb₁ => ?_) hkind)
  dsimp only at hns₁ hsb₁ ⊢
  generalize hH1 : s₁.heap.push { cls := .type "range_iterator", data := .fields #[rawInt 0, rawInt 3, rawInt 1] } = H1 at hns₁ hsb₁ ⊢
  generalize hH2 : H1.push { cls := .type "list", dict := none, data := .seq ([] : List Value).toArray } = H2 at hns₁ hsb₁ ⊢
  have e1 : H1.objs.size = s₁.heap.objs.size + 1 := by rw [← hH1, Heap.size_push]
  have e2 : H2.objs.size = s₁.heap.objs.size + 1 + 1 := by rw [← hH2, Heap.size_push, e1]
  have up1 : ∀ b o, s₁.heap.get? b = some o → H1.get? b = some o := fun b o e => by rw [← hH1]; exact Heap.get?_push_of_some _ e
  have up2 : ∀ b o, H1.get? b = some o → H2.get? b = some o := fun b o e => by rw [← hH2]; exact Heap.get?_push_of_some _ e
  have old : ∀ b o, s₁.heap.get? b = some o → h₁.get? b = some o := fun b o e => hsb₁.extBut b o (Nat.ne_of_lt (Nat.lt_of_lt_of_le (Heap.lt_size e) (by rw [e2]; omega))) (Heap.get?_push_of_some _ (up2 _ _ (up1 _ _ e)))
  have gone : ∀ a, s₁.heap.objs.size ≤ a → h₀.get? a = none := fun a ha => by
    cases e : h₀.get? a with
    | none => rfl
    | some o' => exact absurd (Heap.lt_size (F.keep a o' e)) (Nat.not_lt.mpr ha)
  have hL : env.locals < s₁.heap.objs.size := F.ns.lt
  have hI : h₁.get? s₁.heap.objs.size = some { cls := .type "range_iterator", data := .fields #[rawInt 0, rawInt 3, rawInt 1] } :=
    hsb₁.extBut _ _ (show s₁.heap.objs.size ≠ H2.objs.size by omega) (Heap.get?_push_of_some _ (up2 _ _ (by rw [← hH1]; exact Heap.get?_push_size _ rfl)))
  have hD : h₁.get? H1.objs.size = some (lst []) := hsb₁.extBut _ _ (show H1.objs.size ≠ H2.objs.size by omega) (Heap.get?_push_of_some _ (by rw [← hH2]; exact Heap.get?_push_size _ rfl))
  have lt1 : s₁.heap.objs.size < H1.objs.size := by omega
  have lt2 : s₁.heap.objs.size < H2.objs.size := by omega
  have lt3 : H1.objs.size < H2.objs.size := by omega
  have LI : env.locals ≠ s₁.heap.objs.size := Nat.ne_of_lt hL
  have LC : H2.objs.size ≠ env.locals := Nat.ne_of_gt (Nat.lt_trans hL lt2)
  have LD : H1.objs.size ≠ env.locals := Nat.ne_of_gt (Nat.lt_trans hL lt1)
  have far : ∀ p ∈ news, p.1 < s₁.heap.objs.size := fun p hp => Heap.lt_size (N p hp).1
  obtain ⟨S2, R2, fin⟩ := T H1
  have loop := outer2 (prog := prog) (w := w) (A := A) (R := compPost (model prog w) A E (some (assign (.Name y py) env)) (fun _ s' => Q .next s') (.ref H1.objs.size) H2.objs.size) (elt := elt) (i0 := i0) (i1 := i1) (c1 := c1) (p0 := p0) (p1 := p1) (pos := pos) (I0 := s₁.heap.objs.size) (C := H2.objs.size) (D := H1.objs.size)
      (s := { s₁ with heap := H1 }) hh hkind hx0 hx1 hx01 S2 R2 hJn hs1 LI (gone _ (Nat.le_refl _)) LC (gone _ (Nat.le_of_lt lt2)) LD (gone _ (Nat.le_of_lt lt1)) (Nat.ne_of_lt lt2) (Nat.ne_of_lt lt1) (Nat.ne_of_gt lt3)
      (Off3.of fun p hp => by have := far p hp; exact ⟨Nat.ne_of_lt this, Nat.ne_of_lt (Nat.lt_trans this lt2), Nat.ne_of_lt (Nat.lt_trans this lt1)⟩)
      (fun h tk m' ys F' N' hn J' => by
        show wpAny _ A (assign (.Name y py) env (.ref H1.objs.size)) _ _ _
        refine wpAny_assign_Name (wpAny_storeName_local hy F'.ns (fun h₂ hn₂ hs₂ => ?_) hp)
        have hL₀ : h₀.get? env.locals = none := Heap.get?_none_of_le F'.above
        have F₂ : Fr h₀ env.locals h₂ (fun z => if z = y then some (.ref H1.objs.size) else m z) := ⟨hn₂, fun b o e => hs₂.extBut b o (fun q => by rw [q, hL₀] at e; cases e) (F'.keep b o e), F'.above⟩
        have o1 : Off1 H1.objs.size news := (Off3.of (I := H1.objs.size) (C := H1.objs.size) fun p hp => by have := Nat.ne_of_lt (Nat.lt_trans (far p hp) lt1); exact ⟨this, this, this⟩).one
        refine ⟨m', hn.sameBut hs₂ LC, fun h'' hs'' => fin ys J' _ h'' _ (F₂.change hs'' LC (gone _ (Nat.le_of_lt lt2))) (fun p hp => ?_) o1⟩
        have z : h₂.get? p.1 = some p.2 := hs₂.extBut _ _ (N' p hp).2.1 (N' p hp).1
        refine ⟨hs''.extBut _ _ ?_ z, (N' p hp).2⟩
        rcases List.mem_cons.mp hp with rfl | hp
        · exact Nat.ne_of_lt lt3
        · exact Nat.ne_of_lt (Nat.lt_trans (far p hp) lt2))
      h₁ (s₁.toks + ([] : List (Str × Value)).length) _ [] hI (F.keeps old) hns₁ (fun p hp => by
        rcases List.mem_cons.mp hp with rfl | hp
        · exact ⟨hD, LD, gone _ (Nat.le_of_lt lt1)⟩
        · exact ⟨old _ _ (N p hp).1, (N p hp).2⟩) J0 (Nat.le_refl _)
  exact start0 loop (wpAny_pyIter_rangeiter (x := 0) (left := 3) (step := 1) hI loop)
end
end Mine
end
/- POv -/
section
namespace Mine
def sN (a b c l : Nat) : Nat := max a l + max b l + max c l
theorem by3 {P : Nat → Nat → Nat → Prop} (h12 : ∀ x y z, P x y z → P y x z) (h23 : ∀ x y z, P x y z → P x z y) (hs : ∀ x y z, z ≤ y → y ≤ x → P x y z) (x y z : Nat) : P x y z := by
  rcases Nat.le_total x y with h1 | h1 <;> rcases Nat.le_total y z with h2 | h2
  · exact h12 _ _ _ (h23 _ _ _ (h12 _ _ _ (hs z y x h1 h2)))
  · rcases Nat.le_total x z with h3 | h3
    · exact h12 _ _ _ (h23 _ _ _ (hs y z x h3 h2))
    · exact h12 _ _ _ (hs y x z h3 h1)
  · rcases Nat.le_total x z with h3 | h3
    · exact h23 _ _ _ (h12 _ _ _ (hs z x y h1 h3))
    · exact h23 _ _ _ (hs x z y h2 h3)
  · exact hs x y z h2 h1
theorem sN_swap12 (a b c l : Nat) : sN a b c l = sN b a c l := by unfold sN; rw [Nat.add_comm (max a l)]
theorem sN_swap23 (a b c l : Nat) : sN a b c l = sN a c b l := by unfold sN; rw [Nat.add_right_comm]
theorem sum_up {P Q R X : Nat} (h1 : R ≤ Q) (h2 : Q ≤ P) : (¬ X + X + X < sN P Q R X) ↔ P ≤ X := by
  unfold sN
  constructor
  · intro h
    rcases Nat.lt_or_ge X P with g | g
    rotate_left
    · exact g
    · rw [Nat.max_eq_left (Nat.le_of_lt g)] at h
      exact absurd (Nat.add_lt_add_of_lt_of_le (Nat.add_lt_add_of_lt_of_le g (Nat.le_max_right _ _)) (Nat.le_max_right _ _)) h
  · intro h
    rw [Nat.max_eq_right h, Nat.max_eq_right (Nat.le_trans h2 h), Nat.max_eq_right (Nat.le_trans h1 (Nat.le_trans h2 h))]
    exact Nat.lt_irrefl _
theorem sum_low {P Q R Z : Nat} (h1 : R ≤ Q) (h2 : Q ≤ P) : (¬ P + Q + R < sN P Q R Z) ↔ Z ≤ R := by
  unfold sN
  constructor
  · intro h
    rcases Nat.lt_or_ge R Z with g | g
    rotate_left
    · exact g
    · rw [Nat.max_eq_right (Nat.le_of_lt g)] at h
      exact absurd (Nat.add_lt_add_of_le_of_lt (Nat.add_le_add (Nat.le_max_left _ _) (Nat.le_max_left _ _)) g) h
  · intro h
    rw [Nat.max_eq_left h, Nat.max_eq_left (Nat.le_trans h h1), Nat.max_eq_left (Nat.le_trans h (Nat.le_trans h1 h2))]
    exact Nat.lt_irrefl _
theorem sN_2 {X Y Z P Q R : Nat} (h3 : Z ≤ Y) (h4 : Y ≤ X) (h1 : R ≤ Q) (h2 : Q ≤ P) (hs : X + Y + Z = P + Q + R) (a : P ≤ X) (b : Z ≤ R) : ¬ X + Y + Y < sN P Q R Y := by
  unfold sN
  rcases Nat.le_total Y R with g | g
  · rw [Nat.max_eq_left g, Nat.max_eq_left (Nat.le_trans g h1), Nat.max_eq_left (Nat.le_trans g (Nat.le_trans h1 h2)), ← hs]
    exact Nat.not_lt.mpr (Nat.add_le_add_left h3 _)
  · rw [Nat.max_eq_right g]
    rcases Nat.le_total Y Q with k | k
    · rw [Nat.max_eq_left k, Nat.max_eq_left (Nat.le_trans k h2)]
      omega
    · rw [Nat.max_eq_right k]
      have : max P Y ≤ X := Nat.max_le.mpr ⟨a, h4⟩
      exact Nat.not_lt.mpr (Nat.add_le_add_right (Nat.add_le_add_right this _) _)
/-- the sums at every level of the first row against the greatest and the least -/
theorem ov_iff {x y z p q r : Nat} : x + y + z = p + q + r →
    ((¬ sN x y z x < sN p q r x ∧ ¬ sN x y z y < sN p q r y ∧ ¬ sN x y z z < sN p q r z) ↔ (max (max p q) r ≤ max (max x y) z ∧ min (min x y) z ≤ min (min p q) r)) := by
  refine by3 (P := fun x y z => x + y + z = p + q + r → ((¬ sN x y z x < sN p q r x ∧ ¬ sN x y z y < sN p q r y ∧ ¬ sN x y z z < sN p q r z) ↔ (max (max p q) r ≤ max (max x y) z ∧ min (min x y) z ≤ min (min p q) r))) ?_ ?_ ?_ x y z
  · intro x y z h hs
    simp only [sN_swap12 y x, Nat.max_comm y x, Nat.min_comm y x]
    rw [← h (by rw [← hs, Nat.add_comm x])]
    exact and_left_comm
  · intro x y z h hs
    simp only [sN_swap23 x z y]
    rw [show max (max x z) y = max (max x y) z from Nat.max_right_comm .., show min (min x z) y = min (min x y) z from Nat.min_right_comm .., ← h (by rw [← hs, Nat.add_right_comm])]
    exact and_congr_right fun _ => and_comm
  · intro X Y Z h3 h4
    refine by3 (P := fun p q r => X + Y + Z = p + q + r → ((¬ sN X Y Z X < sN p q r X ∧ ¬ sN X Y Z Y < sN p q r Y ∧ ¬ sN X Y Z Z < sN p q r Z) ↔ (max (max p q) r ≤ max (max X Y) Z ∧ min (min X Y) Z ≤ min (min p q) r))) ?_ ?_ ?_ p q r
    · intro p q r h hs
      simp only [sN_swap12 q p, Nat.max_comm q p, Nat.min_comm q p]
      exact h (by rw [hs, Nat.add_comm q])
    · intro p q r h hs
      simp only [sN_swap23 p r q]
      rw [show max (max p r) q = max (max p q) r from Nat.max_right_comm .., show min (min p r) q = min (min p q) r from Nat.min_right_comm ..]
      exact h (by rw [hs, Nat.add_right_comm])
    · intro P Q R h1 h2 hs
      have e1 : sN X Y Z X = X + X + X := by unfold sN; rw [Nat.max_self, Nat.max_eq_right h4, Nat.max_eq_right (Nat.le_trans h3 h4)]
      have e2 : sN X Y Z Y = X + Y + Y := by unfold sN; rw [Nat.max_eq_left h4, Nat.max_self, Nat.max_eq_right h3]
      have e3 : sN X Y Z Z = X + Y + Z := by unfold sN; rw [Nat.max_eq_left (Nat.le_trans h3 h4), Nat.max_eq_left h3, Nat.max_self]
      rw [e1, e2, e3, Nat.max_eq_left h2, Nat.max_eq_left (Nat.le_trans h1 h2), Nat.max_eq_left h4, Nat.max_eq_left (Nat.le_trans h3 h4), Nat.min_eq_right h4, Nat.min_eq_right h3, Nat.min_eq_right h2, Nat.min_eq_right h1, sum_up h1 h2, hs, sum_low h1 h2]
      exact ⟨fun h => ⟨h.1, h.2.2⟩, fun h => ⟨h.1, sN_2 h3 h4 h1 h2 hs h.1 h.2, h.2⟩⟩
end Mine
end
/- EqL -/
section
open PySem PySem.W PySem.Calls PyProof.Rows PyProof.V PySem.Spec PySem.SeqAt
namespace Mine
section
variable {prog : Program} {w : World} {A : Around} {E : Value → Shared → Prop} {s : Shared} {h : Heap}
theorem reads_tup {a : Addr} {vs : List Value} {ns : List Int} (hl : IsTup h a vs.toArray) (hi : IntsAre vs ns) : Reads h (.ref a) (.tuple (ns.map PyData.int)) [] := by
  obtain ⟨o, ho, hc, n, hd⟩ := hl
  exact Reads.tuple ho hc hd (by simpa using readsAll_of_ints hi)
theorem shaped_tup (ns : List Int) : shaped (.tuple (ns.map PyData.int)) = true := by
  have h1 := PySem.W.depthAll_ints ns
  have h2 : PyData.depth (.tuple (ns.map PyData.int)) ≤ 64 := by simp only [PyData.depth]; omega
  show (PyData.canLay0 (.tuple (ns.map PyData.int)) && decide (PyData.depth (.tuple (ns.map PyData.int)) ≤ 64)) = true
  rw [Bool.and_eq_true]
  exact ⟨by simp only [PyData.canLay0]; exact PySem.W.canLayAll0_ints ns, decide_eq_true h2⟩
/-- two tuples of the same whole numbers -/
theorem eq_tups {a b : Addr} {vs us : List Value} {ns : List Int} {Q : Value → Shared → Prop} (hl : IsTup s.heap a vs.toArray) (hi : IntsAre vs ns) (hl' : IsTup s.heap b us.toArray) (hi' : IntsAre us ns) (hu : A.units + 64 < cLine)
    (h : Q (.bool true) s) : wpAny (model prog w) A (compareOp .Eq (.ref a) (.ref b)) Q E s :=
  eq_dataH_same (reads_tup hl hi) (reads_tup hl' hi') (shaped_tup ns) (shaped_tup ns) hu (by simp only [noMix]; exact noMix_ints ns ns) (by simp only [PySem.Spec.same]; rw [same_ints, decide_eq_true rfl]; exact h)
/-- two lists of the same whole numbers -/
theorem eq_lists {a b : Addr} {vs us : List Value} {ns : List Int} {Q : Value → Shared → Prop} (hl : s.heap.IsList a vs.toArray) (hi : IntsAre vs ns) (hl' : s.heap.IsList b us.toArray) (hi' : IntsAre us ns) (hu : A.units + 64 < cLine)
    (h : Q (.bool true) s) : wpAny (model prog w) A (compareOp .Eq (.ref a) (.ref b)) Q E s :=
  eq_intsK hl hi hl' hi' hu (by rw [decide_eq_true rfl]; exact h)
end
end Mine
end
/- TSl -/
section
open PySem PySem.W PySem.Calls PyProof.Rows
namespace Mine
section
variable {prog : Program} {w : World} {A : Around} {E : Value → Shared → Prop} {s : Shared} {h₀ : Heap} {L : Addr} {m : Str → Option Value} {news : List (Addr × Obj)}
theorem applied4 {sl : Addr} {u : Tok} {Q : Int × Int × Nat → Shared → Prop} (hs : s.heap.IsSliceOf sl .none (.int 4 u) .none) (h : Q (0, 1, 4) s) :
    wpAny (model prog w) A (Builtin.Slice.sliceApplied (.ref sl) (pure 5)) Q E s := by
  obtain ⟨os, hos, hcs, hds⟩ := id hs
  unfold Builtin.Slice.sliceApplied Builtin.Slice.sliceFields
  refine wpAny_bind (wpAny_bind (wpAny_field hos hds (x := .none) rfl (wpAny_bind (wpAny_field hos hds (x := .int 4 u) rfl (wpAny_bind (wpAny_field hos hds (x := .none) rfl (wpAny_pure ?_)))))))
  refine wpAny_bind (slicePart_none ?_)
  show wpAny _ _ (if ((1 : Int) == 0) = true then _ else _) _ _ s
  rw [if_neg (by decide)]
  refine wpAny_bind (slicePart_none (wpAny_bind (slicePart_int (wpAny_bind (wpAny_pure ?_)))))
  show wpAny _ _ (match Builtin.Slice.sliceAdjust none (some (4 : Int)) 1 (5 : Int) with | (lo, hi) => pure (lo, (1 : Int), Builtin.Slice.slicePlaces lo hi 1)) _ _ s
  have e : Builtin.Slice.sliceAdjust none (some (4 : Int)) 1 (5 : Int) = (0, 4) := by decide +kernel
  rw [e]
  show wpAny _ _ (pure ((0 : Int), (1 : Int), Builtin.Slice.slicePlaces 0 4 1)) _ _ s
  have e2 : Builtin.Slice.slicePlaces 0 4 1 = 4 := by decide +kernel
  rw [e2]
  exact wpAny_pure h
theorem first4 (a b c d x : Value) : ((List.range 4).filterMap fun (k : Nat) => #[a, b, c, d, x][((0 : Int) + (k : Int) * 1).toNat]?).toArray = #[a, b, c, d] := rfl
/-- the first four of five -/
theorem getItem_first4 {t sl : Addr} {a b c d x : Value} {u : Tok} {Q : Value → Shared → Prop} (ht : IsTup s.heap t #[a, b, c, d, x]) (hs : s.heap.IsSliceOf sl .none (.int 4 u) .none)
    (h : Q (.ref s.heap.objs.size) { s with heap := s.heap.push { cls := .type "tuple", data := .seq #[a, b, c, d] } }) : wpAny (model prog w) A (getItem (.ref t) (.ref sl)) Q E s := by
  have hok : sizeOk (.seq #[a, b, c, d]) := by show 4 ≤ sizeLine; rw [sizeLine_eq]; decide
  obtain ⟨os, hos, hcs, hds⟩ := id hs
  have hTs : s.TypeIs (.ref sl) "slice" := ⟨os, hos, hcs⟩
  unfold getItem
  try with_reducible refine wpAny_holding ?_
  first | refine wpAny_bind (wpAny_pure ?_) | skip
  refine wpAny_bind (wpAny_sequenceKey ht.typeIs (by decide) ?_)
  refine wpAny_bind (wpAny_callSpecial?_slot (name := Str.ofString "__getitem__") ht.typeIs slot_tuple_getitem
    (wpAny_call_entry slot_tuple_getitem ht.typeIs entry_tuple_getitem ?_ (args_tuple_getitem _ _)))
  show wpAny _ _ (Builtin.Tuple.tupleItemsOf (.ref t) >>= _) _ _ s
  refine wpAny_bind (tupleItemsOf_ ht ?_)
  refine wpAny_bind (wpAny_typeOf hTs ?_)
  rw [if_pos (by decide)]
  refine wpAny_bind (applied4 hs ?_)
  show wpAny _ _ (if ((0 : Int) == 0 && (1 : Int) == 1 && 4 == 5) = true then _ else _) _ _ s
  rw [if_neg (by decide), first4]
  first
    | exact wpAny_bind (m := Builtin.Tuple.tupleExact _) (wpAny_newObj_type (wpAny_pure ⟨_, rfl, wpAny_pure h⟩) hok)
    | exact wpAny_bind (m := Builtin.Tuple.tupleExact _) (wpAny_newObj_type (wpAny_bind (wpAny_pure (wpAny_pure ⟨_, rfl, wpAny_pure h⟩))) hok)
    | exact wpAny_bind (wpAny_bind (m := Builtin.Tuple.tupleExact _) (wpAny_newObj_type (wpAny_pure (wpAny_pure ⟨_, rfl, wpAny_pure h⟩)) hok))
    | exact wpAny_bind (wpAny_bind (m := Builtin.Tuple.tupleExact _) (wpAny_newObj_type (wpAny_pure ⟨_, rfl, wpAny_pure h⟩) hok))
theorem slice_first4 {value slice : PySem.Expr} {t : Addr} {a b c d x : Value} {u : Tok} {Q : Value → Shared → Prop}
    (F : Fr h₀ L s.heap m) (N : News h₀ L s.heap news) (ht : IsTup s.heap t #[a, b, c, d, x])
    (h : ∀ T h', Fr h₀ L h' m → News h₀ L h' ((T, { cls := .type "tuple", data := .seq #[a, b, c, d] }) :: news) → Q (.ref T) { s with heap := h' })
    (hs : subscripted slice false (.ref t) (.ref s.heap.objs.size) = operate [.ref s.heap.objs.size, .ref t] (getItem (.ref t) (.ref s.heap.objs.size)) := by with_unfolding_all rfl)
    (hg : ∀ r, letTemporaryGo value (.ref t) r = pure () := by intro _; with_unfolding_all rfl) :
    wpAny (model prog w) A (subscriptTail value slice (.ref t) (.ref s.heap.objs.size)) Q E { s with heap := s.heap.push { cls := .type "slice", data := .fields #[.none, .int 4 u, .none] } } := by
  have ht' : IsTup (s.heap.push { cls := .type "slice", data := .fields #[.none, .int 4 u, .none] }) t #[a, b, c, d, x] := ht.keeps fun _ _ e => Heap.get?_push_of_some _ e
  refine subscriptTail_ops (s := { s with heap := s.heap.push { cls := .type "slice", data := .fields #[.none, .int 4 u, .none] } }) ht'.typeIs slot_tuple_getitem.lookup
    (getItem_first4 ht' (Heap.IsSliceOf.new ..) ?_) hs hg
  have N1 := News.push (F.push { cls := .type "slice", data := .fields #[.none, .int 4 u, .none] }) (N.grown fun _ _ e => Heap.get?_push_of_some _ e) { cls := .type "tuple", data := .seq #[a, b, c, d] }
  exact h _ _ ((F.push _).push _) N1
end
end Mine
end
/- CompG -/
section
open PySem PySem.W PySem.Calls PyProof.Rows PyProof.Rows.LCg
open Sem (wp)
namespace Mine
section
variable {M : Model} {A : Around} {E : Value → Shared → Prop} {s : Shared} {env : Env}
theorem wpG_attempt {α : Type} {m : Sem α} {Q : Except Value α → Shared → Prop} (h : wpG M A m (fun a s' => Q (.ok a) s') (fun e s' => Q (.error e) s') s) : wpG M A m.attempt Q E s := fun Γ p hΓ g => by
  rw [Sem.wp_attempt]; exact h Γ p hΓ g
/-- a comprehension over the fine contexts whose list goes straight into a name, none of its turns raises -/
theorem comprehensionG {e : PySem.Expr} {scope : Scope} {pos : Pos} {newAcc first : Sem Value} {g : Comprehension} {gs : List Comprehension} {cl : List (Str × Addr)} {u : Value → Sem Unit} {Q : Shared → Prop} (hok : ∀ it acc env', okC (.compStart e 0 it acc env') = true)
    (hcl : clausesOf e = g :: gs) (hs : ∀ x, foldedSetIterable g.iter env x = pure x) (hclos : closureFor scope env = pure cl)
    (hkind : scope.kind = .function) (hnames : ∀ x ∈ scope.names, x.2 = .local → scope.names.lookup x.1 = some .local)
    (h : wpAny M A first (fun x s₁ => wpAny M A (pyIter x) (fun it s₂ => wpAny M A newAcc (fun acc s₃ =>
      wpAny M A (newFunctionEnv scope env.globals cl [] env.qual none .none (some env)) (fun cenv s₄ =>
        codeG M A (.compStart e 0 it acc { cenv with scope := relabel scope env }) (fun r s' => match r with
          | .ok _ => wpAny M A (u acc) (fun _ s'' => ∃ m, s''.heap.Ns cenv.locals m ∧ ∀ h', Heap.SameBut cenv.locals s''.heap h' → Q { s'' with heap := h' }) E s'
          | .error _ => False) s₄) E s₃) E s₂) E s₁) E s) :
    wpG M A (comprehension e scope env pos newAcc false first (some u)) (fun _ s' => Q s') E s := by
  unfold comprehension
  rw [hclos, hcl]
  refine wpG_bind_any (wpAny_mono h (fun x s₁ h₁ => ?_) fun _ _ h' => h')
  refine wpG_standAt (wpG_bind_any (wpAny_of_eq (hs x) (wpG_bind_any (wpAny_holding (wpAny_mono h₁ (fun it s₂ h₂ => ?_) fun _ _ h' => h')))))
  refine wpG_if_true rfl (wpG_standAt (wpG_bind_any (wpAny_mono h₂ (fun acc s₃ h₃ => ?_) fun _ _ h' => h')))
  refine wpG_bind_any (wpAny_pure (wpG_bind_any (wpAny_mono h₃ (fun cenv s₄ h₄ => ?_) fun _ _ h' => h')))
  dsimp only
  have hv : ∀ x ∈ (scope.names.filter fun x => (x.2 == .local || x.2 == .cell) && x.1 != (".0" : Str)).reverse, x.2 = .local →
      Env.kindOf { cenv with scope := relabel scope env } x.1 = some .local := fun x hx hl => lookup_relabel_local (hnames x (List.mem_filter.mp (List.mem_reverse.mp hx)).1 hl)
  have hv' : ∀ x ∈ (scope.names.filter fun x => (x.2 == .local || x.2 == .cell) && x.1 != (".0" : Str)).reverse.drop 1 ++ (scope.names.filter fun x => (x.2 == .local || x.2 == .cell) && x.1 != (".0" : Str)).reverse.take 1,
      x.2 = .local → Env.kindOf { cenv with scope := relabel scope env } x.1 = some .local := fun x hx hl => by
    rcases List.mem_append.mp hx with h1 | h1
    · exact hv x (List.mem_of_mem_drop h1) hl
    · exact hv x (List.mem_of_mem_take h1) hl
  refine wpG_holding (wpG_bind (wpG_attempt (wpG_holding (wpG_run (hok _ _ _) (codeG_mono h₄ fun r s' hr => ?_)))))
  cases r with
  | error _ => exact hr.elim
  | ok f =>
    refine wpG_of (wpAny_bind (wpAny_rule (wpAny_bind (wpAny_holding (wpAny_mono hr (fun _ s'' hr' => ?_) fun _ _ h' => h')))))
    obtain ⟨m, hn, hr'⟩ := hr'
    exact wpAny_bind (wpAny_comp_letGo (cenv := { cenv with scope := relabel scope env }) hkind _ s'' m hv' hn fun h' m' _ hs' => wpAny_pure (hr' h' hs'))
end
section
variable {prog : Program} {w : World} {A : Around} {R : Result → Shared → Prop} {s : Shared} {E : Value → Shared → Prop}
theorem startG {elt target iter ifs rest scope pos it acc env}
    (h0 : codeG (model prog w) A (.compLoop (.ListComp elt (⟨target, iter, ifs, 0⟩ :: rest) scope pos) 0 it acc env) R s)
    (h : wpAny (model prog w) A (pyIter it) (fun it' s' => codeG (model prog w) A (.compLoop (.ListComp elt (⟨target, iter, ifs, 0⟩ :: rest) scope pos) 0 it' acc env) R s') (fun _ _ => False) s) :
    codeG (model prog w) A (.compStart (.ListComp elt (⟨target, iter, ifs, 0⟩ :: rest) scope pos) 0 it acc env) R s := by
  refine codeG_of_tree ?_
  show wpG _ _ ((compStart (.ListComp elt (⟨target, iter, ifs, 0⟩ :: rest) scope pos) 0 it acc env).onRaise (fun x => do noteFrame x env; standAt theWindowsPlace)) _ _ s
  refine wpG_onRaise (wpG_of ?_)
  unfold compStart
  show wpAny _ _ (ask >>= _) _ _ s
  refine wpAny_bind (wpAny_askSetting (wpAny_ite ?_))
  split
  · first
      | exact wpAny_bind (wpAny_pure (wpAny_pure (And.intro rfl (And.intro rfl h0))))
      | exact wpAny_pure (And.intro rfl (And.intro rfl h0))
  · first
      | exact wpAny_bind (wpAny_rule (wpAny_bind (wpAny_standAt (wpAny_bind (wpAny_mono h (fun it' s' h' => wpAny_pure (And.intro rfl (And.intro rfl h'))) fun _ _ x => x)))))
      | exact wpAny_rule (wpAny_bind (wpAny_standAt (wpAny_bind (wpAny_mono h (fun it' s' h' => wpAny_pure (And.intro rfl (And.intro rfl h'))) fun _ _ x => x))))
/-- one turn of a comprehension over the fine contexts -/
theorem turnG {elt target iter : PySem.Expr} {scope : Scope} {pos : Pos} {it acc : Value} {env : Env}
    (h : wpAny (model prog w) A (pyNext it) (fun r s₁ => match r with
      | none => R (.ok .next) s₁
      | some v => wpAny (model prog w) A (assign target env v) (fun _ s₂ => wpG (model prog w) A (eval elt env) (fun x s₃ => wpAny (model prog w) A (call (.builtin "list.append") [acc, x]) (fun _ s₄ =>
          codeG (model prog w) A (.compLoop (.ListComp elt [⟨target, iter, [], 0⟩] scope pos) 0 it acc env) R s₄) (fun _ _ => False) s₃) (fun _ _ => False) s₂) (fun _ _ => False) s₁) (fun _ _ => False) s)
    (ht : ∀ v, letOwnedTupleGo target it v = pure () := by intro _; rfl) : codeG (model prog w) A (.compLoop (.ListComp elt [⟨target, iter, [], 0⟩] scope pos) 0 it acc env) R s := by
  refine codeG_of_tree ?_
  show wpG _ _ ((compTurn (.ListComp elt [⟨target, iter, [], 0⟩] scope pos) 0 it acc env).onRaise (fun x => do noteFrame x env; theTreesLotGoes x)) _ _ s
  refine wpG_onRaise ?_
  rw [compTurn_list1]
  refine wpG_standAt (wpG_bind_any (wpAny_mono h (fun r s₁ h₁ => ?_) fun _ _ h' => h'))
  cases r with
  | none => exact wpG_pure h₁
  | some v =>
    refine wpG_bind_any (wpAny_of_eq (ht v) ?_)
    exact wpG_bind_any (wpAny_mono h₁ (fun _ s₂ h₂ => wpG_bind (wpG_bind (wpG_mono h₂ (fun x s₃ h₃ => wpG_bind_any (wpAny_mono h₃ (fun _ s₄ h₄ => wpG_pure (wpG_pure ⟨rfl, rfl, h₄⟩)) fun _ _ h' => h')) fun _ _ h' => h'))) fun _ _ h' => h')
/-- the turns still to come -/
def TurnsG (prog : Program) (w : World) (A : Around) (h₀ : Heap) (L : Addr) (m : Str → Option Value) (env : Env) (elt : PySem.Expr) (x : Str) (scope : Scope) (cl : List (Str × Addr)) (s : Shared) (S : List (Addr × Obj) → Prop)
    (Fin : List Value → List (Addr × Obj) → Prop) : List Value → List Value → List (Addr × Obj) → Prop
  | [], ys, news => Fin ys news
  | v :: vs, ys, news => ∀ I oI C oC D m₂ h tk, NsObj oC m₂ → m₂ x = some v → Fr h₀ L h m → News h₀ L h ((I, oI) :: (C, oC) :: (D, lst ys) :: news) → Off3 I C D news → ((@Ne Nat I C) ∧ (@Ne Nat I D) ∧ (@Ne Nat C D)) →
      wpG (model prog w) A (eval elt (compEnvC scope cl C env)) (CompEnd h₀ L m { s with heap := h, toks := tk } I oI C oC D (lst ys) S (fun y news' => TurnsG prog w A h₀ L m env elt x scope cl s S Fin vs (ys ++ [y]) news')) (fun _ _ => False) { s with heap := h, toks := tk }
/-- the source of a comprehension over the fine contexts: a list -/
def SrcG (prog : Program) (w : World) (A : Around) (h₀ : Heap) (L : Addr) (m : Str → Option Value) (env : Env) (elt : PySem.Expr) (x : Str) (scope : Scope) (cl : List (Str × Addr)) (Fin : Shared → List Value → List (Addr × Obj) → Prop) (xv : Value) (s₁ : Shared) : Prop :=
  ∃ ax its news, xv = .ref ax ∧ A.handled = none ∧ Fr h₀ L s₁.heap m ∧ News h₀ L s₁.heap news ∧ SrcAt h₀ ax its.toArray news ∧ its.length ≤ sizeLine ∧
      ∀ g, TurnsG prog w A h₀ L m env elt x scope cl { s₁ with heap := g } (SrcAt h₀ ax its.toArray) (Fin { s₁ with heap := g }) its [] news
theorem loopG {elt iter : PySem.Expr} {x : Str} {px : Pos} {scope : Scope} {cl : List (Str × Addr)} {pos : Pos} {env : Env} {h₀ : Heap} {L I C D ax : Addr} {m : Str → Option Value} {its : List Value} {Fin : List Value → List (Addr × Obj) → Prop} {s₂ : Shared}
    (hh : A.handled = none) (hkind : scope.kind = .function) (hx : scope.names.lookup x = some .local) (hsz : its.length ≤ sizeLine)
    (hIL : L ≠ I) (hI₀ : h₀.get? I = none) (hCL : C ≠ L) (hC₀ : h₀.get? C = none) (hDL : D ≠ L) (hD₀ : h₀.get? D = none) (hIC : I ≠ C) (hID : I ≠ D) (hCD : C ≠ D) (hDa : D ≠ ax)
    (hR : ∀ h tk m' ys news', Fr h₀ L h m → News h₀ L h ((D, lst ys) :: news') → Off1 D news' → h.Ns C m' → (∀ p ∈ news', p.1 ≠ C) → Fin ys news' → R (.ok .next) { s₂ with heap := h, toks := tk }) :
    ∀ (vs : List Value) (i : Nat) (ys : List Value) (h' : Heap) (tk : Nat) (m' : Str → Option Value) (news' : List (Addr × Obj)), its.drop i = vs → ys.length = i → (h'.IsListIter I ax i ∧ h'.IsList ax its.toArray) → Fr h₀ L h' m → h'.Ns C m' → News h₀ L h' ((D, lst ys) :: news') →
      Off3 I C D news' → SrcAt h₀ ax its.toArray news' → TurnsG prog w A h₀ L m env elt x scope cl s₂ (SrcAt h₀ ax its.toArray) Fin vs ys news' →
      codeG (model prog w) A (.compLoop (.ListComp elt [⟨.Name x px, iter, [], 0⟩] scope pos) 0 (.ref I) (.ref D) (compEnvC scope cl C env)) R { s₂ with heap := h', toks := tk } := by
  intro vs
  induction vs with
  | nil =>
    intro i ys h' tk m' news' hd hyl st F N' N off S T
    have hi : its.length ≤ i := List.drop_eq_nil_iff.mp hd
    have N₀ : News h₀ L h' news' := fun p hp => N p (.tail _ hp)
    have off3 := off.mem
    refine turnG (wpAny_pyNext_list_end hh st.1 st.2 (by simpa using hi) fun h₂ k₂ => ?_)
    have hk : ∀ b o, b ∉ [I] → h'.get? b = some o → h₂.get? b = some o := fun b o hb e => k₂ b o (by simpa using hb) e
    refine hR h₂ tk m' ys news' (fr_but F hk hIL hI₀) (news_but N hk fun p hp => ?_) off.one (N'.at' fun o e => hk _ o (by simpa using Ne.symm hIC) e) (fun p hp => (off3 p hp).2.1) T
    rcases List.mem_cons.mp hp with rfl | hp
    · exact Ne.symm hID
    · exact (off3 p hp).1
  | cons v vs ih =>
    intro i ys h' tk m' news' hd hyl st F N' N off S T
    have hlt : i < its.length := by
      rcases Nat.lt_or_ge i its.length with q | q
      · exact q
      · rw [List.drop_eq_nil_of_le q] at hd; cases hd
    rw [List.drop_eq_getElem_cons hlt] at hd
    obtain ⟨hv, hd'⟩ := List.cons.inj hd
    have off3 := off.mem
    refine turnG (wpAny_pyNext_list_item st.1 st.2 (x := v) (by rw [← hv]; simp [hlt]) fun h₂ st₂ k₂ => ?_)
    have hk : ∀ b o, b ∉ [I] → h'.get? b = some o → h₂.get? b = some o := fun b o hb e => k₂.extBut b o (by simpa using hb) e
    refine wpAny_assign_Name (wpAny_storeName_local (lookup_relabel_local hx) (N'.at' fun o e => hk _ o (by simpa using Ne.symm hIC) e) (fun h₃ hn₃ hs₃ => ?_) (by simp [compEnvC, relabel, hkind]))
    obtain ⟨oI, heI, hcI⟩ := st₂
    replace heI : h₃.get? I = some oI := hs₃.extBut _ _ hIC heI
    obtain ⟨oC, heC, hoC⟩ := ns_obj hn₃
    have F₃ : Fr h₀ L h₃ m := (fr_but F hk hIL hI₀).change hs₃ hCL hC₀
    have N₂ : News h₀ L h₂ ((D, lst ys) :: news') := news_but N hk fun p hp => by
      rcases List.mem_cons.mp hp with rfl | hp
      · exact Ne.symm hID
      · exact (off3 p hp).1
    have N₃ : News h₀ L h₃ ((I, oI) :: (C, oC) :: (D, lst ys) :: news') := fun p hp => by
      rcases List.mem_cons.mp hp with rfl | hp
      · exact ⟨heI, Ne.symm hIL, hI₀⟩
      · rcases List.mem_cons.mp hp with rfl | hp
        · exact ⟨heC, hCL, hC₀⟩
        · have z := N₂ p hp
          refine ⟨hs₃.extBut _ _ ?_ z.1, z.2⟩
          rcases List.mem_cons.mp hp with rfl | hp
          · exact Ne.symm hCD
          · exact (off3 p hp).2.1
    refine wpG_mono (T I oI C oC D _ h₃ _ hoC (by simp) F₃ N₃ off ⟨hIC, hID, hCD⟩) (fun y s₄ h₄ => ?_) fun _ _ e => e
    obtain ⟨h₄, tk₄, news₄, rfl, F₄, N₄, off₄, hS₄, T₄⟩ := h₄
    have zI := (N₄ (I, oI) (.head _)).1
    have zC := (N₄ (C, oC) (.tail _ (.head _))).1
    have zD := (N₄ (D, lst ys) (.tail _ (.tail _ (.head _)))).1
    have N₄' : News h₀ L h₄ news₄ := fun p hp => N₄ p (.tail _ (.tail _ (.tail _ hp)))
    have hl₄ := hS₄.list F₄.keep N₄'
    have off4 := off₄.mem
    refine append_at (hsz := by show ys.toArray.size ≤ sizeLine; rw [List.size_toArray, hyl]; omega) zD fun h₅ hs₅ hD₅ => ?_
    refine ih (i + 1) (ys ++ [y]) h₅ tk₄ _ news₄ hd' (by simp [hyl]) ⟨⟨oI, hs₅.extBut _ _ hID zI, hcI⟩, hl₄.extBut hs₅.extBut (Ne.symm hDa)⟩ (F₄.change hs₅ hDL hD₀) ((hoC.ns zC).sameBut hs₅ hCD) (fun p hp => ?_) off₄ hS₄ T₄
    rcases List.mem_cons.mp hp with rfl | hp
    · exact ⟨hD₅.trans (congrArg some (lst_snoc ys y)), hDL, hD₀⟩
    · exact ⟨hs₅.extBut _ _ (off4 p hp).2.2 (N₄' p hp).1, (N₄' p hp).2⟩
/-- a comprehension over a list goes into a name, its turns over the fine contexts -/
theorem Assign_ListComp_G {elt iter : PySem.Expr} {x y : Str} {px py : Pos} {scope : Scope} {cl : List (Str × Addr)} {pos spos : Pos} {env : Env} {h₀ : Heap} {L : Addr} {m : Str → Option Value} {Q : Flow → Shared → Prop} (_F₀ : Fr h₀ L s.heap m) (hLe : env.locals = L)
    (hsw : swapsWith (.ListComp elt [⟨.Name x px, iter, [], 0⟩] scope pos) (some (.Name y py)) spos.line env = pure true)
    (hclos : closureFor scope env = pure cl) (hcell : ∀ y ∈ scope.names, y.2 ≠ .cell) (hkind : scope.kind = .function)
    (hnames : ∀ y ∈ scope.names, y.2 = .local → scope.names.lookup y.1 = some .local) (hx : scope.names.lookup x = some .local)
    (h : wpAny (model prog w) A (eval iter env) (SrcG prog w A h₀ L m env elt x scope cl (fun s₂ => FinA h₀ L m s₂ y Q)) (fun _ _ => False) s)
    (hy : env.kindOf y = some .local) (hp : (env.scope.kind == .class || (env.scope.kind == .module && env.locals != env.globals)) = false)
    (hs : ∀ x, foldedSetIterable iter env x = pure x := by intro _; rfl) :
    wpG (model prog w) A (exec (.Assign [.Name y py] (.ListComp elt [⟨.Name x px, iter, [], 0⟩] scope pos) spos) env) Q (fun _ _ => False) s := by
  subst hLe
  rw [exec_Assign_Name_used _ _ _ _ hsw]
  refine wpG_standAt (wpG_bind ?_)
  show wpG _ A (do let _ ← comprehension (.ListComp elt [⟨.Name x px, iter, [], 0⟩] scope pos) scope env _ (newList []) false (eval iter env) (some (assign (.Name y py) env))) _ _ s
  refine wpG_bind (wpG_mono (comprehensionG (u := assign (.Name y py) env) (Q := fun s' => Q .next s') (fun _ _ _ => rfl) rfl hs hclos hkind hnames (wpAny_mono h (fun xv s₁ h₁ => ?_) fun _ _ e => e)) (fun _ s' hq => wpG_pure (wpG_pure hq)) fun _ _ e => e)
  obtain ⟨ax, its, news, rfl, hh, F, N, S, hsz, T⟩ := h₁
  have hl := S.list F.keep N
  refine wpAny_pyIter_list hl ?_
  refine wpAny_newObj_type (wpAny_newFunctionEnv hcell (by intro y hy; simp at hy) (fun h₁ hns₁ hsb₁ => ?_) hkind)
  dsimp only at hns₁ hsb₁ ⊢
  generalize hH1 : s₁.heap.push { cls := .type "list_iterator", data := .fields #[.ref ax, .int 0 0] } = H1 at hns₁ hsb₁ ⊢
  generalize hH2 : H1.push { cls := .type "list", dict := none, data := .seq ([] : List Value).toArray } = H2 at hns₁ hsb₁ ⊢
  have e1 : H1.objs.size = s₁.heap.objs.size + 1 := by rw [← hH1, Heap.size_push]
  have e2 : H2.objs.size = s₁.heap.objs.size + 1 + 1 := by rw [← hH2, Heap.size_push, e1]
  have up1 : ∀ b o, s₁.heap.get? b = some o → H1.get? b = some o := fun b o e => by rw [← hH1]; exact Heap.get?_push_of_some _ e
  have up2 : ∀ b o, H1.get? b = some o → H2.get? b = some o := fun b o e => by rw [← hH2]; exact Heap.get?_push_of_some _ e
  have old : ∀ b o, s₁.heap.get? b = some o → h₁.get? b = some o := fun b o e => hsb₁.extBut b o (Nat.ne_of_lt (Nat.lt_of_lt_of_le (Heap.lt_size e) (by rw [e2]; omega))) (Heap.get?_push_of_some _ (up2 _ _ (up1 _ _ e)))
  have gone : ∀ a, s₁.heap.objs.size ≤ a → h₀.get? a = none := fun a ha => by
    cases e : h₀.get? a with
    | none => rfl
    | some o' => exact absurd (Heap.lt_size (F.keep a o' e)) (Nat.not_lt.mpr ha)
  have hL : env.locals < s₁.heap.objs.size := F.ns.lt
  have hax : ax < s₁.heap.objs.size := by obtain ⟨_, e, _⟩ := hl; exact Heap.lt_size e
  have hI : h₁.get? s₁.heap.objs.size = some { cls := .type "list_iterator", data := .fields #[.ref ax, .int 0 0] } :=
    hsb₁.extBut _ _ (show s₁.heap.objs.size ≠ H2.objs.size by omega) (Heap.get?_push_of_some _ (up2 _ _ (by rw [← hH1]; exact Heap.get?_push_size _ rfl)))
  have hD : h₁.get? H1.objs.size = some (lst []) := hsb₁.extBut _ _ (show H1.objs.size ≠ H2.objs.size by omega) (Heap.get?_push_of_some _ (by rw [← hH2]; exact Heap.get?_push_size _ rfl))
  have lt1 : s₁.heap.objs.size < H1.objs.size := by omega
  have lt2 : s₁.heap.objs.size < H2.objs.size := by omega
  have lt3 : H1.objs.size < H2.objs.size := by omega
  have LI : env.locals ≠ s₁.heap.objs.size := Nat.ne_of_lt hL
  have LC : H2.objs.size ≠ env.locals := Nat.ne_of_gt (Nat.lt_trans hL lt2)
  have LD : H1.objs.size ≠ env.locals := Nat.ne_of_gt (Nat.lt_trans hL lt1)
  have aD : H1.objs.size ≠ ax := Nat.ne_of_gt (Nat.lt_trans hax lt1)
  have far : ∀ p ∈ news, p.1 < s₁.heap.objs.size := fun p hp => Heap.lt_size (N p hp).1
  have loop := loopG (prog := prog) (w := w) (A := A) (R := fun r s' => match r with
      | .ok _ => wpAny (model prog w) A (assign (.Name y py) env (.ref H1.objs.size)) (fun _ s'' => ∃ m, s''.heap.Ns H2.objs.size m ∧ ∀ h', Heap.SameBut H2.objs.size s''.heap h' → Q .next { s'' with heap := h' }) (fun _ _ => False) s'
      | .error _ => False) (elt := elt) (iter := iter) (x := x) (px := px) (scope := scope) (cl := cl) (pos := pos) (env := env) (h₀ := h₀) (L := env.locals) (I := s₁.heap.objs.size) (C := H2.objs.size) (D := H1.objs.size) (ax := ax) (m := m) (its := its)
      (s₂ := { s₁ with heap := H1 }) hh hkind hx hsz LI (gone _ (Nat.le_refl _)) LC (gone _ (Nat.le_of_lt lt2)) LD (gone _ (Nat.le_of_lt lt1)) (Nat.ne_of_lt lt2) (Nat.ne_of_lt lt1) (Nat.ne_of_gt lt3) aD
      (fun h tk m' ys news' F' N' o1 hn offC fin => by
        show wpAny _ A (assign (.Name y py) env (.ref H1.objs.size)) _ _ _
        refine wpAny_assign_Name (wpAny_storeName_local hy F'.ns (fun h₂ hn₂ hs₂ => ?_) hp)
        have hL₀ : h₀.get? env.locals = none := Heap.get?_none_of_le F'.above
        have F₂ : Fr h₀ env.locals h₂ (fun z => if z = y then some (.ref H1.objs.size) else m z) := ⟨hn₂, fun b o e => hs₂.extBut b o (fun q => by rw [q, hL₀] at e; cases e) (F'.keep b o e), F'.above⟩
        refine ⟨m', hn.sameBut hs₂ LC, fun h'' hs'' => fin _ h'' _ (F₂.change hs'' LC (gone _ (Nat.le_of_lt lt2))) (fun p hp => ?_) o1⟩
        have z : h₂.get? p.1 = some p.2 := hs₂.extBut _ _ (N' p hp).2.1 (N' p hp).1
        refine ⟨hs''.extBut _ _ ?_ z, (N' p hp).2⟩
        rcases List.mem_cons.mp hp with rfl | hp
        · exact Nat.ne_of_lt lt3
        · exact offC p hp)
      its 0 [] h₁ (s₁.toks + ([] : List (Str × Value)).length) _ news rfl rfl ⟨⟨_, hI, rfl, rfl⟩, by obtain ⟨o, e, r⟩ := hl; exact ⟨o, old _ _ e, r⟩⟩ (F.keeps old) hns₁ (fun p hp => by
        rcases List.mem_cons.mp hp with rfl | hp
        · exact ⟨hD, LD, gone _ (Nat.le_of_lt lt1)⟩
        · exact ⟨old _ _ (N p hp).1, (N p hp).2⟩)
      (Off3.of fun p hp => by have := far p hp; exact ⟨Nat.ne_of_lt this, Nat.ne_of_lt (Nat.lt_trans this lt2), Nat.ne_of_lt (Nat.lt_trans this lt1)⟩) S (T H1)
  exact startG loop (wpAny_pyIter_listiter ⟨_, hI, rfl, rfl⟩ loop)
end
end Mine
end
/- LawG -/
section
open PySem PySem.W PySem.Calls PyProof.Rows
namespace Mine
section
/-- the way into a def of which some names are cells, over the fine contexts -/
theorem call_cellsG {prog : Program} {w : World} {A : Around} {R : Result → Shared → Prop} {s : Shared} {name : Str} {params : Arguments} {body : List Stmt} {scope : Scope}
    {pm cd doc : Value} {a : Addr} {o : Obj} {args : List Value} {binds : List (Str × Value)}
    (hroom : A.depth < recursionLimit) (ho : s.heap.get? a = some o) (hdata : o.data = .func (Calls.docDef name params body scope pm cd doc)) (hlim : s.heap.NoLimit) (hcd : s.heap.CodeRec cd name)
    (hbind : BindsTo s (Calls.docDef name params body scope pm cd doc) ⟨args, []⟩ binds) (hkind : (binds.all fun y => scope.names.lookup y.1 == some .local || scope.names.lookup y.1 == some .cell) = true)
    (hnd : ((cellsFrom 0 scope.names []).map (·.1)).Nodup)
    (h : ∀ (g : Heap) (L' : Addr) (h₁ : Heap) (tk : Nat) (cells : List (Addr × Obj)), g = s.heap → Fr g L' h₁ (bindL (envOfC name scope L' a cd).kindOf binds fun _ => none) → News g L' h₁ cells →
      CellsAre (bindC (envOfC name scope L' a cd).kindOf binds fun _ => none) (cellsFrom (L' + 1) scope.names []) cells →
      wpG (model prog w) (A.deeper (envOfC name scope L' a cd)) (execs body (envOfC name scope L' a cd))
        (fun f s' => R (.ok (.ret (match f with | .ret v => v | _ => .none))) s') (fun _ _ => False) { s with heap := h₁, toks := tk })
    (hco : scope.isCoroutine = false := by rfl) (hgen : scope.isGenerator = false := by rfl) (hk : scope.kind = .function := by rfl) : codeG (model prog w) A (.call (.ref a) ⟨args, []⟩) R s := by
  refine codeG_call_function (fd := Calls.docDef name params body scope pm cd doc) (body := body) hroom ho hdata hco hgen rfl hcd (hbind _ _ _ _ ?_)
  refine wpAny_newFunctionEnv_cells hk (kindsX hkind _) fun env' he' s' x => ?_
  subst he'
  refine ⟨hlim.keeps x.toInCall.keep, codeG_func ?_⟩
  obtain ⟨h₁, tk, rfl, _⟩ := x.done
  have hk₁ := x.toInCall.keep
  obtain ⟨cells, NC, Y⟩ := Cl.news (h₀ := s.heap) (Nat.le_refl _) fun n c hm => ⟨x.cell n c (lookup_of_mem_nodup (cellsFrom_names scope.names 0 (s.heap.objs.size + 1) [] [] rfl ▸ hnd) hm), x.above n c hm⟩
  exact h s.heap s.heap.objs.size h₁ tk cells rfl ⟨x.toInCall.ns, hk₁, Nat.le_refl _⟩ NC Y
end
end Mine
end
/- TwoR -/
section
open PySem PySem.W PySem.Calls PyProof.Rows
namespace Mine
open LCg
theorem ints_of : ∀ {vs : List Value}, (∀ v ∈ vs, ∃ n t, v = Value.int n t) → ∃ ns, IntsAre vs ns
  | [], _ => ⟨[], .nil⟩
  | v :: vs, h => by
    obtain ⟨n, t, rfl⟩ := h v (.head _)
    obtain ⟨ns, i⟩ := ints_of fun u hu => h u (.tail _ hu)
    exact ⟨n :: ns, .cons n t i⟩
theorem ints_mem : ∀ {vs : List Value} {ns : List Int}, IntsAre vs ns → ∀ v ∈ vs, ∃ n t, v = Value.int n t
  | _, _, .cons n t i, v, h => by
    rcases List.mem_cons.mp h with rfl | h
    · exact ⟨n, t, rfl⟩
    · exact ints_mem i v h
theorem pick_ints {vs : List Value} {ns : List Int} {lo hi st : Option Int} (h : IntsAre vs ns) : ∃ ms, IntsAre (slicePick vs.toArray lo hi st).toList ms ∧ ms.length ≤ ns.length := by
  obtain ⟨ms, i⟩ := ints_of (vs := (slicePick vs.toArray lo hi st).toList) fun v hv => by
    unfold slicePick at hv
    rw [List.toList_toArray] at hv
    obtain ⟨k, _, e⟩ := List.mem_filterMap.mp hv
    exact ints_mem h v (List.mem_of_getElem? (by simpa using e))
  refine ⟨ms, i, ?_⟩
  have q := slicePick_size_le vs.toArray lo hi st
  rw [← i.length, ← h.length, Array.length_toList]
  simpa using q
section
variable {prog : Program} {w : World} {A : Around} {E : Value → Shared → Prop} {s : Shared} {h₀ : Heap} {L l : Addr} {m : Str → Option Value} {news : List (Addr × Obj)} {value slice : PySem.Expr} {vs : List Value} {ns : List Int} {vl vu vk : Value} {lo hi st : Option Int} {Q : Value → Shared → Prop}
theorem slice3_ints {ops : List Value} (F : Fr h₀ L s.heap m) (N : News h₀ L s.heap news) (hl : s.heap.IsList l vs.toArray) (hI : IntsAre vs ns) (hn : ns.length ≤ 1000) (pl : IsPart vl lo) (pu : IsPart vu hi) (pk : IsPart vk st) (h0 : st ≠ some 0)
    (h : ∀ D ws ms h', Fr h₀ L h' m → News h₀ L h' ((D, W.listOf (List.toArray ws) 0) :: news) → (∀ p ∈ news, p.1 < D) → IntsAre ws ms → ms.length ≤ 1000 → Q (.ref D) { s with heap := h' })
    (hs : subscripted slice false (.ref l) (.ref s.heap.objs.size) = operate ops (getItem (.ref l) (.ref s.heap.objs.size))) (ht : ∀ r, letTemporaryGo value (.ref l) r = pure ()) :
    wpAny (model prog w) A (subscriptTail value slice (.ref l) (.ref s.heap.objs.size)) Q E { s with heap := s.heap.push { cls := .type "slice", data := .fields #[vl, vu, vk] } } := by
  have hz : vs.toArray.size ≤ sizeLine := by rw [List.size_toArray, hI.length, sizeLine_eq]; omega
  obtain ⟨ms, i, hm⟩ := pick_ints (lo := lo) (hi := hi) (st := st) hI
  refine slice_list3 F N hl pl pu pk h0 (fun h' F' N' => h _ (slicePick vs.toArray lo hi st).toList ms h' F' ?_ (fun p hp => Nat.lt_succ_of_lt (Heap.lt_size (N p hp).1)) i (by omega)) hs ht hz
  rw [Array.toArray_toList]
  exact N'
end
section
variable {prog : Program} {w : World} {A : Around} {E : Value → Shared → Prop} {s : Shared} {h₀ : Heap} {L : Addr} {m : Str → Option Value} {env : Env}
end
theorem sum_nonneg : ∀ {ns : List Int}, (∀ n ∈ ns, 0 ≤ n) → 0 ≤ ns.sum
  | [], _ => Int.le_refl _
  | n :: ns, h => by
    rw [List.sum_cons]
    have := h n (.head _)
    have := sum_nonneg (ns := ns) fun k hk => h k (.tail _ hk)
    omega
end Mine
namespace Mine
section
variable {prog : Program} {w : World} {A : Around} {E : Value → Shared → Prop} {s : Shared} {h₀ : Heap} {L : Addr} {m : Str → Option Value} {news : List (Addr × Obj)}
/-- the sum of remainders is some number from 0 on -/
theorem sumNN {l : Addr} {vs : List Value} {ms : List Int} {Q : Value → Shared → Prop} (hh : A.handled = none) (F : Fr h₀ L s.heap m) (N : News h₀ L s.heap news) (hl : s.heap.IsList l vs.toArray) (hi : IntsAre vs (ms.map fun k => k.fmod 5040))
    (h : ∀ (n : Int) h' tk t', 0 ≤ n → Fr h₀ L h' m → News h₀ L h' news → Q (.int n t') { s with heap := h', toks := tk }) :
    wpAny (model prog w) A (call (.builtin "sum") [.ref l]) Q E s :=
  sumK hh F N hl hi fun h' tk t' F' N' => h _ h' tk t' (sum_nonneg fun n hn => by
    obtain ⟨k, _, rfl⟩ := List.mem_map.mp hn
    exact Int.fmod_nonneg_of_pos _ (by decide)) F' N'
end
end Mine
end
section
open PySem PySem.W PySem.Calls PyProof.Rows
example : (PySem.Challenge.rw_zo0010_01 = PySem.Challenge.rw_zo0010_01) ∧ (Mine.hd.heap_1 = Mine.hd.heap_1) := by k_fill; exact ⟨rfl, rfl⟩
local macro_rules | `(tactic| walk_at $s:str) => `(tactic| k_extra $s)
local macro_rules | `(tactic| k_ne) => `(tactic| k_extra "k_ne")
local macro_rules | `(tactic| k_mem) => `(tactic| k_extra "k_mem")
local macro_rules | `(tactic| k_all) => `(tactic| k_extra "k_all")
local macro_rules | `(tactic| k_steps) => `(tactic| k_extra "k_steps")
local macro_rules | `(tactic| k_lt $h:ident) => `(tactic| (replace $h := allLt_of $h; simp +zetaDelta only [AllLt, and_true] at $h:ident; (repeat obtain ⟨l9, $h:ident⟩ := $h)))
/- Hsv -/
section
open PySem PySem.W PySem.Calls PyProof.Rows
example : True := by
  k_with_none
  k_with "my_enter" => (k_dflt (
  refine' Mine.enterC _ ?k1z0 ?k2z0 ?k3z0 ?k4z0 ?kAz0 ?kFz0 ?kKz0 ?kRz0 ?k6z0 ?k7z0 ?k8z0 ?k9z0 ?kBz0 ?_ ?c2z0 ?c3z0 ?c4z0 ?c5z0 ?c6z0
  (case kAz0 => exact rfl); (case kFz0 => exact rfl); (case kKz0 => assumption); (case k1z0 => k_asm); (case k2z0 => k_asm); (case k3z0 => k_asm); (case k4z0 => k_asm); (case kRz0 => assumption)
  (case k6z0 => k_is); (case k7z0 => k_is); (case k8z0 => exact Nat.lt_of_le_of_lt (Nat.le_add_right _ _) (by assumption)); (case k9z0 => exact BindsTo.of_eq rfl); (case c5z0 => decide); (case kBz0 => exact locs rfl); (case c2z0 => exact rfl); (case c3z0 => exact rfl); (case c4z0 => exact rfl); (case c6z0 => exact Nat.succ_pos _)))
  k_with "call builtin:max" => (k_here; (with_reducible show wpAny _ _ (call _ [Value.float _ _, Value.float _ _, Value.float _ _]) _ _ _); k_dflt (refine' Mine.max3 rfl ?Fz1 ?Nz1 ?_; (case Fz1 => k_asm); (case Nz1 => k_asm); intro hz1 tkz1 kz1 Fz1 Nz1; (try k_sweep); (try dsimp only)))
  k_with "call builtin:min" => (k_here; (with_reducible show wpAny _ _ (call _ [Value.float _ _, Value.float _ _, Value.float _ _]) _ _ _); k_dflt (refine' Mine.min3 rfl ?Fz2 ?Nz2 ?_; (case Fz2 => k_asm); (case Nz2 => k_asm); intro hz2 tkz2 kz2 Fz2 Nz2; (try k_sweep); (try dsimp only)))
  k_with "binaryOp Div float float" => (k_here; k_dflt (refine' Mine.div_nz ?nzz3 ?_; (case nzz3 => first | assumption | (apply_assumption; assumption) | decide +kernel)))
  k_with "binaryOp Mod float float" => (k_here; k_dflt (refine' Mine.mod_nz ?nzz4 ?_; (case nzz4 => first | assumption | decide +kernel)))
  k_with "k_steps" => repeat' (first | (k_unfold; (try dsimp only)) | (k_end; kc_close) | ((first | (with_reducible show wpAny _ _ (exec _ _) _ _ _) | (with_reducible show wpAny _ _ (execs (_ :: _) _) _ _ _) | (with_reducible show wpAny _ _ (eval (PySem.Expr.BinOp _ _ _ _) _) _ _ _) | (with_reducible show wpAny _ _ (eval (PySem.Expr.Call _ _ _ _) _) _ _ _) | (with_reducible show wpAny _ _ (eval (PySem.Expr.Subscript _ _ _) _) _ _ _) | (with_reducible show wpAny _ _ (eval (PySem.Expr.Tuple _ _ _) _) _ _ _) | (with_reducible show wpAny _ _ (eval (PySem.Expr.List _ _) _) _ _ _)); k_fold; walk1) | walk1 | (dsimp only; walk1) | (leave1; walk_say "STEP leave1"; (try dsimp only)) | fail "no step")
  k_with "k_ne" => (refine neN ?_; (try dsimp only); first | exact Nat.ne_of_gt (by with_reducible assumption) | exact Nat.ne_of_lt (by with_reducible assumption) | exact Mine.Off.ne (by with_reducible assumption) | exact Mine.Off.sym (by with_reducible assumption) | with_reducible assumption | exact Ne.symm (by with_reducible assumption) | omega)
  trivial
example : (PySem.Challenge.rw_zo0010_01 = PySem.Challenge.rw_zo0010_01) ∧ (Mine.hd.heap_1 = Mine.hd.heap_1) := by k_fill; exact ⟨rfl, rfl⟩
namespace Mine
section
variable {prog : Program} {w : World} {A : Around} {E : Value → Shared → Prop} {s : Shared} {Q : Value → Shared → Prop} {x y z : UInt64} {t u v : Tok}
theorem div_nz (hz : Float64.isZero y = false) (h : Q (.float (Float64.div x y) s.toks) { s with toks := s.toks + 1 }) : wpAny (model prog w) A (binaryOp .Div (.float x t) (.float y u)) Q E s := by
  refine AutoFloatOpsIf.truediv ?_
  rw [if_neg (by rw [hz]; exact Bool.false_ne_true)]; exact h
theorem mod_nz (hz : Float64.isZero y = false) (h : Q (.float (Float64.divmod x y).2 s.toks) { s with toks := s.toks + 1 }) : wpAny (model prog w) A (binaryOp .Mod (.float x t) (.float y u)) Q E s :=
  AutoFloatOps.mod_1 (by rw [hz]; exact Bool.false_ne_true) h
end
def mx3 (r g b : UInt64) : UInt64 := mx (mx r g) b
def mn3 (r g b : UInt64) : UInt64 := mn (mn r g) b
def eqF (x y : UInt64) : Bool := Float64.cmp x y == some .eq
def partF (r g b x : UInt64) : UInt64 := Float64.div (Float64.sub (mx3 r g b) x) (Float64.sub (mx3 r g b) (mn3 r g b))
def hueF (r g b : UInt64) : UInt64 :=
  if eqF (mn3 r g b) (mx3 r g b) = true then 0 else
    (Float64.divmod (Float64.div (if eqF r (mx3 r g b) = true then Float64.sub (partF r g b b) (partF r g b g)
      else if eqF g (mx3 r g b) = true then Float64.sub (Float64.add 4611686018427387904 (partF r g b r)) (partF r g b b)
      else Float64.sub (Float64.add 4616189618054758400 (partF r g b g)) (partF r g b r)) 4618441417868443648) 4607182418800017408).2
def satF (r g b : UInt64) : UInt64 := if eqF (mn3 r g b) (mx3 r g b) = true then 0 else Float64.div (Float64.sub (mx3 r g b) (mn3 r g b)) (mx3 r g b)
/-- a new tuple of three floats -/
inductive Tup3 (g : Heap) (x y z : UInt64) (v : Value) (h' : Heap) : Prop
  | mk (D : Addr) (t1 t2 t3 : Tok) : (v = .ref D) → (g.get? D = none) → (h'.get? D = some { cls := .type "tuple", data := .seq #[.float x t1, .float y t2, .float z t3] }) → Tup3 g x y z v h'
theorem Tup3.of {g h' : Heap} {L D : Addr} {x y z x' y' z' : UInt64} {t1 t2 t3 : Tok} {news : List (Addr × Obj)} (N : News g L h' ((D, { cls := .type "tuple", data := .seq #[.float x t1, .float y t2, .float z t3] }) :: news))
    (hx : x = x') (hy : y = y') (hz : z = z') : Tup3 g x' y' z' (.ref D) h' := by
  subst hx; subst hy; subst hz
  exact ⟨D, t1, t2, t3, rfl, (N _ (.head _)).2.2, (N _ (.head _)).1⟩
set_option maxHeartbeats 8000000 in
theorem c_hsv {prog : Program} {w : World} {mean : ExcName → Option Value} {mg mb : Str → Option Value} (r g b : UInt64) (t1 t2 t3 : Tok)
   (hz1 : eqF (mn3 r g b) (mx3 r g b) = false → Float64.isZero (mx3 r g b) = false) (hz2 : eqF (mn3 r g b) (mx3 r g b) = false → Float64.isZero (Float64.sub (mx3 r g b) (mn3 r g b)) = false) :
  Claim prog w mean mg mb 49 [.float r t1, .float g t2, .float b t3] 2 10 (fun _ => True) (fun g₀ v h' => Tup3 g₀ (hueF r g b) (satF r g b) (mx3 r g b) v h') := by
  have hz1' : (Float64.cmp (mn (mn r g) b) (mx (mx r g) b) == some .eq) = false → Float64.isZero (mx (mx r g) b) = false := hz1
  have hz2' : (Float64.cmp (mn (mn r g) b) (mx (mx r g) b) == some .eq) = false → Float64.isZero (Float64.sub (mx (mx r g) b) (mn (mn r g) b)) = false := hz2
  clear hz1 hz2
  intro dp un gd cn cs a ccd cl outer A₀ base h₀ L m s Q E B F X T hk hd hu _ hret
  walk_at "my_enter"
  clear hret B F X T
  intro g₀ L' h₁ tk Q' hret hg htk F' N' B' X' T'
  subst hg
  (try dsimp only)
  w_on
  refine letAE ?_
  intro Ak ek9 gk dk ok
  k_steps
  all_goals (try dsimp only)
  all_goals (refine hret _ _ _ _ _ (by assumption) ?_)
  all_goals (rename News _ _ _ _ => N9)
  all_goals (refine Tup3.of N9 ?_ ?_ ?_)
  all_goals first | rfl | (simp only [hueF, satF, mx3, mn3, eqF, partF, *]; done) | (simp [hueF, satF, mx3, mn3, eqF, partF, *]; done)
end Mine
end
/- Hls -/
section
open PySem PySem.W PySem.Calls PyProof.Rows
example : True := by
  k_with_none
  k_with "my_enter" => (k_dflt (
  refine' Mine.enterC _ ?k1z0 ?k2z0 ?k3z0 ?k4z0 ?kAz0 ?kFz0 ?kKz0 ?kRz0 ?k6z0 ?k7z0 ?k8z0 ?k9z0 ?kBz0 ?_ ?c2z0 ?c3z0 ?c4z0 ?c5z0 ?c6z0
  (case kAz0 => exact rfl); (case kFz0 => exact rfl); (case kKz0 => assumption); (case k1z0 => k_asm); (case k2z0 => k_asm); (case k3z0 => k_asm); (case k4z0 => k_asm); (case kRz0 => assumption)
  (case k6z0 => k_is); (case k7z0 => k_is); (case k8z0 => exact Nat.lt_of_le_of_lt (Nat.le_add_right _ _) (by assumption)); (case k9z0 => exact BindsTo.of_eq rfl); (case c5z0 => decide); (case kBz0 => exact locs rfl); (case c2z0 => exact rfl); (case c3z0 => exact rfl); (case c4z0 => exact rfl); (case c6z0 => exact Nat.succ_pos _)))
  k_with "call builtin:max" => (k_here; (with_reducible show wpAny _ _ (call _ [Value.float _ _, Value.float _ _, Value.float _ _]) _ _ _); k_dflt (refine' Mine.max3 rfl ?Fz1 ?Nz1 ?_; (case Fz1 => k_asm); (case Nz1 => k_asm); intro hz1 tkz1 kz1 Fz1 Nz1; (try k_sweep); (try dsimp only)))
  k_with "call builtin:min" => (k_here; (with_reducible show wpAny _ _ (call _ [Value.float _ _, Value.float _ _, Value.float _ _]) _ _ _); k_dflt (refine' Mine.min3 rfl ?Fz2 ?Nz2 ?_; (case Fz2 => k_asm); (case Nz2 => k_asm); intro hz2 tkz2 kz2 Fz2 Nz2; (try k_sweep); (try dsimp only)))
  k_with "binaryOp Div float float" => (k_here; k_dflt (refine' Mine.div_nz ?nzz3 ?_; (case nzz3 => first | assumption | (apply_assumption; assumption) | decide +kernel)))
  k_with "binaryOp Mod float float" => (k_here; k_dflt (refine' Mine.mod_nz ?nzz4 ?_; (case nzz4 => first | assumption | decide +kernel)))
  k_with "ite" => (k_here; first | refine PySem.W.ite_pos (by assumption) ?_ | refine PySem.W.ite_neg (ne_true_of_eq_false (by assumption)) ?_)
  k_with "k_steps" => repeat' (first | (k_unfold; (try dsimp only)) | (k_end; kc_close) | ((first | (with_reducible show wpAny _ _ (exec _ _) _ _ _) | (with_reducible show wpAny _ _ (execs (_ :: _) _) _ _ _) | (with_reducible show wpAny _ _ (eval (PySem.Expr.BinOp _ _ _ _) _) _ _ _) | (with_reducible show wpAny _ _ (eval (PySem.Expr.Call _ _ _ _) _) _ _ _) | (with_reducible show wpAny _ _ (eval (PySem.Expr.Subscript _ _ _) _) _ _ _) | (with_reducible show wpAny _ _ (eval (PySem.Expr.Tuple _ _ _) _) _ _ _) | (with_reducible show wpAny _ _ (eval (PySem.Expr.List _ _) _) _ _ _)); k_fold; walk1) | walk1 | (dsimp only; walk1) | (leave1; walk_say "STEP leave1"; (try dsimp only)) | fail "no step")
  k_with "k_ne" => (refine neN ?_; (try dsimp only); first | exact Nat.ne_of_gt (by with_reducible assumption) | exact Nat.ne_of_lt (by with_reducible assumption) | exact Mine.Off.ne (by with_reducible assumption) | exact Mine.Off.sym (by with_reducible assumption) | with_reducible assumption | exact Ne.symm (by with_reducible assumption) | omega)
  trivial
example : (PySem.Challenge.rw_zo0010_01 = PySem.Challenge.rw_zo0010_01) ∧ (Mine.hd.heap_1 = Mine.hd.heap_1) := by k_fill; exact ⟨rfl, rfl⟩
namespace Mine
def lumF (r g b : UInt64) : UInt64 := Float64.div (Float64.add (mx3 r g b) (mn3 r g b)) 4611686018427387904
def satL (r g b : UInt64) : UInt64 := if eqF (mn3 r g b) (mx3 r g b) = true then 0 else Float64.div (Float64.sub (mx3 r g b) (mn3 r g b)) (Float64.add (mx3 r g b) (mn3 r g b))
set_option maxHeartbeats 8000000 in
theorem c_hls {prog : Program} {w : World} {mean : ExcName → Option Value} {mg mb : Str → Option Value} (r g b : UInt64) (t1 t2 t3 : Tok)
   (hz1 : eqF (mn3 r g b) (mx3 r g b) = false → Float64.isZero (Float64.add (mx3 r g b) (mn3 r g b)) = false) (hz2 : eqF (mn3 r g b) (mx3 r g b) = false → Float64.isZero (Float64.sub (mx3 r g b) (mn3 r g b)) = false)
   (hle : (Float64.cmp (lumF r g b) 4602678819172646912 == some .lt || Float64.cmp (lumF r g b) 4602678819172646912 == some .eq) = true) :
  Claim prog w mean mg mb 42 [.float r t1, .float g t2, .float b t3] 2 10 (fun _ => True) (fun g₀ v h' => Tup3 g₀ (hueF r g b) (lumF r g b) (satL r g b) v h') := by
  have hz1' : (Float64.cmp (mn (mn r g) b) (mx (mx r g) b) == some .eq) = false → Float64.isZero (Float64.add (mx (mx r g) b) (mn (mn r g) b)) = false := hz1
  have hz2' : (Float64.cmp (mn (mn r g) b) (mx (mx r g) b) == some .eq) = false → Float64.isZero (Float64.sub (mx (mx r g) b) (mn (mn r g) b)) = false := hz2
  have hle' : (Float64.cmp (Float64.div (Float64.add (mx (mx r g) b) (mn (mn r g) b)) 4611686018427387904) 4602678819172646912 == some .lt || Float64.cmp (Float64.div (Float64.add (mx (mx r g) b) (mn (mn r g) b)) 4611686018427387904) 4602678819172646912 == some .eq) = true := hle
  clear hz1 hz2 hle
  intro dp un gd cn cs a ccd cl outer A₀ base h₀ L m s Q E B F X T hk hd hu _ hret
  walk_at "my_enter"
  clear hret B F X T
  intro g₀ L' h₁ tk Q' hret hg htk F' N' B' X' T'
  subst hg
  (try dsimp only)
  w_on
  refine letAE ?_
  intro Ak ek9 gk dk ok
  k_steps
  all_goals (try dsimp only)
  all_goals (refine hret _ _ _ _ _ (by assumption) ?_)
  all_goals (rename News _ _ _ _ => N9)
  all_goals (refine Tup3.of N9 ?_ ?_ ?_)
  all_goals first | rfl | (simp only [hueF, satL, lumF, mx3, mn3, eqF, partF, *]; done) | (simp [hueF, satL, lumF, mx3, mn3, eqF, partF, *]; done)
end Mine
end
/- Esc -/
section
open PySem PySem.W PySem.Calls PyProof.Rows
example : (PySem.Challenge.rw_zo0010_01 = PySem.Challenge.rw_zo0010_01) ∧ (Mine.hd.heap_1 = Mine.hd.heap_1) := by k_fill; exact ⟨rfl, rfl⟩
namespace Mine
open Builtin Builtin.Str
example : True := by
  k_with_none
  k_with "my_enter" => (k_dflt (
  refine' Mine.enterC _ ?k1z1 ?k2z1 ?k3z1 ?k4z1 ?kAz1 ?kFz1 ?kKz1 ?kRz1 ?k6z1 ?k7z1 ?k8z1 ?k9z1 ?kBz1 ?_ ?c2z1 ?c3z1 ?c4z1 ?c5z1 ?c6z1
  (case kAz1 => exact rfl); (case kFz1 => exact rfl); (case kKz1 => assumption); (case k1z1 => k_asm); (case k2z1 => k_asm); (case k3z1 => k_asm); (case k4z1 => k_asm); (case kRz1 => assumption)
  (case k6z1 => k_is); (case k7z1 => k_is); (case k8z1 => exact Nat.lt_of_le_of_lt (Nat.le_add_right _ _) (by assumption)); (case k9z1 => exact BindsTo.of_eq rfl); (case c5z1 => decide); (case kBz1 => exact locs rfl); (case c2z1 => exact rfl); (case c3z1 => exact rfl); (case c4z1 => exact rfl); (case c6z1 => exact Nat.succ_pos _)))
  k_with "execs cons" => (k_here; (with_reducible show wpAny _ _ _ _ _ (Shared.mk _ _ _ (HAdd.hAdd _ 1) _)); (with_reducible rename Fr _ _ _ _ => F9z2); (with_reducible rename News _ _ _ _ => N9z2); with_reducible refine Mine.toks_let F9z2 N9z2 ?_; intro m9z2 n9z2 tkz2 htkz2 F8z2 N8z2; clear F9z2 N9z2)
  k_with "execs nil" => (k_here; (with_reducible show wpAny _ _ _ _ _ (Shared.mk _ _ _ (HAdd.hAdd _ 1) _)); (with_reducible rename Fr _ _ _ _ => F9z3); (with_reducible rename News _ _ _ _ => N9z3); with_reducible refine Mine.toks_let F9z3 N9z3 ?_; intro m9z3 n9z3 tkz3 htkz3 F8z3 N8z3; clear F9z3 N9z3)
  k_with "ite" => (k_here; first | refine PySem.W.ite_pos (by assumption) ?_ | refine PySem.W.ite_neg (ne_true_of_eq_false (by assumption)) ?_)
  k_with "call builtin:str.replace" => (k_here; first | (k_dflt (refine' Mine.replaceR (c := 38) ?h0z5 ?hyz5 ?hzz5 ?hlz5 ?_); (case hyz5 => decide +kernel); (case h0z5 => first | assumption | exact Nat.succ_pos _); (case hzz5 => decide +kernel); (case hlz5 => omega); (intro tz5 kz5 hkz5; (try dsimp only))) | (k_dflt (refine' Mine.replaceR (c := 62) ?h0z5 ?hyz5 ?hzz5 ?hlz5 ?_); (case hyz5 => decide +kernel); (case h0z5 => first | assumption | exact Nat.succ_pos _); (case hzz5 => decide +kernel); (case hlz5 => omega); (intro tz5 kz5 hkz5; (try dsimp only))) | (k_dflt (refine' Mine.replaceR (c := 34) ?h0z5 ?hyz5 ?hzz5 ?hlz5 ?_); (case hyz5 => decide +kernel); (case h0z5 => first | assumption | exact Nat.succ_pos _); (case hzz5 => decide +kernel); (case hlz5 => omega); (intro tz5 kz5 hkz5; (try dsimp only))) | (k_dflt (refine' Mine.replaceR (c := 60) ?h0z5 ?hyz5 ?hzz5 ?hlz5 ?_); (case hyz5 => decide +kernel); (case h0z5 => first | assumption | exact Nat.succ_pos _); (case hzz5 => decide +kernel); (case hlz5 => omega); (intro tz5 kz5 hkz5; (try dsimp only))) | (k_dflt (refine' Mine.replaceR (c := 13) ?h0z5 ?hyz5 ?hzz5 ?hlz5 ?_); (case hyz5 => decide +kernel); (case h0z5 => first | assumption | exact Nat.succ_pos _); (case hzz5 => decide +kernel); (case hlz5 => omega); (intro tz5 kz5 hkz5; (try dsimp only))))
  k_with "k_steps" => repeat' (first | (k_unfold; (try dsimp only)) | (k_end; kc_close) | ((first | (with_reducible show wpAny _ _ (exec _ _) _ _ _) | (with_reducible show wpAny _ _ (execs (_ :: _) _) _ _ _) | (with_reducible show wpAny _ _ (eval (PySem.Expr.BinOp _ _ _ _) _) _ _ _) | (with_reducible show wpAny _ _ (eval (PySem.Expr.Call _ _ _ _) _) _ _ _) | (with_reducible show wpAny _ _ (eval (PySem.Expr.Subscript _ _ _) _) _ _ _) | (with_reducible show wpAny _ _ (eval (PySem.Expr.Tuple _ _ _) _) _ _ _) | (with_reducible show wpAny _ _ (eval (PySem.Expr.List _ _) _) _ _ _)); k_fold; walk1) | walk1 | (dsimp only; walk1) | (leave1; walk_say "STEP leave1"; (try dsimp only)) | fail "no step")
  k_with "k_ne" => (refine neN ?_; (try dsimp only); first | exact Nat.ne_of_gt (by with_reducible assumption) | exact Nat.ne_of_lt (by with_reducible assumption) | exact Mine.Off.ne (by with_reducible assumption) | exact Mine.Off.sym (by with_reducible assumption) | with_reducible assumption | exact Ne.symm (by with_reducible assumption) | omega)
  trivial
section
variable {prog : Program} {w : World} {A : Around} {E : Value → Shared → Prop} {x y z : Str} {t u v : Tok} {c : Nat} {Q : Value → Shared → Prop}
theorem replaceR {h : Heap} {g : Array GenState} {d : Drawn} {o : OsState} (h0 : 0 < u) (hy : y = ⟨#[c]⟩) (hz : (y == z) = false ∧ z.length ≤ 6) (hl : x.length ≤ 1000000)
    (hq : ∀ t' k, 0 < k → Q (.str (R c z x) t') ⟨h, g, d, k, o⟩) : wpAny (model prog w) A (call (.builtin "str.replace") [.str x t, .str y u, .str z (u + 1)]) Q E ⟨h, g, d, u + 1 + 1, o⟩ := by
  obtain ⟨hyz, hz6⟩ := hz
  have hb : x.length + (x.length + 1) * z.length ≤ 16777216 := by
    have h1 : (x.length + 1) * z.length ≤ (x.length + 1) * 6 := Nat.mul_le_mul_left _ hz6
    omega
  have hl : tooLong (x.length + (occurrences x y 0 x.length (x.length + 1)).length * z.length) = false := by
    have h1 := StrLaws.occ_length_le x y 0 x.length (x.length + 1)
    have h2 : (occurrences x y 0 x.length (x.length + 1)).length * z.length ≤ (x.length + 1) * z.length := Nat.mul_le_mul_right _ h1
    unfold tooLong sizeLine
    exact decide_eq_false (by omega)
  have hu : (u == 0 || u + 1 == 0) = false := by
    rw [Bool.or_eq_false_iff]; exact ⟨beq_eq_false_iff_ne.mpr (Nat.ne_of_gt h0), beq_eq_false_iff_ne.mpr (Nat.succ_ne_zero u)⟩
  refine call_gives F.slot_str_replace (typeIs_str _ _ _) F.entry_str_replace (F.args_str_replace_3 _ _ _)
    (gives_str_replace x y z t u (u + 1) fun _ => ⟨hu, beq_eq_false_iff_ne.mpr (Nat.ne_of_lt (Nat.lt_succ_self u)), hyz, hl⟩) ?_
  have hq' := hq
  rw [← replace_R, ← hy] at hq'
  unfold Txt.replace at hq'
  cases hc : ((occurrences x y 0 x.length (x.length + 1)).isEmpty || (y.length == 0 && z.length == 0))
  · rw [hc] at hq'
    simp only [Bool.false_eq_true, if_false] at hq' ⊢
    exact ⟨fits_replaced y hb, hq' _ _ (Nat.succ_pos _)⟩
  · rw [hc] at hq'
    simp only [if_true] at hq' ⊢
    exact hq' t _ (Nat.succ_pos _)
end
theorem esc_end {x y : Str} {t : Tok} (h : x = y) : ∃ t', Value.str x t = Value.str y t' := ⟨t, by rw [h]⟩
set_option maxHeartbeats 8000000 in
theorem c_esc {prog : Program} {w : World} {mean : ExcName → Option Value} {mg mb : Str → Option Value} (x : Str) (t1 : Tok) (hx : x.length ≤ 1000) :
  Claim prog w mean mg mb 28 [.str x t1] 2 10 (fun _ => True) (fun g₀ v h' => ∃ t, v = .str (R 34 (Str.ofString "&quot;") (R 62 (Str.ofString "&gt;") (R 38 (Str.ofString "&amp;") x))) t) := by
  have l1 : (R 38 (Str.ofString "&amp;") x).length ≤ x.length * 6 := R_len 6 (by decide +kernel) (by decide)
  have l2 : (R 62 (Str.ofString "&gt;") (R 38 (Str.ofString "&amp;") x)).length ≤ (R 38 (Str.ofString "&amp;") x).length * 6 := R_len 6 (by decide +kernel) (by decide)
  have l3 : (R 62 (Str.ofString "&gt;") x).length ≤ x.length * 6 := R_len 6 (by decide +kernel) (by decide)
  have e1 : ∀ y, (occurrences y (Str.ofString "&") 0 y.length 1).isEmpty = true → R 38 (Str.ofString "&amp;") y = y := fun y h => R_none (by decide +kernel) h
  have e2 : ∀ y, (occurrences y (Str.ofString ">") 0 y.length 1).isEmpty = true → R 62 (Str.ofString "&gt;") y = y := fun y h => R_none (by decide +kernel) h
  have e3 : ∀ y, (occurrences y (Str.ofString "\"") 0 y.length 1).isEmpty = true → R 34 (Str.ofString "&quot;") y = y := fun y h => R_none (by decide +kernel) h
  intro dp un gd cn cs a ccd cl outer A₀ base h₀ L m s Q E B F X T hk hd hu _ hret
  walk_at "my_enter"
  clear hret B F X T
  intro g₀ L' h₁ tk Q' hret hg htk F' N' B' X' T'
  subst hg
  (try dsimp only)
  w_on
  refine letAE ?_
  intro Ak ek9 gk dk ok
  k_steps
  all_goals (try dsimp only)
  all_goals (refine hret _ _ _ _ _ (by assumption) ?_)
  all_goals (refine esc_end ?_)
  all_goals first | rfl | (simp only [e1, e2, e3, *]; done)
set_option maxHeartbeats 8000000 in
theorem c_c14n {prog : Program} {w : World} {mean : ExcName → Option Value} {mg mb : Str → Option Value} (x : Str) (t1 : Tok) (hx : x.length ≤ 1000) :
  Claim prog w mean mg mb 35 [.str x t1] 2 10 (fun _ => True) (fun g₀ v h' => ∃ t, v = .str (R 13 (Str.ofString "&#xD;") (R 62 (Str.ofString "&gt;") (R 60 (Str.ofString "&lt;") (R 38 (Str.ofString "&amp;") x)))) t) := by
  have l1 : ∀ y, (R 38 (Str.ofString "&amp;") y).length ≤ y.length * 6 := fun y => R_len 6 (by decide +kernel) (by decide)
  have l2 : ∀ y, (R 60 (Str.ofString "&lt;") y).length ≤ y.length * 6 := fun y => R_len 6 (by decide +kernel) (by decide)
  have l3 : ∀ y, (R 62 (Str.ofString "&gt;") y).length ≤ y.length * 6 := fun y => R_len 6 (by decide +kernel) (by decide)
  have a1 := l1 x
  have a2 := l2 x
  have a3 := l3 x
  have a4 := l2 (R 38 (Str.ofString "&amp;") x)
  have a5 := l3 (R 38 (Str.ofString "&amp;") x)
  have a6 := l3 (R 60 (Str.ofString "&lt;") x)
  have a7 := l3 (R 60 (Str.ofString "&lt;") (R 38 (Str.ofString "&amp;") x))
  clear l1 l2 l3
  have e1 : ∀ y, (occurrences y (Str.ofString "&") 0 y.length 1).isEmpty = true → R 38 (Str.ofString "&amp;") y = y := fun y h => R_none (by decide +kernel) h
  have e2 : ∀ y, (occurrences y (Str.ofString "<") 0 y.length 1).isEmpty = true → R 60 (Str.ofString "&lt;") y = y := fun y h => R_none (by decide +kernel) h
  have e3 : ∀ y, (occurrences y (Str.ofString ">") 0 y.length 1).isEmpty = true → R 62 (Str.ofString "&gt;") y = y := fun y h => R_none (by decide +kernel) h
  have e4 : ∀ y, (occurrences y (Str.ofString "\r") 0 y.length 1).isEmpty = true → R 13 (Str.ofString "&#xD;") y = y := fun y h => R_none (by decide +kernel) h
  intro dp un gd cn cs a ccd cl outer A₀ base h₀ L m s Q E B F X T hk hd hu _ hret
  walk_at "my_enter"
  clear hret B F X T
  intro g₀ L' h₁ tk Q' hret hg htk F' N' B' X' T'
  subst hg
  (try dsimp only)
  w_on
  refine letAE ?_
  intro Ak ek9 gk dk ok
  k_steps
  all_goals (try dsimp only)
  all_goals (refine hret _ _ _ _ _ (by assumption) ?_)
  all_goals (refine esc_end ?_)
  all_goals first | rfl | (simp only [e1, e2, e3, e4, *]; done)
end Mine
end
/- Ac -/
section
open PySem PySem.W PySem.Calls PyProof.Rows
example : True := by
  k_with_none
  k_with "my_enter" => (k_dflt (
  refine' Mine.enterC _ ?k1z1 ?k2z1 ?k3z1 ?k4z1 ?kAz1 ?kFz1 ?kKz1 ?kRz1 ?k6z1 ?k7z1 ?k8z1 ?k9z1 ?kBz1 ?_ ?c2z1 ?c3z1 ?c4z1 ?c5z1 ?c6z1
  (case kAz1 => exact rfl); (case kFz1 => exact rfl); (case kKz1 => assumption); (case k1z1 => k_asm); (case k2z1 => k_asm); (case k3z1 => k_asm); (case k4z1 => k_asm); (case kRz1 => assumption)
  (case k6z1 => k_is); (case k7z1 => k_is); (case k8z1 => exact Nat.lt_of_le_of_lt (Nat.le_add_right _ _) (by assumption)); (case k9z1 => exact BindsTo.of_eq rfl); (case c5z1 => decide); (case kBz1 => exact locs rfl); (case c2z1 => exact rfl); (case c3z1 => exact rfl); (case c4z1 => exact rfl); (case c6z1 => exact Nat.succ_pos _)))
  k_with "execs cons" => (k_here; (with_reducible show wpAny _ _ _ _ _ (Shared.mk _ _ _ (HAdd.hAdd _ 1) _)); (with_reducible rename Fr _ _ _ _ => F9z2); (with_reducible rename News _ _ _ _ => N9z2); with_reducible refine Mine.toks_let F9z2 N9z2 ?_; intro m9z2 n9z2 tkz2 htkz2 F8z2 N8z2; clear F9z2 N9z2)
  k_with "execs nil" => (k_here; (with_reducible show wpAny _ _ _ _ _ (Shared.mk _ _ _ (HAdd.hAdd _ 1) _)); (with_reducible rename Fr _ _ _ _ => F9z3); (with_reducible rename News _ _ _ _ => N9z3); with_reducible refine Mine.toks_let F9z3 N9z3 ?_; intro m9z3 n9z3 tkz3 htkz3 F8z3 N8z3; clear F9z3 N9z3)
  k_with "ite" => (k_here; first | refine PySem.W.ite_pos (by assumption) ?_ | refine PySem.W.ite_neg (ne_true_of_eq_false (by assumption)) ?_)
  k_with "subscriptTail Name Constant ref int" => (k_here; k_dflt (refine' Mine.item_L ?hlz5 ?h0z5 ?hhiz5 ?hxz5 ?_; (case hlz5 => first | exact Fr.lst (by k_asm) (by assumption) | exact News.isList (by k_asm) (by k_mem)); (case h0z5 => decide); (case hhiz5 => decide); (case hxz5 => exact rfl)))
  k_with "subscriptTail" => (k_here; (with_reducible show wpAny _ _ (subscriptTail _ _ (Value.bytes _ _) (Value.int _ _)) _ _ _); k_dflt (refine' Mine.item_B ?hxz6 ?hfz6 ?h0z6 ?_; (case hxz6 => exact rfl); (case hfz6 => exact Nat.le_of_ble_eq_true rfl); (case h0z6 => decide)))
  k_with "call builtin:len" => (k_here; (with_reducible show wpAny _ _ (call _ [Value.bytes _ _]) _ _ _); k_dflt (refine' Mine.len_B ?hnz7 ?hzz7 ?_; (case hnz7 => first | exact (rfl : _ = 2) | exact (rfl : _ = 3)); (case hzz7 => decide); (try dsimp only)))
  k_with "CompRest" => (with_unfolding_all (refine LCg.CompRest.succ ?_; intro vz8 Iz8 oIz8 Cz8 oCz8 Dz8 mz8 hz8 tkz8 Ez8 hvz8 hCz8 hxz8 Fz8 Nz8 offz8 nez8; obtain ⟨c9z8, u9z8, hc9z8, hv9z8⟩ := hvz8; subst hv9z8; have hc8 := Option.some.inj hc9z8; subst hc8; clear hc9z8; (try simp only [LCg.Off3, and_true] at offz8)))
  k_with "getMethod ref" => (k_here; k_dflt (first | refine Mine.dict_values_method (by first | with_reducible assumption | exact Heap.dictOf_iff.mpr ⟨_, Fr.keep (by k_asm) _ _ (by with_reducible assumption), by with_reducible assumption⟩ | exact kda_dict (by k_asm) (by k_mem) (by with_reducible assumption)) ?_ | refine Mine.dict_items_method (by first | with_reducible assumption | exact Heap.dictOf_iff.mpr ⟨_, Fr.keep (by k_asm) _ _ (by with_reducible assumption), by with_reducible assumption⟩ | exact kda_dict (by k_asm) (by k_mem) (by with_reducible assumption)) ?_))
  k_with "call builtin:dict.values" => (k_here; k_dflt (refine Mine.dict_values_call (by first | with_reducible assumption | exact Heap.dictOf_iff.mpr ⟨_, Fr.keep (by k_asm) _ _ (by with_reducible assumption), by with_reducible assumption⟩ | exact kda_dict (by k_asm) (by k_mem) (by with_reducible assumption)) (by assumption) (by k_asm) (by k_asm) ?_); intro vwz10 hz10 hvz10 Fz10 Nz10; (try k_sweep))
  k_with "call builtin:dict.items" => (k_here; k_dflt (refine Mine.dict_items_call (by first | with_reducible assumption | exact Heap.dictOf_iff.mpr ⟨_, Fr.keep (by k_asm) _ _ (by with_reducible assumption), by with_reducible assumption⟩ | exact kda_dict (by k_asm) (by k_mem) (by with_reducible assumption)) (by assumption) (by k_asm) (by k_asm) ?_); intro vwz11 hz11 hvz11 Fz11 Nz11; (try k_sweep))
  k_with "exec For Name Call cons nil" => (k_here; (with_reducible show wpAny _ _ (exec (Stmt.For (PySem.Expr.Name _ _) (PySem.Expr.Call (PySem.Expr.Attribute _ _ _) [] [] _) _ [] _) _) _ _ _); k_dflt (refine Mine.forValues (by k_asm) rfl ?_))
  k_with "exec For Tuple Call cons nil" => (k_here; (with_reducible show wpAny _ _ (exec (Stmt.For (PySem.Expr.Tuple _ _ _) (PySem.Expr.Call (PySem.Expr.Attribute _ _ _) [] [] _) _ [] _) _) _ _ _); k_dflt (refine Mine.forItems (by k_asm) rfl ?_))
  k_with "TurnEnd" => (dsimp only [Mine.TurnEnd])
  k_with "setItem ref str" => (k_here; k_dflt (refine' kda_set (knd := PySem.strKind _ _) ?Fz15 ?Nz15 ?Uz15 ?dz15 (strKind_is _ _ _ _) ?zz15 ?_; (case Fz15 => k_asm); (case Nz15 => k_asm); (case Uz15 => k_updF); (case dz15 => with_reducible assumption); (case zz15 => with_reducible assumption)); intro hz15 oz15 Fz15 Nz15 hdz15; (try dsimp only at Nz15); (try k_sweep))
  k_with "compareOp In str ref" => (k_here; k_dflt (refine kda_in (knd := PySem.strKind _ _) (by k_asm) (by k_mem) (by with_reducible assumption) (by with_reducible assumption) (strKind_is _ _ _ _) _ (by with_reducible assumption) ?_))
  k_with "subscriptTail" => (k_here; (with_reducible show wpAny _ _ (subscriptTail _ _ (Value.ref _) (Value.str _ _)) _ _ _); k_dflt (refine kda_item (knd := PySem.strKind _ _) (by k_asm) (by k_mem) (by with_reducible assumption) (strKind_is _ _ _ _) (by with_reducible assumption) ?_))
  k_with "getItem ref str" => (k_here; k_dflt (refine wpAny_getItem_of (knd := PySem.strKind _ _) (strKind_is _ _ _ _) (kda_dict (by k_asm) (by k_mem) (by with_reducible assumption)).mapOf (by with_reducible assumption) ?_))
  k_with "k_steps" => repeat' (first | (k_unfold; (try dsimp only)) | (k_end; kc_close) | ((first | (with_reducible show wpAny _ _ (exec _ _) _ _ _) | (with_reducible show wpAny _ _ (execs (_ :: _) _) _ _ _) | (with_reducible show wpAny _ _ (eval (PySem.Expr.BinOp _ _ _ _) _) _ _ _) | (with_reducible show wpAny _ _ (eval (PySem.Expr.Call _ _ _ _) _) _ _ _) | (with_reducible show wpAny _ _ (eval (PySem.Expr.Subscript _ _ _) _) _ _ _) | (with_reducible show wpAny _ _ (eval (PySem.Expr.Tuple _ _ _) _) _ _ _) | (with_reducible show wpAny _ _ (eval (PySem.Expr.List _ _) _) _ _ _)); k_fold; walk1) | walk1 | (dsimp only; walk1) | (leave1; walk_say "STEP leave1"; (try dsimp only)) | fail "no step")
  k_with "k_ne" => (refine neN ?_; (try dsimp only); first | exact Nat.ne_of_gt (by with_reducible assumption) | exact Nat.ne_of_lt (by with_reducible assumption) | exact Mine.Off.ne (by with_reducible assumption) | exact Mine.Off.sym (by with_reducible assumption) | with_reducible assumption | exact Ne.symm (by with_reducible assumption) | omega)
  trivial
example : (PySem.Challenge.rw_zo0010_01 = PySem.Challenge.rw_zo0010_01) ∧ (Mine.hd.heap_1 = Mine.hd.heap_1) := by k_fill; exact ⟨rfl, rfl⟩
namespace Mine
/-- two names taken out of a pair -/
def tupM (x1 x2 : Str) (m₀ : Str → Option Value) (a b : Value) : Str → Option Value := fun y => if y = x2 then some b else if y = x1 then some a else m₀ y
theorem tupM_twice {x1 x2 : Str} {m₀ : Str → Option Value} {a b a' b' : Value} : (fun y => if y = x2 then some b else if y = x1 then some a else tupM x1 x2 m₀ a' b' y) = tupM x1 x2 m₀ a b := by
  funext y
  unfold tupM
  by_cases h1 : y = x2
  · simp only [h1, if_true]
  · simp only [h1, if_false]
    by_cases h2 : y = x1
    · simp only [h2, if_true]
    · simp only [h2, if_false]
def acM (m₀ : Str → Option Value) (a b : Value) : Str → Option Value := tupM (Str.ofString "func") (Str.ofString "caller") m₀ a b
/-- add_callers' first loop between two turns -/
def acJ (prog : Program) (w : World) (kvs : List (Str × Value)) (N : Addr) (m₀ : Str → Option Value) (i : Nat) (m : Str → Option Value) (news : List (Addr × Obj)) : Prop :=
  (∃ o, news = [(N, o)] ∧ DictObj prog w o (kvs.take i)) ∧ ((i = 0 ∧ m = m₀) ∨ ∃ a b, m = acM m₀ a b)
/-- its second loop, of one turn -/
def acK (prog : Program) (w : World) (o : Obj) (cs : List (Str × Int)) (N : Addr) (m₀ : Str → Option Value) (i : Nat) (m : Str → Option Value) (news : List (Addr × Obj)) : Prop :=
  (i = 0 ∧ m = m₀ ∧ news = [(N, o)]) ∨ (i = 1 ∧ (∃ a b, m = acM m₀ a b) ∧ ∃ o' kvs', news = [(N, o')] ∧ DictObj prog w o' kvs' ∧ Cont kvs' cs)
/-- a new dict of counts -/
inductive DictPost (prog : Program) (w : World) (cs : List (Str × Int)) (g₀ : Heap) (v : Value) (h' : Heap) : Prop
  | mk (D : Addr) (o : Obj) (kvs : List (Str × Value)) : (v = .ref D) → (g₀.get? D = none) → ((D == sysModules) = false) → (h'.get? D = some o) → (DictObj prog w o kvs) → (Cont kvs cs) → DictPost prog w cs g₀ v h'
set_option maxHeartbeats 16000000 in
theorem c_callers {prog : Program} {w : World} {mean : ExcName → Option Value} {mg mb : Str → Option Value} (D1 D2 : Addr) (o1 o2 : Obj) (kvs : List (Str × Value)) (cs : List (Str × Int)) (k : Str) (n : Int) (t : Tok)
   (h1 : DictObj prog w o1 kvs) (hc : Cont kvs cs) (lo1 : (D1 == sysModules) = false) (h2 : DictObj prog w o2 [(k, .int n t)]) (lo2 : (D2 == sysModules) = false) (hlen : kvs.length ≤ 1000) :
  Claim prog w mean mg mb 63 [.ref D1, .ref D2] 2 10 (fun h => h.get? D1 = some o1 ∧ h.get? D2 = some o2) (DictPost prog w (updC cs k n)) := by
  have hlen' : kvs.length ≤ sizeLine := by rw [sizeLine_eq]; omega
  have hlens : ∀ i, (kvs.take i).length ≤ sizeLine := fun i => by rw [List.length_take]; omega
  have nd := dict_nodup h1
  intro dp un gd cn cs' a ccd cl outer A₀ base h₀ L m s Q E B F X T hk hd hu hl hret
  obtain ⟨hl1, hl2⟩ := hl
  walk_at "my_enter"
  clear hret B F X T
  intro g₀ L' h₁ tk Q' hret hg htk F' N' B' X' T'
  subst hg
  (try dsimp only)
  w_on
  refine letAE ?_
  intro Ak ek9 gk dk ok
  k_steps
  rename Fr _ _ _ _ => F5
  rename News _ _ _ _ => N5
  rename Heap.IsItemsView _ _ _ => hv5
  rename Obj.IsDictOf (PySem.strKind _ _) _ [] => hs5
  refine ItemsSrc.ofM (acJ prog w kvs _) hv5 h1 F5 N5 ⟨⟨_, rfl, hs5⟩, .inl ⟨rfl, rfl⟩⟩ (fun _ h m news _ F _ => F.keep _ _ hl1) ?_ ?_
  · clear N5
    intro I i k v t T m₁ news₁ o h₁ tk₁ he hJ hne hT F1 N1
    replace F1 : Fr s.heap L' h₁ _ := F1
    replace N1 : News s.heap L' h₁ _ := N1
    have hst := stored_take nd he
    have hlen9 := hlens i
    obtain ⟨⟨o, rfl, hd⟩, ⟨rfl, rfl⟩ | ⟨a, b, rfl⟩⟩ := hJ
    · clear F5
      simp +zetaDelta only [AllNe, and_true] at hne
      k_steps
      rename Fr _ _ _ _ => F9
      rename News _ _ _ _ => N9
      rename Obj.IsDictOf (PySem.strKind _ _) _ (stored _ _ _) => hd9
      rw [hst] at hd9
      exact ⟨_, _, _, _, rfl, F9, N9, (by intro p hp; rcases List.mem_singleton.mp hp with rfl; exact hne), ⟨_, rfl, hd9⟩, .inr ⟨_, _, rfl⟩⟩
    · clear F5
      simp +zetaDelta only [AllNe, and_true] at hne
      unfold acM tupM at F1
      k_steps
      rename Fr _ _ _ _ => F9
      rename News _ _ _ _ => N9
      rename Obj.IsDictOf (PySem.strKind _ _) _ (stored _ _ _) => hd9
      rw [hst] at hd9
      exact ⟨_, _, _, _, rfl, F9, N9, (by intro p hp; rcases List.mem_singleton.mp hp with rfl; exact hne), ⟨_, rfl, hd9⟩, .inr ⟨_, _, tupM_twice⟩⟩
  intro h' tk m news hJ F1 N1
  replace F1 : Fr s.heap L' h' _ := F1
  replace N1 : News s.heap L' h' _ := N1
  obtain ⟨⟨o, rfl, hd5⟩, hm⟩ := hJ
  rw [List.take_length] at hd5
  rcases hm with ⟨h0, rfl⟩ | ⟨a, b, rfl⟩
  · clear F5 N5
    k_steps
    rename Fr _ _ _ _ => F6
    rename News _ _ _ _ => N6
    rename Heap.IsItemsView _ _ D2 => hv6
    refine ItemsSrc.ofM (acK prog w _ (updC cs k n) _) hv6 h2 F6 N6 (.inl ⟨rfl, rfl, rfl⟩) (fun _ h m news _ F _ => F.keep _ _ hl2) ?_ ?_
    · clear N6
      intro I i k' v t' T m₁ news₁ o h₁ tk₁ he hJ hne hT F1 N1
      replace F1 : Fr s.heap L' h₁ _ := F1
      replace N1 : News s.heap L' h₁ _ := N1
      rcases hJ with ⟨rfl, rfl, rfl⟩ | ⟨rfl, _⟩
      · clear F6
        simp +zetaDelta only [AllNe, and_true] at hne
        have he' : k = k' ∧ Value.int n t = v := by simpa using he
        obtain ⟨rfl, rfl⟩ := he'
        have hlen9 := hlen'
        cases hb : valueAt kvs k with
        | none =>
          have hb0 : (valueAt kvs k).isSome = false := by rw [hb]; rfl
          k_steps
          rename Fr _ _ _ _ => F9
          rename News _ _ _ _ => N9
          rename Obj.IsDictOf (PySem.strKind _ _) _ (stored _ _ _) => hd9
          exact ⟨_, _, _, _, rfl, F9, N9, (by intro p hp; rcases List.mem_singleton.mp hp with rfl; exact hne), .inr ⟨rfl, ⟨_, _, rfl⟩, _, _, rfl, hd9, hc.upd_out hb0 n t⟩⟩
        | some v0 =>
          obtain ⟨n0, t0, rfl, hcu⟩ := hc.upd_in nd hb
          have hb1 : (valueAt kvs k).isSome = true := by rw [hb]; rfl
          k_steps
          rename Fr _ _ _ _ => F9
          rename News _ _ _ _ => N9
          rename Obj.IsDictOf (PySem.strKind _ _) _ (stored _ _ _) => hd9
          exact ⟨_, _, _, _, rfl, F9, N9, (by intro p hp; rcases List.mem_singleton.mp hp with rfl; exact hne), .inr ⟨rfl, ⟨_, _, rfl⟩, _, _, rfl, hd9, hcu n _⟩⟩
      · simp at he
    · intro h' tk m news hJ F1 N1
      replace F1 : Fr s.heap L' h' _ := F1
      replace N1 : News s.heap L' h' _ := N1
      rcases hJ with ⟨h0, _, _⟩ | ⟨_, ⟨a, b, rfl⟩, o', kvs', rfl, hd', hcc⟩
      · exact absurd h0 (by simp)
      · clear F6 N6
        unfold acM tupM at F1
        k_steps
        try dsimp only
        refine hret _ _ _ _ _ (by assumption) ?_
        rename News _ _ _ _ => N9
        exact ⟨_, _, _, rfl, (N9 _ (.head _)).2.2, by assumption, (N9 _ (.head _)).1, hd', hcc⟩
  · clear F5 N5
    unfold acM tupM at F1
    k_steps
    rename Fr _ _ _ _ => F6
    rename News _ _ _ _ => N6
    rename Heap.IsItemsView _ _ D2 => hv6
    refine ItemsSrc.ofM (acK prog w _ (updC cs k n) _) hv6 h2 F6 N6 (.inl ⟨rfl, rfl, rfl⟩) (fun _ h m news _ F _ => F.keep _ _ hl2) ?_ ?_
    · clear N6
      intro I i k' v t' T m₁ news₁ o h₁ tk₁ he hJ hne hT F1 N1
      replace F1 : Fr s.heap L' h₁ _ := F1
      replace N1 : News s.heap L' h₁ _ := N1
      rcases hJ with ⟨rfl, rfl, rfl⟩ | ⟨rfl, _⟩
      · clear F6
        simp +zetaDelta only [AllNe, and_true] at hne
        have he' : k = k' ∧ Value.int n t = v := by simpa using he
        obtain ⟨rfl, rfl⟩ := he'
        have hlen9 := hlen'
        cases hb : valueAt kvs k with
        | none =>
          have hb0 : (valueAt kvs k).isSome = false := by rw [hb]; rfl
          k_steps
          rename Fr _ _ _ _ => F9
          rename News _ _ _ _ => N9
          rename Obj.IsDictOf (PySem.strKind _ _) _ (stored _ _ _) => hd9
          exact ⟨_, _, _, _, rfl, F9, N9, (by intro p hp; rcases List.mem_singleton.mp hp with rfl; exact hne), .inr ⟨rfl, ⟨_, _, rfl⟩, _, _, rfl, hd9, hc.upd_out hb0 n t⟩⟩
        | some v0 =>
          obtain ⟨n0, t0, rfl, hcu⟩ := hc.upd_in nd hb
          have hb1 : (valueAt kvs k).isSome = true := by rw [hb]; rfl
          k_steps
          rename Fr _ _ _ _ => F9
          rename News _ _ _ _ => N9
          rename Obj.IsDictOf (PySem.strKind _ _) _ (stored _ _ _) => hd9
          exact ⟨_, _, _, _, rfl, F9, N9, (by intro p hp; rcases List.mem_singleton.mp hp with rfl; exact hne), .inr ⟨rfl, ⟨_, _, rfl⟩, _, _, rfl, hd9, hcu n _⟩⟩
      · simp at he
    · intro h' tk m news hJ F1 N1
      replace F1 : Fr s.heap L' h' _ := F1
      replace N1 : News s.heap L' h' _ := N1
      rcases hJ with ⟨h0, _, _⟩ | ⟨_, ⟨a, b, rfl⟩, o', kvs', rfl, hd', hcc⟩
      · exact absurd h0 (by simp)
      · clear F6 N6
        unfold acM tupM at F1
        k_steps
        try dsimp only
        refine hret _ _ _ _ _ (by assumption) ?_
        rename News _ _ _ _ => N9
        exact ⟨_, _, _, rfl, (N9 _ (.head _)).2.2, by assumption, (N9 _ (.head _)).1, hd', hcc⟩
end Mine
end
/- Af -/
section
open PySem PySem.W PySem.Calls PyProof.Rows
example : True := by
  k_with_none
  k_with "my_enter" => (k_dflt (
  refine' Mine.enterC _ ?k1z1 ?k2z1 ?k3z1 ?k4z1 ?kAz1 ?kFz1 ?kKz1 ?kRz1 ?k6z1 ?k7z1 ?k8z1 ?k9z1 ?kBz1 ?_ ?c2z1 ?c3z1 ?c4z1 ?c5z1 ?c6z1
  (case kAz1 => exact rfl); (case kFz1 => exact rfl); (case kKz1 => assumption); (case k1z1 => k_asm); (case k2z1 => k_asm); (case k3z1 => k_asm); (case k4z1 => k_asm); (case kRz1 => assumption)
  (case k6z1 => k_is); (case k7z1 => k_is); (case k8z1 => exact Nat.lt_of_le_of_lt (Nat.le_add_right _ _) (by assumption)); (case k9z1 => exact BindsTo.of_eq rfl); (case c5z1 => decide); (case kBz1 => exact locs rfl); (case c2z1 => exact rfl); (case c3z1 => exact rfl); (case c4z1 => exact rfl); (case c6z1 => exact Nat.succ_pos _)))
  k_with "execs cons" => (k_here; (with_reducible show wpAny _ _ _ _ _ (Shared.mk _ _ _ (HAdd.hAdd _ 1) _)); (with_reducible rename Fr _ _ _ _ => F9z2); (with_reducible rename News _ _ _ _ => N9z2); with_reducible refine Mine.toks_let F9z2 N9z2 ?_; intro m9z2 n9z2 tkz2 htkz2 F8z2 N8z2; clear F9z2 N9z2)
  k_with "execs nil" => (k_here; (with_reducible show wpAny _ _ _ _ _ (Shared.mk _ _ _ (HAdd.hAdd _ 1) _)); (with_reducible rename Fr _ _ _ _ => F9z3); (with_reducible rename News _ _ _ _ => N9z3); with_reducible refine Mine.toks_let F9z3 N9z3 ?_; intro m9z3 n9z3 tkz3 htkz3 F8z3 N8z3; clear F9z3 N9z3)
  k_with "ite" => (k_here; first | refine PySem.W.ite_pos (by assumption) ?_ | refine PySem.W.ite_neg (ne_true_of_eq_false (by assumption)) ?_)
  k_with "subscriptTail Name Constant ref int" => (k_here; k_dflt (refine' Mine.item_L ?hlz5 ?h0z5 ?hhiz5 ?hxz5 ?_; (case hlz5 => first | exact Fr.lst (by k_asm) (by assumption) | exact News.isList (by k_asm) (by k_mem)); (case h0z5 => decide); (case hhiz5 => decide); (case hxz5 => exact rfl)))
  k_with "subscriptTail" => (k_here; (with_reducible show wpAny _ _ (subscriptTail _ _ (Value.bytes _ _) (Value.int _ _)) _ _ _); k_dflt (refine' Mine.item_B ?hxz6 ?hfz6 ?h0z6 ?_; (case hxz6 => exact rfl); (case hfz6 => exact Nat.le_of_ble_eq_true rfl); (case h0z6 => decide)))
  k_with "call builtin:len" => (k_here; (with_reducible show wpAny _ _ (call _ [Value.bytes _ _]) _ _ _); k_dflt (refine' Mine.len_B ?hnz7 ?hzz7 ?_; (case hnz7 => first | exact (rfl : _ = 2) | exact (rfl : _ = 3)); (case hzz7 => decide); (try dsimp only)))
  k_with "CompRest" => (with_unfolding_all (refine LCg.CompRest.succ ?_; intro vz8 Iz8 oIz8 Cz8 oCz8 Dz8 mz8 hz8 tkz8 Ez8 hvz8 hCz8 hxz8 Fz8 Nz8 offz8 nez8; obtain ⟨c9z8, u9z8, hc9z8, hv9z8⟩ := hvz8; subst hv9z8; have hc8 := Option.some.inj hc9z8; subst hc8; clear hc9z8; (try simp only [LCg.Off3, and_true] at offz8)))
  k_with "k_steps" => repeat' (first | (k_unfold; (try dsimp only)) | (k_end; kc_close) | ((first | (with_reducible show wpAny _ _ (exec _ _) _ _ _) | (with_reducible show wpAny _ _ (execs (_ :: _) _) _ _ _) | (with_reducible show wpAny _ _ (eval (PySem.Expr.BinOp _ _ _ _) _) _ _ _) | (with_reducible show wpAny _ _ (eval (PySem.Expr.Call _ _ _ _) _) _ _ _) | (with_reducible show wpAny _ _ (eval (PySem.Expr.Subscript _ _ _) _) _ _ _) | (with_reducible show wpAny _ _ (eval (PySem.Expr.Tuple _ _ _) _) _ _ _) | (with_reducible show wpAny _ _ (eval (PySem.Expr.List _ _) _) _ _ _)); k_fold; walk1) | walk1 | (dsimp only; walk1) | (leave1; walk_say "STEP leave1"; (try dsimp only)) | fail "no step")
  k_with "k_ne" => (refine neN ?_; (try dsimp only); first | exact Nat.ne_of_gt (by with_reducible assumption) | exact Nat.ne_of_lt (by with_reducible assumption) | exact Mine.Off.ne (by with_reducible assumption) | exact Mine.Off.sym (by with_reducible assumption) | with_reducible assumption | exact Ne.symm (by with_reducible assumption) | omega)
  trivial
example : (PySem.Challenge.rw_zo0010_01 = PySem.Challenge.rw_zo0010_01) ∧ (Mine.hd.heap_1 = Mine.hd.heap_1) := by k_fill; exact ⟨rfl, rfl⟩
namespace Mine
abbrev tupObj (items : Array Value) : Obj := { cls := .type "tuple", data := .seq items }
/-- what add_func_stats answers -/
inductive StatPost (prog : Program) (w : World) (cs : List (Str × Int)) (x1 x2 x3 x4 : Int) (g₀ : Heap) (v : Value) (h' : Heap) : Prop
  | mk (T D : Addr) (u1 u2 u3 u4 : Tok) (o : Obj) (kvs : List (Str × Value)) : v = .ref T → g₀.get? T = none → h'.get? T = some (tupObj #[.int x1 u1, .int x2 u2, .int x3 u3, .int x4 u4, .ref D]) → T ≠ D → g₀.get? D = none → (D == sysModules) = false → h'.get? D = some o → DictObj prog w o kvs → Cont kvs cs → StatPost prog w cs x1 x2 x3 x4 g₀ v h'
set_option maxHeartbeats 16000000 in
theorem c_stats {prog : Program} {w : World} {mean : ExcName → Option Value} {mg mb : Str → Option Value} (T1 T2 D1 D2 : Addr) (o1 o2 : Obj) (kvs : List (Str × Value)) (cs : List (Str × Int)) (k : Str) (n : Int) (t : Tok)
   (a1 a2 a3 a4 b1 b2 b3 b4 : Int) (i1 i2 i3 i4 j1 j2 j3 j4 : Tok)
   (h1 : DictObj prog w o1 kvs) (hc : Cont kvs cs) (lo1 : (D1 == sysModules) = false) (h2 : DictObj prog w o2 [(k, .int n t)]) (lo2 : (D2 == sysModules) = false) (hlen : kvs.length ≤ 1000) :
  Claim prog w mean mg mb 56 [.ref T1, .ref T2] 4 20 (fun h => IsTup h T1 #[.int a1 i1, .int a2 i2, .int a3 i3, .int a4 i4, .ref D1] ∧ IsTup h T2 #[.int b1 j1, .int b2 j2, .int b3 j3, .int b4 j4, .ref D2] ∧ h.get? D1 = some o1 ∧ h.get? D2 = some o2)
   (StatPost prog w (updC cs k n) (b1 + a1) (b2 + a2) (b3 + a3) (b4 + a4)) := by
  intro dp un gd cn cs' a ccd cl outer A₀ base h₀ L m s Q E B F X T hk hd hu hl hret
  obtain ⟨ht1, ht2, hl1, hl2⟩ := hl
  walk_at "my_enter"
  clear hret B F X T
  intro g₀ L' h₁ tk Q' hret hg htk F' N' B' X' T'
  subst hg
  (try dsimp only)
  w_on
  refine letAE ?_
  intro Ak ek9 gk dk ok
  k_steps
  rename Fr _ _ _ _ => F7
  rename News _ _ _ _ => N7
  k_here
  refine' useC (c_callers D1 D2 o1 o2 kvs cs k n t h1 hc lo1 h2 lo2 hlen) ?B ?F ?N ?X ?T ?hk ?hd ?hu ?pre ?_
  case B => k_asm
  case F => k_asm
  case N => k_asm
  case X => k_asm
  case T => k_asm
  case hk => exact rfl
  case hd => ktr_room
  case hu => ktr_units
  case pre => exact ⟨Fr.keep (by k_asm) _ _ hl1, Fr.keep (by k_asm) _ _ hl2⟩
  intro v9 h9 tk9 F9 N9 P9
  obtain ⟨D9, o9, kvs9, e9, a9, b9, c9, d9, f9⟩ := P9
  subst e9
  obtain ⟨N9, ne0⟩ := gain2 F7 N7 N9 a9 c9
  simp +zetaDelta only [AllNe, and_true] at ne0
  clear F7 N7
  try dsimp only
  k_steps
  try dsimp only
  refine hret _ _ _ _ _ (by assumption) ?_
  rename News _ _ _ _ => N8
  exact ⟨_, _, _, _, _, _, _, _, rfl, (N8 _ (.head _)).2.2, (N8 _ (.head _)).1, by k_ne, (N8 _ (.tail _ (.head _))).2.2, b9, (N8 _ (.tail _ (.head _))).1, d9, f9⟩
end Mine
end
/- FF -/
section
open PySem PySem.W PySem.Calls PyProof.Rows
namespace Mine
/-- so many 32nds -/
def q32 (n : Nat) : UInt64 := Float64.ofFrac false n 32
section
variable {prog : Program} {w : World} {A : Around} {E : Value → Shared → Prop} {s : Shared} {Q : Value → Shared → Prop} {a : Int} {t u : Tok}
theorem div32 (hA : A.handled = none) (h0 : 0 ≤ a) (h1 : a ≤ 255) (h : ∀ tk k, Q (.float (q32 a.toNat) tk) { s with toks := k }) : wpAny (model prog w) A (binaryOp .Div (.int a t) (.int 32 u)) Q E s := by
  refine Flt.div_ii_fits hA (Nat.lt_of_lt_of_le (show a.natAbs < 256 by omega) (by decide)) (fun e => absurd e (by decide)) fun _ _ => ?_
  have e : Float64.ofFrac (decide (a < 0) != decide ((32 : Int) < 0)) a.natAbs (32 : Int).natAbs = q32 a.toNat := by
    have h2 : decide (a < 0) = false := decide_eq_false (by omega)
    have h3 : a.natAbs = a.toNat := by omega
    rw [h2, h3]; rfl
  rw [e]
  exact h _ _
end
set_option maxHeartbeats 4000000 in
theorem tab_max : ∀ n, n < 22 → ∀ l, l < 22 → (eqF (mn3 (q32 n) (q32 l) (q32 l)) (mx3 (q32 n) (q32 l) (q32 l)) = false → Float64.isZero (mx3 (q32 n) (q32 l) (q32 l)) = false) ∧
    (eqF (mn3 (q32 n) (q32 l) (q32 l)) (mx3 (q32 n) (q32 l) (q32 l)) = false → Float64.isZero (Float64.sub (mx3 (q32 n) (q32 l) (q32 l)) (mn3 (q32 n) (q32 l) (q32 l))) = false) ∧
    mx3 (q32 n) (q32 l) (q32 l) = q32 (max n l) := by decide +kernel
end Mine
namespace Mine
/-- the word by which a sum mends itself -/
def mend (t x : UInt64) : UInt64 := Float64.add 0 (if Float64.cmp (Float64.abs t) (Float64.abs x) == some .lt || Float64.isNaN t || Float64.isNaN x then Float64.add (Float64.sub x (Float64.add t x)) t else Float64.add (Float64.sub t (Float64.add t x)) x)
set_option maxHeartbeats 4000000 in
theorem tab_add : ∀ a, a < 44 → ∀ b, b < 22 → Float64.add (q32 a) (q32 b) = q32 (a + b) ∧ mend (q32 a) (q32 b) = 0 := by decide +kernel
theorem tab_first : ∀ a, a < 22 → Float64.add (Float64.ofInt 0) (q32 a) = q32 a := by decide +kernel
set_option maxHeartbeats 4000000 in
theorem tab_lt : ∀ a, a < 64 → ∀ b, b < 64 → (Float64.cmp (q32 a) (q32 b) == some .lt) = decide (a < b) := by decide +kernel
theorem tab_settled : ∀ a, a < 64 → Num.settled (q32 a) 0 = q32 a := by decide +kernel
theorem sum32 {a b c : Nat} (ha : a < 22) (hb : b < 22) (hc : c < 22) : Flt.sumOf [q32 a, q32 b, q32 c] = q32 (a + b + c) := by
  have h1 := tab_first a ha
  have h2 := tab_add a (by omega) b hb
  have h3 := tab_add (a + b) (by omega) c hc
  have h4 := tab_settled (a + b + c) (by omega)
  have e2 := h2.2
  have e3 := h3.2
  unfold mend at e2 e3
  simp only [Flt.sumOf, Flt.sumBits]
  rw [h1, e2, h2.1, e3, h3.1, h4]
end Mine
namespace Mine
theorem tail1 {h₀ h : Heap} {L : Addr} {p : Addr × Obj} {news : List (Addr × Obj)} (N : News h₀ L h (p :: news)) : News h₀ L h news := fun r hr => N r (.tail _ hr)
end Mine
end
/- We0 -/
section
open PySem PySem.W PySem.Calls PyProof.Rows
namespace Mine
/-- a new object that a call leaves -/
def NewIn (g₀ h' : Heap) (D : Addr) (o : Obj) : Prop := g₀.get? D = none ∧ h'.get? D = some o
theorem newIn {g₀ h' : Heap} {L D : Addr} {o : Obj} {l : List (Addr × Obj)} (N : News g₀ L h' l) (hm : (D, o) ∈ l) : NewIn g₀ h' D o := ⟨(N _ hm).2.2, (N _ hm).1⟩
theorem srcSub {h₀ : Heap} {C : Addr} {its : Array Value} {K l : List (Addr × Obj)} (h : LCg.SrcAt h₀ C its K) (hs : ∀ p ∈ K, p ∈ l) : LCg.SrcAt h₀ C its l := by
  rcases h with h | ⟨o, hm, r⟩
  · exact .inl h
  · exact .inr ⟨o, hs _ hm, r⟩
section
variable {prog : Program} {w : World} {A : Around} {s₁ : Shared} {h₀ : Heap} {L : Addr} {m : Str → Option Value} {env : Env}
theorem compSrc_both {elt : PySem.Expr} {x : Str} {scope : Scope} {cl : List (Str × Addr)} {Fin : Shared → List Value → List (Addr × Obj) → Prop} {ax : Addr} {its : Array Value} {news : List (Addr × Obj)}
    (hh : A.handled = none) (F : Fr h₀ L s₁.heap m) (N : News h₀ L s₁.heap news) (hm : LCg.SrcAt h₀ ax its news) (hsz : its.size ≤ sizeLine)
    (h : ∀ g, LCg.CompRest prog w A h₀ L m env elt x scope cl { s₁ with heap := g } (LCg.SrcAt h₀ ax its) (fun i v => its[i]? = some v) (Fin { s₁ with heap := g }) its.size 0 [] news) :
    LCg.CompSrc prog w A h₀ L m env elt x scope cl Fin (.ref ax) s₁ := .inl ⟨ax, its, news, rfl, hh, F, N, hm, hsz, fun _ ⟨g, e⟩ => e ▸ h g⟩
end
theorem isTup_of {h₀ h : Heap} {L T : Addr} {items : Array Value} {l : List (Addr × Obj)} (N : News h₀ L h l) (hm : (T, tupObj items) ∈ l) : IsTup h T items := ⟨_, (N _ hm).1, rfl, 0, rfl⟩
/-- the greater of 1 and d -/
def up1 (d : Int) : Int := if d > 1 then d else 1
def crossL (g t : Nat) (l : List Int) : List Int := (l.set g (l.getD t 0)).set t (l.getD g 0)
def moveL (g t : Nat) (m : Int) (l : List Int) : List Int := (l.set g (l.getD g 0 - m)).set t (l.getD t 0 + m)
def gapL (g t : Nat) (l : List Int) : Int := up1 (l.getD g 0 - l.getD t 0)
def expand1 (k m : Int) (g t : Nat) (r : Int × List Int) : List (Int × List Int) := [(r.1 * k, r.2), (r.1 * m, crossL g t r.2)]
def expand (k m : Int) (g t : Nat) (rs : List (Int × List Int)) : List (Int × List Int) := rs.flatMap (expand1 k m g t)
/-- the rows after the moves -/
def weighL : List (Nat × Nat × Int) → List Int → List (Int × List Int) → List (Int × List Int)
  | [], _, rs => rs
  | (g, t, m) :: ms, l, rs => weighL ms (moveL g t m l) (expand (gapL g t l - m) m g t rs)
def movesOf (x y z p q r : Int) : List (Nat × Nat × Int) := if y ≥ q then [(1, 2, y - q), (0, 2, x - p)] else [(0, 1, q - y), (0, 2, r - z)]
/-- a weighed row on the heap -/
inductive RowH (H : Addr) (hs : List Int) (K : List (Addr × Obj)) : Value → Int × List Int → Prop
  | own (T : Addr) (w : Int) (t : Tok) (hT : (T, tupObj #[.int w t, .ref H]) ∈ K) : RowH H hs K (.ref T) (w, hs)
  | new (T C : Addr) (w : Int) (t : Tok) (vs : List Value) (l : List Int) (n : Nat) (hT : (T, tupObj #[.int w t, .ref C]) ∈ K) (hC : (C, W.listOf vs.toArray n) ∈ K) (hv : IntsAre vs l) (hl : l.length = 3) : RowH H hs K (.ref T) (w, l)
inductive RowsH (H : Addr) (hs : List Int) (K : List (Addr × Obj)) : List Value → List (Int × List Int) → Prop
  | nil : RowsH H hs K [] []
  | cons {v r vs rs} : RowH H hs K v r → RowsH H hs K vs rs → RowsH H hs K (v :: vs) (r :: rs)
theorem RowH.mono {H : Addr} {hs : List Int} {K K' : List (Addr × Obj)} {v : Value} {r : Int × List Int} (h : RowH H hs K v r) (k : ∀ p ∈ K, p ∈ K') : RowH H hs K' v r := by
  cases h with
  | own T w t hT => exact .own T w t (k _ hT)
  | new T C w t vs l n hT hC hv hl => exact .new T C w t vs l n (k _ hT) (k _ hC) hv hl
theorem RowsH.mono {H : Addr} {hs : List Int} {K K' : List (Addr × Obj)} {vs : List Value} {rs : List (Int × List Int)} (h : RowsH H hs K vs rs) (k : ∀ p ∈ K, p ∈ K') : RowsH H hs K' vs rs := by
  induction h with
  | nil => exact .nil
  | cons a _ ih => exact .cons (a.mono k) ih
theorem RowsH.append {H : Addr} {hs : List Int} {K : List (Addr × Obj)} {vs us : List Value} {rs ts : List (Int × List Int)} (h : RowsH H hs K vs rs) (g : RowsH H hs K us ts) : RowsH H hs K (vs ++ us) (rs ++ ts) := by
  induction h with
  | nil => exact g
  | cons a _ ih => exact .cons a ih
/-- what a call leaves: weighed rows -/
inductive WRows (H : Addr) (hs : List Int) (rs : List (Int × List Int)) (g₀ : Heap) (v : Value) (h' : Heap) : Prop
  | mk (R : Addr) (K : List (Addr × Obj)) (n : Nat) (vs : List Value) : (v = .ref R) → ((∀ p ∈ K, g₀.get? p.1 = none ∧ h'.get? p.1 = some p.2)) → ((R, W.listOf vs.toArray n) ∈ K) → (RowsH H hs K vs rs) → WRows H hs rs g₀ v h'
/-- the two moves on the heap, behind the if -/
inductive MvQ (h₀ : Heap) (L : Addr) (m : Str → Option Value) (s : Shared) (mv : List (Nat × Nat × Int)) (f : Flow) (s' : Shared) : Prop
  | mk (h' : Heap) (tk : Nat) (MA T1 T2 : Addr) (n : Nat) (g1 e1 : Nat) (m1 : Int) (g2 e2 : Nat) (m2 : Int) (k1 k2 k3 k4 k5 k6 : Tok) (hf : f = .next) (hs : s' = { s with heap := h', toks := tk }) (F : Fr h₀ L h' (fun z => if z = Str.ofString "moves" then some (.ref MA) else m z))
    (N : News h₀ L h' [(MA, W.listOf #[.ref T1, .ref T2] n), (T1, tupObj #[.int (g1 : Nat) k1, .int (e1 : Nat) k2, .int m1 k3]), (T2, tupObj #[.int (g2 : Nat) k4, .int (e2 : Nat) k5, .int m2 k6])]) (hm : mv = [(g1, e1, m1), (g2, e2, m2)])
    (b1 : g1 < 3) (b2 : e1 < 3) (b3 : g1 ≠ e1) (b4 : g2 < 3) (b5 : e2 < 3) (b6 : g2 ≠ e2) (b7 : -255 ≤ m1 ∧ m1 ≤ 255) (b8 : -255 ≤ m2 ∧ m2 ≤ 255) : MvQ h₀ L m s mv f s'
theorem mv_split {M : Model} {A : Around} {t : Sem Flow} {Q : Flow → Shared → Prop} {E : Value → Shared → Prop} {h₀ h : Heap} {L : Addr} {m : Str → Option Value} {s s₁ : Shared} {mv : List (Nat × Nat × Int)} (_F : Fr h₀ L h m)
    (h1 : wpAny M A t (MvQ h₀ L m s₁ mv) E s) (h2 : ∀ f s', MvQ h₀ L m s₁ mv f s' → Q f s') : wpAny M A t Q E s := wpAny_mono h1 h2 fun _ _ e => e
/-- one item set, whatever the value -/
def SetAt (vs : List Value) (k : Int) : Prop := ∀ v, ki_setL vs.toArray.toList k.toNat v = some (vs.set k.toNat v)
def SetAt2 (vs : List Value) (k j : Int) : Prop := ∀ u v, ki_setL (vs.set k.toNat u).toArray.toList j.toNat v = some ((vs.set k.toNat u).set j.toNat v)
/-- an item that stands whatever was set elsewhere -/
def AllAt (vs : List Value) (k j : Int) (x : Value) : Prop := ∀ u, (vs.set k.toNat u)[j.toNat]? = some x
theorem SetAt.at {vs : List Value} {k : Int} (h : SetAt vs k) (v : Value) : ki_setL vs.toArray.toList k.toNat v = some (vs.set k.toNat v) := h v
theorem SetAt2.at {vs : List Value} {k j : Int} (h : SetAt2 vs k j) (u v : Value) : ki_setL (vs.set k.toNat u).toArray.toList j.toNat v = some ((vs.set k.toNat u).set j.toNat v) := h u v
theorem AllAt.at {vs : List Value} {k j : Int} {x : Value} (h : AllAt vs k j x) (u : Value) : (vs.set k.toNat u)[j.toNat]? = some x := h u
theorem setL_of : ∀ {vs : List Value} {k : Nat} {v : Value}, k < vs.length → ki_setL vs k v = some (vs.set k v)
  | _ :: _, 0, _, _ => rfl
  | x :: r, k + 1, v, h => by
    unfold ki_setL
    rw [setL_of (Nat.lt_of_succ_lt_succ h)]
    rfl
theorem setAt_of {vs : List Value} {k : Nat} (h : k < vs.length) : SetAt vs ((k : Nat) : Int) := fun v => by rw [Int.toNat_natCast]; exact setL_of h
theorem setAt2_of {vs : List Value} {k j : Nat} (h : j < vs.length) : SetAt2 vs ((k : Nat) : Int) ((j : Nat) : Int) := fun u v => by rw [Int.toNat_natCast, Int.toNat_natCast]; exact setL_of (by rw [List.length_set]; exact h)
theorem ints_at {vs : List Value} {l : List Int} (h : IntsAre vs l) : ∀ {k : Nat}, k < l.length → ∃ t, vs[((k : Nat) : Int).toNat]? = some (.int (l.getD k 0) t) := by
  induction h with
  | nil => intro k hk; exact absurd hk (Nat.not_lt_zero _)
  | cons n t _ ih =>
    intro k hk
    rw [Int.toNat_natCast]
    cases k with
    | zero => exact ⟨t, rfl⟩
    | succ k =>
      obtain ⟨u, hu⟩ := ih (Nat.lt_of_succ_lt_succ hk)
      exact ⟨u, by rw [Int.toNat_natCast] at hu; exact hu⟩
theorem allAt_of {vs : List Value} {k j : Nat} {x : Value} (hne : k ≠ j) (h : vs[((j : Nat) : Int).toNat]? = some x) : AllAt vs ((k : Nat) : Int) ((j : Nat) : Int) x := fun u => by
  rw [Int.toNat_natCast] at h ⊢
  rw [Int.toNat_natCast, List.getElem?_set_ne hne]
  exact h
theorem ints_set {vs : List Value} {l : List Int} (h : IntsAre vs l) : ∀ {k : Nat} {n : Int} {t : Tok}, IntsAre (vs.set k (.int n t)) (l.set k n) := by
  induction h with
  | nil => intro k n t; exact .nil
  | cons a u h' ih =>
    intro k n t
    cases k with
    | zero => exact .cons n t h'
    | succ k => exact .cons a u ih
end Mine
namespace Mine
/-- the moves still to come -/
inductive MovesAt (K : List (Addr × Obj)) : List Value → List (Nat × Nat × Int) → Prop
  | nil : MovesAt K [] []
  | cons {vs : List Value} {ms : List (Nat × Nat × Int)} (T : Addr) (g t : Nat) (m : Int) (k1 k2 k3 : Tok) (hT : (T, tupObj #[.int (g : Nat) k1, .int (t : Nat) k2, .int m k3]) ∈ K) (hg : g < 3) (ht : t < 3) (hne : g ≠ t) (hm : -255 ≤ m ∧ m ≤ 255) :
      MovesAt K vs ms → MovesAt K (.ref T :: vs) ((g, t, m) :: ms)
theorem MovesAt.mono {K K' : List (Addr × Obj)} {vs : List Value} {ms : List (Nat × Nat × Int)} (h : MovesAt K vs ms) (k : ∀ p ∈ K, p ∈ K') : MovesAt K' vs ms := by
  induction h with
  | nil => exact .nil
  | cons T g t m k1 k2 k3 hT hg ht hne hm _ ih => exact .cons T g t m k1 k2 k3 (k _ hT) hg ht hne hm ih
def Within (b : Int) (l : List Int) : Prop := ∀ n ∈ l, -b ≤ n ∧ n ≤ b
theorem Within.getD {b : Int} {l : List Int} (h : Within b l) (hb : 0 ≤ b) (k : Nat) : -b ≤ l.getD k 0 ∧ l.getD k 0 ≤ b := by
  rw [List.getD_eq_getElem?_getD]
  cases e : l[k]? with
  | none => exact ⟨by simpa using hb, by simpa using hb⟩
  | some n => exact h n (List.mem_of_getElem? e)
theorem Within.set {b c : Int} {l : List Int} (h : Within b l) (hbc : b ≤ c) {n : Int} (hn : -c ≤ n ∧ n ≤ c) (k : Nat) : Within c (l.set k n) := fun a ha => by
  rcases List.mem_or_eq_of_mem_set ha with h' | rfl
  · have := h a h'; omega
  · exact hn
theorem Within.move {b m : Int} {l : List Int} (h : Within b l) (hb : 0 ≤ b) (hm : -255 ≤ m ∧ m ≤ 255) (g t : Nat) : Within (b + 255) (moveL g t m l) := by
  have h1 := h.getD hb g
  have h2 := h.getD hb t
  have w1 : Within (b + 255) (l.set g (l.getD g 0 - m)) := h.set (by omega) (by omega) g
  exact w1.set (Int.le_refl _) (by omega) t
/-- the names that a move stores -/
def we9 (r c t w mo ga mu ta gi : Option Value) : List (Str × Option Value) :=
  [(Str.ofString "rows", r), (Str.ofString "crossed", c), (Str.ofString "three", t), (Str.ofString "weight", w), (Str.ofString "more", mo), (Str.ofString "gap", ga), (Str.ofString "much", mu), (Str.ofString "taker", ta), (Str.ofString "giver", gi)]
/-- the outer loop between two moves -/
inductive weJ (ME MA : Addr) (oM : Obj) (H : Addr) (hs : List Int) (fin : List (Int × List Int)) (m₀ : Str → Option Value) (rest : List Value) (m : Str → Option Value) (news : List (Addr × Obj)) : Prop
  | mk (c t w mo ga mu ta gi : Option Value) (K : List (Addr × Obj)) (RA : Addr) (mv : List Value) (nm nr : Nat) (ml : List Int) (rvs : List Value) (rs : List (Int × List Int)) (ms : List (Nat × Nat × Int)) (b : Int) (hm : m = ovs (we9 (some (.ref RA)) c t w mo ga mu ta gi) m₀)
    (hn : news = (ME, W.listOf mv.toArray nm) :: K) (hM : (MA, oM) ∈ K) (hml : IntsAre mv ml) (hl3 : ml.length = 3) (hR : (RA, W.listOf rvs.toArray nr) ∈ K) (hrs : RowsH H hs K rvs rs) (hms : MovesAt K rest ms) (hne : ∀ p ∈ K, p.1 ≠ ME)
    (hb : Within b ml) (hb0 : 0 ≤ b ∧ b + 255 * ms.length ≤ 1000) (hrl : rs.length * 2 ^ ms.length ≤ 4) (hfin : weighL ms ml rs = fin) : weJ ME MA oM H hs fin m₀ rest m news
/-- the inner loop between two rows -/
inductive weI (XA ME : Addr) (oME : Obj) (I : Addr) (oI : Obj) (K : List (Addr × Obj)) (H : Addr) (hs : List Int) (fin : List (Int × List Int)) (k m : Int) (g t : Nat) (m₁ : Str → Option Value) (rest : List Value) (mm : Str → Option Value) (news : List (Addr × Obj)) : Prop
  | mk (c th wt : Option Value) (K' : List (Addr × Obj)) (xs : List Value) (nx : Nat) (rs ds : List (Int × List Int)) (hm : mm = ovs [(Str.ofString "crossed", c), (Str.ofString "three", th), (Str.ofString "weight", wt)] m₁)
    (hn : news = (XA, W.listOf xs.toArray nx) :: (I, oI) :: (ME, oME) :: K') (hK : ∀ p ∈ K, p ∈ K') (hrs : RowsH H hs K' rest rs) (hds : RowsH H hs K' xs ds) (h1 : ∀ p ∈ K', p.1 ≠ XA) (h2 : ∀ p ∈ K', p.1 ≠ ME) (h3 : ∀ p ∈ K', p.1 ≠ I)
    (hfin : ds ++ expand k m g t rs = fin) (hlen : xs.length + 2 * rs.length ≤ 8) : weI XA ME oME I oI K H hs fin k m g t m₁ rest mm news
theorem we_start {h₀ h : Heap} {L ME RA T0 MA T1 T2 H : Addr} {oME oM : Obj} {hs : List Int} {g1 e1 g2 e2 : Nat} {m1 m2 : Int} {k0 k1 k2 k3 k4 k5 k6 : Tok} (N : News h₀ L h [(ME, oME), (RA, W.listOf #[.ref T0] 0), (T0, tupObj #[.int 1 k0, .ref H]), (MA, oM), (T1, tupObj #[.int (g1 : Nat) k1, .int (e1 : Nat) k2, .int m1 k3]), (T2, tupObj #[.int (g2 : Nat) k4, .int (e2 : Nat) k5, .int m2 k6])])
    (a1 : Off RA ME) (a2 : Off T0 ME) (a3 : Off MA ME) (a4 : Off T1 ME) (a5 : Off T2 ME) (b1 : g1 < 3) (b2 : e1 < 3) (b3 : g1 ≠ e1) (b4 : g2 < 3) (b5 : e2 < 3) (b6 : g2 ≠ e2) (b7 : -255 ≤ m1 ∧ m1 ≤ 255) (b8 : -255 ≤ m2 ∧ m2 ≤ 255) :
    ∃ K, News h₀ L h ((ME, oME) :: K) ∧ (MA, oM) ∈ K ∧ MovesAt K [.ref T1, .ref T2] [(g1, e1, m1), (g2, e2, m2)] ∧ (RA, W.listOf [Value.ref T0].toArray 0) ∈ K ∧ RowsH H hs K [.ref T0] [(1, hs)] ∧ ∀ p ∈ K, p.1 ≠ ME :=
  ⟨[(RA, W.listOf #[.ref T0] 0), (T0, tupObj #[.int 1 k0, .ref H]), (MA, oM), (T1, tupObj #[.int (g1 : Nat) k1, .int (e1 : Nat) k2, .int m1 k3]), (T2, tupObj #[.int (g2 : Nat) k4, .int (e2 : Nat) k5, .int m2 k6])], N, .tail _ (.tail _ (.head _)),
    .cons T1 g1 e1 m1 k1 k2 k3 (.tail _ (.tail _ (.tail _ (.head _)))) b1 b2 b3 b7 (.cons T2 g2 e2 m2 k4 k5 k6 (.tail _ (.tail _ (.tail _ (.tail _ (.head _))))) b4 b5 b6 b8 .nil), .head _, .cons (.own T0 1 k0 (.tail _ (.head _))) .nil,
    all_cons a1 (all_cons a2 (all_cons a3 (all_cons a4 (all_cons a5 all_nil))))⟩
/-- a row, opened -/
inductive RowO (h₀ : Heap) (H : Addr) (hs : List Int) (K : List (Addr × Obj)) (v : Value) (r : Int × List Int) : Prop
  | mk (T C : Addr) (w a b c : Int) (t k1 k2 k3 : Tok) (hv : v = .ref T) (hr : r = (w, [a, b, c])) (hT : (T, tupObj #[.int w t, .ref C]) ∈ K) (hC : LCg.SrcAt h₀ C #[.int a k1, .int b k2, .int c k3] K)
    (hn : ∀ (K' : List (Addr × Obj)) (T' : Addr) (w' : Int) (t' : Tok), (∀ p ∈ K, p ∈ K') → (T', tupObj #[.int w' t', .ref C]) ∈ K' → RowH H hs K' (.ref T') (w', [a, b, c])) : RowO h₀ H hs K v r
theorem rowO {h₀ : Heap} {H : Addr} {x y z : Int} {i1 i2 i3 : Tok} {K : List (Addr × Obj)} {v : Value} {r : Int × List Int} (hl : h₀.IsList H #[.int x i1, .int y i2, .int z i3]) (h : RowH H [x, y, z] K v r) : RowO h₀ H [x, y, z] K v r := by
  cases h with
  | own T w t hT => exact .mk T H w x y z t i1 i2 i3 rfl rfl hT (.inl hl) fun K' T' w' t' _ hT' => .own T' w' t' hT'
  | new T C w t vs l n hT hC hv h3 =>
    obtain ⟨a, b, c, k1, k2, k3, rfl, rfl⟩ := intsAre3 hv h3
    exact .mk T C w a b c t k1 k2 k3 rfl rfl hT (.inr ⟨_, hC, rfl, n, rfl⟩) fun K' T' w' t' k hT' => .new T' C w' t' _ _ n hT' (k _ hC) hv h3
end Mine
namespace Mine
theorem allLt_ne {d : Addr} : ∀ {K : List (Addr × Obj)}, AllLt d K → ∀ p ∈ K, p.1 ≠ d
  | [], _, _, hp => nomatch hp
  | q :: r, h, p, hp => by
    rcases List.mem_cons.mp hp with rfl | hp
    · exact Nat.ne_of_lt h.1
    · exact allLt_ne h.2 p hp
theorem pow_half {n k : Nat} (h : n * 2 ^ (k + 1) ≤ 4) : n ≤ 2 ∧ 2 * n * 2 ^ k ≤ 4 := by
  have e : n * 2 ^ (k + 1) = 2 * n * 2 ^ k := by rw [Nat.pow_succ, Nat.mul_comm (2 ^ k), ← Nat.mul_assoc, Nat.mul_comm n]
  rw [e] at h
  have h1 : 1 ≤ 2 ^ k := Nat.one_le_two_pow
  have := Nat.mul_le_mul_left (2 * n) h1
  exact ⟨by omega, h⟩
theorem expand_len {k m : Int} {g t : Nat} : ∀ {rs : List (Int × List Int)}, (expand k m g t rs).length = 2 * rs.length
  | [] => rfl
  | r :: rs => by
    have := expand_len (k := k) (m := m) (g := g) (t := t) (rs := rs)
    unfold expand at this ⊢
    rw [List.flatMap_cons, List.length_append, this]
    show 2 + 2 * rs.length = 2 * (rs.length + 1)
    omega
/-- a list that may grow -/
def Grows (vs : List Value) : Prop := vs.length ≤ 7
theorem Grows.size {vs : List Value} (h : Grows vs) : vs.toArray.size ≤ sizeLine := by rw [List.size_toArray, sizeLine_eq]; exact Nat.le_trans h (Nat.le_of_ble_eq_true rfl)
theorem Grows.size2 {vs : List Value} (h : Grows vs) (v : Value) : (vs.toArray.push v).size ≤ sizeLine := by rw [Array.size_push, List.size_toArray, sizeLine_eq]; exact Nat.le_trans (Nat.succ_le_succ h) (Nat.le_of_ble_eq_true rfl)
end Mine
namespace Mine
theorem srcIn {h₀ h : Heap} {L C : Addr} {m : Str → Option Value} {its : Array Value} {K l : List (Addr × Obj)} (S : LCg.SrcAt h₀ C its K) (F : Fr h₀ L h m) (N : News h₀ L h l) (hs : ∀ p ∈ K, p ∈ l) : h.IsList C its := (srcSub S hs).list F.keep N
theorem allOff_mem {d : Addr} : ∀ {K : List (Addr × Obj)}, AllOff d K → ∀ p ∈ K, p.1 ≠ d
  | [], _, _, hp => nomatch hp
  | q :: r, h, p, hp => by
    rcases List.mem_cons.mp hp with rfl | hp
    · exact h.1
    · exact allOff_mem h.2 p hp
end Mine
namespace Mine
theorem ints_two {vs : List Value} {l : List Int} (h : IntsAre vs l) {g e : Nat} {a b : Int} {t u : Tok} : IntsAre ((vs.set ((g : Nat) : Int).toNat (.int a t)).set ((e : Nat) : Int).toNat (.int b u)) ((l.set g a).set e b) := by
  rw [Int.toNat_natCast, Int.toNat_natCast]
  exact ints_set (ints_set h)
theorem we_turn {h₀ h : Heap} {L D1 D2 CR I2 XA I ME C H : Addr} {o2 o oME : Obj} {K' : List (Addr × Obj)} {hs : List Int} {g e nx n3 : Nat} {w2 k mm a b c : Int} {t1 t2 q1 q2 q3 u1 u2 : Tok} {xs : List Value} {ds : List (Int × List Int)}
    (N : News h₀ L h ((D2, tupObj #[.int (w2 * mm) t2, .ref CR]) :: (D1, tupObj #[.int (w2 * k) t1, .ref C]) :: (CR, W.listOf (([Value.int a q1, .int b q2, .int c q3].set ((g : Nat) : Int).toNat (.int ([a, b, c].getD e 0) u2)).set ((e : Nat) : Int).toNat (.int ([a, b, c].getD g 0) u1)).toArray n3) ::
      (I2, o2) :: (XA, W.listOf ((xs.toArray.push (.ref D1)).push (.ref D2)) (nx + 1 + 1)) :: (I, o) :: (ME, oME) :: K'))
    (hds : RowsH H hs K' xs ds) (hn : ∀ (K2 : List (Addr × Obj)) (T' : Addr) (w' : Int) (t' : Tok), (∀ p ∈ K', p ∈ K2) → (T', tupObj #[.int w' t', .ref C]) ∈ K2 → RowH H hs K2 (.ref T') (w', [a, b, c]))
    (a1 : D1 ≠ I2) (a2 : D2 ≠ I2) (a3 : CR ≠ I2) (b1 : D1 ≠ XA) (b2 : D2 ≠ XA) (b3 : CR ≠ XA) (c1 : D1 ≠ I) (c2 : D2 ≠ I) (c3 : CR ≠ I) (d1 : D1 ≠ ME) (d2 : D2 ≠ ME) (d3 : CR ≠ ME) (y1 : Off XA I2) (y2 : Off I I2) (y3 : Off ME I2) (hK2 : ∀ p ∈ K', p.1 ≠ I2) (h1 : ∀ p ∈ K', p.1 ≠ XA) (h2 : ∀ p ∈ K', p.1 ≠ ME) (h3 : ∀ p ∈ K', p.1 ≠ I) :
    ∃ K2, News h₀ L h ((I2, o2) :: (XA, W.listOf (xs ++ [Value.ref D1, .ref D2]).toArray (nx + 1 + 1)) :: (I, o) :: (ME, oME) :: K2) ∧ (∀ {oX : Obj}, ∀ p ∈ (XA, oX) :: (I, o) :: (ME, oME) :: K2, p.1 ≠ I2) ∧ (∀ p ∈ K', p ∈ K2) ∧ RowsH H hs K2 (xs ++ [Value.ref D1, .ref D2]) (ds ++ expand1 k mm g e (w2, [a, b, c])) ∧
      (∀ p ∈ K2, p.1 ≠ XA) ∧ (∀ p ∈ K2, p.1 ≠ ME) ∧ (∀ p ∈ K2, p.1 ≠ I) := by
  have sub : ∀ p ∈ K', p ∈ (D2, tupObj #[.int (w2 * mm) t2, .ref CR]) :: (D1, tupObj #[.int (w2 * k) t1, .ref C]) :: (CR, W.listOf (([Value.int a q1, .int b q2, .int c q3].set ((g : Nat) : Int).toNat (.int ([a, b, c].getD e 0) u2)).set ((e : Nat) : Int).toNat (.int ([a, b, c].getD g 0) u1)).toArray n3) :: K' := sub_tail (sub_tail (sub_tail sub_refl))
  refine ⟨_, ?_, fun {oX} => all_cons y1 (all_cons y2 (all_cons y3 (all_cons a2 (all_cons a1 (all_cons a3 hK2))))), sub, (hds.mono sub).append (.cons (hn _ D1 _ t1 sub (.tail _ (.head _))) (.cons (.new D2 CR _ t2 _ _ n3 (.head _) (.tail _ (.tail _ (.head _))) (ints_two (.cons _ _ (.cons _ _ (.cons _ _ .nil)))) (by unfold crossL; rw [List.length_set, List.length_set]; rfl)) .nil)),
    all_cons b2 (all_cons b1 (all_cons b3 h1)), all_cons d2 (all_cons d1 (all_cons d3 h2)), all_cons c2 (all_cons c1 (all_cons c3 h3))⟩
  have e : (xs.toArray.push (Value.ref D1)).push (Value.ref D2) = (xs ++ [Value.ref D1, .ref D2]).toArray := by simp
  rw [← e]
  exact newsSub N (sub_cons (.tail _ (.tail _ (.tail _ (.head _)))) (sub_cons (.tail _ (.tail _ (.tail _ (.tail _ (.head _))))) (sub_cons (.tail _ (.tail _ (.tail _ (.tail _ (.tail _ (.head _)))))) (sub_cons (.tail _ (.tail _ (.tail _ (.tail _ (.tail _ (.tail _ (.head _))))))) (sub_cons (.head _) (sub_cons (.tail _ (.head _)) (sub_cons (.tail _ (.tail _ (.head _))) (sub_tail (sub_tail (sub_tail (sub_tail (sub_tail (sub_tail (sub_tail sub_refl))))))))))))))
theorem we_next {h₀ h : Heap} {L XA I ME : Addr} {oX o oME : Obj} {K' : List (Addr × Obj)} (N : News h₀ L h ((XA, oX) :: (I, o) :: (ME, oME) :: K')) (a : XA ≠ I) (b : XA ≠ ME) (gI : Off ME I) (h2 : ∀ p ∈ K', p.1 ≠ ME) (h3 : ∀ p ∈ K', p.1 ≠ I) :
    News h₀ L h ((I, o) :: (ME, oME) :: (XA, oX) :: K') ∧ (∀ p ∈ (ME, oME) :: (XA, oX) :: K', p.1 ≠ I) ∧ (∀ p ∈ (XA, oX) :: K', p.1 ≠ ME) :=
  ⟨newsSub N (sub_cons (.tail _ (.head _)) (sub_cons (.tail _ (.tail _ (.head _))) (sub_cons (.head _) (sub_tail (sub_tail (sub_tail sub_refl)))))), all_cons gI (all_cons a h3), all_cons b h2⟩
end Mine
end
/- Txt -/
section
open PySem PySem.W PySem.Calls PyProof.Rows
example : True := by
  k_with_none
  k_with "my_enter" => (k_dflt (
  refine' Mine.enterC _ ?k1z1 ?k2z1 ?k3z1 ?k4z1 ?kAz1 ?kFz1 ?kKz1 ?kRz1 ?k6z1 ?k7z1 ?k8z1 ?k9z1 ?kBz1 ?_ ?c2z1 ?c3z1 ?c4z1 ?c5z1 ?c6z1
  (case kAz1 => exact rfl); (case kFz1 => exact rfl); (case kKz1 => assumption); (case k1z1 => k_asm); (case k2z1 => k_asm); (case k3z1 => k_asm); (case k4z1 => k_asm); (case kRz1 => assumption)
  (case k6z1 => k_is); (case k7z1 => k_is); (case k8z1 => exact Nat.lt_of_le_of_lt (Nat.le_add_right _ _) (by assumption)); (case k9z1 => exact BindsTo.of_eq rfl); (case c5z1 => decide); (case kBz1 => exact locs rfl); (case c2z1 => exact rfl); (case c3z1 => exact rfl); (case c4z1 => exact rfl); (case c6z1 => exact Nat.succ_pos _)))
  k_with "execs cons" => (k_here; (with_reducible show wpAny _ _ _ _ _ (Shared.mk _ _ _ (HAdd.hAdd _ 1) _)); (with_reducible rename Fr _ _ _ _ => F9z2); (with_reducible rename News _ _ _ _ => N9z2); with_reducible refine Mine.toks_let F9z2 N9z2 ?_; intro m9z2 n9z2 tkz2 htkz2 F8z2 N8z2; clear F9z2 N9z2)
  k_with "execs nil" => (k_here; (with_reducible show wpAny _ _ _ _ _ (Shared.mk _ _ _ (HAdd.hAdd _ 1) _)); (with_reducible rename Fr _ _ _ _ => F9z3); (with_reducible rename News _ _ _ _ => N9z3); with_reducible refine Mine.toks_let F9z3 N9z3 ?_; intro m9z3 n9z3 tkz3 htkz3 F8z3 N8z3; clear F9z3 N9z3)
  k_with "ite" => (k_here; first | refine PySem.W.ite_pos (by assumption) ?_ | refine PySem.W.ite_neg (ne_true_of_eq_false (by assumption)) ?_)
  k_with "subscriptTail Name Constant ref int" => (k_here; k_dflt (refine' Mine.item_L ?hlz5 ?h0z5 ?hhiz5 ?hxz5 ?_; (case hlz5 => first | exact Fr.lst (by k_asm) (by assumption) | exact News.isList (by k_asm) (by k_mem)); (case h0z5 => decide); (case hhiz5 => decide); (case hxz5 => exact rfl)))
  k_with "subscriptTail" => (k_here; (with_reducible show wpAny _ _ (subscriptTail _ _ (Value.bytes _ _) (Value.int _ _)) _ _ _); k_dflt (refine' Mine.item_B ?hxz6 ?hfz6 ?h0z6 ?_; (case hxz6 => exact rfl); (case hfz6 => exact Nat.le_of_ble_eq_true rfl); (case h0z6 => decide)))
  k_with "binaryOp Mult str int" => (k_here; first | (k_dflt (refine' Mine.mulR (c := 38) ?hxz7 ?h0z7 ?h1z7 ?_; (case hxz7 => decide +kernel); (case h0z7 => omega); (case h1z7 => omega); intro tz7 kz7; (try dsimp only))) | (k_dflt (refine' Mine.mulR (c := 62) ?hxz7 ?h0z7 ?h1z7 ?_; (case hxz7 => decide +kernel); (case h0z7 => omega); (case h1z7 => omega); intro tz7 kz7; (try dsimp only))) | (k_dflt (refine' Mine.mulR (c := 34) ?hxz7 ?h0z7 ?h1z7 ?_; (case hxz7 => decide +kernel); (case h0z7 => omega); (case h1z7 => omega); intro tz7 kz7; (try dsimp only))))
  k_with "binaryOp Add str str" => (k_here; k_dflt (refine' Mine.addR ?hszz8 ?_; (case hszz8 => (simp only [sizeLine_eq, Str.length_append, Mine.mulS_len, *]; omega)); intro tz8 kz8; (try dsimp only)))
  k_with "k_steps" => repeat' (first | (k_unfold; (try dsimp only)) | (k_end; kc_close) | ((first | (with_reducible show wpAny _ _ (exec _ _) _ _ _) | (with_reducible show wpAny _ _ (execs (_ :: _) _) _ _ _) | (with_reducible show wpAny _ _ (eval (PySem.Expr.BinOp _ _ _ _) _) _ _ _) | (with_reducible show wpAny _ _ (eval (PySem.Expr.Call _ _ _ _) _) _ _ _) | (with_reducible show wpAny _ _ (eval (PySem.Expr.Subscript _ _ _) _) _ _ _) | (with_reducible show wpAny _ _ (eval (PySem.Expr.Tuple _ _ _) _) _ _ _) | (with_reducible show wpAny _ _ (eval (PySem.Expr.List _ _) _) _ _ _)); k_fold; walk1) | walk1 | (dsimp only; walk1) | (leave1; walk_say "STEP leave1"; (try dsimp only)) | fail "no step")
  k_with "k_ne" => (refine neN ?_; (try dsimp only); first | exact Nat.ne_of_gt (by with_reducible assumption) | exact Nat.ne_of_lt (by with_reducible assumption) | exact Mine.Off.ne (by with_reducible assumption) | exact Mine.Off.sym (by with_reducible assumption) | with_reducible assumption | exact Ne.symm (by with_reducible assumption) | omega)
  trivial
example : (PySem.Challenge.rw_zo0010_01 = PySem.Challenge.rw_zo0010_01) ∧ (Mine.hd.heap_1 = Mine.hd.heap_1) := by k_fill; exact ⟨rfl, rfl⟩
namespace Mine
/-- _law_text's text -/
def textS (a b c : Nat) : Str := ⟨(List.replicate a 38 ++ (List.replicate b 62 ++ (List.replicate c 34 ++ [60, 13]))).toArray⟩
theorem text_end {a b c : Nat} {t : Tok} : ∃ t', Value.str (mulS 38 a ++ mulS 62 b ++ mulS 34 c ++ Str.ofString "<\r") t = Value.str (textS a b c) t' := by
  refine ⟨t, ?_⟩
  have e : Str.ofString "<\r" = ⟨#[60, 13]⟩ := by decide +kernel
  rw [e]
  refine congrArg (fun z => Value.str z t) (Str.ext' (Array.toList_inj.mp ?_))
  simp [Str.cps_append, mulS, textS, List.append_assoc]
set_option maxHeartbeats 8000000 in
theorem c_textB {prog : Program} {w : World} {mean : ExcName → Option Value} {mg mb : Str → Option Value} (x y z : UInt8) (t1 : Tok) :
  Claim prog w mean mg mb 89 [.bytes #[x, y, z] t1] 2 10 (fun _ => True) (fun g₀ v h' => ∃ t, v = .str (textS x.toNat y.toNat z.toNat) t) := by
  have hx := x.toNat_lt
  have hy := y.toNat_lt
  have hz := z.toNat_lt
  have hlit : (Str.ofString "<\r").length = 2 := by decide +kernel
  intro dp un gd cn cs a ccd cl outer A₀ base h₀ L m s Q E B F X T hk hd hu _ hret
  walk_at "my_enter"
  clear hret B F X T
  intro g₀ L' h₁ tk Q' hret hg htk F' N' B' X' T'
  subst hg
  (try dsimp only)
  w_on
  refine letAE ?_
  intro Ak ek9 gk dk ok
  k_steps
  all_goals (try dsimp only)
  all_goals (refine hret _ _ _ _ _ (by assumption) ?_)
  all_goals exact text_end
set_option maxHeartbeats 8000000 in
theorem c_textL {prog : Program} {w : World} {mean : ExcName → Option Value} {mg mb : Str → Option Value} (x y z : Int) (l : Addr) (k1 k2 k3 : Tok) (hx : 0 ≤ x ∧ x ≤ 255) (hy : 0 ≤ y ∧ y ≤ 255) (hz : 0 ≤ z ∧ z ≤ 255) :
  Claim prog w mean mg mb 89 [.ref l] 2 10 (fun h => h.IsList l #[.int x k1, .int y k2, .int z k3]) (fun g₀ v h' => ∃ t, v = .str (textS x.toNat y.toNat z.toNat) t) := by
  have hlit : (Str.ofString "<\r").length = 2 := by decide +kernel
  intro dp un gd cn cs a ccd cl outer A₀ base h₀ L m s Q E B F X T hk hd hu hl hret
  walk_at "my_enter"
  clear hret B F X T
  intro g₀ L' h₁ tk Q' hret hg htk F' N' B' X' T'
  subst hg
  (try dsimp only)
  w_on
  refine letAE ?_
  intro Ak ek9 gk dk ok
  k_steps
  all_goals (try dsimp only)
  all_goals (refine hret _ _ _ _ _ (by assumption) ?_)
  all_goals exact text_end
end Mine
end
/- Nam -/
section
open PySem PySem.W PySem.Calls PyProof.Rows
example : True := by
  k_with_none
  k_with "my_enter" => (k_dflt (
  refine' Mine.enterC _ ?k1z1 ?k2z1 ?k3z1 ?k4z1 ?kAz1 ?kFz1 ?kKz1 ?kRz1 ?k6z1 ?k7z1 ?k8z1 ?k9z1 ?kBz1 ?_ ?c2z1 ?c3z1 ?c4z1 ?c5z1 ?c6z1
  (case kAz1 => exact rfl); (case kFz1 => exact rfl); (case kKz1 => assumption); (case k1z1 => k_asm); (case k2z1 => k_asm); (case k3z1 => k_asm); (case k4z1 => k_asm); (case kRz1 => assumption)
  (case k6z1 => k_is); (case k7z1 => k_is); (case k8z1 => exact Nat.lt_of_le_of_lt (Nat.le_add_right _ _) (by assumption)); (case k9z1 => exact BindsTo.of_eq rfl); (case c5z1 => decide); (case kBz1 => exact locs rfl); (case c2z1 => exact rfl); (case c3z1 => exact rfl); (case c4z1 => exact rfl); (case c6z1 => exact Nat.succ_pos _)))
  k_with "execs cons" => (k_here; (with_reducible show wpAny _ _ _ _ _ (Shared.mk _ _ _ (HAdd.hAdd _ 1) _)); (with_reducible rename Fr _ _ _ _ => F9z2); (with_reducible rename News _ _ _ _ => N9z2); with_reducible refine Mine.toks_let F9z2 N9z2 ?_; intro m9z2 n9z2 tkz2 htkz2 F8z2 N8z2; clear F9z2 N9z2)
  k_with "execs nil" => (k_here; (with_reducible show wpAny _ _ _ _ _ (Shared.mk _ _ _ (HAdd.hAdd _ 1) _)); (with_reducible rename Fr _ _ _ _ => F9z3); (with_reducible rename News _ _ _ _ => N9z3); with_reducible refine Mine.toks_let F9z3 N9z3 ?_; intro m9z3 n9z3 tkz3 htkz3 F8z3 N8z3; clear F9z3 N9z3)
  k_with "ite" => (k_here; first | refine PySem.W.ite_pos (by assumption) ?_ | refine PySem.W.ite_neg (ne_true_of_eq_false (by assumption)) ?_)
  k_with "subscriptTail Name Constant ref int" => (k_here; k_dflt (refine' Mine.item_L ?hlz5 ?h0z5 ?hhiz5 ?hxz5 ?_; (case hlz5 => first | exact Fr.lst (by k_asm) (by assumption) | exact News.isList (by k_asm) (by k_mem)); (case h0z5 => decide); (case hhiz5 => decide); (case hxz5 => exact rfl)))
  k_with "subscriptTail" => (k_here; (with_reducible show wpAny _ _ (subscriptTail _ _ (Value.bytes _ _) (Value.int _ _)) _ _ _); k_dflt (refine' Mine.item_B ?hxz6 ?hfz6 ?h0z6 ?_; (case hxz6 => exact rfl); (case hfz6 => exact Nat.le_of_ble_eq_true rfl); (case h0z6 => decide)))
  k_with "my_src" => first
  | (k_dflt (refine' Mine.SrcB.intro _ ?hhz7 ?Fz7 ?Nz7 ?hkz7 ?hzz7 ?_; (case hhz7 => exact rfl); (case Fz7 => k_asm); (case Nz7 => k_asm); (case hkz7 => exact rfl); (case hzz7 => exact Nat.le_of_ble_eq_true rfl); intro gz7; (try dsimp only)))
  | (walk1; walk_at "my_src") | (dsimp only; walk1; walk_at "my_src")
  k_with "eval ListComp" => (k_here; k_dflt (refine Mine.ListComp_B (by k_asm) (by rfl) (by decide) (by rfl) (by decide) (by rfl) ?_); walk_at "my_src")
  k_with "CompRest" => (with_unfolding_all (refine LCg.CompRest.succ ?_; intro vz9 Iz9 oIz9 Cz9 oCz9 Dz9 mz9 hz9 tkz9 Ez9 hvz9 hCz9 hxz9 Fz9 Nz9 offz9 nez9; obtain ⟨c9z9, u9z9, hc9z9, hv9z9⟩ := hvz9; subst hv9z9; have hc8 := Option.some.inj hc9z9; subst hc8; clear hc9z9; (try simp only [LCg.Off3, and_true] at offz9)))
  k_with "call builtin:str.join" => (k_here; k_dflt (refine' Mine.join3 ?hlz10 ?hsz10 ?hxz10 ?hyz10 ?hzz10 ?_; (case hlz10 => exact News.isList (by k_asm) (by k_mem)); (case hsz10 => decide +kernel); (case hxz10 => exact Mine.num_len (by omega)); (case hyz10 => exact Mine.num_len (by omega)); (case hzz10 => exact Mine.num_len (by omega)); intro tz10 kz10; (try dsimp only)))
  k_with "k_steps" => repeat' (first | (k_unfold; (try dsimp only)) | (k_end; kc_close) | ((first | (with_reducible show wpAny _ _ (exec _ _) _ _ _) | (with_reducible show wpAny _ _ (execs (_ :: _) _) _ _ _) | (with_reducible show wpAny _ _ (eval (PySem.Expr.BinOp _ _ _ _) _) _ _ _) | (with_reducible show wpAny _ _ (eval (PySem.Expr.Call _ _ _ _) _) _ _ _) | (with_reducible show wpAny _ _ (eval (PySem.Expr.Subscript _ _ _) _) _ _ _) | (with_reducible show wpAny _ _ (eval (PySem.Expr.Tuple _ _ _) _) _ _ _) | (with_reducible show wpAny _ _ (eval (PySem.Expr.List _ _) _) _ _ _)); k_fold; walk1) | walk1 | (dsimp only; walk1) | (leave1; walk_say "STEP leave1"; (try dsimp only)) | fail "no step")
  k_with "k_ne" => (refine neN ?_; (try dsimp only); first | exact Nat.ne_of_gt (by with_reducible assumption) | exact Nat.ne_of_lt (by with_reducible assumption) | exact Mine.Off.ne (by with_reducible assumption) | exact Mine.Off.sym (by with_reducible assumption) | with_reducible assumption | exact Ne.symm (by with_reducible assumption) | omega)
  trivial
example : (PySem.Challenge.rw_zo0010_01 = PySem.Challenge.rw_zo0010_01) ∧ (Mine.hd.heap_1 = Mine.hd.heap_1) := by k_fill; exact ⟨rfl, rfl⟩
namespace Mine
set_option maxHeartbeats 8000000 in
theorem c_nameB {prog : Program} {w : World} {mean : ExcName → Option Value} {mg mb : Str → Option Value} (x y z : UInt8) (t1 : Tok) :
  Claim prog w mean mg mb 94 [.bytes #[x, y, z] t1] 2 10 (fun _ => True) (fun _ v _ => ∃ t, v = .str (nmT x.toNat y.toNat z.toNat) t) := by
  have hx := x.toNat_lt
  have hy := y.toNat_lt
  have hz := z.toNat_lt
  intro dp un gd cn cs a ccd cl outer A₀ base h₀ L m s Q E B F X T hk hd hu _ hret
  walk_at "my_enter"
  clear hret B F X T
  intro g₀ L' h₁ tk Q' hret hg htk F' N' B' X' T'
  subst hg
  (try dsimp only)
  w_on
  refine letAE ?_
  intro Ak ek9 gk dk ok
  k_steps
  all_goals (try dsimp only)
  all_goals (refine hret _ _ _ _ _ (by assumption) ?_)
  all_goals exact ⟨_, rfl⟩
set_option maxHeartbeats 8000000 in
theorem c_nameL {prog : Program} {w : World} {mean : ExcName → Option Value} {mg mb : Str → Option Value} (x y z : Int) (l : Addr) (k1 k2 k3 : Tok) (hx : 0 ≤ x ∧ x ≤ 255) (hy : 0 ≤ y ∧ y ≤ 255) (hz : 0 ≤ z ∧ z ≤ 255) :
  Claim prog w mean mg mb 94 [.ref l] 2 10 (fun h => h.IsList l #[.int x k1, .int y k2, .int z k3]) (fun _ v _ => ∃ t, v = .str (nmT x y z) t) := by
  intro dp un gd cn cs a ccd cl outer A₀ base h₀ L m s Q E B F X T hk hd hu hl hret
  walk_at "my_enter"
  clear hret B F X T
  intro g₀ L' h₁ tk Q' hret hg htk F' N' B' X' T'
  subst hg
  (try dsimp only)
  w_on
  refine letAE ?_
  intro Ak ek9 gk dk ok
  k_steps
  all_goals (try dsimp only)
  all_goals (refine hret _ _ _ _ _ (by assumption) ?_)
  all_goals exact ⟨_, rfl⟩
end Mine
end
/- TxP -/
section
open PySem PySem.W PySem.Calls PyProof.Rows
namespace Mine
/-- so many times z -/
def rep (z : List Nat) (n : Nat) : List Nat := (List.replicate n z).flatten
def turnC (c : Nat) (z l : List Nat) : List Nat := l.flatMap fun k => if k = c then z else [k]
theorem rep_len (z : List Nat) (n : Nat) : (rep z n).length = n * z.length := by
  unfold rep; rw [List.length_flatten]; simp
theorem rep_one (c n : Nat) : rep [c] n = List.replicate n c := by
  unfold rep
  induction n with
  | zero => rfl
  | succ n ih => rw [List.replicate_succ, List.flatten_cons, ih, List.replicate_succ]; rfl
theorem rep_free {z : List Nat} {c : Nat} (h : c ∉ z) (n : Nat) : c ∉ rep z n := by
  unfold rep
  intro hm
  obtain ⟨l, hl, hc⟩ := List.mem_flatten.mp hm
  rw [List.eq_of_mem_replicate hl] at hc
  exact h hc
theorem turnC_app (c : Nat) (z l l' : List Nat) : turnC c z (l ++ l') = turnC c z l ++ turnC c z l' := by unfold turnC; rw [List.flatMap_append]
theorem turnC_free {c : Nat} {z l : List Nat} (h : c ∉ l) : turnC c z l = l := flat_free c z l h
theorem turnC_rep {c : Nat} {z : List Nat} (n : Nat) : turnC c z (rep [c] n) = rep z n := by
  rw [rep_one]
  unfold turnC rep
  induction n with
  | zero => rfl
  | succ n ih => rw [List.replicate_succ, List.flatMap_cons, ih, if_pos rfl, List.replicate_succ, List.flatten_cons]
theorem R_turn (c : Nat) (z x : Str) : R c z x = ⟨(turnC c z.cps.toList x.cps.toList).toArray⟩ := rfl
abbrev zAmp : List Nat := [38, 97, 109, 112, 59]
abbrev zGt : List Nat := [38, 103, 116, 59]
abbrev zQuot : List Nat := [38, 113, 117, 111, 116, 59]
abbrev zLt : List Nat := [38, 108, 116, 59]
abbrev zRet : List Nat := [38, 35, 120, 68, 59]
theorem textS_rep (a b c : Nat) : textS a b c = ⟨(rep [38] a ++ (rep [62] b ++ (rep [34] c ++ [60, 13]))).toArray⟩ := by
  unfold textS; rw [rep_one, rep_one, rep_one]
theorem lit_amp : (Str.ofString "&amp;").cps.toList = zAmp := by decide +kernel
theorem lit_gt : (Str.ofString "&gt;").cps.toList = zGt := by decide +kernel
theorem lit_quot : (Str.ofString "&quot;").cps.toList = zQuot := by decide +kernel
theorem lit_lt : (Str.ofString "&lt;").cps.toList = zLt := by decide +kernel
theorem lit_ret : (Str.ofString "&#xD;").cps.toList = zRet := by decide +kernel
/-- what _escape_attrib_html writes -/
def escS (a b c : Nat) : Str := ⟨(rep zAmp a ++ (rep zGt b ++ (rep zQuot c ++ [60, 13]))).toArray⟩
/-- what _escape_cdata_c14n writes -/
def c14S (a b c : Nat) : Str := ⟨(rep zAmp a ++ (rep zGt b ++ (rep [34] c ++ (zLt ++ zRet)))).toArray⟩
theorem turnC_repF {c : Nat} {z z' : List Nat} (h : c ∉ z') (n : Nat) : turnC c z (rep z' n) = rep z' n := turnC_free (rep_free h n)
theorem esc_text (a b c : Nat) : R 34 (Str.ofString "&quot;") (R 62 (Str.ofString "&gt;") (R 38 (Str.ofString "&amp;") (textS a b c))) = escS a b c := by
  have e1 : turnC 38 zAmp [60, 13] = [60, 13] := by decide
  have e2 : turnC 62 zGt [60, 13] = [60, 13] := by decide
  have e3 : turnC 34 zQuot [60, 13] = [60, 13] := by decide
  have f1 := fun n => turnC_repF (c := 38) (z := zAmp) (z' := [62]) (by decide) n
  have f2 := fun n => turnC_repF (c := 38) (z := zAmp) (z' := [34]) (by decide) n
  have f3 := fun n => turnC_repF (c := 62) (z := zGt) (z' := zAmp) (by decide) n
  have f4 := fun n => turnC_repF (c := 62) (z := zGt) (z' := [34]) (by decide) n
  have f5 := fun n => turnC_repF (c := 34) (z := zQuot) (z' := zAmp) (by decide) n
  have f6 := fun n => turnC_repF (c := 34) (z := zQuot) (z' := zGt) (by decide) n
  rw [R_turn, R_turn, R_turn, lit_amp, lit_gt, lit_quot, textS_rep]
  unfold escS
  simp only [turnC_app, turnC_rep, e1, e2, e3, f1, f2, f3, f4, f5, f6]
theorem c14_text (a b c : Nat) : R 13 (Str.ofString "&#xD;") (R 62 (Str.ofString "&gt;") (R 60 (Str.ofString "&lt;") (R 38 (Str.ofString "&amp;") (textS a b c)))) = c14S a b c := by
  have e1 : turnC 38 zAmp [60, 13] = [60, 13] := by decide
  have e2 : turnC 60 zLt [60, 13] = zLt ++ [13] := by decide
  have e3 : turnC 62 zGt [13] = [13] := by decide
  have e4 : turnC 62 zGt zLt = zLt := by decide
  have e5 : turnC 13 zRet zLt = zLt := by decide
  have e6 : turnC 13 zRet [13] = zRet := by decide
  have f1 := fun n => turnC_repF (c := 38) (z := zAmp) (z' := [62]) (by decide) n
  have f2 := fun n => turnC_repF (c := 38) (z := zAmp) (z' := [34]) (by decide) n
  have f3 := fun n => turnC_repF (c := 60) (z := zLt) (z' := zAmp) (by decide) n
  have f4 := fun n => turnC_repF (c := 60) (z := zLt) (z' := [62]) (by decide) n
  have f5 := fun n => turnC_repF (c := 60) (z := zLt) (z' := [34]) (by decide) n
  have f6 := fun n => turnC_repF (c := 62) (z := zGt) (z' := zAmp) (by decide) n
  have f7 := fun n => turnC_repF (c := 62) (z := zGt) (z' := [34]) (by decide) n
  have f8 := fun n => turnC_repF (c := 13) (z := zRet) (z' := zAmp) (by decide) n
  have f9 := fun n => turnC_repF (c := 13) (z := zRet) (z' := zGt) (by decide) n
  have fa := fun n => turnC_repF (c := 13) (z := zRet) (z' := [34]) (by decide) n
  rw [R_turn, R_turn, R_turn, R_turn, lit_amp, lit_gt, lit_lt, lit_ret, textS_rep]
  unfold c14S
  simp only [turnC_app, turnC_rep, e1, e2, e3, e4, e5, e6, f1, f2, f3, f4, f5, f6, f7, f8, f9, fa]
theorem escS_len (a b c : Nat) : (escS a b c).length = 5 * a + 4 * b + 6 * c + 2 := by
  unfold escS Str.length
  simp only [List.size_toArray, List.length_append, rep_len, List.length_cons, List.length_nil]
  omega
theorem textS_len (a b c : Nat) : (textS a b c).length = a + b + c + 2 := by
  rw [textS_rep]
  unfold Str.length
  simp only [List.size_toArray, List.length_append, rep_len, List.length_cons, List.length_nil]
  omega
end Mine
end
/- MJ -/
section
open PySem PySem.W PySem.Calls PyProof.Rows
namespace Mine
/-- four names stored over a map -/
def ov4 (x1 x2 x3 x4 : Str) (o1 o2 o3 o4 : Option Value) (m₀ : Str → Option Value) : Str → Option Value := fun y => if y = x4 then o4 else if y = x3 then o3 else if y = x2 then o2 else if y = x1 then o1 else m₀ y
theorem ov4_start (x1 x2 x3 x4 : Str) (m₀ : Str → Option Value) : m₀ = ov4 x1 x2 x3 x4 (m₀ x1) (m₀ x2) (m₀ x3) (m₀ x4) m₀ := by
  funext y
  unfold ov4
  split
  · subst_vars; rfl
  · split
    · subst_vars; rfl
    · split
      · subst_vars; rfl
      · split
        · subst_vars; rfl
        · rfl
theorem ov4_again {x1 x2 x3 x4 : Str} {o1 o2 o3 o4 a1 a2 a3 a4 : Option Value} {m₀ : Str → Option Value} :
    (fun y => if y = x4 then a4 else if y = x3 then a3 else if y = x2 then a2 else if y = x1 then a1 else ov4 x1 x2 x3 x4 o1 o2 o3 o4 m₀ y) = ov4 x1 x2 x3 x4 a1 a2 a3 a4 m₀ := by
  funext y
  unfold ov4
  split
  · rfl
  · split
    · rfl
    · split
      · rfl
      · split
        · rfl
        · rfl
def ov1 (x1 : Str) (o1 : Option Value) (m₀ : Str → Option Value) : Str → Option Value := fun y => if y = x1 then o1 else m₀ y
theorem ov1_start (x1 : Str) (m₀ : Str → Option Value) : m₀ = ov1 x1 (m₀ x1) m₀ := by
  funext y
  unfold ov1
  split
  · subst_vars; rfl
  · rfl
theorem ov1_again {x1 : Str} {o1 a1 : Option Value} {m₀ : Str → Option Value} : (fun y => if y = x1 then a1 else ov1 x1 o1 m₀ y) = ov1 x1 a1 m₀ := by
  funext y
  unfold ov1
  split
  · rfl
  · rfl
/-- a weighed row -/
structure Row4 where
  w : Int
  a : Int
  b : Int
  c : Int
def Row4.Ok (r : Row4) : Prop := (0 ≤ r.a ∧ r.a ≤ 21) ∧ (0 ≤ r.b ∧ r.b ≤ 21) ∧ (0 ≤ r.c ∧ r.c ≤ 21)
structure St5 where
  e1 : Int
  e2 : Int
  e3 : Int
  e4 : Int
  cs : List (Str × Int)
def escN (a b c : Int) : Int := 5 * a + 4 * b + 6 * c + 2
def rowStep (e : St5) (r : Row4) : St5 := ⟨r.w * r.a + e.e1, r.w * r.b + e.e2, r.w * r.c + e.e3, r.w * escN r.a r.b r.c + e.e4, updC e.cs (nmT r.a r.b r.c) r.w⟩
def RowAt (h₀ : Heap) (K : List (Addr × Obj)) (v : Value) (r : Row4) : Prop :=
  ∃ (T C : Addr) (t t1 t2 t3 : Tok), v = .ref T ∧ (T, tupObj #[.int r.w t, .ref C]) ∈ K ∧ LCg.SrcAt h₀ C #[.int r.a t1, .int r.b t2, .int r.c t3] K ∧ r.Ok
inductive RowsAt (h₀ : Heap) (K : List (Addr × Obj)) : List Value → List Row4 → Prop
  | nil : RowsAt h₀ K [] []
  | cons {v r vs rs} : RowAt h₀ K v r → RowsAt h₀ K vs rs → RowsAt h₀ K (v :: vs) (r :: rs)
/-- off all six cells -/
def Far (L T : Nat) : Prop := Off (L + 1 + 1 + 1 + 1 + 1 + 1) T ∧ Off (L + 1 + 1 + 1 + 1 + 1) T ∧ Off (L + 1 + 1 + 1 + 1) T ∧ Off (L + 1 + 1 + 1) T ∧ Off (L + 1 + 1) T ∧ Off (L + 1) T
theorem updC_len (cs : List (Str × Int)) (k : Str) (n : Int) : (updC cs k n).length ≤ cs.length + 1 := by
  unfold updC
  split
  · rw [List.length_map]; omega
  · rw [List.length_append]; simp
/-- _law_mean_holds' first loop between two turns -/
inductive mnJ (prog : Program) (w : World) (h₀ : Heap) (L : Addr) (K : List (Addr × Obj)) (o1 o2 o3 o4 o5 : Obj) (fin : St5) (m₀ : Str → Option Value) (rest : List Value) (m : Str → Option Value) (news : List (Addr × Obj)) : Prop
  | mk (x1 x2 x3 : Option Value) (TE DE : Addr) (e : St5) (t1 t2 t3 t4 : Tok) (od : Obj) (kvs : List (Str × Value)) (ow : Obj) (wv : Option Value) (rs : List Row4) : (m = ov4 (Str.ofString "three") (Str.ofString "marks") (Str.ofString "sums") (Str.ofString "entry") x1 x2 x3 (some (.ref TE)) m₀) → (news = (TE, tupObj #[.int e.e1 t1, .int e.e2 t2, .int e.e3 t3, .int e.e4 t4, .ref DE]) :: (DE, od) :: (L + 1 + 1 + 1 + 1 + 1 + 1, o1) :: (L + 1 + 1 + 1 + 1 + 1, o2) :: (L + 1 + 1 + 1 + 1, o3) :: (L + 1 + 1 + 1, o4) :: (L + 1 + 1, o5) :: (L + 1, ow) :: K) → (DictObj prog w od kvs) → (Cont kvs e.cs) → ((DE == sysModules) = false) → (ow.data = .cell wv) → (Far L TE) → (Far L DE) → (RowsAt h₀ K rest rs) → (rs.foldl rowStep e = fin) → (e.cs.length + rs.length ≤ 100) → mnJ prog w h₀ L K o1 o2 o3 o4 o5 fin m₀ rest m news
theorem srcBase {h₀ : Heap} {C : Addr} {its : Array Value} {K : List (Addr × Obj)} (h : h₀.IsList C its) : LCg.SrcAt h₀ C its K := .inl h
theorem rowAt_of {h₀ : Heap} {H : Addr} {x y z w a b c : Int} {i1 i2 i3 : Tok} {K : List (Addr × Obj)} {v : Value} (hl : h₀.IsList H #[.int x i1, .int y i2, .int z i3]) (h : RowH H [x, y, z] K v (w, [a, b, c])) (k : (Row4.mk w a b c).Ok) : RowAt h₀ K v ⟨w, a, b, c⟩ := by
  obtain ⟨T, C, w', a', b', c', t, k1, k2, k3, rfl, e, hT, hC, _⟩ := rowO hl h
  cases e
  exact ⟨T, C, t, k1, k2, k3, rfl, hT, hC, k⟩
theorem WRows.rows {H : Addr} {w0 w1 w2 w3 : Int} {c1 c2 c3 : Int × Int × Int} {g h' h₀ : Heap} {v : Value} {x y z : Int} {i1 i2 i3 : Tok} (P : WRows H [x, y, z] [(w0, [x, y, z]), (w1, [c2.1, c2.2.1, c2.2.2]), (w2, [c1.1, c1.2.1, c1.2.2]), (w3, [c3.1, c3.2.1, c3.2.2])] g v h') (hl : h₀.IsList H #[.int x i1, .int y i2, .int z i3])
    (k0 : (Row4.mk w0 x y z).Ok) (k1 : (Row4.mk w1 c2.1 c2.2.1 c2.2.2).Ok) (k2 : (Row4.mk w2 c1.1 c1.2.1 c1.2.2).Ok) (k3 : (Row4.mk w3 c3.1 c3.2.1 c3.2.2).Ok) :
    ∃ (R : Addr) (K : List (Addr × Obj)) (n : Nat) (vs : List Value), v = .ref R ∧ (∀ p ∈ K, g.get? p.1 = none ∧ h'.get? p.1 = some p.2) ∧ (R, W.listOf vs.toArray n) ∈ K ∧
      RowsAt h₀ K vs [⟨w0, x, y, z⟩, ⟨w1, c2.1, c2.2.1, c2.2.2⟩, ⟨w2, c1.1, c1.2.1, c1.2.2⟩, ⟨w3, c3.1, c3.2.1, c3.2.2⟩] := by
  obtain ⟨R, K, n, vs, rfl, hK, hR, hrs⟩ := P
  refine ⟨R, K, n, vs, rfl, hK, hR, ?_⟩
  cases hrs with
  | cons r0 hrs => cases hrs with
    | cons r1 hrs => cases hrs with
      | cons r2 hrs => cases hrs with
        | cons r3 hrs => cases hrs; exact .cons (rowAt_of hl r0 k0) (.cons (rowAt_of hl r1 k1) (.cons (rowAt_of hl r2 k2) (.cons (rowAt_of hl r3 k3) .nil)))
end Mine
namespace Mine
end Mine
namespace Mine
end Mine
end
/- FT -/
section
open PySem PySem.W PySem.Calls PyProof.Rows
namespace Mine
set_option maxHeartbeats 8000000 in
theorem tab_two : ∀ a, a < 22 → ∀ b, b < 22 → mx (q32 a) (q32 b) = q32 (max a b) ∧ mn (q32 a) (q32 b) = q32 (min a b) ∧ eqF (q32 a) (q32 b) = decide (a = b) := by decide +kernel
set_option maxHeartbeats 8000000 in
theorem tab_sub : ∀ a, a < 22 → ∀ b, b < a + 1 → Float64.sub (q32 a) (q32 b) = q32 (a - b) ∧ Float64.add (q32 a) (q32 b) = q32 (a + b) := by decide +kernel
theorem tab_zero : ∀ a, a < 43 → Float64.isZero (q32 a) = decide (a = 0) := by decide +kernel
theorem tab_half : ∀ a, a < 22 → (Float64.cmp (Float64.div (q32 a) 4611686018427387904) 4602678819172646912 == some .lt || Float64.cmp (Float64.div (q32 a) 4611686018427387904) 4602678819172646912 == some .eq) = true := by decide +kernel
end Mine
end
/- OV -/
section
open PySem PySem.W PySem.Calls PyProof.Rows
namespace Mine
end Mine
namespace Mine
/-- the middle between the greatest and the least, in 32nds -/
def lumQ (hi lo : Nat) : UInt64 := Float64.div (q32 (hi + lo)) 4611686018427387904
def Hues (hu : Nat → Int) (i : Nat) (hs : List Value) : Prop := hs.length = i ∧ ∀ j, j < i → ∃ t, hs[j]? = some (.int (hu j) t)
theorem Hues.snoc {hu : Nat → Int} {i : Nat} {hs : List Value} {t : Tok} (h : Hues hu i hs) : Hues hu (i + 1) (hs ++ [.int (hu i) t]) := by
  refine ⟨by simp [h.1], fun j hj => ?_⟩
  by_cases e : j < i
  · obtain ⟨t', ht⟩ := h.2 j e
    exact ⟨t', by rw [List.getElem?_append_left (by rw [h.1]; exact e)]; exact ht⟩
  · have : j = hs.length := by rw [h.1]; omega
    subst this
    refine ⟨t, ?_⟩
    rw [List.getElem?_append_right (Nat.le_refl _), h.1]
    simp
def told12 (x1 x2 x3 x4 x5 x6 x7 x8 x9 x10 x11 x12 : Option Value) : List (Str × Option Value) :=
  [(Str.ofString "head", x12), (Str.ofString "text", x11), (Str.ofString "depth", x10), (Str.ofString "light", x9), (Str.ofString "other", x8), (Str.ofString "value", x7), (Str.ofString "share", x6), (Str.ofString "hue", x5), (Str.ofString "b", x4), (Str.ofString "g", x3), (Str.ofString "r", x2), (Str.ofString "turn", x1)]
/-- _law_told's first loop between two turns -/
inductive toJ (hi lo : Nat) (hu : Nat → Int) (HU : Addr) (pR : Addr × Obj) (m₀ : Str → Option Value) (i : Nat) (m : Str → Option Value) (news : List (Addr × Obj)) : Prop
  | mk (x1 x2 x3 x4 x5 x6 x7 x8 x9 x10 x11 x12 : Option Value) (hs : List Value) (n : Nat) : (m = ovs (told12 x1 x2 x3 x4 x5 x6 x7 x8 x9 x10 x11 x12) m₀) → ((0 < i → ∃ tv tl, x7 = some (.float (q32 hi) tv) ∧ x9 = some (.float (lumQ hi lo) tl))) → (news = [(HU, W.listOf hs.toArray n), pR]) → (Hues hu i hs) → (Off HU pR.1) → toJ hi lo hu HU pR m₀ i m news
theorem mx_lt {a b n : Nat} (ha : a < n) (hb : b < n) : max a b < n := Nat.max_lt.mpr ⟨ha, hb⟩
theorem mn_lt {a b n : Nat} (ha : a < n) : min a b < n := Nat.lt_of_le_of_lt (Nat.min_le_left _ _) ha
theorem parts {a b c : Nat} (h : a + b + c ≤ 21) : a < 22 ∧ b < 22 ∧ c < 22 := by omega
theorem mx3_q {a b c : Nat} (h : a + b + c ≤ 21) : mx3 (q32 a) (q32 b) (q32 c) = q32 (max (max a b) c) ∧ mn3 (q32 a) (q32 b) (q32 c) = q32 (min (min a b) c) := by
  obtain ⟨ha, hb, hc⟩ := parts h
  unfold mx3 mn3
  rw [(tab_two a ha b hb).1, (tab_two a ha b hb).2.1]
  exact ⟨(tab_two _ (mx_lt ha hb) c hc).1, (tab_two _ (mn_lt ha) c hc).2.1⟩
end Mine
namespace Mine
theorem lt22 {n : Nat} (h : n ≤ 21) : n < 22 := Nat.lt_succ_of_le h
theorem lum_q {a b c hi lo : Nat} (h : a + b + c ≤ 21) (hma : max (max a b) c = hi) (hmi : min (min a b) c = lo) : lumF (q32 a) (q32 b) (q32 c) = lumQ hi lo := by
  have m := mm3 hma hmi
  unfold lumF lumQ
  rw [(mx3_q h).1, (mx3_q h).2, hma, hmi, (tab_sub hi (lt22 (m.sum h).1) lo (Nat.lt_succ_of_le m.le)).2]
theorem hsv_pre0 {hi lo : Nat} (h1 : hi ≤ 21) (h2 : lo ≤ hi) (h3 : hi + lo ≤ 21) : (eqF (q32 lo) (q32 hi) = false → Float64.isZero (q32 hi) = false) ∧ (eqF (q32 lo) (q32 hi) = false → Float64.isZero (Float64.sub (q32 hi) (q32 lo)) = false) ∧
    (eqF (q32 lo) (q32 hi) = false → Float64.isZero (Float64.add (q32 hi) (q32 lo)) = false) := by
  rw [(tab_two lo (lt22 (Nat.le_trans h2 h1)) hi (lt22 h1)).2.2, (tab_sub hi (lt22 h1) lo (Nat.lt_succ_of_le h2)).1, (tab_sub hi (lt22 h1) lo (Nat.lt_succ_of_le h2)).2, tab_zero _ (Nat.lt_of_lt_of_le (lt22 h1) (by decide)), tab_zero _ (Nat.lt_of_le_of_lt (Nat.le_trans (Nat.sub_le _ _) h1) (by decide)), tab_zero _ (Nat.lt_of_le_of_lt h3 (by decide))]
  refine ⟨fun e => ?_, fun e => ?_, fun e => ?_⟩ <;> have e' := of_decide_eq_false e <;> exact decide_eq_false (by omega)
theorem hsv_pre {a b c : Nat} (h : a + b + c ≤ 21) : (eqF (mn3 (q32 a) (q32 b) (q32 c)) (mx3 (q32 a) (q32 b) (q32 c)) = false → Float64.isZero (mx3 (q32 a) (q32 b) (q32 c)) = false) ∧
    (eqF (mn3 (q32 a) (q32 b) (q32 c)) (mx3 (q32 a) (q32 b) (q32 c)) = false → Float64.isZero (Float64.sub (mx3 (q32 a) (q32 b) (q32 c)) (mn3 (q32 a) (q32 b) (q32 c))) = false) ∧
    (eqF (mn3 (q32 a) (q32 b) (q32 c)) (mx3 (q32 a) (q32 b) (q32 c)) = false → Float64.isZero (Float64.add (mx3 (q32 a) (q32 b) (q32 c)) (mn3 (q32 a) (q32 b) (q32 c))) = false) ∧
    (Float64.cmp (lumF (q32 a) (q32 b) (q32 c)) 4602678819172646912 == some .lt || Float64.cmp (lumF (q32 a) (q32 b) (q32 c)) 4602678819172646912 == some .eq) = true := by
  have m := mm3 (a := a) (b := b) (c := c) rfl rfl
  rw [lum_q h rfl rfl, (mx3_q h).1, (mx3_q h).2]
  obtain ⟨x1, x2, x3⟩ := hsv_pre0 (m.sum h).1 m.le (m.both h)
  exact ⟨x1, x2, x3, tab_half _ (lt22 (m.both h))⟩
end Mine
namespace Mine
theorem toJ_mk {hi lo : Nat} {hu : Nat → Int} {HU : Addr} {pR : Addr × Obj} {m₀ m : Str → Option Value} {i n : Nat} {hs : List Value} {x1 x2 x3 x4 x5 x6 x8 x10 x11 x12 : Option Value} {tv tl : Tok}
    (em : m = ovs (told12 x1 x2 x3 x4 x5 x6 (some (.float (q32 hi) tv)) x8 (some (.float (lumQ hi lo) tl)) x10 x11 x12) m₀) (hh : Hues hu i hs) (ho : Off HU pR.1) : toJ hi lo hu HU pR m₀ i m [(HU, W.listOf hs.toArray n), pR] :=
  ⟨x1, x2, x3, x4, x5, x6, _, x8, _, x10, x11, x12, hs, n, em, fun _ => ⟨tv, tl, rfl, rfl⟩, rfl, hh, ho⟩
end Mine
namespace Mine
theorem EndA.of {h₀ h' : Heap} {L : Addr} {s s₃ : Shared} {I : Addr} {o : Obj} {rest : (Str → Option Value) → List (Addr × Obj) → Prop} {tk : Nat} {m₂ : Str → Option Value} {news₂ : List (Addr × Obj)} (es : s₃ = { s with heap := h', toks := tk }) (F : Fr h₀ L h' m₂)
    (N : News h₀ L h' ((I, o) :: news₂)) (hne : ∀ p ∈ news₂, p.1 ≠ I) (hr : rest m₂ news₂) : EndA h₀ L s I o rest s₃ := ⟨h', tk, m₂, news₂, es, F, N, hne, hr⟩
end Mine
namespace Mine
/-- _law_told's second loop between two turns -/
def tmJ (news₀ : List (Addr × Obj)) (m₀ : Str → Option Value) (_i : Nat) (m : Str → Option Value) (news : List (Addr × Obj)) : Prop :=
  ∃ (y1 y2 : Option Value), m = ovs [(Str.ofString "mirrored", y2), (Str.ofString "turn", y1)] m₀ ∧ news = news₀
theorem fmod6 (i : Nat) : (((i : Nat) : Int) + 1).fmod 6 = (((i + 1) % 6 : Nat) : Int) := by
  rw [Int.fmod_eq_emod_of_nonneg _ (by decide)]; omega
theorem fmod2 (i : Nat) : 0 ≤ (((i : Nat) : Int) + 1).fmod 2 ∧ (((i : Nat) : Int) + 1).fmod 2 ≤ 1 := by
  rw [Int.fmod_eq_emod_of_nonneg _ (by decide)]; omega
end Mine
namespace Mine
/-- what _law_told gives: the greatest part and the least, in 32nds -/
inductive ToldPost (hi lo : Nat) (g₀ : Heap) (v : Value) (h' : Heap) : Prop
  | mk (D : Addr) (t1 t2 : Tok) : (v = .ref D) → (NewIn g₀ h' D (W.listOf #[.float (q32 hi) t1, .float (q32 lo) t2] 0)) → ToldPost hi lo g₀ v h'
end Mine
end
/- FU -/
section
open PySem PySem.W PySem.Calls PyProof.Rows
namespace Mine
theorem tab_v : ∀ hi, hi < 22 → (Float64.cmpInt (Float64.mul (q32 hi) (Float64.ofInt 32)) ((hi : Nat) : Int) != some Ordering.eq) = false := by decide +kernel
set_option maxHeartbeats 8000000 in
theorem tab_l : ∀ hi, hi < 22 → ∀ lo, lo < 22 - hi → (Float64.cmpInt (Float64.mul (lumQ hi lo) (Float64.ofInt 64)) (((lo : Nat) : Int) + ((hi : Nat) : Int)) != some Ordering.eq) = false ∧
    Float64.sub (Float64.mul (Float64.ofInt 2) (lumQ hi lo)) (q32 hi) = q32 lo := by decide +kernel
end Mine
namespace Mine
section
variable {prog : Program} {w : World} {A : Around} {E : Value → Shared → Prop} {s : Shared} {Q : Value → Shared → Prop} {x : UInt64} {t : Tok}
theorem intF (hA : A.handled = none) (hn : Float64.isNaN x = false) (hi : Float64.isInf x = false) (h : ∀ t' k, Q (.int (Flt.toInt Float64.truncOf x) t') { s with toks := k }) : wpAny (model prog w) A (call (.type "int") [.float x t]) Q E s :=
  Flt.call_int_float3 hA (fun e => by rw [hn] at e; cases e) (fun e => by rw [hi] at e; cases e) fun _ => h _ _
end
end Mine
namespace Mine
theorem mul_rep (x : Str) (n : Nat) : (Txt.mul x ((n : Nat) : Int)).cps.toList = rep x.cps.toList n := by
  have key : ∀ (k : Nat) (acc : Array Nat), ((List.replicate k x.cps).foldl (· ++ ·) acc).toList = acc.toList ++ rep x.cps.toList k := by
    intro k
    induction k with
    | zero => intro acc; simp [rep]
    | succ k ih => intro acc; rw [List.replicate_succ, List.foldl_cons, ih]; simp [rep, List.replicate_succ]
  unfold Txt.mul
  by_cases h1 : ((n : Nat) : Int) < 1
  · rw [if_pos h1]
    have : n = 0 := by omega
    subst this; rfl
  · rw [if_neg h1]
    by_cases h2 : (((n : Nat) : Int) == 1 || x.length == 0) = true
    · rw [if_pos h2]
      rcases Bool.or_eq_true_iff.mp h2 with q | q
      · have : n = 1 := by have := eq_of_beq q; omega
        subst this; simp [rep]
      · have e : x.cps.toList = [] := by
          have := eq_of_beq q
          exact List.eq_nil_of_length_eq_zero (by simpa [Str.length] using this)
        rw [e]
        have : ∀ k, rep [] k = [] := fun k => List.eq_nil_of_length_eq_zero (by rw [rep_len]; simp)
        rw [this]
    · rw [if_neg h2]
      have := key (((n : Nat) : Int).toNat) #[]
      simp only [Int.toNat_natCast] at this ⊢
      simpa using this
theorem esc_same (a b c : Nat) : (escS a b c != Txt.mul (Str.ofString "&amp;") ((a : Nat) : Int) ++ Txt.mul (Str.ofString "&gt;") ((b : Nat) : Int) ++ Txt.mul (Str.ofString "&quot;") ((c : Nat) : Int) ++ Str.ofString "<\r") = false := by
  rw [bne_eq_false_iff_eq]
  refine Str.ext' (Array.toList_inj.mp ?_)
  have e : (Str.ofString "<\r").cps.toList = [60, 13] := by decide +kernel
  simp only [Str.cps_append, Array.toList_append, mul_rep, lit_amp, lit_gt, lit_quot, e]
  simp [escS, List.append_assoc]
theorem c14_same (a b c : Nat) : (c14S a b c != Txt.mul (Str.ofString "&amp;") ((a : Nat) : Int) ++ Txt.mul (Str.ofString "&gt;") ((b : Nat) : Int) ++ Txt.mul (Str.ofString "\"") ((c : Nat) : Int) ++ Str.ofString "&lt;&#xD;") = false := by
  rw [bne_eq_false_iff_eq]
  refine Str.ext' (Array.toList_inj.mp ?_)
  have e : (Str.ofString "&lt;&#xD;").cps.toList = zLt ++ zRet := by decide +kernel
  have e2 : (Str.ofString "\"").cps.toList = [34] := by decide +kernel
  simp only [Str.cps_append, Array.toList_append, mul_rep, lit_amp, lit_gt, e, e2]
  simp [c14S, List.append_assoc]
end Mine
end
/- HT -/
section
open PySem PySem.W PySem.Calls PyProof.Rows
namespace Mine
def fr (d n : Nat) : UInt64 := Float64.div (q32 d) (q32 n)
def hueY (y : UInt64) : UInt64 := (Float64.divmod (Float64.div y 4618441417868443648) 4607182418800017408).2
def stepX (h : UInt64) (n : Int) : UInt64 := Float64.add (Float64.mul (Float64.mul h (Float64.ofInt 6)) (Float64.ofInt n)) 4602678819172646912
def stepB (x : UInt64) (k : Int) : Bool := match Float64.decode x with | .fin sg m e => decide (Float64.truncOf sg m e = k) | _ => false
/-- a hue is a number, and told in whole steps it is k -/
def goodH (h : UInt64) (n k : Int) : Bool := stepB (stepX h n) k && Float64.cmp h h == some .eq
def goodB (y : UInt64) (n : Nat) (k : Int) : Bool := goodH (hueY y) n k
def six (n m : Nat) : Bool :=
  goodB (Float64.sub (fr n n) (fr m n)) n ((n : Int) - m) && (goodB (Float64.sub (fr m n) (fr n n)) n (((m : Int) - n) % (6 * n)) &&
  (goodB (Float64.sub (Float64.add 4611686018427387904 (fr m n)) (fr n n)) n (2 * (n : Int) + m - n) && (goodB (Float64.sub (Float64.add 4611686018427387904 (fr n n)) (fr m n)) n (2 * (n : Int) + n - m) &&
  (goodB (Float64.sub (Float64.add 4616189618054758400 (fr m n)) (fr n n)) n (4 * (n : Int) + m - n) && goodB (Float64.sub (Float64.add 4616189618054758400 (fr n n)) (fr m n)) n (4 * (n : Int) + n - m)))))
def sixes (n : Nat) : Bool := (List.range (n + 1)).all fun m => six n m
theorem sixes_at {n m : Nat} (h : sixes n = true) (hm : m < n + 1) : six n m = true := List.all_eq_true.mp h m (List.mem_range.mpr hm)
theorem sixes_1 : sixes 1 = true := by decide +kernel
theorem sixes_2 : sixes 2 = true := by decide +kernel
theorem sixes_3 : sixes 3 = true := by decide +kernel
theorem sixes_4 : sixes 4 = true := by decide +kernel
theorem sixes_5 : sixes 5 = true := by decide +kernel
theorem sixes_6 : sixes 6 = true := by decide +kernel
theorem sixes_7 : sixes 7 = true := by decide +kernel
theorem sixes_8 : sixes 8 = true := by decide +kernel
theorem sixes_9 : sixes 9 = true := by decide +kernel
theorem sixes_10 : sixes 10 = true := by decide +kernel
theorem sixes_11 : sixes 11 = true := by decide +kernel
theorem sixes_12 : sixes 12 = true := by decide +kernel
theorem sixes_13 : sixes 13 = true := by decide +kernel
theorem sixes_14 : sixes 14 = true := by decide +kernel
theorem sixes_15 : sixes 15 = true := by decide +kernel
theorem sixes_16 : sixes 16 = true := by decide +kernel
theorem sixes_17 : sixes 17 = true := by decide +kernel
theorem sixes_18 : sixes 18 = true := by decide +kernel
theorem sixes_19 : sixes 19 = true := by decide +kernel
theorem sixes_20 : sixes 20 = true := by decide +kernel
theorem sixes_21 : sixes 21 = true := by decide +kernel
theorem six_all {n m : Nat} (h0 : 0 < n) (h1 : n < 22) (hm : m ≤ n) : six n m = true := by
  have hm' : m < n + 1 := Nat.lt_succ_of_le hm
  match n, h0, h1 with
  | 1, _, _ => exact sixes_at sixes_1 hm'
  | 2, _, _ => exact sixes_at sixes_2 hm'
  | 3, _, _ => exact sixes_at sixes_3 hm'
  | 4, _, _ => exact sixes_at sixes_4 hm'
  | 5, _, _ => exact sixes_at sixes_5 hm'
  | 6, _, _ => exact sixes_at sixes_6 hm'
  | 7, _, _ => exact sixes_at sixes_7 hm'
  | 8, _, _ => exact sixes_at sixes_8 hm'
  | 9, _, _ => exact sixes_at sixes_9 hm'
  | 10, _, _ => exact sixes_at sixes_10 hm'
  | 11, _, _ => exact sixes_at sixes_11 hm'
  | 12, _, _ => exact sixes_at sixes_12 hm'
  | 13, _, _ => exact sixes_at sixes_13 hm'
  | 14, _, _ => exact sixes_at sixes_14 hm'
  | 15, _, _ => exact sixes_at sixes_15 hm'
  | 16, _, _ => exact sixes_at sixes_16 hm'
  | 17, _, _ => exact sixes_at sixes_17 hm'
  | 18, _, _ => exact sixes_at sixes_18 hm'
  | 19, _, _ => exact sixes_at sixes_19 hm'
  | 20, _, _ => exact sixes_at sixes_20 hm'
  | 21, _, _ => exact sixes_at sixes_21 hm'
  | n + 22, _, h1 => exact absurd h1 (Nat.not_lt.mpr (Nat.le_add_left _ _))
end Mine
end
/- HU -/
section
open PySem PySem.W PySem.Calls PyProof.Rows
namespace Mine
def hueI (a b c : Nat) : Int :=
  let hi : Int := max (max a b) c
  let n : Int := hi - min (min a b) c
  if n = 0 then 0 else if (a : Int) = hi then ((b : Int) - c) % (6 * n) else if (b : Int) = hi then 2 * n + c - a else 4 * n + a - b
theorem part_q {a b c hi lo x : Nat} (h : a + b + c ≤ 21) (hma : max (max a b) c = hi) (hmi : min (min a b) c = lo) (hx : x ≤ hi) : partF (q32 a) (q32 b) (q32 c) (q32 x) = fr (hi - x) (hi - lo) := by
  have m := mm3 hma hmi
  unfold partF fr
  rw [(mx3_q h).1, (mx3_q h).2, hma, hmi, (tab_sub hi (lt22 (m.sum h).1) x (Nat.lt_succ_of_le hx)).1, (tab_sub hi (lt22 (m.sum h).1) lo (Nat.lt_succ_of_le m.le)).1]
theorem hue_q {a b c hi lo : Nat} (h : a + b + c ≤ 21) (hma : max (max a b) c = hi) (hmi : min (min a b) c = lo) (hn : lo < hi) :
    hueF (q32 a) (q32 b) (q32 c) = hueY (if a = hi then Float64.sub (fr (hi - c) (hi - lo)) (fr (hi - b) (hi - lo)) else if b = hi then Float64.sub (Float64.add 4611686018427387904 (fr (hi - a) (hi - lo))) (fr (hi - c) (hi - lo))
      else Float64.sub (Float64.add 4616189618054758400 (fr (hi - b) (hi - lo))) (fr (hi - a) (hi - lo))) := by
  have m := mm3 hma hmi
  obtain ⟨pa, pb, _⟩ := parts h
  have ph := lt22 (m.sum h).1
  unfold hueF hueY
  rw [part_q h hma hmi m.a1, part_q h hma hmi m.b1, part_q h hma hmi m.c1, (mx3_q h).1, (mx3_q h).2, hma, hmi,
    (tab_two lo (lt22 (m.sum h).2) hi ph).2.2, (tab_two a pa hi ph).2.2, (tab_two b pb hi ph).2.2]
  rw [if_neg (by rw [decide_eq_true_eq]; exact Nat.ne_of_lt hn)]
  simp only [decide_eq_true_eq]
theorem span {hi lo : Nat} (h : lo ≤ hi) : (hi : Int) - (lo : Int) = ((hi - lo : Nat) : Int) := (Int.ofNat_sub h).symm
/-- what a hue is, its cases told apart -/
theorem hueI_eq {a b c hi lo : Nat} (m : MM a b c hi lo) : hueI a b c = if (hi : Int) - lo = 0 then 0 else if (a : Int) = hi then ((b : Int) - c) % (6 * ((hi : Int) - lo)) else if (b : Int) = hi then 2 * ((hi : Int) - lo) + c - a else 4 * ((hi : Int) - lo) + a - b := by
  have e1 : (max (max (a : Int) b) c) = (hi : Int) := by
    rw [← m.max]
    rcases Nat.le_total a b with g | g
    · rw [Int.max_eq_right (Int.ofNat_le.mpr g), Nat.max_eq_right g]
      rcases Nat.le_total b c with g | g
      · rw [Int.max_eq_right (Int.ofNat_le.mpr g), Nat.max_eq_right g]
      · rw [Int.max_eq_left (Int.ofNat_le.mpr g), Nat.max_eq_left g]
    · rw [Int.max_eq_left (Int.ofNat_le.mpr g), Nat.max_eq_left g]
      rcases Nat.le_total a c with g | g
      · rw [Int.max_eq_right (Int.ofNat_le.mpr g), Nat.max_eq_right g]
      · rw [Int.max_eq_left (Int.ofNat_le.mpr g), Nat.max_eq_left g]
  unfold hueI
  dsimp only
  rw [e1, m.min]
theorem six_at {a b c hi lo : Nat} (h : a + b + c ≤ 21) (m : MM a b c hi lo) (hn : lo < hi) (x : Nat) (hx : lo ≤ x) : six (hi - lo) (hi - x) = true := six_all (Nat.sub_pos_of_lt hn) (Nat.lt_of_le_of_lt (Nat.sub_le _ _) (lt22 (m.sum h).1)) (Nat.sub_le_sub_left hx hi)
/-- six facts about whole numbers -/
theorem w1 {b hi lo : Nat} (h1 : lo ≤ b) (h2 : b ≤ hi) (h3 : lo < hi) : ((b : Int) - lo) % (6 * ((hi - lo : Nat) : Int)) = ((hi - lo : Nat) : Int) - ((hi - b : Nat) : Int) := by
  rw [Int.emod_eq_of_lt (by omega) (by omega)]; omega
theorem w2 {c hi lo : Nat} (h1 : c ≤ hi) (h3 : lo < hi) : ((lo : Int) - c) = ((hi - c : Nat) : Int) - ((hi - lo : Nat) : Int) := by omega
theorem w3 {a hi lo : Nat} (h1 : a ≤ hi) (h3 : lo < hi) (k : Int) : k + lo - a = k + ((hi - a : Nat) : Int) - ((hi - lo : Nat) : Int) := by omega
theorem w4 {c hi lo : Nat} (h1 : c ≤ hi) (h3 : lo < hi) (k : Int) : k + c - lo = k + ((hi - lo : Nat) : Int) - ((hi - c : Nat) : Int) := by omega
theorem hue_good {a b c hi lo : Nat} (h : a + b + c ≤ 21) (hma : max (max a b) c = hi) (hmi : min (min a b) c = lo) : goodH (hueF (q32 a) (q32 b) (q32 c)) ((hi : Int) - (lo : Int)) (hueI a b c) = true := by
  have m := mm3 hma hmi
  have ei := hueI_eq m
  rcases Nat.lt_or_ge lo hi with hn | hn
  · have en := span m.le
    have n1 : ¬ ((hi : Int) - lo = 0) := fun e => by rw [en] at e; exact Nat.ne_of_gt (Nat.sub_pos_of_lt hn) (Int.ofNat.inj e)
    rw [if_neg n1] at ei
    have S := six_at h m hn
    have eq := hue_q h hma hmi hn
    rw [en] at ei ⊢
    clear hma hmi h n1 en
    by_cases ha : a = hi
    · rw [if_pos (show (a : Int) = hi from congrArg _ ha)] at ei
      rw [if_pos ha] at eq
      rw [eq]
      by_cases hc : c = lo
      · have := S b m.b2
        unfold Mine.six goodB at this
        simp only [Bool.and_eq_true] at this
        rw [ei, hc, w1 m.b2 m.b1 hn]
        exact this.1
      · have hb' : b = lo := m.l.elim (fun e => absurd (ha ▸ e : hi = lo) (Nat.ne_of_gt hn)) fun e => e.elim id fun e => absurd e hc
        have := S c m.c2
        unfold Mine.six goodB at this
        simp only [Bool.and_eq_true] at this
        rw [ei, hb', w2 m.c1 hn]
        exact this.2.1
    · rw [if_neg (show ¬ (a : Int) = hi from fun e => ha (Int.ofNat.inj e))] at ei
      rw [if_neg ha] at eq
      by_cases hb : b = hi
      · rw [if_pos (show (b : Int) = hi from congrArg _ hb)] at ei
        rw [if_pos hb] at eq
        rw [eq]
        by_cases hc : c = lo
        · have := S a m.a2
          unfold Mine.six goodB at this
          simp only [Bool.and_eq_true] at this
          rw [ei, hc, w3 m.a1 hn]
          exact this.2.2.1
        · have ha' : a = lo := m.l.elim id fun e => e.elim (fun e => absurd (hb ▸ e : hi = lo) (Nat.ne_of_gt hn)) fun e => absurd e hc
          have := S c m.c2
          unfold Mine.six goodB at this
          simp only [Bool.and_eq_true] at this
          rw [ei, ha', w4 m.c1 hn]
          exact this.2.2.2.1
      · rw [if_neg (show ¬ (b : Int) = hi from fun e => hb (Int.ofNat.inj e))] at ei
        rw [if_neg hb] at eq
        rw [eq]
        have hc' : c = hi := m.h.elim (fun e => absurd e ha) fun e => e.elim (fun e => absurd e hb) id
        by_cases hc : a = lo
        · have := S b m.b2
          unfold Mine.six goodB at this
          simp only [Bool.and_eq_true] at this
          rw [ei, hc, w3 m.b1 hn]
          exact this.2.2.2.2.1
        · have hb' : b = lo := m.l.elim (fun e => absurd e hc) fun e => e.elim id fun e => absurd (hc' ▸ e : hi = lo) (Nat.ne_of_gt hn)
          have := S a m.a2
          unfold Mine.six goodB at this
          simp only [Bool.and_eq_true] at this
          rw [ei, hb', w4 m.a1 hn]
          exact this.2.2.2.2.2
  · have e1 : hi = lo := Nat.le_antisymm hn m.le
    have e0 : (hi : Int) - (lo : Int) = 0 := by rw [e1]; exact Int.sub_self _
    rw [e0] at ei ⊢
    rw [ei, if_pos rfl]
    have : hueF (q32 a) (q32 b) (q32 c) = 0 := by
      unfold hueF
      rw [(mx3_q h).1, (mx3_q h).2, hma, hmi, (tab_two lo (lt22 (m.sum h).2) hi (lt22 (m.sum h).1)).2.2, if_pos (by rw [decide_eq_true_eq]; exact e1.symm)]
    rw [this]
    decide +kernel
theorem hue_self {a b c : Nat} (h : a + b + c ≤ 21) : (Float64.cmp (hueF (q32 a) (q32 b) (q32 c)) (hueF (q32 a) (q32 b) (q32 c)) != some Ordering.eq) = false := by
  have := hue_good h rfl rfl
  unfold goodH at this
  rw [Bool.and_eq_true] at this
  rw [bne, this.2]; rfl
theorem stepB_fin {x : UInt64} {k : Int} (h : stepB x k = true) : Float64.isNaN x = false ∧ Float64.isInf x = false ∧ Flt.toInt Float64.truncOf x = k := by
  unfold stepB at h
  unfold Float64.isNaN Float64.isInf Flt.toInt
  cases e : Float64.decode x with
  | fin s m ex => rw [e] at h; exact ⟨rfl, rfl, of_decide_eq_true h⟩
  | nan => rw [e] at h; cases h
  | inf s => rw [e] at h; cases h
theorem hue_fin {a b c hi lo : Nat} (h : a + b + c ≤ 21) (hma : max (max a b) c = hi) (hmi : min (min a b) c = lo) :
    Float64.isNaN (Float64.add (Float64.mul (Float64.mul (hueF (q32 a) (q32 b) (q32 c)) (Float64.ofInt 6)) (Float64.ofInt ((hi : Int) - (lo : Int)))) 4602678819172646912) = false ∧
    Float64.isInf (Float64.add (Float64.mul (Float64.mul (hueF (q32 a) (q32 b) (q32 c)) (Float64.ofInt 6)) (Float64.ofInt ((hi : Int) - (lo : Int)))) 4602678819172646912) = false := by
  have := hue_good h hma hmi
  unfold goodH at this
  rw [Bool.and_eq_true] at this
  have := stepB_fin this.1
  exact ⟨this.1, this.2.1⟩
theorem hue_int {a b c hi lo : Nat} (h : a + b + c ≤ 21) (hma : max (max a b) c = hi) (hmi : min (min a b) c = lo) :
    Flt.toInt Float64.truncOf (Float64.add (Float64.mul (Float64.mul (hueF (q32 a) (q32 b) (q32 c)) (Float64.ofInt 6)) (Float64.ofInt ((hi : Int) - (lo : Int)))) 4602678819172646912) = hueI a b c := by
  have := hue_good h hma hmi
  unfold goodH at this
  rw [Bool.and_eq_true] at this
  exact (stepB_fin this.1).2.2
end Mine
end
/- To -/
section
open PySem PySem.W PySem.Calls PyProof.Rows
example : True := by
  k_with_none
  k_with "my_enter" => (k_dflt (
  refine' Mine.enterC _ ?k1z0 ?k2z0 ?k3z0 ?k4z0 ?kAz0 ?kFz0 ?kKz0 ?kRz0 ?k6z0 ?k7z0 ?k8z0 ?k9z0 ?kBz0 ?_ ?c2z0 ?c3z0 ?c4z0 ?c5z0 ?c6z0
  (case kAz0 => exact rfl); (case kFz0 => exact rfl); (case kKz0 => assumption); (case k1z0 => k_asm); (case k2z0 => k_asm); (case k3z0 => k_asm); (case k4z0 => k_asm); (case kRz0 => assumption)
  (case k6z0 => k_is); (case k7z0 => k_is); (case k8z0 => exact Nat.lt_of_le_of_lt (Nat.le_add_right _ _) (by assumption)); (case k9z0 => exact BindsTo.of_eq rfl); (case c5z0 => decide); (case kBz0 => exact locs rfl); (case c2z0 => exact rfl); (case c3z0 => exact rfl); (case c4z0 => exact rfl); (case c6z0 => exact Nat.succ_pos _)))
  k_with "execs cons" => (k_here; (with_reducible show wpAny _ _ _ _ _ (Shared.mk _ _ _ (HAdd.hAdd _ 1) _)); (with_reducible rename Fr _ _ _ _ => F9z1); (with_reducible rename News _ _ _ _ => N9z1); with_reducible refine Mine.toks_let F9z1 N9z1 ?_; intro m9z1 n9z1 tkz1 htkz1 F8z1 N8z1; clear F9z1 N9z1)
  k_with "execs nil" => (k_here; (with_reducible show wpAny _ _ _ _ _ (Shared.mk _ _ _ (HAdd.hAdd _ 1) _)); (with_reducible rename Fr _ _ _ _ => F9z2); (with_reducible rename News _ _ _ _ => N9z2); with_reducible refine Mine.toks_let F9z2 N9z2 ?_; intro m9z2 n9z2 tkz2 htkz2 F8z2 N8z2; clear F9z2 N9z2)
  k_with "ite" => (k_here; first | refine PySem.W.ite_pos (by assumption) ?_ | refine PySem.W.ite_neg (ne_true_of_eq_false (by assumption)) ?_)
  k_with "subscriptTail Name Constant ref int" => (k_here; k_dflt (refine' Mine.item_L ?hlz4 ?h0z4 ?hhiz4 ?hxz4 ?_; (case hlz4 => first | exact Fr.lst (by k_asm) (by assumption) | exact News.isList (by k_asm) (by k_mem)); (case h0z4 => decide); (case hhiz4 => decide); (case hxz4 => exact rfl)))
  k_with "subscriptTail" => (k_here; (with_reducible show wpAny _ _ (subscriptTail _ _ (Value.bytes _ _) (Value.int _ _)) _ _ _); k_dflt (refine' Mine.item_B ?hxz5 ?hfz5 ?h0z5 ?_; (case hxz5 => exact rfl); (case hfz5 => exact Nat.le_of_ble_eq_true rfl); (case h0z5 => decide)))
  k_with "call builtin:len" => (k_here; (with_reducible show wpAny _ _ (call _ [Value.bytes _ _]) _ _ _); k_dflt (refine' Mine.len_B ?hnz6 ?hzz6 ?_; (case hnz6 => first | exact (rfl : _ = 2) | exact (rfl : _ = 3)); (case hzz6 => decide); (try dsimp only)))
  k_with "CompRest" => (with_unfolding_all (refine LCg.CompRest.succ ?_; intro vz7 Iz7 oIz7 Cz7 oCz7 Dz7 mz7 hz7 tkz7 Ez7 hvz7 hCz7 hxz7 Fz7 Nz7 offz7 nez7; obtain ⟨c9z7, u9z7, hc9z7, hv9z7⟩ := hvz7; subst hv9z7; have hc8 := Option.some.inj hc9z7; subst hc8; clear hc9z7; (try simp only [LCg.Off3, and_true] at offz7)))
  k_with "tle" => repeat' first | ((with_reducible refine Mine.TLe.mul ?_ ?_) <;> first | (with_reducible assumption) | decide +kernel) | (with_reducible apply Mine.TLe.add) | (with_reducible refine Mine.TLe.lit ?_; decide +kernel)
  k_with "binaryOp Add str str" => (k_here; k_dflt (refine' Mine.addT ?h1z9 ?h2z9 ?hmz9 ?_; (case h1z9 => walk_at "tle"); (case h2z9 => walk_at "tle"); (case hmz9 => rfl)); intro tz9 kz9)
  k_with "my_src" => first
  | (k_dflt (refine' Mine.SrcB.intro _ ?hhz10 ?Fz10 ?Nz10 ?hkz10 ?hzz10 ?_; (case hhz10 => exact rfl); (case Fz10 => k_asm); (case Nz10 => k_asm); (case hkz10 => exact rfl); (case hzz10 => exact Nat.le_of_ble_eq_true rfl); intro gz10; (try dsimp only)))
  | (walk1; walk_at "my_src") | (dsimp only; walk1; walk_at "my_src")
  k_with "eval ListComp" => (k_here; k_dflt (refine Mine.ListComp_B (by k_asm) (by rfl) (by decide) (by rfl) (by decide) (by rfl) ?_); walk_at "my_src")
  k_with "CompRest" => (with_unfolding_all (refine LCg.CompRest.succ ?_; intro vz12 Iz12 oIz12 Cz12 oCz12 Dz12 mz12 hz12 tkz12 Ez12 hvz12 hCz12 hxz12 Fz12 Nz12 offz12 nez12; replace nez12 := Mine.apart3 nez12; obtain ⟨c9z12, u9z12, hc9z12, hv9z12⟩ := hvz12; subst hv9z12; have hc8 := Option.some.inj hc9z12; subst hc8; clear hc9z12; (try k_sweep)))
  k_with "CompEnd" => ((with_reducible rename LCg.Off3 _ _ _ _ => of9z13); (with_reducible rename LCg.NsObj _ _ => ns9z13); refine' Mine.compEnd_same ?Fz13 ?Nz13 of9z13 ?Sz13 ?_; (case Fz13 => k_asm); (case Nz13 => k_asm); (case Sz13 => first | exact trivial | exact .inl (by assumption) | exact .inr ⟨_, by k_mem, rfl, _, rfl⟩); clear of9z13; (try (with_reducible rename Mine.Apart3 _ _ _ => ne9z13; clear ne9z13)))
  k_with "call builtin:list.append" => (k_here; (fail_if_success (with_reducible show wpAny _ _ (call _ [_, _]) _ _ _)); dsimp only [List.cons_append, List.nil_append])
  k_with "execs cons Assign cons" => walk_at "execs cons"
  k_with "k_ne" => (refine neN ?_; (try dsimp only); first | exact Nat.ne_of_gt (by with_reducible assumption) | exact Nat.ne_of_lt (by with_reducible assumption) | exact Mine.Off.ne (by with_reducible assumption) | exact Mine.Off.sym (by with_reducible assumption) | with_reducible assumption | exact Ne.symm (by with_reducible assumption) | omega)
  k_with "FinE" => ((unfold LCg.FinE); intro Dz18 hz18 tkz18 Fz18 Nz18 o1z18; (try (replace o1z18 := Mine.allOff_1 o1z18; simp +zetaDelta only [Mine.AllOff, and_true] at o1z18)); (repeat obtain ⟨l9z18, o1z18⟩ := o1z18); (try simp only [List.nil_append, List.cons_append] at Nz18); (try dsimp only))
  k_with "FinA" => ((unfold LCg.FinA); intro Dz19 hz19 tkz19 Fz19 Nz19 o1z19; (try (replace o1z19 := Mine.allOff_1 o1z19; simp +zetaDelta only [Mine.AllOff, and_true] at o1z19)); (repeat obtain ⟨l9z19, o1z19⟩ := o1z19); (try simp only [List.nil_append, List.cons_append] at Nz19); (try dsimp only))
  k_with "call builtin:list.append" => (k_here; (with_reducible show wpAny _ _ (call (Value.builtin _) [Value.ref _, _]) _ _ _); (k_dflt (refine' append_K ?k1z20 ?k2z20 ?k3z20 ?_ ?zz20; (case k1z20 => k_asm); (case k2z20 => k_asm); (case k3z20 => k_upd); (case zz20 => first | exact Nat.le_of_ble_eq_true rfl | size_fits); k_whole));  intro hz20 Fz20 Nz20; (try k_sweep))
  k_with "newList" => (k_here; k_dflt (refine' newList_K ?k1z21 ?k2z21 ?_ ?zz21; (case k1z21 => k_asm); (case k2z21 => k_asm); (case zz21 => first | exact Nat.le_of_ble_eq_true rfl | size_fits); k_whole); intro lz21 hz21 Fz21 Nz21 l1z21; (try k_lt l1z21); (try k_sweep))
  k_with "call builtin:sorted" => (k_here; (with_reducible show wpAny _ _ (call _ [Value.bytes _ _]) _ _ _); k_dflt (refine' Mine.sortedB3 rfl ?Fz22 ?Nz22 ?_; (case Fz22 => k_asm); (case Nz22 => k_asm)); intro Dz22 hz22 tkz22 az22 bz22 cz22 t1z22 t2z22 t3z22 ez22 Fz22 Nz22 l1z22 hpz22 haz22 hbz22; (try k_lt l1z22); (try k_sweep))
  k_with "subscriptTail Name Name ref int" => (k_here; k_dflt (refine' Mine.item_L ?hlz23 ?h0z23 ?hhiz23 ?hxz23 ?_; (case hlz23 => exact Fr.lst (by k_asm) (by with_reducible assumption)); (case h0z23 => exact Int.natCast_nonneg _); (case hhiz23 => omega); (case hxz23 => with_reducible assumption)))
  k_with "subscriptTail Name Name ref int" => (k_here; (with_reducible show wpAny _ _ (subscriptTail (PySem.Expr.Name (PySem.Str.ofString "hues") _) _ _ _) _ _ _); k_dflt (refine' Mine.item_L ?hlz24 ?h0z24 ?hhiz24 ?hxz24 ?_; (case hlz24 => exact News.isList (by k_asm) (by k_mem)); (case h0z24 => exact Int.natCast_nonneg _); (case hhiz24 => omega); (case hxz24 => with_reducible assumption)))
  k_with "subscriptTail Name BinOp ref int" => (k_here; k_dflt (refine' Mine.item_L ?hlz25 ?h0z25 ?hhiz25 ?hxz25 ?_; (case hlz25 => exact News.isList (by k_asm) (by k_mem)); (case h0z25 => with_reducible assumption); (case hhiz25 => with_reducible assumption); (case hxz25 => with_reducible assumption)))
  k_with "subscriptTail Name Constant ref int" => (k_here; (with_reducible show wpAny _ _ (subscriptTail (PySem.Expr.Name (PySem.Str.ofString "ring") _) _ _ _) _ _ _); k_dflt (refine' Mine.item_L ?hlz26 ?h0z26 ?hhiz26 ?hxz26 ?_; (case hlz26 => exact Fr.lst (by k_asm) (by with_reducible assumption)); (case h0z26 => decide); (case hhiz26 => decide); (case hxz26 => assumption)))
  k_with "subscriptTail Subscript Name Name Constant bytes int" => (k_here; k_dflt (refine' Mine.item_B ?hxz27 ?hfz27 ?h0z27 ?_; (case hxz27 => exact rfl); (case hfz27 => exact Nat.le_of_ble_eq_true rfl); (case h0z27 => decide)))
  k_with "call type:int" => (k_here; (with_reducible show wpAny _ _ (call _ [Value.float _ _]) _ _ _); k_dflt (refine' Mine.intF rfl ?hnz28 ?hiz28 ?_; (case hnz28 => with_reducible assumption); (case hiz28 => with_reducible assumption)); intro tz28 kz28)
  k_with "binaryOp Div int int" => (k_here; k_dflt (refine' Mine.div32 ?hAz29 ?h0z29 ?h1z29 ?_; (case hAz29 => exact rfl); (case h0z29 => omega); (case h1z29 => omega)); intro tz29 kz29)
  k_with "binaryOp Mult int int" => (k_here; k_dflt (refine PySem.mul_int ?_ (IntMulOk.of_right (PySem.intBits_le_64 (by first | omega | (split <;> omega)) (by first | omega | (split <;> omega))))))
  k_with "exec For Name Call cons nil" => (k_here; (have pz' : Mine.Pause := by with_reducible assumption); clear pz'; refine Mine.Hold.out ?_)
  k_with "call ref" => (k_here; (have pz' : Mine.Pause := by with_reducible assumption); clear pz'; refine Mine.Hold.out ?_)
  k_with "k_steps" => repeat' (first | (k_unfold; (try dsimp only)) | (k_end; kc_close) | ((first | (with_reducible show wpAny _ _ (exec _ _) _ _ _) | (with_reducible show wpAny _ _ (execs (_ :: _) _) _ _ _) | (with_reducible show wpAny _ _ (eval (PySem.Expr.BinOp _ _ _ _) _) _ _ _) | (with_reducible show wpAny _ _ (eval (PySem.Expr.Call _ _ _ _) _) _ _ _) | (with_reducible show wpAny _ _ (eval (PySem.Expr.Subscript _ _ _) _) _ _ _) | (with_reducible show wpAny _ _ (eval (PySem.Expr.Tuple _ _ _) _) _ _ _) | (with_reducible show wpAny _ _ (eval (PySem.Expr.List _ _) _) _ _ _)); k_fold; walk1) | walk1 | (dsimp only; walk1) | (leave1; walk_say "STEP leave1"; (try dsimp only)) | fail "no step")
  trivial
example : (PySem.Challenge.rw_zo0010_01 = PySem.Challenge.rw_zo0010_01) ∧ (Mine.hd.heap_1 = Mine.hd.heap_1) := by k_fill; exact ⟨rfl, rfl⟩
namespace Mine
set_option maxHeartbeats 4000000 in
theorem c_told {prog : Program} {w : World} {mean : ExcName → Option Value} {mg mb : Str → Option Value} (R : Addr) (vsR : List Value) (nR : Nat) (hi lo : Nat) (hu : Nat → Int) (p q r : UInt8) (t0 : Tok)
   (hr0 : vsR[(0 : Int).toNat]? = some (.bytes #[p, q, r] t0)) (hmax : max (max p.toNat q.toNat) r.toNat = hi) (hmin : min (min p.toNat q.toNat) r.toNat = lo)
   (hring : ∀ i, i < 6 → ∃ (a b c : UInt8) (t : Tok), vsR[((i : Nat) : Int).toNat]? = some (.bytes #[a, b, c] t) ∧ a.toNat + b.toNat + c.toNat ≤ 21 ∧ max (max a.toNat b.toNat) c.toNat = hi ∧ min (min a.toNat b.toNat) c.toNat = lo ∧ hueI a.toNat b.toNat c.toNat = hu i)
   (hlaw : ∀ i : Nat, i < 6 → (hi : Int) - (lo : Int) > 0 → hu ((i + 1) % 6) = (2 * ((hi : Int) - (lo : Int)) * (((i : Nat) : Int) + 1).fmod 2 - hu i).fmod (6 * ((hi : Int) - (lo : Int)))) :
  Claim prog w mean mg mb 106 [.ref R] 12 300 (fun h => h.get? R = some (W.listOf vsR.toArray nR)) (ToldPost hi lo) := by
  intro dp un gd cn cs' a ccd cl outer A₀ base h₀ L m s Q E B F X T hk hd hu' hl hret
  walk_at "my_enter"
  clear hret B F X T
  intro g₀ L' h₁ tk Q' hret hg htk F' N' B' X' T'
  subst hg
  (try dsimp only)
  w_on
  refine letAE ?_
  intro Ak ek9 gk dk ok
  have hRg : s.heap.IsList R vsR.toArray := ⟨_, hl, rfl, nR, rfl⟩
  have pz := pause
  k_steps
  rename List.Perm _ _ => hperm
  obtain ⟨ea, ec⟩ := sorted3 hperm (by assumption) (by assumption) hmax hmin
  subst ea; subst ec
  clear hperm
  unfold Hold
  refine Mine.forRangeA 6 (by k_asm) rfl ?_
  k_steps
  rename Fr _ _ _ _ => F5
  rename News _ _ _ _ => N5
  refine RngA.byM (toJ hi lo hu _ _) (by assumption) F5 N5 (by decide) ⟨_, _, _, _, _, _, _, _, _, _, _, _, [], _, ovs_start _ [Str.ofString "head", Str.ofString "text", Str.ofString "depth", Str.ofString "light", Str.ofString "other", Str.ofString "value", Str.ofString "share", Str.ofString "hue", Str.ofString "b", Str.ofString "g", Str.ofString "r", Str.ofString "turn"], (fun h => absurd h (Nat.lt_irrefl 0)), rfl, ⟨rfl, fun j hj => absurd hj (Nat.not_lt_zero j)⟩, Nat.ne_of_gt (by with_reducible assumption)⟩ ?step ?done
  case step =>
    intro I i m news hi6 hJ hne h₁ tk₁ t F1 N1
    replace F1 : Fr s.heap L' h₁ _ := F1
    replace N1 : News s.heap L' h₁ _ := N1
    obtain ⟨x1, x2, x3, x4, x5, x6, x7, x8, x9, x10, x11, x12, hs, nh, rfl, hx, rfl, hhs, hoff⟩ := hJ
    obtain ⟨ba, bb, bc, bt, hix, hsum, hma, hmi, hhu⟩ := hring i hi6
    have g1 := hne _ (.head _)
    replace g1 : Off _ I := g1
    have g2 := hne _ (.tail _ (.head _))
    replace g2 : Off _ I := g2
    dsimp only at g1 g2 hoff
    have b1 := ba.toNat_lt
    have b2 := bb.toNat_lt
    have b3 := bc.toNat_lt
    have hmm := mm3 hma hmi
    obtain ⟨z1, z2, z3⟩ := le21 hsum
    have q1 := tab_v hi (hmm.tab hsum).1
    have q2 := (tab_l hi (hmm.tab hsum).1 lo (hmm.tab hsum).2).1
    have q3 := hue_self hsum
    have q6 := hue_int hsum hma hmi
    rw [hhu] at q6
    have q7 := esc_same ba.toNat bb.toNat bc.toNat
    have q8 := c14_same ba.toNat bb.toNat bc.toNat
    have hz : hs.toArray.size ≤ sizeLine := by rw [List.size_toArray, hhs.1, sizeLine_eq]; omega
    obtain ⟨q4, q5⟩ := hue_fin hsum hma hmi
    dsimp only [ovs, told12] at F1
    clear F5 N5
    k_steps
    rename Fr _ _ _ _ => F8
    rename News _ _ _ _ => N8
    simp only [Int.toNat_natCast] at F8 N8 ⊢
    unfold Hold
    clear pz
    rename Fr _ _ _ _ => F7
    rename News _ _ _ _ => N7
    k_here
    refine' useC (c_hsv (q32 ba.toNat) (q32 bb.toNat) (q32 bc.toNat) _ _ _ (hsv_pre hsum).1 (hsv_pre hsum).2.1) ?B ?F ?N ?X ?T ?hk ?hd ?hu ?pre ?_
    case B => k_asm
    case F => k_asm
    case N => k_asm
    case X => k_asm
    case T => k_asm
    case hk => exact rfl
    case hd => exact room 1 (by assumption) rfl rfl
    case hu => exact room 3 (by assumption) rfl rfl
    case pre => exact trivial
    intro v9 h9 tk9 F9 N9 P9
    obtain ⟨D9, u1, u2, u3, e9, a9, c9⟩ := P9
    rw [(mx3_q hsum).1, hma] at c9
    subst e9
    obtain ⟨N9, ne9⟩ := gain2 F7 N7 N9 a9 c9
    replace ne9 := allOff_ne ne9
    simp +zetaDelta only [AllOff, and_true] at ne9
    repeat obtain ⟨l9, ne9⟩ := ne9
    clear F7 N7
    have pz := pause
    try dsimp only
    k_steps
    unfold Hold
    clear pz
    rename Fr _ _ _ _ => F7
    rename News _ _ _ _ => N7
    k_here
    refine' useC (c_hls (q32 ba.toNat) (q32 bb.toNat) (q32 bc.toNat) _ _ _ (hsv_pre hsum).2.2.1 (hsv_pre hsum).2.1 (hsv_pre hsum).2.2.2) ?B ?F ?N ?X ?T ?hk ?hd ?hu ?pre ?_
    case B => k_asm
    case F => k_asm
    case N => k_asm
    case X => k_asm
    case T => k_asm
    case hk => exact rfl
    case hd => exact room 1 (by assumption) rfl rfl
    case hu => exact room 3 (by assumption) rfl rfl
    case pre => exact trivial
    intro v9 h9 tk9 F9 N9 P9
    obtain ⟨D9, u1, u2, u3, e9, a9, c9⟩ := P9
    rw [lum_q hsum hma hmi] at c9
    subst e9
    obtain ⟨N9, ne9⟩ := gain2 F7 N7 N9 a9 c9
    replace ne9 := allOff_ne ne9
    simp +zetaDelta only [AllOff, and_true] at ne9
    repeat obtain ⟨l9, ne9⟩ := ne9
    clear F7 N7
    have pz := pause
    try dsimp only
    k_steps
    unfold Hold
    clear pz
    rename Fr _ _ _ _ => F7
    rename News _ _ _ _ => N7
    k_here
    refine' useC (c_textB ba bb bc bt) ?B ?F ?N ?X ?T ?hk ?hd ?hu ?pre ?_
    case B => k_asm
    case F => k_asm
    case N => k_asm
    case X => k_asm
    case T => k_asm
    case hk => exact rfl
    case hd => exact room 1 (by assumption) rfl rfl
    case hu => exact room 3 (by assumption) rfl rfl
    case pre => exact trivial
    intro v9 h9 tk9 F9 N9 P9
    obtain ⟨t9, e9⟩ := P9
    subst e9
    clear F7 N7
    have pz := pause
    try dsimp only
    k_steps
    unfold Hold
    clear pz
    rename Fr _ _ _ _ => F7
    rename News _ _ _ _ => N7
    k_here
    refine' useC (c_esc (textS ba.toNat bb.toNat bc.toNat) t9 (by rw [textS_len]; omega)) ?B ?F ?N ?X ?T ?hk ?hd ?hu ?pre ?_
    case B => k_asm
    case F => k_asm
    case N => k_asm
    case X => k_asm
    case T => k_asm
    case hk => exact rfl
    case hd => exact room 1 (by assumption) rfl rfl
    case hu => exact room 3 (by assumption) rfl rfl
    case pre => exact trivial
    intro v9 h9 tk9 F9 N9 P9
    obtain ⟨t8, e9⟩ := P9
    rw [esc_text] at e9
    subst e9
    clear F7 N7
    have pz := pause
    try dsimp only
    k_steps
    unfold Hold
    clear pz
    rename Fr _ _ _ _ => F7
    rename News _ _ _ _ => N7
    k_here
    refine' useC (c_c14n (textS ba.toNat bb.toNat bc.toNat) t9 (by rw [textS_len]; omega)) ?B ?F ?N ?X ?T ?hk ?hd ?hu ?pre ?_
    case B => k_asm
    case F => k_asm
    case N => k_asm
    case X => k_asm
    case T => k_asm
    case hk => exact rfl
    case hd => exact room 1 (by assumption) rfl rfl
    case hu => exact room 3 (by assumption) rfl rfl
    case pre => exact trivial
    intro v9 h9 tk9 F9 N9 P9
    obtain ⟨t9, e9⟩ := P9
    rw [c14_text] at e9
    subst e9
    clear F7 N7
    have pz := pause
    try dsimp only
    k_steps
    try dsimp only [TurnEnd]
    rename Fr _ _ _ _ => F9
    rename News _ _ _ _ => N9
    simp +zetaDelta only [List.push_toArray] at N9
    try simp +zetaDelta only at F9
    rw [q6] at N9
    replace N9 := tail1 (tail2 N9)
    refine EndA.of rfl F9 N9 ?ne9 (toJ_mk (ovs_again (l := told12 _ _ _ _ _ _ _ _ _ _ _ _) (l' := told12 x1 x2 x3 x4 x5 x6 x7 x8 x9 x10 x11 x12) rfl) hhs.snoc hoff)
    case ne9 => exact all_cons g1 (all_cons g2 (fun _ hp => nomatch hp))
  case done =>
    intro m news hJ h' tk F1 N1
    replace F1 : Fr s.heap L' h' _ := F1
    replace N1 : News s.heap L' h' _ := N1
    obtain ⟨x1, x2, x3, x4, x5, x6, x7, x8, x9, x10, x11, x12, hs, nh, rfl, hx, rfl, hhs, hoff⟩ := hJ
    obtain ⟨tv, tl, rfl, rfl⟩ := hx (by decide)
    have hb : hi ≤ 21 ∧ lo ≤ hi ∧ hi + lo ≤ 21 := by
      obtain ⟨ba, bb, bc, bt, _, hsum, hma, hmi, _⟩ := hring 0 (by decide)
      exact (mm3 hma hmi).all hsum
    dsimp only [ovs, told12] at F1
    clear F5 N5
    k_steps
    unfold Hold
    refine Mine.forRangeA 6 (by k_asm) rfl ?_
    k_steps
    rename Fr _ _ _ _ => F5
    rename News _ _ _ _ => N5
    refine RngA.byM (tmJ _) (by assumption) F5 N5 (by decide) ⟨_, _, ovs_start _ [Str.ofString "mirrored", Str.ofString "turn"], rfl⟩ ?step2 ?done2
    case step2 =>
      intro I i m news hi6 hJ hne h₁ tk₁ t F1 N1
      replace F1 : Fr s.heap L' h₁ _ := F1
      replace N1 : News s.heap L' h₁ _ := N1
      obtain ⟨y1, y2, rfl, rfl⟩ := hJ
      obtain ⟨ti, hti⟩ := hhs.2 i hi6
      obtain ⟨tj, htj⟩ := hhs.2 ((i + 1) % 6) (Nat.mod_lt _ (by decide))
      have hi1 : hs[((i : Nat) : Int).toNat]? = some (.int (hu i) ti) := by rw [Int.toNat_natCast]; exact hti
      have hj1 : hs[((((i : Nat) : Int) + 1).fmod 6).toNat]? = some (.int (hu ((i + 1) % 6)) tj) := by rw [fmod6, Int.toNat_natCast]; exact htj
      have hj0 : 0 ≤ (((i : Nat) : Int) + 1).fmod 6 := by rw [fmod6]; omega
      have hjl : (((i : Nat) : Int) + 1).fmod 6 < 2 ^ 63 := by rw [fmod6]; omega
      have hf2 := fmod2 i
      dsimp only [ovs] at F1
      clear F5 N5
      by_cases hs0 : (hi : Int) - (lo : Int) > 0
      · have hd0 : decide ((hi : Int) - (lo : Int) > 0) = true := decide_eq_true hs0
        have hlaw' := hlaw i hi6 hs0
        k_steps
        · exact absurd hlaw' (by assumption)
        try dsimp only [TurnEnd]
        rename Fr _ _ _ _ => F9
        rename News _ _ _ _ => N9
        exact EndA.of rfl F9 N9 hne ⟨_, _, ovs_again (l := [(Str.ofString "mirrored", _), (Str.ofString "turn", _)]) (l' := [(Str.ofString "mirrored", y2), (Str.ofString "turn", y1)]) rfl, rfl⟩
      · have hd0 : decide ((hi : Int) - (lo : Int) > 0) = false := decide_eq_false hs0
        k_steps
        try dsimp only [TurnEnd]
        rename Fr _ _ _ _ => F9
        rename News _ _ _ _ => N9
        exact EndA.of rfl F9 N9 hne ⟨_, _, ovs_again (l := [(Str.ofString "mirrored", _), (Str.ofString "turn", _)]) (l' := [(Str.ofString "mirrored", y2), (Str.ofString "turn", y1)]) rfl, rfl⟩
    case done2 =>
      intro m news hJ h' tk F1 N1
      replace F1 : Fr s.heap L' h' _ := F1
      replace N1 : News s.heap L' h' _ := N1
      obtain ⟨y1, y2, rfl, rfl⟩ := hJ
      dsimp only [ovs] at F1
      clear F5 N5
      k_steps
      try dsimp only
      refine hret _ _ _ _ _ (by assumption) ?_
      rename News _ _ _ _ => N9
      rw [(tab_l hi (by omega) lo (by omega)).2] at N9
      exact ⟨_, _, _, rfl, newIn N9 (.head _)⟩
end Mine
end
/- PHue -/
section
namespace Mine
def spanN (a b c : Nat) : Int := ((max (max a b) c : Nat) : Int) - ((min (min a b) c : Nat) : Int)
def mirB (a b c : Nat) : Bool := decide (spanN a b c = 0) || (decide (hueI b a c = (2 * spanN a b c * 1 - hueI a b c).fmod (6 * spanN a b c)) && decide (hueI a c b = (2 * spanN a b c * 0 - hueI a b c).fmod (6 * spanN a b c)))
def mirs (a : Nat) : Bool := (List.range (22 - a)).all fun b => (List.range (22 - a - b)).all fun c => mirB a b c
theorem mirs_all : (List.range 22).all mirs = true := by decide +kernel
theorem mir {a b c : Nat} (h : a + b + c ≤ 21) (hn : spanN a b c ≠ 0) : hueI b a c = (2 * spanN a b c * 1 - hueI a b c).fmod (6 * spanN a b c) ∧ hueI a c b = (2 * spanN a b c * 0 - hueI a b c).fmod (6 * spanN a b c) := by
  have h1 := List.all_eq_true.mp mirs_all a (List.mem_range.mpr (by omega))
  have h2 := List.all_eq_true.mp h1 b (List.mem_range.mpr (by omega))
  have h3 := List.all_eq_true.mp h2 c (List.mem_range.mpr (by omega))
  unfold mirB at h3
  rcases Bool.or_eq_true_iff.mp h3 with h4 | h4
  · exact absurd (of_decide_eq_true h4) hn
  · obtain ⟨h5, h6⟩ := Bool.and_eq_true_iff.mp h4
    exact ⟨of_decide_eq_true h5, of_decide_eq_true h6⟩
/-- the hues of the six turns -/
def huR (p q r : Nat) : Nat → Int
  | 0 => hueI p q r
  | 1 => hueI q p r
  | 2 => hueI q r p
  | 3 => hueI r q p
  | 4 => hueI r p q
  | _ => hueI p r q
theorem hue_law {p q r hi lo : Nat} (h : p + q + r ≤ 21) (hma : max (max p q) r = hi) (hmi : min (min p q) r = lo) :
    ∀ i : Nat, i < 6 → (hi : Int) - (lo : Int) > 0 → huR p q r ((i + 1) % 6) = (2 * ((hi : Int) - (lo : Int)) * (((i : Nat) : Int) + 1).fmod 2 - huR p q r i).fmod (6 * ((hi : Int) - (lo : Int))) := by
  intro i hi6 hn
  have m := mm3 hma hmi
  have sp : ∀ {x y z : Nat}, MM x y z hi lo → spanN x y z = (hi : Int) - lo := fun m => by unfold spanN; rw [m.max, m.min]
  have s1 := sp m
  have s2 := sp m.ab
  have s3 := sp m.ab.bc
  have s4 := sp m.ab.bc.ab
  have s5 := sp m.bc.ab
  have s6 := sp m.bc
  have hn' : ∀ {x y z : Nat}, MM x y z hi lo → spanN x y z ≠ 0 := fun m e => by rw [sp m] at e; omega
  clear hma hmi
  have m1 := (mir (a := p) (b := q) (c := r) (by omega) (hn' m)).1
  have m2 := (mir (a := q) (b := p) (c := r) (by omega) (hn' m.ab)).2
  have m3 := (mir (a := q) (b := r) (c := p) (by omega) (hn' m.ab.bc)).1
  have m4 := (mir (a := r) (b := q) (c := p) (by omega) (hn' m.ab.bc.ab)).2
  have m5 := (mir (a := r) (b := p) (c := q) (by omega) (hn' m.bc.ab)).1
  have m6 := (mir (a := p) (b := r) (c := q) (by omega) (hn' m.bc)).2
  rw [s1] at m1; rw [s2] at m2; rw [s3] at m3; rw [s4] at m4; rw [s5] at m5; rw [s6] at m6
  match i, hi6 with
  | 0, _ => exact m1
  | 1, _ => exact m2
  | 2, _ => exact m3
  | 3, _ => exact m4
  | 4, _ => exact m5
  | 5, _ => exact m6
end Mine
end
/- Swap -/
section
open PySem PySem.W PySem.Calls PyProof.Rows
example : True := by
  k_with_none
  k_with "my_enter" => (k_dflt (
  refine' Mine.enterC _ ?k1z1 ?k2z1 ?k3z1 ?k4z1 ?kAz1 ?kFz1 ?kKz1 ?kRz1 ?k6z1 ?k7z1 ?k8z1 ?k9z1 ?kBz1 ?_ ?c2z1 ?c3z1 ?c4z1 ?c5z1 ?c6z1
  (case kAz1 => exact rfl); (case kFz1 => exact rfl); (case kKz1 => assumption); (case k1z1 => k_asm); (case k2z1 => k_asm); (case k3z1 => k_asm); (case k4z1 => k_asm); (case kRz1 => assumption)
  (case k6z1 => k_is); (case k7z1 => k_is); (case k8z1 => exact Nat.lt_of_le_of_lt (Nat.le_add_right _ _) (by assumption)); (case k9z1 => exact BindsTo.of_eq rfl); (case c5z1 => decide); (case kBz1 => exact locs rfl); (case c2z1 => exact rfl); (case c3z1 => exact rfl); (case c4z1 => exact rfl); (case c6z1 => exact Nat.succ_pos _)))
  k_with "execs cons" => (k_here; (with_reducible show wpAny _ _ _ _ _ (Shared.mk _ _ _ (HAdd.hAdd _ 1) _)); (with_reducible rename Fr _ _ _ _ => F9z2); (with_reducible rename News _ _ _ _ => N9z2); with_reducible refine Mine.toks_let F9z2 N9z2 ?_; intro m9z2 n9z2 tkz2 htkz2 F8z2 N8z2; clear F9z2 N9z2)
  k_with "execs nil" => (k_here; (with_reducible show wpAny _ _ _ _ _ (Shared.mk _ _ _ (HAdd.hAdd _ 1) _)); (with_reducible rename Fr _ _ _ _ => F9z3); (with_reducible rename News _ _ _ _ => N9z3); with_reducible refine Mine.toks_let F9z3 N9z3 ?_; intro m9z3 n9z3 tkz3 htkz3 F8z3 N8z3; clear F9z3 N9z3)
  k_with "ite" => (k_here; first | refine PySem.W.ite_pos (by assumption) ?_ | refine PySem.W.ite_neg (ne_true_of_eq_false (by assumption)) ?_)
  k_with "subscriptTail Name Constant ref int" => (k_here; k_dflt (refine' Mine.item_L ?hlz5 ?h0z5 ?hhiz5 ?hxz5 ?_; (case hlz5 => first | exact Fr.lst (by k_asm) (by assumption) | exact News.isList (by k_asm) (by k_mem)); (case h0z5 => decide); (case hhiz5 => decide); (case hxz5 => exact rfl)))
  k_with "subscriptTail" => (k_here; (with_reducible show wpAny _ _ (subscriptTail _ _ (Value.bytes _ _) (Value.int _ _)) _ _ _); k_dflt (refine' Mine.item_B ?hxz6 ?hfz6 ?h0z6 ?_; (case hxz6 => exact rfl); (case hfz6 => exact Nat.le_of_ble_eq_true rfl); (case h0z6 => decide)))
  k_with "call builtin:len" => (k_here; (with_reducible show wpAny _ _ (call _ [Value.bytes _ _]) _ _ _); k_dflt (refine' Mine.len_B ?hnz7 ?hzz7 ?_; (case hnz7 => first | exact (rfl : _ = 2) | exact (rfl : _ = 3)); (case hzz7 => decide); (try dsimp only)))
  k_with "my_src" => first
  | (k_dflt (refine' Mine.SrcB.intro _ ?hhz8 ?Fz8 ?Nz8 ?hkz8 ?hzz8 ?_; (case hhz8 => exact rfl); (case Fz8 => k_asm); (case Nz8 => k_asm); (case hkz8 => exact rfl); (case hzz8 => exact Nat.le_of_ble_eq_true rfl); intro gz8; (try dsimp only)))
  | (walk1; walk_at "my_src") | (dsimp only; walk1; walk_at "my_src")
  k_with "eval ListComp" => (k_here; k_dflt (refine Mine.ListComp_B (by k_asm) (by rfl) (by decide) (by rfl) (by decide) (by rfl) ?_); walk_at "my_src")
  k_with "CompRest" => (with_unfolding_all (refine LCg.CompRest.succ ?_; intro vz10 Iz10 oIz10 Cz10 oCz10 Dz10 mz10 hz10 tkz10 Ez10 hvz10 hCz10 hxz10 Fz10 Nz10 offz10 nez10; obtain ⟨c9z10, u9z10, hc9z10, hv9z10⟩ := hvz10; subst hv9z10; have hc8 := Option.some.inj hc9z10; subst hc8; clear hc9z10; (try simp only [LCg.Off3, and_true] at offz10)))
  k_with "my_enterG" => (k_dflt (
  refine' Mine.enterG _ ?k1z11 ?k2z11 ?k3z11 ?k4z11 ?kAz11 ?kFz11 ?kKz11 ?kRz11 ?k6z11 ?k7z11 ?k8z11 ?k9z11 ?kBz11 ?_ ?c2z11 ?c3z11 ?c4z11 ?c5z11 ?c6z11
  (case kAz11 => exact rfl); (case kFz11 => exact rfl); (case kKz11 => assumption); (case k1z11 => k_asm); (case k2z11 => k_asm); (case k3z11 => k_asm); (case k4z11 => k_asm); (case kRz11 => assumption)
  (case k6z11 => k_is); (case k7z11 => k_is); (case k8z11 => exact Nat.lt_of_le_of_lt (Nat.le_add_right _ _) (by assumption)); (case k9z11 => exact BindsTo.of_eq rfl); (case c5z11 => decide); (case kBz11 => exact locs rfl); (case c2z11 => exact rfl); (case c3z11 => exact rfl); (case c4z11 => exact rfl); (case c6z11 => exact Nat.succ_pos _)))
  k_with "setItem ref int" => (k_here; first | (k_dflt (refine' Mine.ba_set0 ?Fz12 ?Nz12 ?hkz12 ?hvz12 ?Uz12 ?_; (case Fz12 => k_asm); (case Nz12 => k_asm); (case hkz12 => decide); (case hvz12 => exact rfl); (case Uz12 => k_upd)); intro hz12 Fz12 Nz12; (try dsimp only at Nz12); (try k_sweep)) | (k_dflt (refine' Mine.ba_set1 ?Fz12 ?Nz12 ?hkz12 ?hvz12 ?Uz12 ?_; (case Fz12 => k_asm); (case Nz12 => k_asm); (case hkz12 => decide); (case hvz12 => exact rfl); (case Uz12 => k_upd)); intro hz12 Fz12 Nz12; (try dsimp only at Nz12); (try k_sweep)))
  k_with "call type:bytes" => (k_here; k_dflt (refine' Mine.ba_bytes ?hoz13 ?hzz13 ?_; (case hoz13 => exact News.get (by k_asm) (by k_mem)); (case hzz13 => exact Nat.le_of_ble_eq_true rfl)); intro tz13 kz13; (try dsimp only))
  k_with "k_steps" => repeat' (first | (k_unfold; (try dsimp only)) | (k_end; kc_close) | ((first | (with_reducible show wpAny _ _ (exec _ _) _ _ _) | (with_reducible show wpAny _ _ (execs (_ :: _) _) _ _ _) | (with_reducible show wpAny _ _ (eval (PySem.Expr.BinOp _ _ _ _) _) _ _ _) | (with_reducible show wpAny _ _ (eval (PySem.Expr.Call _ _ _ _) _) _ _ _) | (with_reducible show wpAny _ _ (eval (PySem.Expr.Subscript _ _ _) _) _ _ _) | (with_reducible show wpAny _ _ (eval (PySem.Expr.Tuple _ _ _) _) _ _ _) | (with_reducible show wpAny _ _ (eval (PySem.Expr.List _ _) _) _ _ _)); k_fold; walk1) | walk1 | (dsimp only; walk1) | (leave1; walk_say "STEP leave1"; (try dsimp only)) | fail "no step")
  k_with "k_ne" => (refine neN ?_; (try dsimp only); first | exact Nat.ne_of_gt (by with_reducible assumption) | exact Nat.ne_of_lt (by with_reducible assumption) | exact Mine.Off.ne (by with_reducible assumption) | exact Mine.Off.sym (by with_reducible assumption) | with_reducible assumption | exact Ne.symm (by with_reducible assumption) | omega)
  trivial
example : (PySem.Challenge.rw_zo0010_01 = PySem.Challenge.rw_zo0010_01) ∧ (Mine.hd.heap_1 = Mine.hd.heap_1) := by k_fill; exact ⟨rfl, rfl⟩
namespace Mine
set_option maxHeartbeats 8000000 in
theorem c_swap {prog : Program} {w : World} {mean : ExcName → Option Value} {mg mb : Str → Option Value} (x y : UInt8) (t1 t2 : Tok) :
  ClaimG prog w mean mg mb 77 [.bytes #[x, y] t1, .int 2 t2] 2 10 (fun _ => True) (fun g₀ v h' => ∃ t, v = .bytes #[y, x] t) := by
  have hx := x.toNat_lt
  have hy := y.toNat_lt
  intro dp un cn cs a ccd cl outer A₀ base h₀ L m s Q E B F X T hk hd hu _ hret
  walk_at "my_enterG"
  clear hret B F X T
  intro g₀ L' h₁ tk Q' hret hg htk F' N' B' X' T'
  subst hg
  (try dsimp only)
  w_on
  refine execsG_cons (assignG (callEG ?_))
  k_steps
  refine callG_m rfl (wpG_of ?_)
  k_steps
  rename Fr _ _ _ _ => F3
  refine ba_int rfl (by decide) (by decide) fun D h2 hD k2 hb => ?_
  have F2 := F3.grownK k2
  have N2 : News s.heap L' h2 [(D, baObj #[0, 0])] := fun p hp => by
    rcases List.mem_singleton.mp hp with rfl
    refine ⟨hb, fun e => ?_, ?_⟩
    · have := F3.ns.lt; rw [← e] at this; exact absurd hD (Nat.not_le.mpr this)
    · cases q : s.heap.get? D with
      | none => rfl
      | some o => exact absurd (Nat.lt_of_lt_of_le (Heap.lt_size q) (Nat.le_trans F3.above (Nat.le_of_lt (Nat.lt_of_lt_of_le F3.ns.lt hD)))) (Nat.lt_irrefl _)
  clear hb k2 hD
  clear F3
  dsimp only
  k_steps
  refine wpG_of ?_
  k_steps
  all_goals (try dsimp only)
  all_goals (refine hret _ _ _ _ _ (by assumption) ?_)
  all_goals exact ⟨_, rfl⟩
end Mine
end
/- Turn -/
section
open PySem PySem.W PySem.Calls PyProof.Rows
example : True := by
  k_with_none
  k_with "subscriptTail" => (k_here; (with_reducible show wpAny _ _ (subscriptTail _ (Expr.Slice _ _ none _) (Value.bytes _ _) (Value.ref _)) _ _ _); (with_reducible rename Fr _ _ _ _ => Fz0); (with_reducible rename News _ _ _ _ => Nz0); (refine Mine.slice_B (s := ⟨_, _, _, _, _⟩) Fz0 Nz0 (by constructor) (by constructor) (by exact rfl) (by first | exact Mine.cut_to2 _ _ _ | exact Mine.cut_of2 _ _ _ | exact Mine.cut_to1 _ _ _ | exact Mine.cut_of1 _ _ _) (by exact Nat.le_of_ble_eq_true rfl) ?_); intro hz0 tz0 kz0 Fz0 Nz0; (try k_sweep))
  k_with "binaryOp Add bytes bytes" => (k_here; (with_reducible show wpAny _ _ (binaryOp Operator.Add (Value.bytes _ _) (Value.bytes _ _)) _ _ _); (refine Mine.add_B (by first | exact Mine.glue21 _ _ _ | exact Mine.glue12 _ _ _) (by exact Nat.le_of_ble_eq_true rfl) ?_); intro tz1 kz1)
  k_with "k_ne" => (refine neN ?_; (try dsimp only); first | exact Nat.ne_of_gt (by with_reducible assumption) | exact Nat.ne_of_lt (by with_reducible assumption) | exact Mine.Off.ne (by with_reducible assumption) | exact Mine.Off.sym (by with_reducible assumption) | with_reducible assumption | exact Ne.symm (by with_reducible assumption) | omega)
  k_with "call builtin:list.append" => (k_here; (with_reducible show wpAny _ _ (call (Value.builtin _) [Value.ref _, _]) _ _ _); (k_dflt (refine' append_K ?k1z4 ?k2z4 ?k3z4 ?_ ?zz4; (case k1z4 => k_asm); (case k2z4 => k_asm); (case k3z4 => k_upd); (case zz4 => first | exact Nat.le_of_ble_eq_true rfl | size_fits); k_whole));  intro hz4 Fz4 Nz4; (try k_sweep))
  k_with "newList" => (k_here; k_dflt (refine' newList_K ?k1z5 ?k2z5 ?_ ?zz5; (case k1z5 => k_asm); (case k2z5 => k_asm); (case zz5 => first | exact Nat.le_of_ble_eq_true rfl | size_fits); k_whole); intro lz5 hz5 Fz5 Nz5 l1z5; (try k_lt l1z5); (try k_sweep))
  k_with "k_steps" => repeat' (first | (k_unfold; (try dsimp only)) | (k_end; kc_close) | ((first | (with_reducible show wpAny _ _ (exec _ _) _ _ _) | (with_reducible show wpAny _ _ (execs (_ :: _) _) _ _ _) | (with_reducible show wpAny _ _ (eval (PySem.Expr.BinOp _ _ _ _) _) _ _ _) | (with_reducible show wpAny _ _ (eval (PySem.Expr.Call _ _ _ _) _) _ _ _) | (with_reducible show wpAny _ _ (eval (PySem.Expr.Subscript _ _ _) _) _ _ _) | (with_reducible show wpAny _ _ (eval (PySem.Expr.Tuple _ _ _) _) _ _ _) | (with_reducible show wpAny _ _ (eval (PySem.Expr.List _ _) _) _ _ _)); k_fold; walk1) | walk1 | (dsimp only; walk1) | (leave1; walk_say "STEP leave1"; (try dsimp only)) | fail "no step")
  trivial
example : (PySem.Challenge.rw_zo0010_01 = PySem.Challenge.rw_zo0010_01) ∧ (Mine.hd.heap_1 = Mine.hd.heap_1) := by k_fill; exact ⟨rfl, rfl⟩
namespace Mine
/-- the ring of the six turns of p q r -/
abbrev ringObj (p q r : UInt8) (t0 t1 t2 t3 t4 t5 t6 : Tok) : Obj :=
  W.listOf #[.bytes #[p, q, r] t0, .bytes #[q, p, r] t1, .bytes #[q, r, p] t2, .bytes #[r, q, p] t3, .bytes #[r, p, q] t4, .bytes #[p, r, q] t5, .bytes #[p, q, r] t6] 6
inductive RingPost (p q r : UInt8) (g₀ : Heap) (v : Value) (h' : Heap) : Prop
  | mk (D : Addr) (t0 t1 t2 t3 t4 t5 t6 : Tok) : (v = .ref D) → (g₀.get? D = none) → (h'.get? D = some (ringObj p q r t0 t1 t2 t3 t4 t5 t6)) → RingPost p q r g₀ v h'
set_option maxHeartbeats 16000000 in
theorem c_turned {prog : Program} {w : World} {mean : ExcName → Option Value} {mg mb : Str → Option Value} (x y z : Int) (l : Addr) (k1 k2 k3 : Tok) (hx : 0 ≤ x ∧ x ≤ 255) (hy : 0 ≤ y ∧ y ≤ 255) (hz : 0 ≤ z ∧ z ≤ 255) :
  ClaimG prog w mean mg mb 101 [.ref l] 4 20 (fun h => h.IsList l #[.int x k1, .int y k2, .int z k3]) (RingPost x.toNat.toUInt8 y.toNat.toUInt8 z.toNat.toUInt8) := by
  intro dp un cn cs a ccd cl outer A₀ base h₀ L m s Q E B F X T hk hd hu hl hret
  k_dflt (refine' Mine.enterG _ ?k1 ?k2 ?k3 ?k4 ?kA ?kF ?kK ?kR ?k6 ?k7 ?k8 ?k9 ?kB ?_ ?c2 ?c3 ?c4 ?c5 ?c6; (case kA => exact rfl); (case kF => exact rfl); (case kK => assumption); (case k1 => k_asm); (case k2 => k_asm); (case k3 => k_asm); (case k4 => k_asm); (case kR => assumption); (case k6 => k_is); (case k7 => k_is); (case k8 => exact Nat.lt_of_le_of_lt (Nat.le_add_right _ _) (by assumption)); (case k9 => exact BindsTo.of_eq rfl); (case c5 => decide); (case kB => exact locs rfl); (case c2 => exact rfl); (case c3 => exact rfl); (case c4 => exact rfl); (case c6 => exact Nat.succ_pos _))
  clear hret B F X T
  intro g₀ L' h₁ tk Q' hret hg htk F' N' B' X' T'
  subst hg
  (try dsimp only)
  w_on
  refine letAG ?_
  intro Ak ek9 gk dk ok
  refine execsG_cons (assignG (wpG_of ?_))
  k_steps
  refine execsG_cons (forRangeG 6 (by k_asm) rfl ?_)
  k_steps
  rename Fr _ _ _ _ => F5
  rename News _ _ _ _ => N5
  refine letFN F5 N5 ?_
  clear F5 N5
  intro m5 n5 F5 N5
  refine RngG.byM (TuJ x.toNat.toUInt8 y.toNat.toUInt8 z.toNat.toUInt8 _) (by assumption) F5 N5 (by decide) TuJ.start ?step ?done
  case done =>
    clear N5 F5
    intro m news hJ h' tk F1 N1
    replace F1 : Fr s.heap L' h' _ := F1
    replace N1 : News s.heap L' h' _ := N1
    obtain ⟨x1, x2, xs, hx⟩ := hJ
    obtain ⟨t0, t1, t2, t3, t4, t5, t6, rfl⟩ := hx.all
    try dsimp only
    refine wpG_of ?_
    k_steps
    all_goals (try dsimp only)
    refine hret _ _ _ _ _ F1 ?_
    exact ⟨_, _, _, _, _, _, _, _, rfl, (N1 _ (.head _)).2.2, (N1 _ (.head _)).1⟩
  clear N5 F5
  intro I i m news hi6 hJ hne h₁ tk₁ t F1 N1
  replace F1 : Fr s.heap L' h₁ _ := F1
  replace N1 : News s.heap L' h₁ _ := N1
  obtain ⟨x1, x2, xs, hx⟩ := hJ
  obtain ⟨a, b, c, t9, hr, hat⟩ := hx.at_
  have hI3 := hne _ (.head _)
  have hsz : xs.toArray.size ≤ sizeLine := by rw [List.size_toArray, hx.1, sizeLine_eq]; omega
  have hi63 : ((i : Nat) : Int) < 2 ^ 63 := by omega
  try dsimp only
  k_steps
  refine execsG_cons (assignG (wpG_of ?_))
  k_steps
  refine item_L (News.isList (by k_asm) (by k_mem)) (Int.natCast_nonneg _) hi63 hat ?_
  k_steps
  by_cases hp : i % 2 = 0
  · have hb : decide (((i : Nat) : Int).fmod 2 = 0) = true := decide_eq_true (by rw [Int.fmod_eq_emod_of_nonneg _ (by decide)]; omega)
    refine execsG_cons (ifG_t ?_)
    k_steps
    try dsimp only
    refine execsG_cons (exprG (methEG ?_))
    k_steps
    try dsimp only
    refine callG_m rfl (splicedEG (binG (callEG ?_)))
    k_steps
    try dsimp only
    refine callG_K (by k_asm) (by k_is) (wpG_of ?_)
    k_steps
    try dsimp only
    k_dflt (refine' Mine.useG (Mine.c_swap _ _ _ _) ?B ?F ?N ?X ?T ?hk ?hd ?hu ?pre ?_; (case B => k_asm); (case F => k_asm); (case N => k_asm); (case X => k_asm); (case T => k_asm); (case hk => exact rfl); (case hd => ktr_room); (case hu => ktr_units); (case pre => exact trivial)); intro v' h' tk' F' N' P'; obtain ⟨t', e'⟩ := P'; subst e'; (try dsimp only); (try k_sweep)
    refine wpG_of ?_
    k_steps
    try dsimp only
    refine wpG_of ?_
    k_steps
    try dsimp only
    refine wpG_of ?_
    k_steps
    rename Fr _ _ _ _ => F9
    rename News _ _ _ _ => N9
    simp only [List.push_toArray] at N9
    refine nilG (nilG ?_)
    exact ⟨_, _, _, _, rfl, rfl, F9, N9, (by intro p hp; cases List.mem_singleton.mp hp; exact hI3), TuJ.mk' (hx.snoc (rg_even hr hi6 hp))⟩
  · have hb : decide (((i : Nat) : Int).fmod 2 = 0) = false := decide_eq_false (by rw [Int.fmod_eq_emod_of_nonneg _ (by decide)]; omega)
    refine execsG_cons (ifG_f ?_)
    k_steps
    try dsimp only
    refine execsG_cons (exprG (methEG ?_))
    k_steps
    try dsimp only
    refine callG_m rfl (splicedEG (binG (wpG_of ?_)))
    k_steps
    try dsimp only
    refine callEG ?_
    k_steps
    try dsimp only
    refine callG_K (by k_asm) (by k_is) (wpG_of ?_)
    k_steps
    try dsimp only
    k_dflt (refine' Mine.useG (Mine.c_swap _ _ _ _) ?B ?F ?N ?X ?T ?hk ?hd ?hu ?pre ?_; (case B => k_asm); (case F => k_asm); (case N => k_asm); (case X => k_asm); (case T => k_asm); (case hk => exact rfl); (case hd => ktr_room); (case hu => ktr_units); (case pre => exact trivial)); intro v' h' tk' F' N' P'; obtain ⟨t', e'⟩ := P'; subst e'; (try dsimp only); (try k_sweep)
    k_steps
    try dsimp only
    refine wpG_of ?_
    k_steps
    try dsimp only
    refine wpG_of ?_
    k_steps
    rename Fr _ _ _ _ => F9
    rename News _ _ _ _ => N9
    simp only [List.push_toArray] at N9
    refine nilG (nilG ?_)
    exact ⟨_, _, _, _, rfl, rfl, F9, N9, (by intro p hp; cases List.mem_singleton.mp hp; exact hI3), TuJ.mk' (hx.snoc (rg_odd hr hi6 hp))⟩
end Mine
end
/- LawP -/
section
open PySem PySem.W PySem.Calls PyProof.Rows
namespace Mine
/-- _law_told of a ring of six turns -/
theorem c_toldR {prog : Program} {w : World} {mean : ExcName → Option Value} {mg mb : Str → Option Value} (R : Addr) (p q r : UInt8) (t0 t1 t2 t3 t4 t5 t6 : Tok) (h : p.toNat + q.toNat + r.toNat ≤ 21) :
    Claim prog w mean mg mb 106 [.ref R] 12 300 (fun h => h.get? R = some (ringObj p q r t0 t1 t2 t3 t4 t5 t6)) (ToldPost (max (max p.toNat q.toNat) r.toNat) (min (min p.toNat q.toNat) r.toNat)) := by
  have m : MM p.toNat q.toNat r.toNat _ _ := mm3 rfl rfl
  have hl := hue_law h rfl rfl
  have h2 : q.toNat + p.toNat + r.toNat ≤ 21 := by rw [Nat.add_comm q.toNat]; exact h
  have h3 : q.toNat + r.toNat + p.toNat ≤ 21 := by rw [Nat.add_comm, ← Nat.add_assoc]; exact h
  have h4 : r.toNat + q.toNat + p.toNat ≤ 21 := by rw [Nat.add_comm r.toNat]; exact h3
  have h6 : p.toNat + r.toNat + q.toNat ≤ 21 := by rw [Nat.add_right_comm]; exact h
  have h5 : r.toNat + p.toNat + q.toNat ≤ 21 := by rw [Nat.add_comm r.toNat]; exact h6
  generalize max (max p.toNat q.toNat) r.toNat = hi at m hl ⊢
  generalize min (min p.toNat q.toNat) r.toNat = lo at m hl ⊢
  exact c_told R [.bytes #[p, q, r] t0, .bytes #[q, p, r] t1, .bytes #[q, r, p] t2, .bytes #[r, q, p] t3, .bytes #[r, p, q] t4, .bytes #[p, r, q] t5, .bytes #[p, q, r] t6] 6 _ _ (huR p.toNat q.toNat r.toNat) p q r t0 rfl m.max m.min
    (fun i hi => match i, hi with
      | 0, _ => ⟨p, q, r, t0, rfl, h, m.max, m.min, rfl⟩
      | 1, _ => ⟨q, p, r, t1, rfl, h2, m.ab.max, m.ab.min, rfl⟩
      | 2, _ => ⟨q, r, p, t2, rfl, h3, m.ab.bc.max, m.ab.bc.min, rfl⟩
      | 3, _ => ⟨r, q, p, t3, rfl, h4, m.ab.bc.ab.max, m.ab.bc.ab.min, rfl⟩
      | 4, _ => ⟨r, p, q, t4, rfl, h5, m.bc.ab.max, m.bc.ab.min, rfl⟩
      | 5, _ => ⟨p, r, q, t5, rfl, h6, m.bc.max, m.bc.min, rfl⟩) hl
/-- a small whole number is an octet -/
theorem octet {x : Int} (h : 0 ≤ x ∧ x ≤ 255) : ∃ a : UInt8, x = (a.toNat : Nat) := by
  refine ⟨x.toNat.toUInt8, ?_⟩
  rw [Nat.toUInt8_eq, UInt8.toNat_ofNat']
  omega
theorem octet_back (a : UInt8) : ((a.toNat : Nat) : Int).toNat.toUInt8 = a := by
  rw [Int.toNat_natCast]; simp
/-- what stands in the lists at the loop's turn i -/
inductive LawSel (K : List (Addr × Obj)) (D3 D4 D5 : Addr) (i : Nat) : Prop
  | mk (v3 v4 v5 : List Value) (n3 n4 n5 : Nat) (O O' RO TO TO' : Addr) (a b c p q r : UInt8) (t1 t2 t3 t4 t5 t6 u0 u1 u2 u3 u4 u5 u6 f1 f2 f3 f4 : Tok)
    (k3 : (D3, W.listOf v3.toArray n3) ∈ K) (k4 : (D4, W.listOf v4.toArray n4) ∈ K) (k5 : (D5, W.listOf v5.toArray n5) ∈ K)
    (i3 : v3[((i : Nat) : Int).toNat]? = some (.ref O)) (i3' : v3[(1 - ((i : Nat) : Int)).toNat]? = some (.ref O')) (i4 : v4[((i : Nat) : Int).toNat]? = some (.ref RO)) (i5 : v5[((i : Nat) : Int).toNat]? = some (.ref TO)) (i5' : v5[(1 - ((i : Nat) : Int)).toNat]? = some (.ref TO'))
    (kO : (O, W.listOf #[.int (a.toNat : Nat) t1, .int (b.toNat : Nat) t2, .int (c.toNat : Nat) t3] 0) ∈ K) (kO' : (O', W.listOf #[.int (p.toNat : Nat) t4, .int (q.toNat : Nat) t5, .int (r.toNat : Nat) t6] 0) ∈ K)
    (kRO : (RO, ringObj a b c u0 u1 u2 u3 u4 u5 u6) ∈ K) (kTO : (TO, W.listOf #[.float (q32 (max (max a.toNat b.toNat) c.toNat)) f1, .float (q32 (min (min a.toNat b.toNat) c.toNat)) f2] 0) ∈ K)
    (kTO' : (TO', W.listOf #[.float (q32 (max (max p.toNat q.toNat) r.toNat)) f3, .float (q32 (min (min p.toNat q.toNat) r.toNat)) f4] 0) ∈ K) (hs1 : a.toNat + b.toNat + c.toNat ≤ 21) (hsum : a.toNat + b.toNat + c.toNat = p.toNat + q.toNat + r.toNat) : LawSel K D3 D4 D5 i
theorem law_sel {D1 D2 D3 R1 R2 D4 T1 T2 D5 : Addr} {a b c d e f : UInt8} {t1 t2 t3 t4 t5 t6 u0 u1 u2 u3 u4 u5 u6 w0 w1 w2 w3 w4 w5 w6 f1 f2 f3 f4 : Tok} {n3 n4 n5 : Nat} (hs1 : a.toNat + b.toNat + c.toNat ≤ 21) (hsum : a.toNat + b.toNat + c.toNat = d.toNat + e.toNat + f.toNat) :
    ∀ i, i < 2 → LawSel [(D5, W.listOf [Value.ref T1, .ref T2].toArray n5), (T2, W.listOf #[.float (q32 (max (max d.toNat e.toNat) f.toNat)) f3, .float (q32 (min (min d.toNat e.toNat) f.toNat)) f4] 0), (T1, W.listOf #[.float (q32 (max (max a.toNat b.toNat) c.toNat)) f1, .float (q32 (min (min a.toNat b.toNat) c.toNat)) f2] 0),
      (D4, W.listOf [Value.ref R1, .ref R2].toArray n4), (R2, ringObj d e f w0 w1 w2 w3 w4 w5 w6), (R1, ringObj a b c u0 u1 u2 u3 u4 u5 u6), (D3, W.listOf [Value.ref D1, .ref D2].toArray n3),
      (D2, W.listOf #[.int (d.toNat : Nat) t4, .int (e.toNat : Nat) t5, .int (f.toNat : Nat) t6] 0), (D1, W.listOf #[.int (a.toNat : Nat) t1, .int (b.toNat : Nat) t2, .int (c.toNat : Nat) t3] 0)] D3 D4 D5 i := by
  intro i hi
  match i, hi with
  | 0, _ => exact .mk _ _ _ _ _ _ _ _ _ _ _ a b c d e f _  _  _  _  _  _  _  _  _  _  _  _  _  _  _  _  _  (by k_mem) (by k_mem) (by k_mem) rfl rfl rfl rfl rfl (by k_mem) (by k_mem) (by k_mem) (by k_mem) (by k_mem) hs1 hsum
  | 1, _ => exact .mk _ _ _ _ _ _ _ _ _ _ _ d e f a b c _  _  _  _  _  _  _  _  _  _  _  _  _  _  _  _  _  (by k_mem) (by k_mem) (by k_mem) rfl rfl rfl rfl rfl (by k_mem) (by k_mem) (by k_mem) (by k_mem) (by k_mem) (hsum ▸ hs1) hsum.symm
end Mine
end
/- MP -/
section
open PySem PySem.W PySem.Calls PyProof.Rows
namespace Mine
theorem any_false_find {kvs : List (Str × Value)} {k : Str} (h : kvs.any (fun p => p.1 = k) = false) : valueAt kvs k = none := by
  have := valueAt_isSome kvs k
  rw [h] at this
  cases e : valueAt kvs k with
  | none => rfl
  | some v => rw [e] at this; cases this
theorem valueAt_cons (p : Str × Value) (r : List (Str × Value)) (k : Str) : valueAt (p :: r) k = if p.1 = k then some p.2 else valueAt r k := by
  unfold valueAt
  by_cases h : p.1 = k
  · simp [h]
  · simp [h]
theorem valueAt_map (k : Str) (v : Value) (k' : Str) : ∀ kvs : List (Str × Value), valueAt (kvs.map fun kv => if kv.1 = k then (kv.1, v) else kv) k' = if k' = k then (valueAt kvs k').map fun _ => v else valueAt kvs k'
  | [] => by simp [valueAt]
  | p :: r => by
    rw [List.map_cons, valueAt_cons, valueAt_cons, valueAt_map k v k' r]
    by_cases h1 : p.1 = k
    · by_cases h2 : p.1 = k'
      · have h3 : k' = k := h2.symm.trans h1
        simp [h1, h3]
      · have h3 : ¬ k = k' := fun e => h2 (h1.trans e)
        have h4 : ¬ k' = k := fun e => h3 e.symm
        simp [h1, h3, h4]
    · by_cases h2 : p.1 = k'
      · have h3 : ¬ k' = k := fun e => h1 (h2.trans e)
        simp [h1, h2, h3]
      · simp [h1, h2]
theorem valueAt_app (k : Str) (p : Str × Value) : ∀ kvs : List (Str × Value), valueAt (kvs ++ [p]) k = (valueAt kvs k).or (if p.1 = k then some p.2 else none)
  | [] => by rw [List.nil_append, valueAt_cons]; simp [valueAt]
  | q :: r => by
    rw [List.cons_append, valueAt_cons, valueAt_cons, valueAt_app k p r]
    by_cases h : q.1 = k <;> simp [h]
theorem valueAt_stored (kvs : List (Str × Value)) (k k' : Str) (v : Value) : valueAt (stored kvs k v) k' = if k' = k then some v else valueAt kvs k' := by
  unfold stored
  cases h : kvs.any (fun p => p.1 = k) with
  | true =>
    simp only [if_true]
    rw [valueAt_map]
    by_cases e : k' = k
    · subst e
      have : (valueAt kvs k').isSome = true := by rw [valueAt_isSome]; exact h
      cases hv : valueAt kvs k' with
      | none => rw [hv] at this; cases this
      | some x => simp
    · simp [e]
  | false =>
    simp only [Bool.false_eq_true, if_false]
    rw [valueAt_app]
    by_cases e : k' = k
    · subst e; rw [any_false_find h]; simp
    · have e' : ¬ k = k' := fun q => e q.symm
      simp [e, e']
/-- the digits of a small number -/
def dg (n : Int) : List Nat := (Str.ofString (toString n)).cps.toList
theorem dg_nat (n : Int) (h : 0 ≤ n ∧ n ≤ 21) : ∃ k : Nat, k < 22 ∧ n = (k : Int) := ⟨n.toNat, by omega, by omega⟩
theorem dg_free' : ∀ k, k < 22 → 45 ∉ dg ((k : Nat) : Int) := by decide +kernel
theorem dg_inj' : ∀ k, k < 22 → ∀ j, j < 22 → dg ((k : Nat) : Int) = dg ((j : Nat) : Int) → k = j := by decide +kernel
theorem dg_free {n : Int} (h : 0 ≤ n ∧ n ≤ 21) : 45 ∉ dg n := by
  obtain ⟨k, hk, rfl⟩ := dg_nat n h; exact dg_free' k hk
theorem dg_inj {n m : Int} (h : 0 ≤ n ∧ n ≤ 21) (h' : 0 ≤ m ∧ m ≤ 21) (e : dg n = dg m) : n = m := by
  obtain ⟨k, hk, rfl⟩ := dg_nat n h
  obtain ⟨j, hj, rfl⟩ := dg_nat m h'
  rw [dg_inj' k hk j hj e]
theorem split_at {x x' y y' : List Nat} {c : Nat} (h : c ∉ x) (h' : c ∉ x') (e : x ++ c :: y = x' ++ c :: y') : x = x' ∧ y = y' := by
  induction x generalizing x' with
  | nil =>
    cases x' with
    | nil => exact ⟨rfl, by simpa using e⟩
    | cons a r =>
      have : c = a := by simpa using (List.cons.inj e).1
      exact absurd (this ▸ List.mem_cons_self ..) h'
  | cons a r ih =>
    cases x' with
    | nil =>
      have : a = c := by simpa using (List.cons.inj e).1
      exact absurd (this ▸ List.mem_cons_self ..) h
    | cons b r' =>
      obtain ⟨e1, e2⟩ := List.cons.inj e
      obtain ⟨e3, e4⟩ := ih (fun m => h (.tail _ m)) (fun m => h' (.tail _ m)) e2
      exact ⟨by rw [e1, e3], e4⟩
theorem nmT_list (a b c : Int) : (nmT a b c).cps.toList = dg a ++ 45 :: (dg b ++ 45 :: dg c) := by
  have e : Str.ofString "-" = ⟨#[45]⟩ := by decide +kernel
  unfold nmT dg
  rw [e]
  show (Builtin.Str.glued _ _).cps.toList = _
  simp [Builtin.Str.glued]
  trace_state
theorem nmT_inj {a b c a' b' c' : Int} (ha : 0 ≤ a ∧ a ≤ 21) (hb : 0 ≤ b ∧ b ≤ 21) (hc : 0 ≤ c ∧ c ≤ 21) (ha' : 0 ≤ a' ∧ a' ≤ 21) (hb' : 0 ≤ b' ∧ b' ≤ 21) (hc' : 0 ≤ c' ∧ c' ≤ 21)
    (e : nmT a b c = nmT a' b' c') : a = a' ∧ b = b' ∧ c = c' := by
  have e1 := congrArg (fun x => x.cps.toList) e
  change (nmT a b c).cps.toList = (nmT a' b' c').cps.toList at e1
  rw [nmT_list, nmT_list] at e1
  obtain ⟨h1, h2⟩ := split_at (dg_free ha) (dg_free ha') e1
  obtain ⟨h3, h4⟩ := split_at (dg_free hb) (dg_free hb') h2
  exact ⟨dg_inj ha ha' h1, dg_inj hb hb' h3, dg_inj hc hc' h4⟩
end Mine
namespace Mine
def Bts (v : Value) : Prop := ∃ (a b c : UInt8) (t : Tok), v = .bytes #[a, b, c] t ∧ a.toNat ≤ 21 ∧ b.toNat ≤ 21 ∧ c.toNat ≤ 21
def OrdHas (kvs : List (Str × Value)) (v : Value) : Prop := ∀ (a b c : UInt8) (t : Tok), v = .bytes #[a, b, c] t → ∃ t', valueAt kvs (nmT a.toNat b.toNat c.toNat) = some (.bytes #[a, b, c] t')
theorem nat21 {n : Nat} (h : n ≤ 21) : 0 ≤ (n : Int) ∧ (n : Int) ≤ 21 := by omega
theorem ordHas_step {kvs : List (Str × Value)} {pre : List Value} {a b c : UInt8} {t : Tok} (ha : a.toNat ≤ 21) (hb : b.toNat ≤ 21) (hc : c.toNat ≤ 21) (hp : ∀ u ∈ pre, OrdHas kvs u) (hB : ∀ u ∈ pre, Bts u) :
    ∀ u ∈ pre ++ [Value.bytes #[a, b, c] t], OrdHas (stored kvs (nmT a.toNat b.toNat c.toNat) (.bytes #[a, b, c] t)) u := by
  intro u hu x y z t' e
  rw [valueAt_stored]
  by_cases hk : nmT x.toNat y.toNat z.toNat = nmT a.toNat b.toNat c.toNat
  · rw [if_pos hk]
    rcases List.mem_append.mp hu with hu | hu
    · obtain ⟨x', y', z', t'', e', hx, hy, hz⟩ := hB u hu
      rw [e] at e'
      have e1 : x = x' ∧ y = y' ∧ z = z' := by
        have := Value.bytes.inj e'
        simpa using this.1
      obtain ⟨rfl, rfl, rfl⟩ := e1
      obtain ⟨h1, h2, h3⟩ := nmT_inj (nat21 hx) (nat21 hy) (nat21 hz) (nat21 ha) (nat21 hb) (nat21 hc) hk
      have h1' : x = a := UInt8.toNat_inj.mp (by omega)
      have h2' : y = b := UInt8.toNat_inj.mp (by omega)
      have h3' : z = c := UInt8.toNat_inj.mp (by omega)
      subst h1'; subst h2'; subst h3'
      exact ⟨t, rfl⟩
    · rw [List.mem_singleton.mp hu] at e
      have := Value.bytes.inj e
      have e1 : a = x ∧ b = y ∧ c = z := by simpa using this.1
      obtain ⟨rfl, rfl, rfl⟩ := e1
      exact ⟨t, rfl⟩
  · rw [if_neg hk]
    rcases List.mem_append.mp hu with hu | hu
    · exact hp u hu x y z t' e
    · rw [List.mem_singleton.mp hu] at e
      have := Value.bytes.inj e
      have e1 : a = x ∧ b = y ∧ c = z := by simpa using this.1
      obtain ⟨rfl, rfl, rfl⟩ := e1
      exact absurd rfl hk
theorem stored_len (kvs : List (Str × Value)) (k : Str) (v : Value) : (stored kvs k v).length ≤ kvs.length + 1 := by
  unfold stored
  split
  · rw [List.length_map]; omega
  · rw [List.length_append]; simp
/-- the loop that names the orders, between two turns -/
inductive orJ (prog : Program) (w : World) (vs : List Value) (DO : Addr) (REST : List (Addr × Obj)) (m₀ : Str → Option Value) (rest : List Value) (m : Str → Option Value) (news : List (Addr × Obj)) : Prop
  | mk (x1 : Option Value) (od : Obj) (kvs : List (Str × Value)) (pre : List Value) : (m = ov1 (Str.ofString "three") x1 m₀) → (news = (DO, od) :: REST) → (DictObj prog w od kvs) → (pre ++ rest = vs) → ((∀ u ∈ pre, OrdHas kvs u)) → (kvs.length + rest.length ≤ 100) → orJ prog w vs DO REST m₀ rest m news
def wsum (f : Str → Int) (cs : List (Str × Int)) : Int := (cs.map fun c => c.2 * f c.1).sum
theorem wsum_take {f : Str → Int} {cs : List (Str × Int)} {i : Nat} {k : Str} {n : Int} (e : cs[i]? = some (k, n)) : wsum f (cs.take (i + 1)) = wsum f (cs.take i) + n * f k := by
  unfold wsum
  have : cs.take (i + 1) = cs.take i ++ [(k, n)] := by
    rw [List.take_add_one, e]; rfl
  rw [this]; simp [List.sum_append]
/-- the j-th part of the order of that name -/
def pickO (kvs : List (Str × Value)) (j : Nat) (k : Str) : Int := match valueAt kvs k with | some (.bytes b _) => ((b.toList.getD j 0).toNat : Nat) | _ => 0
/-- the loop that makes the mean, between two turns -/
inductive meJ (L : Addr) (cs : List (Str × Int)) (kvs : List (Str × Value)) (p1 p2 p3 p4 q1 q2 q3 : Addr × Obj) (m₀ : Str → Option Value) (i : Nat) (m : Str → Option Value) (news : List (Addr × Obj)) : Prop
  | mk (oc on om : Obj) (vc vn : Option Value) (ML : Addr) (n : Nat) (t1 t2 t3 : Tok) : (m = m₀) → (news = [(ML, W.listOf #[.int (wsum (pickO kvs 0) (cs.take i)) t1, .int (wsum (pickO kvs 1) (cs.take i)) t2, .int (wsum (pickO kvs 2) (cs.take i)) t3] n), p1, p2, p3, p4, (L + 1 + 1 + 1 + 1 + 1 + 1, oc), (L + 1 + 1 + 1 + 1 + 1, on), (L + 1 + 1 + 1 + 1, om), q1, q2, q3]) → (oc.data = .cell vc) → (on.data = .cell vn) → (om.data = .cell (some (.ref ML))) → (Far L ML) → meJ L cs kvs p1 p2 p3 p4 q1 q2 q3 m₀ i m news
end Mine
end
/- PMean -/
section
open PySem PySem.W PySem.Calls PyProof.Rows
namespace Mine
theorem any_keys (cs : List (Str × Int)) (k : Str) : cs.any (fun p => p.1 = k) = true ↔ k ∈ cs.map (·.1) := by
  rw [List.any_eq_true]
  constructor
  · rintro ⟨p, hp, e⟩
    exact List.mem_map.mpr ⟨p, hp, by simpa using e⟩
  · intro h
    obtain ⟨p, hp, e⟩ := List.mem_map.mp h
    exact ⟨p, hp, by simpa using e⟩
theorem upd_keys (cs : List (Str × Int)) (k : Str) (n : Int) : (cs.map fun p => if p.1 = k then (p.1, p.2 + n) else p).map (·.1) = cs.map (·.1) := by
  rw [List.map_map]
  refine List.map_congr_left fun p _ => ?_
  show (if p.1 = k then (p.1, p.2 + n) else p).1 = p.1
  split <;> rfl
theorem updC_nodup {cs : List (Str × Int)} (nd : (cs.map (·.1)).Nodup) (k : Str) (n : Int) : ((updC cs k n).map (·.1)).Nodup := by
  unfold updC
  split
  · rw [upd_keys]; exact nd
  · rename_i h
    have hk : k ∉ cs.map (·.1) := fun m => h ((any_keys cs k).mpr m)
    rw [List.map_append, List.nodup_append]
    refine ⟨nd, by simp, fun a ha b hb => ?_⟩
    simp at hb
    subst hb
    exact fun e => hk (e ▸ ha)
theorem wsum_upd {f : Str → Int} {k : Str} {n : Int} : ∀ {cs : List (Str × Int)}, (cs.map (·.1)).Nodup → k ∈ cs.map (·.1) → wsum f (cs.map fun p => if p.1 = k then (p.1, p.2 + n) else p) = wsum f cs + n * f k
  | [], _, h => by simp at h
  | p :: r, nd, h => by
    have nd' := List.nodup_cons.mp nd
    by_cases e : p.1 = k
    · have hr : k ∉ r.map (·.1) := e ▸ nd'.1
      have same : (r.map fun p => if p.1 = k then (p.1, p.2 + n) else p) = r := by
        have : ∀ q ∈ r, (if q.1 = k then (q.1, q.2 + n) else q) = q := fun q hq => if_neg fun e' => hr (List.mem_map.mpr ⟨q, hq, e'⟩)
        rw [List.map_congr_left this, List.map_id']
      rw [List.map_cons, same, if_pos e]
      unfold wsum
      simp only [List.map_cons, List.sum_cons]
      rw [← e, Int.add_mul]
      omega
    · have hr : k ∈ r.map (·.1) := by
        rcases List.mem_cons.mp h with q | q
        · exact absurd q.symm e
        · exact q
      have ih := wsum_upd (f := f) (n := n) nd'.2 hr
      rw [List.map_cons, if_neg e]
      unfold wsum at ih ⊢
      simp only [List.map_cons, List.sum_cons]
      rw [ih]
      omega
theorem wsum_updC {f : Str → Int} {cs : List (Str × Int)} (nd : (cs.map (·.1)).Nodup) (k : Str) (n : Int) : wsum f (updC cs k n) = wsum f cs + n * f k := by
  unfold updC
  split
  · rename_i h
    exact wsum_upd nd ((any_keys cs k).mp h)
  · unfold wsum
    rw [List.map_append, List.sum_append]
    simp
theorem total_wsum (cs : List (Str × Int)) : total cs = wsum (fun _ => 1) cs := by
  unfold total wsum
  congr 1
  exact List.map_congr_left fun c _ => (Int.mul_one _).symm
theorem updC_nonneg {cs : List (Str × Int)} {k : Str} {n : Int} (hn : 0 ≤ n) (h : ∀ c ∈ cs, 0 ≤ c.2) : ∀ c ∈ updC cs k n, 0 ≤ c.2 := by
  intro c hc
  unfold updC at hc
  split at hc
  · obtain ⟨p, hp, rfl⟩ := List.mem_map.mp hc
    have := h p hp
    split
    · show 0 ≤ p.2 + n; omega
    · exact this
  · rcases List.mem_append.mp hc with hc | hc
    · exact h c hc
    · rw [List.mem_singleton.mp hc]; exact hn
theorem updC_key {cs : List (Str × Int)} {k : Str} {n : Int} {c : Str × Int} (hc : c ∈ updC cs k n) : c.1 = k ∨ ∃ c' ∈ cs, c'.1 = c.1 := by
  unfold updC at hc
  split at hc
  · obtain ⟨p, hp, rfl⟩ := List.mem_map.mp hc
    refine .inr ⟨p, hp, ?_⟩
    split <;> rfl
  · rcases List.mem_append.mp hc with hc | hc
    · exact .inr ⟨c, hc, rfl⟩
    · rw [List.mem_singleton.mp hc]; exact .inl rfl
/-- the order of a weighed row stands in the ring -/
def InRing (vsR : List Value) (r : Row4) : Prop := ∃ (a b d : UInt8) (t : Tok), Value.bytes #[a, b, d] t ∈ vsR ∧ (a.toNat : Int) = r.a ∧ (b.toNat : Int) = r.b ∧ (d.toNat : Int) = r.c
def nmR (r : Row4) : Str := nmT r.a r.b r.c
def csOf (r0 r1 r2 r3 : Row4) : List (Str × Int) := updC (updC (updC (updC [] (nmR r0) r0.w) (nmR r1) r1.w) (nmR r2) r2.w) (nmR r3) r3.w
theorem wsum_four {f : Str → Int} (r0 r1 r2 r3 : Row4) : wsum f (csOf r0 r1 r2 r3) = r0.w * f (nmR r0) + r1.w * f (nmR r1) + r2.w * f (nmR r2) + r3.w * f (nmR r3) := by
  have n0 : (([] : List (Str × Int)).map (·.1)).Nodup := List.nodup_nil
  have n1 := updC_nodup n0 (nmR r0) r0.w
  have n2 := updC_nodup n1 (nmR r1) r1.w
  have n3 := updC_nodup n2 (nmR r2) r2.w
  unfold csOf
  rw [wsum_updC n3, wsum_updC n2, wsum_updC n1, wsum_updC n0]
  have : wsum f [] = 0 := rfl
  rw [this]; omega
/-- what c_mean asks of the four weighed rows -/
theorem mean_facts {p q r : Int} {vsR : List Value} (r0 r1 r2 r3 : Row4) (E0 : St5) (hE0 : [r0, r1, r2, r3].foldl rowStep ⟨0, 0, 0, 0, []⟩ = E0) (g0 : 0 ≤ r0.w) (g1 : 0 ≤ r1.w) (g2 : 0 ≤ r2.w) (g3 : 0 ≤ r3.w)
    (hT : 0 < r0.w + r1.w + r2.w + r3.w) (ha : r0.w * r0.a + r1.w * r1.a + r2.w * r2.a + r3.w * r3.a = (r0.w + r1.w + r2.w + r3.w) * p)
    (hb : r0.w * r0.b + r1.w * r1.b + r2.w * r2.b + r3.w * r3.b = (r0.w + r1.w + r2.w + r3.w) * q) (hc : r0.w * r0.c + r1.w * r1.c + r2.w * r2.c + r3.w * r3.c = (r0.w + r1.w + r2.w + r3.w) * r)
    (i0 : InRing vsR r0) (i1 : InRing vsR r1) (i2 : InRing vsR r2) (i3 : InRing vsR r3) :
    E0.e1 = total E0.cs * p ∧ E0.e2 = total E0.cs * q ∧ E0.e3 = total E0.cs * r ∧ E0.e4 = total E0.cs * escN p q r ∧ 0 < total E0.cs ∧ (∀ c ∈ E0.cs, 0 ≤ c.2) ∧
    (∀ c ∈ E0.cs, ∃ (a b d : UInt8) (t : Tok), Value.bytes #[a, b, d] t ∈ vsR ∧ c.1 = nmT a.toNat b.toNat d.toNat) ∧
    (∀ f1 f2 f3 : Str → Int, (∀ (a b d : UInt8) (t : Tok), Value.bytes #[a, b, d] t ∈ vsR → f1 (nmT a.toNat b.toNat d.toNat) = (a.toNat : Nat) ∧ f2 (nmT a.toNat b.toNat d.toNat) = (b.toNat : Nat) ∧ f3 (nmT a.toNat b.toNat d.toNat) = (d.toNat : Nat)) →
     wsum f1 E0.cs = total E0.cs * p ∧ wsum f2 E0.cs = total E0.cs * q ∧ wsum f3 E0.cs = total E0.cs * r) := by
  have ecs : E0.cs = csOf r0 r1 r2 r3 := by rw [← hE0]; rfl
  have e1 : E0.e1 = r3.w * r3.a + (r2.w * r2.a + (r1.w * r1.a + (r0.w * r0.a + 0))) := by rw [← hE0]; rfl
  have e2 : E0.e2 = r3.w * r3.b + (r2.w * r2.b + (r1.w * r1.b + (r0.w * r0.b + 0))) := by rw [← hE0]; rfl
  have e3 : E0.e3 = r3.w * r3.c + (r2.w * r2.c + (r1.w * r1.c + (r0.w * r0.c + 0))) := by rw [← hE0]; rfl
  have e4 : E0.e4 = r3.w * escN r3.a r3.b r3.c + (r2.w * escN r2.a r2.b r2.c + (r1.w * escN r1.a r1.b r1.c + (r0.w * escN r0.a r0.b r0.c + 0))) := by rw [← hE0]; rfl
  have et : total E0.cs = r0.w + r1.w + r2.w + r3.w := by rw [ecs, total_wsum, wsum_four]; omega
  have key : ∀ rr : Row4, InRing vsR rr → ∃ (a b d : UInt8) (t : Tok), Value.bytes #[a, b, d] t ∈ vsR ∧ nmR rr = nmT a.toNat b.toNat d.toNat := by
    rintro rr ⟨a, b, d, t, hm, h1, h2, h3⟩
    exact ⟨a, b, d, t, hm, by unfold nmR; rw [h1, h2, h3]⟩
  refine ⟨by rw [et, e1]; omega, by rw [et, e2]; omega, by rw [et, e3]; omega, ?_, by rw [et]; exact hT, ?_, ?_, ?_⟩
  · rw [et, e4]; unfold escN; grind
  · rw [ecs]
    exact updC_nonneg g3 (updC_nonneg g2 (updC_nonneg g1 (updC_nonneg g0 fun c hc => nomatch hc)))
  · rw [ecs]
    intro c hc
    rcases updC_key hc with e | ⟨c', hc', e'⟩
    · rw [e]; exact key _ i3
    · rw [← e']
      rcases updC_key hc' with e | ⟨c', hc', e'⟩
      · rw [e]; exact key _ i2
      · rw [← e']
        rcases updC_key hc' with e | ⟨c', hc', e'⟩
        · rw [e]; exact key _ i1
        · rw [← e']
          rcases updC_key hc' with e | ⟨c', hc', e'⟩
          · rw [e]; exact key _ i0
          · cases hc'
  · intro f1 f2 f3 hf
    have val : ∀ rr : Row4, InRing vsR rr → f1 (nmR rr) = rr.a ∧ f2 (nmR rr) = rr.b ∧ f3 (nmR rr) = rr.c := by
      rintro rr ⟨a, b, d, t, hm, h1, h2, h3⟩
      have := hf a b d t hm
      rw [h1, h2, h3] at this
      exact this
    have v0 := val _ i0
    have v1 := val _ i1
    have v2 := val _ i2
    have v3 := val _ i3
    rw [et, ecs, wsum_four, wsum_four, wsum_four, v0.1, v1.1, v2.1, v3.1, v0.2.1, v1.2.1, v2.2.1, v3.2.1, v0.2.2, v1.2.2, v2.2.2, v3.2.2]
    exact ⟨ha, hb, hc⟩
end Mine
end
/- PW -/
section
open PySem PySem.W PySem.Calls PyProof.Rows
namespace Mine
theorem mean_a1 {x z y m1 m2 g1 g2 : Int} (h1 : g1 * m1 = (y - z) * m1) (h2 : g2 * m2 = (x - (z + m1)) * m2) :
    (g1 - m1) * (g2 - m2) * x + (g1 - m1) * m2 * z + m1 * (g2 - m2) * x + m1 * m2 * y = g1 * g2 * (x - m2) := by grind
theorem mean_a2 {z y m1 m2 g1 g2 : Int} (h1 : g1 * m1 = (y - z) * m1) :
    (g1 - m1) * (g2 - m2) * y + (g1 - m1) * m2 * y + m1 * (g2 - m2) * z + m1 * m2 * z = g1 * g2 * (y - m1) := by grind
theorem mean_a3 {x z y m1 m2 g1 g2 : Int} (h1 : g1 * m1 = (y - z) * m1) (h2 : g2 * m2 = (x - (z + m1)) * m2) :
    (g1 - m1) * (g2 - m2) * z + (g1 - m1) * m2 * x + m1 * (g2 - m2) * y + m1 * m2 * x = g1 * g2 * (z + m1 + m2) := by grind
theorem mean_b1 {x z y m1 m2 g1 g2 : Int} (h1 : g1 * m1 = (x - y) * m1) (h2 : g2 * m2 = (x - m1 - z) * m2) :
    (g1 - m1) * (g2 - m2) * x + (g1 - m1) * m2 * z + m1 * (g2 - m2) * y + m1 * m2 * z = g1 * g2 * (x - m1 - m2) := by grind
theorem mean_b2 {x y m1 m2 g1 g2 : Int} (h1 : g1 * m1 = (x - y) * m1) :
    (g1 - m1) * (g2 - m2) * y + (g1 - m1) * m2 * y + m1 * (g2 - m2) * x + m1 * m2 * x = g1 * g2 * (y + m1) := by grind
theorem mean_b3 {x z y m1 m2 g1 g2 : Int} (h1 : g1 * m1 = (x - y) * m1) (h2 : g2 * m2 = (x - m1 - z) * m2) :
    (g1 - m1) * (g2 - m2) * z + (g1 - m1) * m2 * x + m1 * (g2 - m2) * z + m1 * m2 * y = g1 * g2 * (z + m2) := by grind
theorem tot4 {m1 m2 g1 g2 : Int} : (g1 - m1) * (g2 - m2) + (g1 - m1) * m2 + m1 * (g2 - m2) + m1 * m2 = g1 * g2 := by grind
theorem up1_ge (d : Int) : 1 ≤ up1 d ∧ d ≤ up1 d := by unfold up1; split <;> omega
theorem up1_mul {d m : Int} (h : m = 0 ∨ 1 ≤ d) : up1 d * m = d * m := by
  rcases h with rfl | h
  · simp
  · have : up1 d = d := by unfold up1; split <;> omega
    rw [this]
/-- the four weighed rows of either branch are as mean_facts asks -/
structure Weighs (p q r : Int) (r0 r1 r2 r3 : Row4) : Prop where
  g0 : 0 ≤ r0.w
  g1 : 0 ≤ r1.w
  g2 : 0 ≤ r2.w
  g3 : 0 ≤ r3.w
  hT : 0 < r0.w + r1.w + r2.w + r3.w
  ha : r0.w * r0.a + r1.w * r1.a + r2.w * r2.a + r3.w * r3.a = (r0.w + r1.w + r2.w + r3.w) * p
  hb : r0.w * r0.b + r1.w * r1.b + r2.w * r2.b + r3.w * r3.b = (r0.w + r1.w + r2.w + r3.w) * q
  hc : r0.w * r0.c + r1.w * r1.c + r2.w * r2.c + r3.w * r3.c = (r0.w + r1.w + r2.w + r3.w) * r
theorem weigh_A {x y z p q r : Int} (hxy : y ≤ x) (hyz : z ≤ y) (hpq : q ≤ p) (hqr : r ≤ q) (hs : x + y + z = p + q + r) (hxp : p ≤ x) (hzr : z ≤ r) (hyq : y ≥ q) :
    Weighs p q r ⟨1 * (up1 (y - z) - (y - q)) * (up1 (x - (z + (y - q))) - (x - p)), x, y, z⟩ ⟨1 * (up1 (y - z) - (y - q)) * (x - p), z, y, x⟩
      ⟨1 * (y - q) * (up1 (x - (z + (y - q))) - (x - p)), x, z, y⟩ ⟨1 * (y - q) * (x - p), y, z, x⟩ := by
  have u1 := up1_ge (y - z)
  have u2 := up1_ge (x - (z + (y - q)))
  have h1 : up1 (y - z) * (y - q) = (y - z) * (y - q) := up1_mul (by omega)
  have h2 : up1 (x - (z + (y - q))) * (x - p) = (x - (z + (y - q))) * (x - p) := up1_mul (by omega)
  generalize up1 (y - z) = g1 at u1 h1 ⊢
  generalize up1 (x - (z + (y - q))) = g2 at u2 h2 ⊢
  have ep : p = x - (x - p) := by omega
  have eq : q = y - (y - q) := by omega
  have er : r = z + (y - q) + (x - p) := by omega
  have tt := tot4 (m1 := y - q) (m2 := x - p) (g1 := g1) (g2 := g2)
  have k1 := mean_a1 (x := x) h1 h2
  have k2 := mean_a2 (m2 := x - p) (g2 := g2) h1
  have k3 := mean_a3 h1 h2
  rw [← ep] at k1; rw [← eq] at k2; rw [← er] at k3
  refine ⟨?_, ?_, ?_, ?_, ?_, ?_, ?_, ?_⟩ <;> dsimp only <;> simp only [Int.one_mul]
  · exact Int.mul_nonneg (by omega) (by omega)
  · exact Int.mul_nonneg (by omega) (by omega)
  · exact Int.mul_nonneg (by omega) (by omega)
  · exact Int.mul_nonneg (by omega) (by omega)
  · rw [tt]; exact Int.mul_pos (by omega) (by omega)
  · rw [tt]; exact k1
  · rw [tt]; exact k2
  · rw [tt]; exact k3
theorem weigh_B {x y z p q r : Int} (hxy : y ≤ x) (hyz : z ≤ y) (hpq : q ≤ p) (hqr : r ≤ q) (hs : x + y + z = p + q + r) (hxp : p ≤ x) (hzr : z ≤ r) (hyq : ¬ y ≥ q) :
    Weighs p q r ⟨1 * (up1 (x - y) - (q - y)) * (up1 (x - (q - y) - z) - (r - z)), x, y, z⟩ ⟨1 * (up1 (x - y) - (q - y)) * (r - z), z, y, x⟩
      ⟨1 * (q - y) * (up1 (x - (q - y) - z) - (r - z)), y, x, z⟩ ⟨1 * (q - y) * (r - z), z, x, y⟩ := by
  have u1 := up1_ge (x - y)
  have u2 := up1_ge (x - (q - y) - z)
  have h1 : up1 (x - y) * (q - y) = (x - y) * (q - y) := up1_mul (by omega)
  have h2 : up1 (x - (q - y) - z) * (r - z) = (x - (q - y) - z) * (r - z) := up1_mul (by omega)
  generalize up1 (x - y) = g1 at u1 h1 ⊢
  generalize up1 (x - (q - y) - z) = g2 at u2 h2 ⊢
  have ep : p = x - (q - y) - (r - z) := by omega
  have eq : q = y + (q - y) := by omega
  have er : r = z + (r - z) := by omega
  have tt := tot4 (m1 := q - y) (m2 := r - z) (g1 := g1) (g2 := g2)
  have k1 := mean_b1 h1 h2
  have k2 := mean_b2 (m2 := r - z) (g2 := g2) h1
  have k3 := mean_b3 h1 h2
  rw [← ep] at k1; rw [← eq] at k2; rw [← er] at k3
  refine ⟨?_, ?_, ?_, ?_, ?_, ?_, ?_, ?_⟩ <;> dsimp only <;> simp only [Int.one_mul]
  · exact Int.mul_nonneg (by omega) (by omega)
  · exact Int.mul_nonneg (by omega) (by omega)
  · exact Int.mul_nonneg (by omega) (by omega)
  · exact Int.mul_nonneg (by omega) (by omega)
  · rw [tt]; exact Int.mul_pos (by omega) (by omega)
  · rw [tt]; exact k1
  · rw [tt]; exact k2
  · rw [tt]; exact k3
end Mine
end
/- Li -/
section
open PySem PySem.W PySem.Calls PyProof.Rows
example : True := by
  k_with_none
  k_with "my_enter" => (k_dflt (
  refine' Mine.enterC _ ?k1z0 ?k2z0 ?k3z0 ?k4z0 ?kAz0 ?kFz0 ?kKz0 ?kRz0 ?k6z0 ?k7z0 ?k8z0 ?k9z0 ?kBz0 ?_ ?c2z0 ?c3z0 ?c4z0 ?c5z0 ?c6z0
  (case kAz0 => exact rfl); (case kFz0 => exact rfl); (case kKz0 => assumption); (case k1z0 => k_asm); (case k2z0 => k_asm); (case k3z0 => k_asm); (case k4z0 => k_asm); (case kRz0 => assumption)
  (case k6z0 => k_is); (case k7z0 => k_is); (case k8z0 => exact Nat.lt_of_le_of_lt (Nat.le_add_right _ _) (by assumption)); (case k9z0 => exact BindsTo.of_eq rfl); (case c5z0 => decide); (case kBz0 => exact locs rfl); (case c2z0 => exact rfl); (case c3z0 => exact rfl); (case c4z0 => exact rfl); (case c6z0 => exact Nat.succ_pos _)))
  k_with "execs cons" => (k_here; (with_reducible show wpAny _ _ _ _ _ (Shared.mk _ _ _ (HAdd.hAdd _ 1) _)); (with_reducible rename Fr _ _ _ _ => F9z1); (with_reducible rename News _ _ _ _ => N9z1); with_reducible refine Mine.toks_let F9z1 N9z1 ?_; intro m9z1 n9z1 tkz1 htkz1 F8z1 N8z1; clear F9z1 N9z1)
  k_with "execs nil" => (k_here; (with_reducible show wpAny _ _ _ _ _ (Shared.mk _ _ _ (HAdd.hAdd _ 1) _)); (with_reducible rename Fr _ _ _ _ => F9z2); (with_reducible rename News _ _ _ _ => N9z2); with_reducible refine Mine.toks_let F9z2 N9z2 ?_; intro m9z2 n9z2 tkz2 htkz2 F8z2 N8z2; clear F9z2 N9z2)
  k_with "ite" => (k_here; first | refine PySem.W.ite_pos (by assumption) ?_ | refine PySem.W.ite_neg (ne_true_of_eq_false (by assumption)) ?_)
  k_with "subscriptTail Name Constant ref int" => (k_here; k_dflt (refine' Mine.item_L ?hlz4 ?h0z4 ?hhiz4 ?hxz4 ?_; (case hlz4 => first | exact Fr.lst (by k_asm) (by assumption) | exact News.isList (by k_asm) (by k_mem)); (case h0z4 => decide); (case hhiz4 => decide); (case hxz4 => exact rfl)))
  k_with "subscriptTail" => (k_here; (with_reducible show wpAny _ _ (subscriptTail _ _ (Value.bytes _ _) (Value.int _ _)) _ _ _); k_dflt (refine' Mine.item_B ?hxz5 ?hfz5 ?h0z5 ?_; (case hxz5 => exact rfl); (case hfz5 => exact Nat.le_of_ble_eq_true rfl); (case h0z5 => decide)))
  k_with "call builtin:len" => (k_here; (with_reducible show wpAny _ _ (call _ [Value.bytes _ _]) _ _ _); k_dflt (refine' Mine.len_B ?hnz6 ?hzz6 ?_; (case hnz6 => first | exact (rfl : _ = 2) | exact (rfl : _ = 3)); (case hzz6 => decide); (try dsimp only)))
  k_with "CompRest" => (with_unfolding_all (refine LCg.CompRest.succ ?_; intro vz7 Iz7 oIz7 Cz7 oCz7 Dz7 mz7 hz7 tkz7 Ez7 hvz7 hCz7 hxz7 Fz7 Nz7 offz7 nez7; obtain ⟨c9z7, u9z7, hc9z7, hv9z7⟩ := hvz7; subst hv9z7; have hc8 := Option.some.inj hc9z7; subst hc8; clear hc9z7; (try simp only [LCg.Off3, and_true] at offz7)))
  k_with "k_ne" => (refine neN ?_; (try dsimp only); first | exact Nat.ne_of_gt (by with_reducible assumption) | exact Nat.ne_of_lt (by with_reducible assumption) | exact Mine.Off.ne (by with_reducible assumption) | exact Mine.Off.sym (by with_reducible assumption) | with_reducible assumption | exact Ne.symm (by with_reducible assumption) | omega)
  k_with "FinE" => ((unfold LCg.FinE); intro Dz10 hz10 tkz10 Fz10 Nz10 o1z10; (try (replace o1z10 := Mine.allOff_1 o1z10; simp +zetaDelta only [Mine.AllOff, and_true] at o1z10)); (repeat obtain ⟨l9z10, o1z10⟩ := o1z10); (try simp only [List.nil_append, List.cons_append] at Nz10); (try dsimp only))
  k_with "FinA" => ((unfold LCg.FinA); intro Dz11 hz11 tkz11 Fz11 Nz11 o1z11; (try (replace o1z11 := Mine.allOff_1 o1z11; simp +zetaDelta only [Mine.AllOff, and_true] at o1z11)); (repeat obtain ⟨l9z11, o1z11⟩ := o1z11); (try simp only [List.nil_append, List.cons_append] at Nz11); (try dsimp only))
  k_with "call builtin:list.append" => (k_here; (with_reducible show wpAny _ _ (call (Value.builtin _) [Value.ref _, _]) _ _ _); (k_dflt (refine' append_K ?k1z12 ?k2z12 ?k3z12 ?_ ?zz12; (case k1z12 => k_asm); (case k2z12 => k_asm); (case k3z12 => k_upd); (case zz12 => first | exact Nat.le_of_ble_eq_true rfl | size_fits); k_whole));  intro hz12 Fz12 Nz12; (try k_sweep))
  k_with "newList" => (k_here; k_dflt (refine' newList_K ?k1z13 ?k2z13 ?_ ?zz13; (case k1z13 => k_asm); (case k2z13 => k_asm); (case zz13 => first | exact Nat.le_of_ble_eq_true rfl | size_fits); k_whole); intro lz13 hz13 Fz13 Nz13 l1z13; (try k_lt l1z13); (try k_sweep))
  k_with "my_enterC" => (k_dflt (
  refine' Mine.enterCC _ ?k1z14 ?k2z14 ?k3z14 ?k4z14 ?kAz14 ?kFz14 ?kKz14 ?kRz14 ?k6z14 ?k7z14 ?k8z14 ?k9z14 ?kBz14 ?kDz14 ?_ ?c2z14 ?c3z14 ?c4z14
  (case kAz14 => exact rfl); (case kFz14 => exact rfl); (case kKz14 => assumption); (case k1z14 => k_asm); (case k2z14 => k_asm); (case k3z14 => k_asm); (case k4z14 => k_asm); (case kRz14 => assumption)
  (case k6z14 => k_is); (case k7z14 => k_is); (case k8z14 => exact Nat.lt_of_le_of_lt (Nat.le_add_right _ _) (by assumption)); (case k9z14 => exact BindsTo.of_eq rfl); (case kBz14 => exact rfl); (case kDz14 => decide +kernel); (case c2z14 => exact rfl); (case c3z14 => exact rfl); (case c4z14 => exact rfl)))
  k_with "CompRest" => (with_unfolding_all (refine LCg.CompRest.succ ?_; intro vz15 Iz15 oIz15 Cz15 oCz15 Dz15 mz15 hz15 tkz15 Ez15 hvz15 hCz15 hxz15 Fz15 Nz15 offz15 nez15; replace nez15 := Mine.apart3 nez15; simp only [List.getElem?_toArray, List.getElem?_cons_succ, List.getElem?_cons_zero, Option.some.injEq] at hvz15; subst hvz15; (try k_sweep)))
  k_with "CompEnd" => ((with_reducible rename LCg.Off3 _ _ _ _ => of9z16); (with_reducible rename LCg.NsObj _ _ => ns9z16); refine' Mine.compEnd_same ?Fz16 ?Nz16 of9z16 ?Sz16 ?_; (case Fz16 => k_asm); (case Nz16 => k_asm); (case Sz16 => first | exact trivial | exact .inl (by assumption) | exact .inr ⟨_, by k_mem, rfl, _, rfl⟩); clear of9z16; (try (with_reducible rename Mine.Apart3 _ _ _ => ne9z16; clear ne9z16)))
  k_with "call builtin:list.append" => (k_here; (fail_if_success (with_reducible show wpAny _ _ (call _ [_, _]) _ _ _)); dsimp only [List.cons_append, List.nil_append])
  k_with "execs cons Assign cons" => walk_at "execs cons"
  k_with "subscriptTail Name Name ref int" => (k_here; k_dflt (refine' Mine.item_L ?hlz19 ?h0z19 ?hhiz19 ?hxz19 ?_; (case hlz19 => first | exact Fr.lst (by k_asm) (by assumption) | exact News.isList (by k_asm) (by k_mem)); (case h0z19 => decide); (case hhiz19 => decide); (case hxz19 => exact rfl)))
  k_with "exec For Name Name cons nil" => (k_here; k_dflt (refine Mine.forListA (by k_asm) rfl ?_))
  k_with "exec For Name List cons nil" => (k_here; k_dflt (refine Mine.forListA (by k_asm) rfl ?_))
  k_with "TurnEnd" => (dsimp only [Mine.TurnEnd])
  k_with "binaryOp Div int int" => (k_here; k_dflt (refine' Mine.div32 ?hAz23 ?h0z23 ?h1z23 ?_; (case hAz23 => exact rfl); (case h0z23 => omega); (case h1z23 => omega)); intro tz23 kz23)
  k_with "call ref" => (k_here; (with_reducible rename Fr _ _ _ _ => F7z24); (with_reducible rename News _ _ _ _ => N7z24); k_dflt (refine' Mine.useC (Mine.c_hsv _ _ _ _ _ _ ?z1z24 ?z2z24) ?Bz24 ?Fz24 ?Nz24 ?Xz24 ?Tz24 ?hkz24 ?hdz24 ?huz24 ?prez24 ?_; (case Bz24 => k_asm); (case Fz24 => exact F7z24); (case Nz24 => exact N7z24); (case Xz24 => k_asm); (case Tz24 => k_asm); (case hkz24 => exact rfl); (case hdz24 => ktr_room); (case huz24 => ktr_units); (case prez24 => exact trivial); (case z1z24 => exact (Mine.tab_max _ (by omega) _ (by omega)).1); (case z2z24 => exact (Mine.tab_max _ (by omega) _ (by omega)).2.1)); intro v9z24 h9z24 tk9z24 F9z24 N9z24 P9z24; obtain ⟨D9z24, u1z24, u2z24, u3z24, e9z24, a9z24, c9z24⟩ := P9z24; subst e9z24; obtain ⟨N9z24, ne9z24⟩ := Mine.gain2 F7z24 N7z24 N9z24 a9z24 c9z24; clear ne9z24; clear F7z24 N7z24; (try dsimp only))
  k_with "CompEnd" => ((with_reducible rename LCg.Off3 _ _ _ _ => of9z25); (with_reducible rename LCg.NsObj _ _ => ns9z25); refine' Mine.compEnd_same ?Fz25 ?Nz25 of9z25 ?Sz25 ?_; (case Fz25 => k_asm); (case Nz25 => first | k_asm | exact Mine.tail1 (by k_asm)); (case Sz25 => first | exact trivial | exact .inl (by assumption) | exact .inr ⟨_, by k_mem, rfl, _, rfl⟩); clear of9z25; (try (with_reducible rename Mine.Apart3 _ _ _ => ne9z25; clear ne9z25)))
  k_with "call builtin:sum" => (k_here; (have pz' : Mine.Pause := by with_reducible assumption); clear pz'; refine Mine.Hold.out ?_)
  k_with "exec If" => (k_here; (have pz' : Mine.Pause := by with_reducible assumption); clear pz'; refine Mine.Hold.out ?_)
  k_with "k_steps" => repeat' (first | (k_unfold; (try dsimp only)) | (k_end; kc_close) | ((first | (with_reducible show wpAny _ _ (exec _ _) _ _ _) | (with_reducible show wpAny _ _ (execs (_ :: _) _) _ _ _) | (with_reducible show wpAny _ _ (eval (PySem.Expr.BinOp _ _ _ _) _) _ _ _) | (with_reducible show wpAny _ _ (eval (PySem.Expr.Call _ _ _ _) _) _ _ _) | (with_reducible show wpAny _ _ (eval (PySem.Expr.Subscript _ _ _) _) _ _ _) | (with_reducible show wpAny _ _ (eval (PySem.Expr.Tuple _ _ _) _) _ _ _) | (with_reducible show wpAny _ _ (eval (PySem.Expr.List _ _) _) _ _ _)); k_fold; walk1) | walk1 | (dsimp only; walk1) | (leave1; walk_say "STEP leave1"; (try dsimp only)) | fail "no step")
  trivial
example : (PySem.Challenge.rw_zo0010_01 = PySem.Challenge.rw_zo0010_01) ∧ (Mine.hd.heap_1 = Mine.hd.heap_1) := by k_fill; exact ⟨rfl, rfl⟩
namespace Mine
/-- the parts, each lifted to the level where it is below, together -/
def liftS (a b c l : Int) : Nat := max a.toNat l.toNat + max b.toNat l.toNat + max c.toNat l.toNat
/-- at each level of the first row its parts, lifted, come to no less than the second's -/
def liftB (x y z p q r : Int) : Bool := decide (¬ liftS x y z x < liftS p q r x ∧ ¬ liftS x y z y < liftS p q r y ∧ ¬ liftS x y z z < liftS p q r z)
theorem max22 {a b : Int} (ha : 0 ≤ a ∧ a ≤ 21) (hb : 0 ≤ b ∧ b ≤ 21) : max a.toNat b.toNat < 22 := Nat.max_lt.mpr ⟨by omega, by omega⟩
theorem nat22 {a : Int} (ha : 0 ≤ a ∧ a ≤ 21) : a.toNat < 22 := by omega
theorem lift64 {a b c l : Int} (ha : 0 ≤ a ∧ a ≤ 21) (hb : 0 ≤ b ∧ b ≤ 21) (hc : 0 ≤ c ∧ c ≤ 21) (hl : 0 ≤ l ∧ l ≤ 21) : liftS a b c l < 64 := by
  have h1 := max22 ha hl
  have h2 := max22 hb hl
  have h3 := max22 hc hl
  unfold liftS
  generalize max a.toNat l.toNat = m1 at *
  generalize max b.toNat l.toNat = m2 at *
  generalize max c.toNat l.toNat = m3 at *
  omega
theorem sum_lift {a b c l : Int} (ha : 0 ≤ a ∧ a ≤ 21) (hb : 0 ≤ b ∧ b ≤ 21) (hc : 0 ≤ c ∧ c ≤ 21) (hl : 0 ≤ l ∧ l ≤ 21) :
    Flt.sumOf [mx3 (q32 a.toNat) (q32 l.toNat) (q32 l.toNat), mx3 (q32 b.toNat) (q32 l.toNat) (q32 l.toNat), mx3 (q32 c.toNat) (q32 l.toNat) (q32 l.toNat)] = q32 (liftS a b c l) := by
  rw [(tab_max _ (nat22 ha) _ (nat22 hl)).2.2, (tab_max _ (nat22 hb) _ (nat22 hl)).2.2, (tab_max _ (nat22 hc) _ (nat22 hl)).2.2, sum32 (max22 ha hl) (max22 hb hl) (max22 hc hl)]
  rfl
/-- the outer loop between two turns -/
inductive liJ (L : Addr) (good : Int → Prop) (B : Bool) (m₀ : Str → Option Value) (rest : List Value) (m : Str → Option Value) (news : List (Addr × Obj)) : Prop
  | mk (y1 y2 : Option Value) (ow : Obj) (wv : Option Value) (ns : List Int) (hm : m = ovs [(Str.ofString "three", y2), (Str.ofString "tops", y1)] m₀) (hn : news = [(L + 1, ow)]) (hd : ow.data = .cell wv) (hv : IntsAre rest ns) (hb : ∀ n ∈ ns, 0 ≤ n ∧ n ≤ 21)
    (hB : (B = true) ↔ ∀ n ∈ ns, good n) : liJ L good B m₀ rest m news
/-- what is left of the two rows, and the sums so far -/
inductive Two2 (H G : Addr) (x y z p q r l : Int) : List Value → List Value → Prop
  | two : Two2 H G x y z p q r l [.ref H, .ref G] []
  | one (t : Tok) : Two2 H G x y z p q r l [.ref G] [.float (q32 (liftS x y z l)) t]
  | nil (t u : Tok) : Two2 H G x y z p q r l [] [.float (q32 (liftS x y z l)) t, .float (q32 (liftS p q r l)) u]
inductive li2J (LL TA : Addr) (oL : Obj) (tail : List (Addr × Obj)) (H G : Addr) (x y z p q r l : Int) (m₁ : Str → Option Value) (rest : List Value) (m : Str → Option Value) (news : List (Addr × Obj)) : Prop
  | mk (y1 : Option Value) (tops : List Value) (nT : Nat) (hm : m = ovs [(Str.ofString "three", y1)] m₁) (hn : news = (LL, oL) :: (TA, W.listOf tops.toArray nT) :: tail) (hS : Two2 H G x y z p q r l rest tops) : li2J LL TA oL tail H G x y z p q r l m₁ rest m news
inductive Two2S (h : Heap) (H G : Addr) (x y z p q r l : Int) (v : Value) (rest tops : List Value) : Prop
  | mk (T : Addr) (a b c : Int) (k1 k2 k3 : Tok) (hv : v = .ref T) (hl : h.IsList T #[.int a k1, .int b k2, .int c k3]) (ha : 0 ≤ a ∧ a ≤ 21) (hb : 0 ≤ b ∧ b ≤ 21) (hc : 0 ≤ c ∧ c ≤ 21) (hz : tops.toArray.size ≤ sizeLine)
    (hn : ∀ t, Two2 H G x y z p q r l rest (tops ++ [.float (q32 (liftS a b c l)) t])) : Two2S h H G x y z p q r l v rest tops
theorem two2_sel {h : Heap} {H G : Addr} {x y z p q r l : Int} {i1 i2 i3 j1 j2 j3 : Tok} {v : Value} {rest tops : List Value} (hl1 : h.IsList H #[.int x i1, .int y i2, .int z i3]) (hl2 : h.IsList G #[.int p j1, .int q j2, .int r j3]) (hx : 0 ≤ x ∧ x ≤ 21) (hy : 0 ≤ y ∧ y ≤ 21) (hz : 0 ≤ z ∧ z ≤ 21) (hp : 0 ≤ p ∧ p ≤ 21) (hq : 0 ≤ q ∧ q ≤ 21) (hr : 0 ≤ r ∧ r ≤ 21)
    (hS : Two2 H G x y z p q r l (v :: rest) tops) : Two2S h H G x y z p q r l v rest tops := by
  cases hS with
  | two => exact .mk H x y z i1 i2 i3 rfl hl1 hx hy hz (by rw [sizeLine_eq]; exact Nat.le_of_ble_eq_true rfl) fun t => .one t
  | one t => exact .mk G p q r j1 j2 j3 rfl hl2 hp hq hr (by rw [sizeLine_eq]; exact Nat.le_of_ble_eq_true rfl) fun u => .nil t u
theorem lift_iff {x y z p q r : Int} : (liftB x y z p q r = true) ↔ ∀ n ∈ [x, y, z], ¬ liftS x y z n < liftS p q r n := by
  unfold liftB
  rw [decide_eq_true_iff]
  simp only [List.forall_mem_cons, List.not_mem_nil, false_implies, implies_true, and_true]
set_option maxHeartbeats 4000000 in
theorem c_lifted {prog : Program} {w : World} {mean : ExcName → Option Value} {mg mb : Str → Option Value} (H G : Addr) (x y z p q r : Int) (i1 i2 i3 j1 j2 j3 : Tok)
   (hx : 0 ≤ x ∧ x ≤ 21) (hy : 0 ≤ y ∧ y ≤ 21) (hz : 0 ≤ z ∧ z ≤ 21) (hp : 0 ≤ p ∧ p ≤ 21) (hq : 0 ≤ q ∧ q ≤ 21) (hr : 0 ≤ r ∧ r ≤ 21) :
  Claim prog w mean mg mb 121 [.ref H, .ref G] 6 30 (fun h => h.IsList H #[.int x i1, .int y i2, .int z i3] ∧ h.IsList G #[.int p j1, .int q j2, .int r j3])
   (fun _ v _ => v = .bool (liftB x y z p q r)) := by
  intro dp un gd cn cs' a ccd cl outer A₀ base h₀ L m s Q E B F X T hk hd hu hl hret
  obtain ⟨hl1, hl2⟩ := hl
  walk_at "my_enterC"
  clear hret B F X T
  intro g₀ L' h₁ tk cells Q' hret hg F' N' Y' B' X' T'
  subst hg
  k_cells Y'
  rename_i o1 d1
  (try simp only [List.cons_append, List.nil_append] at N')
  (try dsimp only)
  w_on
  refine letAE ?_
  intro Ak ek9 gk dk ok
  have pz := pause
  obtain ⟨oH, eH, cH, nH, dH⟩ := id hl1
  k_steps
  with_reducible rename Fr _ _ _ _ => F5
  with_reducible rename News _ _ _ _ => N5
  refine LstSrc.byM (ax := H) (oa := oH) (vs := [.int x i1, .int y i2, .int z i3]) (n := nH) (liJ L' (fun n => ¬ liftS x y z n < liftS p q r n) (liftB x y z p q r)) cH dH F5 N5
    (.mk _ _ _ _ [x, y, z] (ovs_start _ [Str.ofString "three", Str.ofString "tops"]) rfl (by with_reducible assumption) (.cons _ _ (.cons _ _ (.cons _ _ .nil))) ?b lift_iff) (fun _ _ _ _ => .inl eH) ?step ?done
  case b =>
    simp only [List.forall_mem_cons, List.not_mem_nil, false_implies, implies_true, and_true]
    exact ⟨hx, hy, hz⟩
  case step =>
    intro v rest m news hJ I o h₁ tk₁ ne0 F1 N1
    replace F1 : Fr s.heap L' h₁ _ := F1
    replace N1 : News s.heap L' h₁ _ := N1
    obtain ⟨y1, y2, ow, wv, ns, rfl, rfl, hdw, hv, hb, hB⟩ := hJ
    cases hv with
    | cons l tl hv' =>
    rename_i ns'
    have hl := hb l (.head _)
    have hb' : ∀ n ∈ ns', 0 ≤ n ∧ n ≤ 21 := fun n hn => hb n (.tail _ hn)
    replace ne0 := allOff_ne ne0
    simp +zetaDelta only [AllOff, and_true] at ne0
    have ne0'' : ∀ {ob : Obj}, ∀ p ∈ [(L' + 1, ob)], p.1 ≠ I := all_cons ne0 all_nil
    dsimp only [ovs] at F1
    clear F5 N5 hb
    k_steps
    with_reducible rename Fr _ _ _ _ => F5
    with_reducible rename News _ _ _ _ => N5
    refine LstSrc.byM (oa := W.listOf #[.ref H, .ref G] 0) (vs := [.ref H, .ref G]) (n := 0) (li2J _ _ _ [(I, o), (L' + 1, _)] H G x y z p q r l) rfl rfl F5 N5 (.mk _ _ _ (ovs_start _ [Str.ofString "three"]) rfl .two) ?hk2 ?step2 ?done2
    case hk2 =>
      intro vs m news hJ
      obtain ⟨_, _, _, rfl, rfl, _⟩ := hJ
      exact .inr (.head _)
    case step2 =>
      intro v2 rest2 m2 news2 hJ2 I2 o2 h₂ tk₂ ne2 F2 N2
      replace F2 : Fr s.heap L' h₂ _ := F2
      replace N2 : News s.heap L' h₂ _ := N2
      obtain ⟨y3, tops, nT, rfl, rfl, hS⟩ := hJ2
      obtain ⟨T, a, b, c, k1, k2, k3, rfl, hlT, ha, hb, hc, hzz, hnx⟩ := two2_sel hl1 hl2 hx hy hz hp hq hr hS
      replace ne2 := allOff_ne ne2
      simp +zetaDelta only [AllOff, and_true] at ne2
      obtain ⟨e1, e2, e3, e4⟩ := ne2
      dsimp only [ovs] at F2
      clear F5 N5 hS
      k_steps
      unfold Hold
      clear pz
      with_reducible rename Fr _ _ _ _ => F7
      with_reducible rename News _ _ _ _ => N7
      refine sum3F rfl F7 N7 (News.isList N7 (.head _)) fun h9 tk9 t9 F9 N9 => ?_
      rw [sum_lift ha hb hc hl]
      clear F7 N7
      replace N9 := tail1 N9
      have pz := pause
      k_steps
      with_reducible rename Fr _ _ _ _ => F9
      with_reducible rename News _ _ _ _ => N9
      simp only [List.push_toArray] at N9
      exact ⟨_, _, _, _, rfl, F9, N9, all_cons e1 (all_cons e2 (all_cons e3 (all_cons e4 all_nil))), .mk _ _ _ (ovs_again (l := [(Str.ofString "three", _)]) (l' := [(Str.ofString "three", y3)]) rfl) rfl (hnx t9)⟩
    case done2 =>
      intro m2 news2 hJ2 h₂ tk₂ F2 N2
      replace F2 : Fr s.heap L' h₂ _ := F2
      replace N2 : News s.heap L' h₂ _ := N2
      obtain ⟨y3, tops, nT, rfl, rfl, hS⟩ := hJ2
      cases hS with
      | nil t u =>
      dsimp only [ovs] at F2
      clear F5 N5
      k_steps
      have hc := tab_lt _ (lift64 hx hy hz hl) _ (lift64 hp hq hr hl)
      by_cases hlt : liftS x y z l < liftS p q r l
      · rw [decide_eq_true hlt] at hc
        unfold Hold
        clear pz
        k_steps
        try dsimp only
        refine hret _ _ _ _ _ (by assumption) ?_
        have : liftB x y z p q r = false := Bool.eq_false_iff.mpr fun e => (hB.mp e) l (.head _) hlt
        rw [this]
      · rw [decide_eq_false hlt] at hc
        unfold Hold
        clear pz
        k_steps
        with_reducible rename Fr _ _ _ _ => F9
        with_reducible rename News _ _ _ _ => N9
        with_reducible rename Obj.data _ = Data.cell (some (Value.int l _)) => dl
        exact ⟨_, _, _, _, rfl, F9, tail2 N9, ne0'', .mk _ _ _ _ ns' (ovs_again (l := [(Str.ofString "three", _), (Str.ofString "tops", _)]) (l' := [(Str.ofString "three", y2), (Str.ofString "tops", y1)]) rfl) rfl dl hv' hb' (hB.trans ⟨fun h n hn => h n (.tail _ hn), fun h n hn => by rcases List.mem_cons.mp hn with rfl | hn; exact hlt; exact h n hn⟩)⟩
  case done =>
    intro m news hJ h' tk F1 N1
    replace F1 : Fr s.heap L' h' _ := F1
    replace N1 : News s.heap L' h' _ := N1
    obtain ⟨y1, y2, ow, wv, ns, rfl, rfl, hdw, hv, hb, hB⟩ := hJ
    cases hv
    have hT : liftB x y z p q r = true := hB.mpr fun n hn => nomatch hn
    dsimp only [ovs] at F1
    clear F5 N5 pz
    k_steps
    try dsimp only
    refine hret _ _ _ _ _ F1 ?_
    rw [hT]
end Mine
end
/- LawQ -/
section
open PySem PySem.W PySem.Calls PyProof.Rows
namespace Mine
/-- the names that a turn of law's loop stores -/
def law8 (x1 x2 x3 x4 x5 x6 x7 x8 : Option Value) : List (Str × Option Value) :=
  [(Str.ofString "high", x7), (Str.ofString "flat", x8), (Str.ofString "over", x6), (Str.ofString "mine", x4), (Str.ofString "theirs", x5), (Str.ofString "orders", x3), (Str.ofString "other", x2), (Str.ofString "which", x1)]
/-- law's loop between two turns -/
inductive lawJ (L : Addr) (K : List (Addr × Obj)) (m₀ : Str → Option Value) (i : Nat) (m : Str → Option Value) (news : List (Addr × Obj)) : Prop
  | mk (x1 x2 x3 x4 x5 x6 x7 x8 : Option Value) (ow : Obj) (wv : Option Value) (hm : m = ovs (law8 x1 x2 x3 x4 x5 x6 x7 x8) m₀) (hn : news = (L + 1, ow) :: K) (hd : ow.data = .cell wv) : lawJ L K m₀ i m news
end Mine
namespace Mine
/-- the octet at a place of three -/
def sel3 (a b c : UInt8) : Nat → UInt8
  | 0 => a
  | 1 => b
  | _ => c
def elt3 (a b c : UInt8) (p : Nat × Nat) : List UInt8 := [sel3 a b c p.1, sel3 a b c p.2, sel3 a b c (3 - p.1 - p.2)]
def sixP : List (Nat × Nat) := [(0, 1), (0, 2), (1, 0), (1, 2), (2, 0), (2, 1)]
/-- how many orders stand before the turn (i, j) -/
def cnt (i j : Nat) : Nat := 2 * i + j - if j > i then 1 else 0
def ordJ (a b c : UInt8) (i j : Nat) (ys : List Value) : Prop := BytesAll ys ∧ ys.map octs = (sixP.take (cnt i j)).map (elt3 a b c)
theorem ordJ_0 {a b c : UInt8} : ordJ a b c 0 0 [] := ⟨(fun _ h => nomatch h), rfl⟩
theorem ordJ_row {a b c : UInt8} : ∀ (i : Nat) (ys : List Value), i < 3 → ordJ a b c i 3 ys → ordJ a b c (i + 1) 0 ys := by
  intro i ys hi h
  match i, hi with
  | 0, _ => exact h
  | 1, _ => exact h
  | 2, _ => exact h
theorem ordJ_skip {a b c : UInt8} {i : Nat} {ys : List Value} (hi : i < 3) (h : ordJ a b c i i ys) : ordJ a b c i (i + 1) ys := by
  match i, hi with
  | 0, _ => exact h
  | 1, _ => exact h
  | 2, _ => exact h
theorem ordJ_take {i j : Nat} (hi : i < 3) (hj : j < 3) (hne : i ≠ j) : sixP.take (cnt i (j + 1)) = sixP.take (cnt i j) ++ [(i, j)] := by
  match i, hi, j, hj with
  | 0, _, 0, _ => exact absurd rfl hne
  | 0, _, 1, _ => rfl
  | 0, _, 2, _ => rfl
  | 1, _, 0, _ => rfl
  | 1, _, 1, _ => exact absurd rfl hne
  | 1, _, 2, _ => rfl
  | 2, _, 0, _ => rfl
  | 2, _, 1, _ => rfl
  | 2, _, 2, _ => exact absurd rfl hne
theorem ordJ_snoc {a b c : UInt8} {i j : Nat} {ys : List Value} {t : Tok} (hi : i < 3) (hj : j < 3) (hne : i ≠ j) (h : ordJ a b c i j ys) : ordJ a b c i (j + 1) (ys ++ [.bytes #[sel3 a b c i, sel3 a b c j, sel3 a b c (3 - i - j)] t]) := by
  refine ⟨fun v hv => ?_, ?_⟩
  · rcases List.mem_append.mp hv with hv | hv
    · exact h.1 v hv
    · rw [List.mem_singleton.mp hv]; exact ⟨_, _, rfl⟩
  · rw [ordJ_take hi hj hne, List.map_append, List.map_append, h.2]
    rfl
theorem sel_at {a b c : UInt8} {t1 t2 t3 : Tok} {i : Nat} (hi : i < 3) : ∃ t, ([.int (a.toNat : Nat) t1, .int (b.toNat : Nat) t2, .int (c.toNat : Nat) t3] : List Value)[((i : Nat) : Int).toNat]? = some (.int ((sel3 a b c i).toNat : Nat) t) := by
  match i, hi with
  | 0, _ => exact ⟨_, rfl⟩
  | 1, _ => exact ⟨_, rfl⟩
  | 2, _ => exact ⟨_, rfl⟩
theorem sel_at3 {a b c : UInt8} {t1 t2 t3 : Tok} {i j : Nat} (hi : i < 3) (hj : j < 3) (hne : i ≠ j) : ∃ t, ([.int (a.toNat : Nat) t1, .int (b.toNat : Nat) t2, .int (c.toNat : Nat) t3] : List Value)[(3 - ((i : Nat) : Int) - ((j : Nat) : Int)).toNat]? = some (.int ((sel3 a b c (3 - i - j)).toNat : Nat) t) := by
  have e : (3 - ((i : Nat) : Int) - ((j : Nat) : Int)).toNat = (((3 - i - j : Nat) : Nat) : Int).toNat := by omega
  rw [e]
  exact sel_at (by omega)
section
variable {prog : Program} {w : World} {A : Around} {E : Value → Shared → Prop} {s : Shared} {h₀ : Heap} {L : Addr} {m : Str → Option Value} {news : List (Addr × Obj)}
theorem bytes3 {l : Addr} {p q r : UInt8} {t1 t2 t3 : Tok} {Q : Value → Shared → Prop} (F : Fr h₀ L s.heap m) (N : News h₀ L s.heap news) (hl : s.heap.IsList l #[.int (p.toNat : Nat) t1, .int (q.toNat : Nat) t2, .int (r.toNat : Nat) t3]) (hh : A.handled = none)
    (h : ∀ h' t k, Fr h₀ L h' m → News h₀ L h' news → Q (.bytes #[p, q, r] t) { s with heap := h', toks := k }) : wpAny (model prog w) A (call (.type "bytes") [.ref l]) Q E s := by
  refine PySem.W.bytes_K (vs := [.int (p.toNat : Nat) t1, .int (q.toNat : Nat) t2, .int (r.toNat : Nat) t3]) F N hl (.cons _ _ (.cons _ _ (.cons _ _ .nil))) (fun n hn => ?_) (by rw [sizeLine_eq]; exact Nat.le_of_ble_eq_true rfl) hh fun h' t k F' N' _ => ?_
  · have b1 := p.toNat_lt
    have b2 := q.toNat_lt
    have b3 := r.toNat_lt
    simp only [List.mem_cons, List.not_mem_nil, or_false] at hn
    omega
  · have e := h h' t k F' N'
    simp only [List.map, octet_back]
    exact e
end
/-- the sixP turns are the sixP orders -/
theorem six_perm {α : Type} (x0 x1 x2 x3 x4 x5 : α) : List.Perm [x0, x2, x3, x5, x4, x1] [x0, x1, x2, x3, x4, x5] := by
  have h : List.Perm ([0, 2, 3, 5, 4, 1] : List Nat) [0, 1, 2, 3, 4, 5] := by decide
  exact h.map fun n => match n with | 0 => x0 | 1 => x1 | 2 => x2 | 3 => x3 | 4 => x4 | _ => x5
theorem keyB_octs {vs us : List Value} (h : vs.map keyB = us.map keyB) : vs.map octs = us.map octs := by
  have inj : ∀ (x y : List UInt8), x.map (·.toNat) = y.map (·.toNat) → x = y := by
    intro x
    induction x with
    | nil => intro y h; cases y with
      | nil => rfl
      | cons _ _ => simp at h
    | cons a x ih => intro y h; cases y with
      | nil => simp at h
      | cons b y =>
        simp only [List.map_cons, List.cons.injEq] at h
        rw [UInt8.toNat_inj.mp h.1, ih y h.2]
  induction vs generalizing us with
  | nil => cases us with
    | nil => rfl
    | cons _ _ => simp at h
  | cons v vs ih => cases us with
    | nil => simp at h
    | cons u us =>
      simp only [List.map_cons, List.cons.injEq] at h ⊢
      exact ⟨inj _ _ h.1, ih h.2⟩
theorem sorted_same {vs us : List Value} (hp : (vs.map octs).Perm (us.map octs)) (h1 : (vs.map keyB).Pairwise (fun a b => ¬ b < a)) (h2 : (us.map keyB).Pairwise (fun a b => ¬ b < a)) : vs.map octs = us.map octs := by
  refine keyB_octs ?_
  have e : ∀ l : List Value, l.map keyB = (l.map octs).map (fun x => x.map (·.toNat)) := fun l => by rw [List.map_map]; rfl
  have hp' : (vs.map keyB).Perm (us.map keyB) := by rw [e, e]; exact hp.map _
  refine List.Perm.eq_of_pairwise (le := fun a b : List Nat => ¬ b < a) (fun a b _ _ x y => List.le_antisymm (List.not_lt.mp x) (List.not_lt.mp y)) h1 h2 hp'
end Mine
namespace Mine
section
variable {prog : Program} {w : World} {A : Around} {E : Value → Shared → Prop} {s : Shared} {h₀ : Heap} {L : Addr} {m : Str → Option Value} {news : List (Addr × Obj)}
theorem pick6 (x0 x1 x2 x3 x4 x5 x6 : Value) : (slicePick #[x0, x1, x2, x3, x4, x5, x6] none (some 6) none).toList = [x0, x1, x2, x3, x4, x5] := rfl
/-- the first six of seven -/
theorem slice6 {value slice : PySem.Expr} {l : Addr} {x0 x1 x2 x3 x4 x5 x6 : Value} {u : Tok} {Q : Value → Shared → Prop} (F : Fr h₀ L s.heap m) (N : News h₀ L s.heap news) (hl : s.heap.IsList l #[x0, x1, x2, x3, x4, x5, x6])
    (h : ∀ D h', Fr h₀ L h' m → News h₀ L h' ((D, W.listOf #[x0, x1, x2, x3, x4, x5] 0) :: news) → (∀ p ∈ news, p.1 < D) → Q (.ref D) { s with heap := h' })
    (hs : subscripted slice false (.ref l) (.ref s.heap.objs.size) = operate [.ref s.heap.objs.size, .ref l] (getItem (.ref l) (.ref s.heap.objs.size)) := by with_unfolding_all rfl) :
    wpAny (model prog w) A (subscriptTail value slice (.ref l) (.ref s.heap.objs.size)) Q E { s with heap := s.heap.push { cls := .type "slice", data := .fields #[.none, .int 6 u, .none] } } := by
  refine tail_any (Heap.IsList.typeIs (s := { s with heap := s.heap.push { cls := .type "slice", data := .fields #[.none, .int 6 u, .none] } }) (hl.push _)) list_getitem_lookup
    (wpAny_getItem_list_slice (hl.push _) (Heap.IsSliceOf.new ..) .none (.int _ _) .none (by simp) ?_ (by rw [sizeLine_eq]; exact Nat.le_of_ble_eq_true rfl)) hs
  have N1 := News.push (F.push { cls := .type "slice", data := .fields #[.none, .int 6 u, .none] }) (N.grown fun _ _ e => Heap.get?_push_of_some _ e) { cls := .type "list", data := .seq (slicePick #[x0, x1, x2, x3, x4, x5, x6] none (some 6) none) }
  rw [Heap.size_push] at N1
  show Q (.ref (s.heap.push _).objs.size) _
  rw [Heap.size_push]
  exact h _ _ ((F.push _).push _) N1 fun p hp => Nat.lt_succ_of_lt (Heap.lt_size (N p hp).1)
end
end Mine
namespace Mine
theorem bytesAll6 {x0 x1 x2 x3 x4 x5 : Array UInt8} {u0 u1 u2 u3 u4 u5 : Tok} : BytesAll [.bytes x0 u0, .bytes x1 u1, .bytes x2 u2, .bytes x3 u3, .bytes x4 u4, .bytes x5 u5] := by
  intro v hv
  simp only [List.mem_cons, List.not_mem_nil, or_false] at hv
  rcases hv with rfl | rfl | rfl | rfl | rfl | rfl <;> exact ⟨_, _, rfl⟩
theorem ne_bytesSame {prog : Program} {w : World} {A : Around} {E : Value → Shared → Prop} {s : Shared} {b c : Array UInt8} {t u : Tok} {Q : Value → Shared → Prop} (e : b = c) (h : Q (.bool false) s) : wpAny (model prog w) A (compareOp .NotEq (.bytes b t) (.bytes c u)) Q E s := by
  subst e
  refine PySem.W.ne_bytes ?_
  rw [bne_self_eq_false]
  exact h
end Mine
namespace Mine
/-- what sorted() of a list of bytes gives -/
def SortedOf (vs' vs : List Value) : Prop := vs'.Perm vs ∧ (vs'.map keyB).Pairwise (fun a b => ¬ b < a)
theorem sortedBq {prog : Program} {w : World} {A : Around} {E : Value → Shared → Prop} {s : Shared} {h₀ : Heap} {L : Addr} {m : Str → Option Value} {news : List (Addr × Obj)} {l : Addr} {vs : List Value} {Q : Value → Shared → Prop} (F : Fr h₀ L s.heap m) (N : News h₀ L s.heap news) (hl : s.heap.IsList l vs.toArray) (hB : BytesAll vs) (h64 : vs.length < 64)
    (h : ∀ (D : Addr) (h' : Heap) (vs' : List Value) (e : Nat), Fr h₀ L h' m → News h₀ L h' ((D, W.listOf vs'.toArray e) :: news) → (∀ p ∈ news, p.1 < D) → SortedOf vs' vs → Q (.ref D) { s with heap := h' }) :
    wpAny (model prog w) A (call (.builtin "sorted") [.ref l]) Q E s := sortedBs F N hl hB h64 fun D h' vs' e F' N' l1 p1 p2 => h D h' vs' e F' N' l1 ⟨p1, p2⟩
theorem sorted_law {a b c : UInt8} {u0 u1 u2 u3 u4 u5 : Tok} {vs us ys : List Value} (hB6 : BytesAll [.bytes #[a, b, c] u0, .bytes #[b, a, c] u1, .bytes #[b, c, a] u2, .bytes #[c, b, a] u3, .bytes #[c, a, b] u4, .bytes #[a, c, b] u5]) (hBy : BytesAll ys)
    (h1 : SortedOf vs [.bytes #[a, b, c] u0, .bytes #[b, a, c] u1, .bytes #[b, c, a] u2, .bytes #[c, b, a] u3, .bytes #[c, a, b] u4, .bytes #[a, c, b] u5]) (h2 : SortedOf us ys) (hys : ys.map octs = (sixP.take (cnt 3 0)).map (elt3 a b c)) :
    BytesAll vs ∧ BytesAll us ∧ vs.map octs = us.map octs := by
  refine ⟨fun v hv => hB6 v (h1.1.mem_iff.mp hv), fun v hv => hBy v (h2.1.mem_iff.mp hv), sorted_same ?_ h1.2 h2.2⟩
  have p1 := h1.1.map octs
  have p2 := (h2.1.map octs).symm
  rw [hys] at p2
  refine p1.trans (List.Perm.trans ?_ p2)
  exact six_perm [a, b, c] [a, c, b] [b, a, c] [b, c, a] [c, a, b] [c, b, a]
end Mine
end
/- Cc -/
section
open PySem PySem.W PySem.Calls PyProof.Rows
example : True := by
  k_with_none
  k_with "my_enter" => (k_dflt (
  refine' Mine.enterC _ ?k1z1 ?k2z1 ?k3z1 ?k4z1 ?kAz1 ?kFz1 ?kKz1 ?kRz1 ?k6z1 ?k7z1 ?k8z1 ?k9z1 ?kBz1 ?_ ?c2z1 ?c3z1 ?c4z1 ?c5z1 ?c6z1
  (case kAz1 => exact rfl); (case kFz1 => exact rfl); (case kKz1 => assumption); (case k1z1 => k_asm); (case k2z1 => k_asm); (case k3z1 => k_asm); (case k4z1 => k_asm); (case kRz1 => assumption)
  (case k6z1 => k_is); (case k7z1 => k_is); (case k8z1 => exact Nat.lt_of_le_of_lt (Nat.le_add_right _ _) (by assumption)); (case k9z1 => exact BindsTo.of_eq rfl); (case c5z1 => decide); (case kBz1 => exact locs rfl); (case c2z1 => exact rfl); (case c3z1 => exact rfl); (case c4z1 => exact rfl); (case c6z1 => exact Nat.succ_pos _)))
  k_with "execs cons" => (k_here; (with_reducible show wpAny _ _ _ _ _ (Shared.mk _ _ _ (HAdd.hAdd _ 1) _)); (with_reducible rename Fr _ _ _ _ => F9z2); (with_reducible rename News _ _ _ _ => N9z2); with_reducible refine Mine.toks_let F9z2 N9z2 ?_; intro m9z2 n9z2 tkz2 htkz2 F8z2 N8z2; clear F9z2 N9z2)
  k_with "execs nil" => (k_here; (with_reducible show wpAny _ _ _ _ _ (Shared.mk _ _ _ (HAdd.hAdd _ 1) _)); (with_reducible rename Fr _ _ _ _ => F9z3); (with_reducible rename News _ _ _ _ => N9z3); with_reducible refine Mine.toks_let F9z3 N9z3 ?_; intro m9z3 n9z3 tkz3 htkz3 F8z3 N8z3; clear F9z3 N9z3)
  k_with "ite" => (k_here; first | refine PySem.W.ite_pos (by assumption) ?_ | refine PySem.W.ite_neg (ne_true_of_eq_false (by assumption)) ?_)
  k_with "subscriptTail Name Constant ref int" => (k_here; k_dflt (refine' Mine.item_L ?hlz5 ?h0z5 ?hhiz5 ?hxz5 ?_; (case hlz5 => first | exact Fr.lst (by k_asm) (by assumption) | exact News.isList (by k_asm) (by k_mem)); (case h0z5 => decide); (case hhiz5 => decide); (case hxz5 => exact rfl)))
  k_with "subscriptTail" => (k_here; (with_reducible show wpAny _ _ (subscriptTail _ _ (Value.bytes _ _) (Value.int _ _)) _ _ _); k_dflt (refine' Mine.item_B ?hxz6 ?hfz6 ?h0z6 ?_; (case hxz6 => exact rfl); (case hfz6 => exact Nat.le_of_ble_eq_true rfl); (case h0z6 => decide)))
  k_with "call builtin:len" => (k_here; (with_reducible show wpAny _ _ (call _ [Value.bytes _ _]) _ _ _); k_dflt (refine' Mine.len_B ?hnz7 ?hzz7 ?_; (case hnz7 => first | exact (rfl : _ = 2) | exact (rfl : _ = 3)); (case hzz7 => decide); (try dsimp only)))
  k_with "CompRest" => (with_unfolding_all (refine LCg.CompRest.succ ?_; intro vz8 Iz8 oIz8 Cz8 oCz8 Dz8 mz8 hz8 tkz8 Ez8 hvz8 hCz8 hxz8 Fz8 Nz8 offz8 nez8; obtain ⟨c9z8, u9z8, hc9z8, hv9z8⟩ := hvz8; subst hv9z8; have hc8 := Option.some.inj hc9z8; subst hc8; clear hc9z8; (try simp only [LCg.Off3, and_true] at offz8)))
  k_with "getMethod ref" => (k_here; k_dflt (first | refine Mine.dict_values_method (by first | with_reducible assumption | exact Heap.dictOf_iff.mpr ⟨_, Fr.keep (by k_asm) _ _ (by with_reducible assumption), by with_reducible assumption⟩ | exact kda_dict (by k_asm) (by k_mem) (by with_reducible assumption)) ?_ | refine Mine.dict_items_method (by first | with_reducible assumption | exact Heap.dictOf_iff.mpr ⟨_, Fr.keep (by k_asm) _ _ (by with_reducible assumption), by with_reducible assumption⟩ | exact kda_dict (by k_asm) (by k_mem) (by with_reducible assumption)) ?_))
  k_with "call builtin:dict.values" => (k_here; k_dflt (refine Mine.dict_values_call (by first | with_reducible assumption | exact Heap.dictOf_iff.mpr ⟨_, Fr.keep (by k_asm) _ _ (by with_reducible assumption), by with_reducible assumption⟩ | exact kda_dict (by k_asm) (by k_mem) (by with_reducible assumption)) (by assumption) (by k_asm) (by k_asm) ?_); intro vwz10 hz10 hvz10 Fz10 Nz10; (try k_sweep))
  k_with "call builtin:dict.items" => (k_here; k_dflt (refine Mine.dict_items_call (by first | with_reducible assumption | exact Heap.dictOf_iff.mpr ⟨_, Fr.keep (by k_asm) _ _ (by with_reducible assumption), by with_reducible assumption⟩ | exact kda_dict (by k_asm) (by k_mem) (by with_reducible assumption)) (by assumption) (by k_asm) (by k_asm) ?_); intro vwz11 hz11 hvz11 Fz11 Nz11; (try k_sweep))
  k_with "exec For Name Call cons nil" => (k_here; (with_reducible show wpAny _ _ (exec (Stmt.For (PySem.Expr.Name _ _) (PySem.Expr.Call (PySem.Expr.Attribute _ _ _) [] [] _) _ [] _) _) _ _ _); k_dflt (refine Mine.forValues (by k_asm) rfl ?_))
  k_with "exec For Tuple Call cons nil" => (k_here; (with_reducible show wpAny _ _ (exec (Stmt.For (PySem.Expr.Tuple _ _ _) (PySem.Expr.Call (PySem.Expr.Attribute _ _ _) [] [] _) _ [] _) _) _ _ _); k_dflt (refine Mine.forItems (by k_asm) rfl ?_))
  k_with "TurnEnd" => (dsimp only [Mine.TurnEnd])
  k_with "k_steps" => repeat' (first | (k_unfold; (try dsimp only)) | (k_end; kc_close) | ((first | (with_reducible show wpAny _ _ (exec _ _) _ _ _) | (with_reducible show wpAny _ _ (execs (_ :: _) _) _ _ _) | (with_reducible show wpAny _ _ (eval (PySem.Expr.BinOp _ _ _ _) _) _ _ _) | (with_reducible show wpAny _ _ (eval (PySem.Expr.Call _ _ _ _) _) _ _ _) | (with_reducible show wpAny _ _ (eval (PySem.Expr.Subscript _ _ _) _) _ _ _) | (with_reducible show wpAny _ _ (eval (PySem.Expr.Tuple _ _ _) _) _ _ _) | (with_reducible show wpAny _ _ (eval (PySem.Expr.List _ _) _) _ _ _)); k_fold; walk1) | walk1 | (dsimp only; walk1) | (leave1; walk_say "STEP leave1"; (try dsimp only)) | fail "no step")
  k_with "k_ne" => (refine neN ?_; (try dsimp only); first | exact Nat.ne_of_gt (by with_reducible assumption) | exact Nat.ne_of_lt (by with_reducible assumption) | exact Mine.Off.ne (by with_reducible assumption) | exact Mine.Off.sym (by with_reducible assumption) | with_reducible assumption | exact Ne.symm (by with_reducible assumption) | omega)
  trivial
example : (PySem.Challenge.rw_zo0010_01 = PySem.Challenge.rw_zo0010_01) ∧ (Mine.hd.heap_1 = Mine.hd.heap_1) := by k_fill; exact ⟨rfl, rfl⟩
namespace Mine
/-- count_calls between two turns -/
def cntM (m₀ : Str → Option Value) (v : Value) (n : Int) (t : Tok) : Str → Option Value := fun y => if y = Str.ofString "nc" then some (.int n t) else if y = Str.ofString "calls" then some v else m₀ y
def cntJ (cs : List (Str × Int)) (m₀ : Str → Option Value) (i : Nat) (m : Str → Option Value) (news : List (Addr × Obj)) : Prop :=
  news = [] ∧ ((i = 0 ∧ m = m₀) ∨ ∃ v t, m = cntM m₀ v (total (cs.take i)) t)
theorem cntJ_first {cs : List (Str × Int)} {m₀ : Str → Option Value} {n : Int} {v : Value} {t : Tok} (h : total (cs.take (0 + 1)) = total (cs.take 0) + n) :
    cntJ cs m₀ (0 + 1) (fun y => if y = Str.ofString "nc" then some (.int (0 + n) t) else if y = Str.ofString "calls" then some v else m₀ y) [] := ⟨rfl, .inr ⟨v, t, by rw [h]; rfl⟩⟩
theorem cntJ_next {cs : List (Str × Int)} {m₀ : Str → Option Value} {n : Int} {v v' : Value} {t t' : Tok} {i : Nat} (h : total (cs.take (i + 1)) = total (cs.take i) + n) :
    cntJ cs m₀ (i + 1) (fun y => if y = Str.ofString "nc" then some (.int (total (cs.take i) + n) t) else if y = Str.ofString "calls" then some v else cntM m₀ v' (total (cs.take i)) t' y) [] := ⟨rfl, .inr ⟨v, t, by
  rw [h]
  funext y
  unfold cntM
  by_cases h1 : y = Str.ofString "nc"
  · simp only [h1, if_true]
  · simp only [h1, if_false]
    by_cases h2 : y = Str.ofString "calls"
    · simp only [h2, if_true]
    · simp only [h2, if_false]⟩⟩
set_option maxHeartbeats 16000000 in
theorem c_count {prog : Program} {w : World} {mean : ExcName → Option Value} {mg mb : Str → Option Value} (D : Addr) (od : Obj) (kvs : List (Str × Value)) (cs : List (Str × Int)) (hod : DictObj prog w od kvs) (hc : Cont kvs cs) (lo : (D == sysModules) = false) :
  Claim prog w mean mg mb 70 [.ref D] 2 10 (fun h => h.get? D = some od) (fun _ v _ => ∃ t, v = .int (total cs) t) := by
  intro dp un gd cn cs' a ccd cl outer A₀ base h₀ L m s Q E B F X T hk hd hu hl hret
  walk_at "my_enter"
  clear hret B F X T
  intro g₀ L' h₁ tk Q' hret hg htk F' N' B' X' T'
  subst hg
  (try dsimp only)
  w_on
  refine letAE ?_
  intro Ak ek9 gk dk ok
  k_steps
  rename Fr _ _ _ _ => F5
  rename News _ _ _ _ => N5
  rename Heap.IsValuesView _ _ _ => hv5
  refine ValuesSrc.ofM (cntJ cs) hv5 hod F5 N5 ⟨rfl, .inl ⟨rfl, rfl⟩⟩ (fun _ h m news _ F _ => F.keep _ _ hl) ?_ ?_
  · clear N5
    intro I i k v m₁ news₁ o h₁ tk₁ he hJ hne F1 N1
    replace F1 : Fr s.heap L' h₁ _ := F1
    replace N1 : News s.heap L' h₁ _ := N1
    obtain ⟨n, t, rfl, hcs⟩ := hc.at he
    have ht := total_take hcs
    obtain ⟨rfl, ⟨rfl, rfl⟩ | ⟨v, t0, rfl⟩⟩ := hJ
    · clear F5
      k_steps
      rename Fr _ _ _ _ => F9
      rename News _ _ _ _ => N9
      exact ⟨_, _, _, _, rfl, F9, N9, (by intro p hp; cases hp), cntJ_first ht⟩
    · clear F5
      unfold cntM at F1
      k_steps
      rename Fr _ _ _ _ => F9
      rename News _ _ _ _ => N9
      exact ⟨_, _, _, _, rfl, F9, N9, (by intro p hp; cases hp), cntJ_next ht⟩
  · intro h' tk m news hJ F1 N1
    replace F1 : Fr s.heap L' h' _ := F1
    replace N1 : News s.heap L' h' _ := N1
    rw [hc.length] at hJ
    have ht : cs.take cs.length = cs := List.take_length
    obtain ⟨rfl, ⟨h0, rfl⟩ | ⟨v, t0, rfl⟩⟩ := hJ
    · clear F5 N5
      have : cs = [] := List.eq_nil_of_length_eq_zero h0
      subst this
      k_steps
      all_goals (try dsimp only)
      all_goals (refine hret _ _ _ _ _ (by assumption) ?_)
      all_goals exact ⟨_, rfl⟩
    · clear F5 N5
      rw [ht] at F1
      unfold cntM at F1
      k_steps
      all_goals (try dsimp only)
      all_goals (refine hret _ _ _ _ _ (by assumption) ?_)
      all_goals exact ⟨_, rfl⟩
end Mine
end
/- MeF -/
section
open PySem PySem.W PySem.Calls PyProof.Rows
namespace Mine
theorem up255 {a : Int} (h : 0 ≤ a ∧ a ≤ 21) : 0 ≤ a ∧ a ≤ 255 := ⟨h.1, Int.le_trans h.2 (by decide)⟩
/-- the lengths of a small row's texts -/
theorem esc3 {a b c : Int} (ha : 0 ≤ a ∧ a ≤ 21) (hb : 0 ≤ b ∧ b ≤ 21) (hc : 0 ≤ c ∧ c ≤ 21) :
    ((escS a.toNat b.toNat c.toNat).length : Int) = escN a b c ∧ (0 ≤ ((escS a.toNat b.toNat c.toNat).length : Int) ∧ ((escS a.toNat b.toNat c.toNat).length : Int) ≤ 1000) ∧ (textS a.toNat b.toNat c.toNat).length ≤ 1000 := by
  obtain ⟨ha, ha'⟩ := ha
  obtain ⟨hb, hb'⟩ := hb
  obtain ⟨hc, hc'⟩ := hc
  obtain ⟨n, rfl⟩ := Int.eq_ofNat_of_zero_le ha
  obtain ⟨m, rfl⟩ := Int.eq_ofNat_of_zero_le hb
  obtain ⟨k, rfl⟩ := Int.eq_ofNat_of_zero_le hc
  clear ha hb hc
  rw [escS_len, textS_len]
  unfold escN
  simp only [Int.toNat_natCast]
  omega
end Mine
end
/- Me -/
section
open PySem PySem.W PySem.Calls PyProof.Rows
example : True := by
  k_with_none
  k_with "my_enter" => (k_dflt (
  refine' Mine.enterC _ ?k1z0 ?k2z0 ?k3z0 ?k4z0 ?kAz0 ?kFz0 ?kKz0 ?kRz0 ?k6z0 ?k7z0 ?k8z0 ?k9z0 ?kBz0 ?_ ?c2z0 ?c3z0 ?c4z0 ?c5z0 ?c6z0
  (case kAz0 => exact rfl); (case kFz0 => exact rfl); (case kKz0 => assumption); (case k1z0 => k_asm); (case k2z0 => k_asm); (case k3z0 => k_asm); (case k4z0 => k_asm); (case kRz0 => assumption)
  (case k6z0 => k_is); (case k7z0 => k_is); (case k8z0 => exact Nat.lt_of_le_of_lt (Nat.le_add_right _ _) (by assumption)); (case k9z0 => exact BindsTo.of_eq rfl); (case c5z0 => decide); (case kBz0 => exact locs rfl); (case c2z0 => exact rfl); (case c3z0 => exact rfl); (case c4z0 => exact rfl); (case c6z0 => exact Nat.succ_pos _)))
  k_with "execs cons" => (k_here; (with_reducible show wpAny _ _ _ _ _ (Shared.mk _ _ _ (HAdd.hAdd _ 1) _)); (with_reducible rename Fr _ _ _ _ => F9z1); (with_reducible rename News _ _ _ _ => N9z1); with_reducible refine Mine.toks_let F9z1 N9z1 ?_; intro m9z1 n9z1 tkz1 htkz1 F8z1 N8z1; clear F9z1 N9z1)
  k_with "execs nil" => (k_here; (with_reducible show wpAny _ _ _ _ _ (Shared.mk _ _ _ (HAdd.hAdd _ 1) _)); (with_reducible rename Fr _ _ _ _ => F9z2); (with_reducible rename News _ _ _ _ => N9z2); with_reducible refine Mine.toks_let F9z2 N9z2 ?_; intro m9z2 n9z2 tkz2 htkz2 F8z2 N8z2; clear F9z2 N9z2)
  k_with "ite" => (k_here; first | refine PySem.W.ite_pos (by assumption) ?_ | refine PySem.W.ite_neg (ne_true_of_eq_false (by assumption)) ?_)
  k_with "subscriptTail Name Constant ref int" => (k_here; k_dflt (refine' Mine.item_L ?hlz4 ?h0z4 ?hhiz4 ?hxz4 ?_; (case hlz4 => first | exact Fr.lst (by k_asm) (by assumption) | exact News.isList (by k_asm) (by k_mem)); (case h0z4 => decide); (case hhiz4 => decide); (case hxz4 => exact rfl)))
  k_with "subscriptTail" => (k_here; (with_reducible show wpAny _ _ (subscriptTail _ _ (Value.bytes _ _) (Value.int _ _)) _ _ _); k_dflt (refine' Mine.item_B ?hxz5 ?hfz5 ?h0z5 ?_; (case hxz5 => exact rfl); (case hfz5 => exact Nat.le_of_ble_eq_true rfl); (case h0z5 => decide)))
  k_with "call builtin:len" => (k_here; (with_reducible show wpAny _ _ (call _ [Value.bytes _ _]) _ _ _); k_dflt (refine' Mine.len_B ?hnz6 ?hzz6 ?_; (case hnz6 => first | exact (rfl : _ = 2) | exact (rfl : _ = 3)); (case hzz6 => decide); (try dsimp only)))
  k_with "CompRest" => (with_unfolding_all (refine LCg.CompRest.succ ?_; intro vz7 Iz7 oIz7 Cz7 oCz7 Dz7 mz7 hz7 tkz7 Ez7 hvz7 hCz7 hxz7 Fz7 Nz7 offz7 nez7; obtain ⟨c9z7, u9z7, hc9z7, hv9z7⟩ := hvz7; subst hv9z7; have hc8 := Option.some.inj hc9z7; subst hc8; clear hc9z7; (try simp only [LCg.Off3, and_true] at offz7)))
  k_with "CompRest" => (with_unfolding_all (refine LCg.CompRest.succ ?_; intro vz8 Iz8 oIz8 Cz8 oCz8 Dz8 mz8 hz8 tkz8 Ez8 hvz8 hCz8 hxz8 Fz8 Nz8 offz8 nez8; replace nez8 := Mine.apart3 nez8; simp only [List.getElem?_toArray, List.getElem?_cons_succ, List.getElem?_cons_zero, Option.some.injEq] at hvz8; subst hvz8; (try k_sweep)))
  k_with "CompEnd" => ((with_reducible rename LCg.Off3 _ _ _ _ => of9z9); (with_reducible rename LCg.NsObj _ _ => ns9z9); refine' Mine.compEnd_same ?Fz9 ?Nz9 of9z9 ?Sz9 ?_; (case Fz9 => k_asm); (case Nz9 => k_asm); (case Sz9 => first | exact trivial | exact .inl (by assumption) | exact .inr ⟨_, by k_mem, rfl, _, rfl⟩); clear of9z9; (try (with_reducible rename Mine.Apart3 _ _ _ => ne9z9; clear ne9z9)))
  k_with "call builtin:list.append" => (k_here; (fail_if_success (with_reducible show wpAny _ _ (call _ [_, _]) _ _ _)); dsimp only [List.cons_append, List.nil_append])
  k_with "execs cons Assign cons" => walk_at "execs cons"
  k_with "subscriptTail Name Name ref int" => (k_here; k_dflt (refine' Mine.item_L ?hlz12 ?h0z12 ?hhiz12 ?hxz12 ?_; (case hlz12 => first | exact Fr.lst (by k_asm) (by assumption) | exact News.isList (by k_asm) (by k_mem)); (case h0z12 => decide); (case hhiz12 => decide); (case hxz12 => exact rfl)))
  k_with "k_ne" => (refine neN ?_; (try dsimp only); first | exact Nat.ne_of_gt (by with_reducible assumption) | exact Nat.ne_of_lt (by with_reducible assumption) | exact Mine.Off.ne (by with_reducible assumption) | exact Mine.Off.sym (by with_reducible assumption) | with_reducible assumption | exact Ne.symm (by with_reducible assumption) | omega)
  k_with "FinE" => ((unfold LCg.FinE); intro Dz15 hz15 tkz15 Fz15 Nz15 o1z15; (try (replace o1z15 := Mine.allOff_1 o1z15; simp +zetaDelta only [Mine.AllOff, and_true] at o1z15)); (repeat obtain ⟨l9z15, o1z15⟩ := o1z15); (try simp only [List.nil_append, List.cons_append] at Nz15); (try dsimp only))
  k_with "FinA" => ((unfold LCg.FinA); intro Dz16 hz16 tkz16 Fz16 Nz16 o1z16; (try (replace o1z16 := Mine.allOff_1 o1z16; simp +zetaDelta only [Mine.AllOff, and_true] at o1z16)); (repeat obtain ⟨l9z16, o1z16⟩ := o1z16); (try simp only [List.nil_append, List.cons_append] at Nz16); (try dsimp only))
  k_with "call builtin:list.append" => (k_here; (with_reducible show wpAny _ _ (call (Value.builtin _) [Value.ref _, _]) _ _ _); (k_dflt (refine' append_K ?k1z17 ?k2z17 ?k3z17 ?_ ?zz17; (case k1z17 => k_asm); (case k2z17 => k_asm); (case k3z17 => k_upd); (case zz17 => first | exact Nat.le_of_ble_eq_true rfl | size_fits); k_whole));  intro hz17 Fz17 Nz17; (try k_sweep))
  k_with "newList" => (k_here; k_dflt (refine' newList_K ?k1z18 ?k2z18 ?_ ?zz18; (case k1z18 => k_asm); (case k2z18 => k_asm); (case zz18 => first | exact Nat.le_of_ble_eq_true rfl | size_fits); k_whole); intro lz18 hz18 Fz18 Nz18 l1z18; (try k_lt l1z18); (try k_sweep))
  k_with "subscriptTail Name Constant ref int" => (k_here; (with_reducible show wpAny _ _ (subscriptTail (PySem.Expr.Name (PySem.Str.ofString "entry") _) _ _ _) _ _ _); k_dflt (refine' item_tupleT ?tz19 ?az19 ?bz19 ?cz19 ?dz19 ?_; (case tz19 => exact Mine.isTup_of (by k_asm) (by k_mem)); (case az19 => decide); (case bz19 => decide); (case cz19 => rfl); (case dz19 => rfl)))
  k_with "k_mem" => first | exact List.Mem.head _ | (refine' List.Mem.tail _ ?_; k_mem) | exact Mine.InK.mem (by with_reducible assumption)
  k_with "k_all" => assumption
  k_with "CompSrc" => (k_here; k_dflt (refine Mine.compSrc_both (by rfl) (by k_asm) (by k_asm) (Mine.srcSub (by assumption) (by (repeat (first | exact Mine.sub_refl | apply Mine.sub_tail)))) (by exact Nat.le_of_ble_eq_true rfl) ?_; intro gz22; lcg_lit))
  k_with "CompEnd" => ((with_reducible rename LCg.Off3 _ _ _ _ => of9z23); (with_reducible rename LCg.NsObj _ _ => ns9z23); refine' Mine.compEnd_same ?Fz23 ?Nz23 of9z23 ?Sz23 ?_; (case Fz23 => k_asm); (case Nz23 => k_asm); (case Sz23 => first | exact trivial | exact .inl (by assumption) | exact Mine.srcSub (by assumption) (by (repeat (first | exact Mine.sub_refl | apply Mine.sub_tail))) | exact .inr ⟨_, by k_mem, rfl, _, rfl⟩); clear of9z23; (try (with_reducible rename Mine.Apart3 _ _ _ => ne9z23; clear ne9z23)))
  k_with "eval Dict cons cons" => (k_here; k_dflt (refine' kdn_eval (knd := PySem.strKind _ _) ?Fz24 ?Nz24 ?bz24 ?az24 ?lz24 ?ez24 ?nz24 ?_; (case Fz24 => k_asm); (case Nz24 => k_asm); (case bz24 => exact Top.nolimit (by k_asm)); (case az24 => rfl); (case lz24 => rfl); (case ez24 => exact List.cons_ne_nil _ _); (case nz24 => exact Nat.le_of_ble_eq_true rfl)); intro dz24 hz24 oz24 Fz24 Nz24 l1z24 loz24 hdz24; (try k_lt l1z24); (try k_sweep))
  k_with "KdnMade" => (k_here; k_dflt (refine' kdn_made_str ?Fz25 ?Nz25 ?Uz25 ?dz25 ?kz25 ?nz25 ?_; (case Fz25 => k_asm); (case Nz25 => k_asm); (case Uz25 => k_updF); (case dz25 => k_asm); (case kz25 => rfl); (case nz25 => exact List.pairwise_singleton _ _); intro hz25 oz25 Fz25 Nz25 hdz25); (try dsimp only at Nz25); (try k_sweep))
  k_with "subscriptTail Name Name ref str" => (k_here; k_dflt (refine kda_item (knd := PySem.strKind _ _) (by k_asm) (by k_mem) (by with_reducible assumption) (strKind_is _ _ _ _) (by with_reducible assumption) ?_))
  k_with "subscriptTail Subscript Name Name Name bytes int" => (k_here; k_dflt (refine' Mine.item_B ?hxz27 ?hfz27 ?h0z27 ?_; (case hxz27 => exact rfl); (case hfz27 => exact Nat.le_of_ble_eq_true rfl); (case h0z27 => decide)))
  k_with "subscriptTail Name Slice ref ref" => (k_here; (with_reducible rename Fr _ _ _ _ => Fz28); (with_reducible rename News _ _ _ _ => Nz28); k_dflt (refine Mine.slice_first4 (s := ⟨_, _, _, _, _⟩) Fz28 Nz28 (Mine.isTup_of Nz28 (by k_mem)) ?_); intro Dz28 hz28 Fz28 Nz28; (try k_sweep))
  k_with "compareOp NotIn str ref" => (k_here; k_dflt (refine kdg_notin (knd := PySem.strKind _ _) (by k_asm) (by k_mem) (by with_reducible assumption) (by with_reducible assumption) (strKind_is _ _ _ _) _ (by with_reducible assumption) ?_); (try dsimp only [Bool.not_true, Bool.not_false]))
  k_with "CompSrc" => (k_here; k_dflt (refine LCg.CompSrc.range (by rfl) (by k_asm) (by k_asm) (by assumption) (by first | decide | rfl) (by first | rfl | decide) (by exact Nat.le_of_ble_eq_true rfl) ?_; intro gz30; lcg_lit))
  k_with "CompRest" => (with_unfolding_all (refine LCg.CompRest.succ ?_; intro vz31 Iz31 oIz31 Cz31 oCz31 Dz31 mz31 hz31 tkz31 Ez31 hvz31 hCz31 hxz31 Fz31 Nz31 offz31 nez31; replace nez31 := Mine.apart3 nez31; (obtain ⟨t9z31, hv9z31⟩ := hvz31); subst hv9z31; (try k_sweep)))
  k_with "my_enterC" => (k_dflt (
  refine' Mine.enterCC _ ?k1z32 ?k2z32 ?k3z32 ?k4z32 ?kAz32 ?kFz32 ?kKz32 ?kRz32 ?k6z32 ?k7z32 ?k8z32 ?k9z32 ?kBz32 ?kDz32 ?_ ?c2z32 ?c3z32 ?c4z32
  (case kAz32 => exact rfl); (case kFz32 => exact rfl); (case kKz32 => assumption); (case k1z32 => k_asm); (case k2z32 => k_asm); (case k3z32 => k_asm); (case k4z32 => k_asm); (case kRz32 => assumption)
  (case k6z32 => k_is); (case k7z32 => k_is); (case k8z32 => exact Nat.lt_of_le_of_lt (Nat.le_add_right _ _) (by assumption)); (case k9z32 => exact BindsTo.of_eq rfl); (case kBz32 => exact rfl); (case kDz32 => decide +kernel); (case c2z32 => exact rfl); (case c3z32 => exact rfl); (case c4z32 => exact rfl)))
  k_with "binaryOp Mult int int" => (k_here; k_dflt (refine PySem.mul_int ?_ (IntMulOk.of_right (PySem.intBits_le_64 (by first | omega | (split <;> omega)) (by first | omega | (split <;> omega))))))
  k_with "getMethod ref" => (k_here; k_dflt (first | refine Mine.dict_values_method (by first | with_reducible assumption | exact Heap.dictOf_iff.mpr ⟨_, Fr.keep (by k_asm) _ _ (by with_reducible assumption), by with_reducible assumption⟩ | exact kda_dict (by k_asm) (by k_mem) (by with_reducible assumption)) ?_ | refine Mine.dict_items_method (by first | with_reducible assumption | exact Heap.dictOf_iff.mpr ⟨_, Fr.keep (by k_asm) _ _ (by with_reducible assumption), by with_reducible assumption⟩ | exact kda_dict (by k_asm) (by k_mem) (by with_reducible assumption)) ?_))
  k_with "call builtin:dict.values" => (k_here; k_dflt (refine Mine.dict_values_call (by first | with_reducible assumption | exact Heap.dictOf_iff.mpr ⟨_, Fr.keep (by k_asm) _ _ (by with_reducible assumption), by with_reducible assumption⟩ | exact kda_dict (by k_asm) (by k_mem) (by with_reducible assumption)) (by assumption) (by k_asm) (by k_asm) ?_); intro vwz35 hz35 hvz35 Fz35 Nz35; (try k_sweep))
  k_with "call builtin:dict.items" => (k_here; k_dflt (refine Mine.dict_items_call (by first | with_reducible assumption | exact Heap.dictOf_iff.mpr ⟨_, Fr.keep (by k_asm) _ _ (by with_reducible assumption), by with_reducible assumption⟩ | exact kda_dict (by k_asm) (by k_mem) (by with_reducible assumption)) (by assumption) (by k_asm) (by k_asm) ?_); intro vwz36 hz36 hvz36 Fz36 Nz36; (try k_sweep))
  k_with "exec For Name Call cons nil" => (k_here; (with_reducible show wpAny _ _ (exec (Stmt.For (PySem.Expr.Name _ _) (PySem.Expr.Call (PySem.Expr.Attribute _ _ _) [] [] _) _ [] _) _) _ _ _); k_dflt (refine Mine.forValues (by k_asm) rfl ?_))
  k_with "exec For Tuple Call cons nil" => (k_here; (with_reducible show wpAny _ _ (exec (Stmt.For (PySem.Expr.Tuple _ _ _) (PySem.Expr.Call (PySem.Expr.Attribute _ _ _) [] [] _) _ [] _) _) _ _ _); k_dflt (refine Mine.forItems (by k_asm) rfl ?_))
  k_with "setItem ref str" => (k_here; k_dflt (refine' kda_set (knd := PySem.strKind _ _) ?Fz40 ?Nz40 ?Uz40 ?dz40 (strKind_is _ _ _ _) ?zz40 ?_; (case Fz40 => k_asm); (case Nz40 => k_asm); (case Uz40 => k_updF); (case dz40 => with_reducible assumption); (case zz40 => with_reducible assumption)); intro hz40 oz40 Fz40 Nz40 hdz40; (try dsimp only at Nz40); (try k_sweep))
  k_with "compareOp In str ref" => (k_here; k_dflt (refine kda_in (knd := PySem.strKind _ _) (by k_asm) (by k_mem) (by with_reducible assumption) (by with_reducible assumption) (strKind_is _ _ _ _) _ (by with_reducible assumption) ?_))
  k_with "subscriptTail" => (k_here; (with_reducible show wpAny _ _ (subscriptTail _ _ (Value.ref _) (Value.str _ _)) _ _ _); k_dflt (refine kda_item (knd := PySem.strKind _ _) (by k_asm) (by k_mem) (by with_reducible assumption) (strKind_is _ _ _ _) (by with_reducible assumption) ?_))
  k_with "getItem ref str" => (k_here; k_dflt (refine wpAny_getItem_of (knd := PySem.strKind _ _) (strKind_is _ _ _ _) (kda_dict (by k_asm) (by k_mem) (by with_reducible assumption)).mapOf (by with_reducible assumption) ?_))
  k_with "exec For Name Name cons nil" => (k_here; k_dflt (refine Mine.forListA (by k_asm) rfl ?_))
  k_with "TurnEnd" => (dsimp only [Mine.TurnEnd])
  k_with "exec For Tuple Call cons nil" => (k_here; (have pz' : Mine.Pause := by with_reducible assumption); clear pz'; refine Mine.Hold.out ?_)
  k_with "call ref" => (k_here; (have pz' : Mine.Pause := by with_reducible assumption); clear pz'; refine Mine.Hold.out ?_)
  k_with "compareOp Eq ref ref" => (k_here; (have pz' : Mine.Pause := by with_reducible assumption); clear pz'; refine Mine.Hold.out ?_)
  k_with "k_steps" => repeat' (first | (k_unfold; (try dsimp only)) | (k_end; kc_close) | ((first | (with_reducible show wpAny _ _ (exec _ _) _ _ _) | (with_reducible show wpAny _ _ (execs (_ :: _) _) _ _ _) | (with_reducible show wpAny _ _ (eval (PySem.Expr.BinOp _ _ _ _) _) _ _ _) | (with_reducible show wpAny _ _ (eval (PySem.Expr.Call _ _ _ _) _) _ _ _) | (with_reducible show wpAny _ _ (eval (PySem.Expr.Subscript _ _ _) _) _ _ _) | (with_reducible show wpAny _ _ (eval (PySem.Expr.Tuple _ _ _) _) _ _ _) | (with_reducible show wpAny _ _ (eval (PySem.Expr.List _ _) _) _ _ _)); k_fold; walk1) | walk1 | (dsimp only; walk1) | (leave1; walk_say "STEP leave1"; (try dsimp only)) | fail "no step")
  trivial
example : (PySem.Challenge.rw_zo0010_01 = PySem.Challenge.rw_zo0010_01) ∧ (Mine.hd.heap_1 = Mine.hd.heap_1) := by k_fill; exact ⟨rfl, rfl⟩
namespace Mine
set_option maxHeartbeats 4000000 in
theorem c_mean {prog : Program} {w : World} {mean : ExcName → Option Value} {mg mb : Str → Option Value} (H G R : Addr) (x y z p q r : Int) (i1 i2 i3 j1 j2 j3 : Tok) (w0 w1 w2 w3 : Int) (c1 c2 c3 : Int × Int × Int)
   (hx : 0 ≤ x ∧ x ≤ 21) (hy : 0 ≤ y ∧ y ≤ 21) (hz : 0 ≤ z ∧ z ≤ 21) (hp : 0 ≤ p ∧ p ≤ 21) (hq : 0 ≤ q ∧ q ≤ 21) (hr : 0 ≤ r ∧ r ≤ 21)
   (hW : Claim prog w mean mg mb 111 [.ref H, .ref G] 4 20 (fun h => h.IsList H #[.int x i1, .int y i2, .int z i3] ∧ h.IsList G #[.int p j1, .int q j2, .int r j3]) (WRows H [x, y, z] [(w0, [x, y, z]), (w1, [c2.1, c2.2.1, c2.2.2]), (w2, [c1.1, c1.2.1, c1.2.2]), (w3, [c3.1, c3.2.1, c3.2.2])]))
   (vsR : List Value) (nR : Nat) (hB : ∀ v ∈ vsR, Bts v) (hRl : vsR.length ≤ 10) (E0 : St5) (hE0 : ([⟨w0, x, y, z⟩, ⟨w1, c2.1, c2.2.1, c2.2.2⟩, ⟨w2, c1.1, c1.2.1, c1.2.2⟩, ⟨w3, c3.1, c3.2.1, c3.2.2⟩] : List Row4).foldl rowStep ⟨0, 0, 0, 0, []⟩ = E0)
   (hE1 : E0.e1 = total E0.cs * p) (hE2 : E0.e2 = total E0.cs * q) (hE3 : E0.e3 = total E0.cs * r) (hE4 : E0.e4 = total E0.cs * escN p q r) (hpos : 0 < total E0.cs) (hcnt : ∀ c ∈ E0.cs, 0 ≤ c.2)
   (hnm : ∀ c ∈ E0.cs, ∃ (a b d : UInt8) (t : Tok), Value.bytes #[a, b, d] t ∈ vsR ∧ c.1 = nmT a.toNat b.toNat d.toNat)
   (hme : ∀ f1 f2 f3 : Str → Int, (∀ (a b d : UInt8) (t : Tok), Value.bytes #[a, b, d] t ∈ vsR → f1 (nmT a.toNat b.toNat d.toNat) = (a.toNat : Nat) ∧ f2 (nmT a.toNat b.toNat d.toNat) = (b.toNat : Nat) ∧ f3 (nmT a.toNat b.toNat d.toNat) = (d.toNat : Nat)) →
     wsum f1 E0.cs = total E0.cs * p ∧ wsum f2 E0.cs = total E0.cs * q ∧ wsum f3 E0.cs = total E0.cs * r)
   (k0 : (Row4.mk w0 x y z).Ok) (k1 : (Row4.mk w1 c2.1 c2.2.1 c2.2.2).Ok) (k2 : (Row4.mk w2 c1.1 c1.2.1 c1.2.2).Ok) (k3 : (Row4.mk w3 c3.1 c3.2.1 c3.2.2).Ok) :
  Claim prog w mean mg mb 116 [.ref H, .ref G, .ref R] 12 300 (fun h => h.IsList H #[.int x i1, .int y i2, .int z i3] ∧ h.IsList G #[.int p j1, .int q j2, .int r j3] ∧ h.get? R = some (W.listOf vsR.toArray nR))
   (fun _ v _ => v = .bool true) := by
  intro dp un gd cn cs' a ccd cl outer A₀ base h₀ L m s Q E B F X T hk hd hu hl hret
  obtain ⟨hl1, hl2, hl3⟩ := hl
  walk_at "my_enterC"
  clear hret B F X T
  intro g₀ L' h₁ tk cells Q' hret hg F' N' Y' B' X' T'
  subst hg
  k_cells Y'
  rename_i o1 o2 o3 o4 o5 o6 d1 d2 d3 d4 d5 d6
  (try simp only [List.cons_append, List.nil_append] at N')
  (try dsimp only)
  w_on
  refine letAE ?_
  intro Ak ek9 gk dk ok
  have pz := pause
  k_steps
  unfold Hold
  refine Mine.forListA (by k_asm) rfl ?_
  k_steps
  unfold Hold
  clear pz
  with_reducible rename Fr _ _ _ _ => F7
  with_reducible rename News _ _ _ _ => N7
  k_here
  refine' useC (hW) ?B ?F ?N ?X ?T ?hk ?hd ?hu ?pre ?_
  case B => k_asm
  case F => k_asm
  case N => k_asm
  case X => k_asm
  case T => k_asm
  case hk => exact rfl
  case hd => exact room 1 (by assumption) rfl rfl
  case hu => exact room 3 (by assumption) rfl rfl
  case pre => exact ⟨stays_list F7.keep hl1, stays_list F7.keep hl2⟩
  intro v9 h9 tk9 F9 N9 P9
  obtain ⟨RA, K, n9, vs9, rfl, hK, hRA, hrows⟩ := WRows.rows P9 hl1 k0 k1 k2 k3
  obtain ⟨N9, hKo⟩ := gainK F7 N7 N9 hK
  clear P9
  clear F7 N7
  have pz := pause
  try dsimp only
  with_reducible rename Obj.IsDictOf (PySem.strKind _ _) _ [] => hs5
  refine LstSrc.byM (oa := W.listOf vs9.toArray n9) (n := n9) (mnJ prog w s.heap L' K _ _ _ _ _ E0) rfl rfl F9
    (newsSub N9 (l' := _ :: _ :: _ :: _ :: _ :: _ :: _ :: _ :: K) (sub_cons (List.mem_append_right _ (by k_mem)) (sub_cons (List.mem_append_right _ (.tail _ (.head _))) (sub_cons (List.mem_append_right _ (.tail _ (.tail _ (.head _)))) (sub_cons (List.mem_append_right _ (.tail _ (.tail _ (.tail _ (.head _))))) (sub_cons (List.mem_append_right _ (.tail _ (.tail _ (.tail _ (.tail _ (.head _)))))) (sub_cons (List.mem_append_right _ (.tail _ (.tail _ (.tail _ (.tail _ (.tail _ (.head _))))))) (sub_cons (List.mem_append_right _ (.tail _ (.tail _ (.tail _ (.tail _ (.tail _ (.tail _ (.head _)))))))) (sub_cons (List.mem_append_right _ (.tail _ (.tail _ (.tail _ (.tail _ (.tail _ (.tail _ (.tail _ (.head _))))))))) (fun p hp => List.mem_append_left _ hp))))))))))
    ⟨_, _, _, _, _, ⟨0, 0, 0, 0, []⟩, _, _, _, _, _, _, _, _, _, ov4_start _ _ _ _ _, rfl, hs5, .nil, by assumption, by assumption, ?f1, ?f2, hrows, hE0, by simp⟩ ?hk ?step ?done
  case f1 => exact ⟨Nat.ne_of_lt (by with_reducible assumption), Nat.ne_of_lt (by with_reducible assumption), Nat.ne_of_lt (by with_reducible assumption), Nat.ne_of_lt (by with_reducible assumption), Nat.ne_of_lt (by with_reducible assumption), Nat.ne_of_lt (by with_reducible assumption)⟩
  case f2 => exact ⟨Nat.ne_of_lt (by with_reducible assumption), Nat.ne_of_lt (by with_reducible assumption), Nat.ne_of_lt (by with_reducible assumption), Nat.ne_of_lt (by with_reducible assumption), Nat.ne_of_lt (by with_reducible assumption), Nat.ne_of_lt (by with_reducible assumption)⟩
  case hk =>
    intro vs m news hJ
    obtain ⟨_, _, _, _, _, _, _, _, _, _, _, _, _, _, _, rfl, rfl, _⟩ := hJ
    replace hRA : InK _ _ := hRA
    exact .inr (by k_mem)
  case step =>
    have hK1 : ∀ p ∈ K, p.1 ≠ L' + 1 := hKo _ (.tail _ (.tail _ (.tail _ (.tail _ (.tail _ (.tail _ (.tail _ (.head _))))))))
    clear N9 hKo hK
    replace hRA : InK _ _ := hRA
    intro v rr m news hJ I oI h₁ tk₁ hne F1 N1
    replace F1 : Fr s.heap L' h₁ _ := F1
    replace N1 : News s.heap L' h₁ _ := N1
    obtain ⟨x1, x2, x3, TE, DE, e, t1, t2, t3, t4, od, kvs, ow, wv, rs, rfl, rfl, hod, hcs, hlo, how, hfT, hfD, hrs, hfin, hlen⟩ := hJ
    obtain ⟨fT1, fT2, fT3, fT4, fT5, fT6⟩ := hfT
    obtain ⟨fD1, fD2, fD3, fD4, fD5, fD6⟩ := hfD
    cases hrs with
    | cons hrow hrs' =>
    rename_i r4 rs'
    obtain ⟨T, C, t, u1, u2, u3, rfl, hT, hC, hok⟩ := hrow
    obtain ⟨hra, hrb, hrc⟩ := hok
    replace hT : InK _ _ := hT
    have hne' := allNe_mem hne
    replace hne := allOff_ne hne
    simp only [AllOff] at hne
    obtain ⟨g1, g2, g3, g4, g5, g6, g7, g8, gK⟩ := hne
    have hT1 : IsTup h₁ T #[.int r4.w t, .ref C] := isTup_of N1 (by k_mem)
    unfold ov4 at F1
    clear F9
    k_steps
    unfold Hold
    clear pz
    with_reducible rename Fr _ _ _ _ => F7
    with_reducible rename News _ _ _ _ => N7
    k_here
    refine' useC (c_textL r4.a r4.b r4.c C u1 u2 u3 (up255 (by assumption)) (up255 (by assumption)) (up255 (by assumption))) ?B ?F ?N ?X ?T ?hk ?hd ?hu ?pre ?_
    case B => k_asm
    case F => k_asm
    case N => k_asm
    case X => k_asm
    case T => k_asm
    case hk => exact rfl
    case hd => exact room 1 (by assumption) rfl rfl
    case hu => exact room 3 (by assumption) rfl rfl
    case pre => exact (srcSub hC (by (repeat (first | exact Mine.sub_refl | apply Mine.sub_tail)))).list F7.keep N7
    intro v9 h9 tk9 F9 N9 P9
    obtain ⟨t9, e9⟩ := P9
    subst e9
    clear F7 N7
    have pz := pause
    try dsimp only
    k_steps
    unfold Hold
    clear pz
    with_reducible rename Fr _ _ _ _ => F7
    with_reducible rename News _ _ _ _ => N7
    k_here
    refine' useC (c_esc (textS r4.a.toNat r4.b.toNat r4.c.toNat) t9 (esc3 (a := r4.a) (b := r4.b) (c := r4.c) (by assumption) (by assumption) (by assumption)).2.2) ?B ?F ?N ?X ?T ?hk ?hd ?hu ?pre ?_
    case B => k_asm
    case F => k_asm
    case N => k_asm
    case X => k_asm
    case T => k_asm
    case hk => exact rfl
    case hd => exact room 1 (by assumption) rfl rfl
    case hu => exact room 3 (by assumption) rfl rfl
    case pre => exact trivial
    intro v9 h9 tk9 F9 N9 P9
    obtain ⟨t9, e9⟩ := P9
    rw [esc_text] at e9
    subst e9
    obtain ⟨hE, hE2, _⟩ := esc3 (a := r4.a) (b := r4.b) (c := r4.c) (by assumption) (by assumption) (by assumption)
    clear F7 N7
    have pz := pause
    try dsimp only
    k_steps
    unfold Hold
    clear pz
    with_reducible rename Fr _ _ _ _ => F7
    with_reducible rename News _ _ _ _ => N7
    k_here
    refine' useC (c_nameL r4.a r4.b r4.c C u1 u2 u3 (up255 (by assumption)) (up255 (by assumption)) (up255 (by assumption))) ?B ?F ?N ?X ?T ?hk ?hd ?hu ?pre ?_
    case B => k_asm
    case F => k_asm
    case N => k_asm
    case X => k_asm
    case T => k_asm
    case hk => exact rfl
    case hd => exact room 1 (by assumption) rfl rfl
    case hu => exact room 3 (by assumption) rfl rfl
    case pre => exact (srcSub hC (by (repeat (first | exact Mine.sub_refl | apply Mine.sub_tail)))).list F7.keep N7
    intro v9 h9 tk9 F9 N9 P9
    obtain ⟨t9, e9⟩ := P9
    subst e9
    clear F7 N7
    have pz := pause
    try dsimp only
    k_steps
    with_reducible rename Obj.IsDictOf (PySem.strKind _ _) _ (strPairs _) => hd9
    rename (_ == sysModules) = false => lo9
    unfold Hold
    clear pz
    with_reducible rename Fr _ _ _ _ => F7
    with_reducible rename News _ _ _ _ => N7
    k_here
    refine' useC (c_stats TE _ DE _ od _ kvs e.cs (nmT r4.a r4.b r4.c) r4.w _ e.e1 e.e2 e.e3 e.e4 _ _ _ _ _ _ _ _ _ _ _ _ hod hcs hlo hd9 lo9 (by have := hcs.length; simp at hlen; omega)) ?B ?F ?N ?X ?T ?hk ?hd ?hu (⟨isTup_of N7 (by k_mem), isTup_of N7 (.head _), newsAt N7 (by k_mem), newsAt N7 (by k_mem)⟩) ?_
    case B => k_asm
    case F => k_asm
    case N => k_asm
    case X => k_asm
    case T => k_asm
    case hk => exact rfl
    case hd => exact room 1 (by assumption) rfl rfl
    case hu => exact room 3 (by assumption) rfl rfl
    skip
    intro v9 h9 tk9 F9 N9 P9
    obtain ⟨T9, D9, v1, v2, v3, v4, o9, kvs9, e9, aT, bT, nTD, aD, loD, bD, hdD, hcD⟩ := P9
    subst e9
    obtain ⟨N9, neD⟩ := gain2 F7 N7 N9 aD bD
    obtain ⟨N9, neT⟩ := gain2 F7 N7 N9 aT bT (fun p hp => by rcases List.mem_cons.mp hp with rfl | hp; exact .inr (Ne.symm nTD); exact .inl hp)
    replace neD := allNe_mem neD
    replace neT := allNe_mem neT
    clear F7 N7
    have pz := pause
    try dsimp only
    k_steps
    with_reducible rename Fr _ _ _ _ => F9
    with_reducible rename News _ _ _ _ => N9
    simp +zetaDelta only at N9
    try simp +zetaDelta only at F9
    rw [hE] at N9
    with_reducible rename Obj.data _ = Data.cell (some (Value.int r4.w _)) => dW
    refine ⟨_, _, _, _, rfl, F9, newsSub N9 (l' := (I, oI) :: (T9, _) :: (D9, o9) :: (L' + 1 + 1 + 1 + 1 + 1 + 1, o1) :: (L' + 1 + 1 + 1 + 1 + 1, o2) :: (L' + 1 + 1 + 1 + 1, o3) :: (L' + 1 + 1 + 1, o4) :: (L' + 1 + 1, o5) :: (L' + 1, _) :: K) ?sub, ?ne, _, _, _, T9, D9, rowStep e r4, v1, v2, v3, v4, o9, kvs9, _, _, rs', ov4_again, rfl, hdD, hcD, loD, dW, ?fT, ?fD, hrs', hfin, ?len⟩
    case sub => exact sub_cons (by k_mem) (sub_cons (by k_mem) (sub_cons (by k_mem) (sub_cons (by k_mem) (sub_cons (by k_mem) (sub_cons (by k_mem) (sub_cons (by k_mem) (sub_cons (by k_mem) (sub_cons (by k_mem) (by (repeat (first | exact Mine.sub_refl | apply Mine.sub_tail)))))))))))
    case ne => exact all_cons (Ne.symm (neT (I, oI) (by k_mem))) (all_cons (Ne.symm (neD (I, oI) (by k_mem))) (all_cons g3 (all_cons g4 (all_cons g5 (all_cons g6 (all_cons g7 (all_cons g8 fun p hp => hne' p (by replace hp : InK _ _ := hp; k_mem))))))))
    case fT => exact ⟨neT (_, o1) (by k_mem), neT (_, o2) (by k_mem), neT (_, o3) (by k_mem), neT (_, o4) (by k_mem), neT (_, o5) (by k_mem), neT (L' + 1, _) (by k_mem)⟩
    case fD => exact ⟨neD (_, o1) (by k_mem), neD (_, o2) (by k_mem), neD (_, o3) (by k_mem), neD (_, o4) (by k_mem), neD (_, o5) (by k_mem), neD (L' + 1, _) (by k_mem)⟩
    case len =>
      have := updC_len e.cs (nmT r4.a r4.b r4.c) r4.w
      simp only [List.length_cons] at hlen
      show (updC e.cs (nmT r4.a r4.b r4.c) r4.w).length + rs'.length ≤ 100
      omega
  case done =>
    clear N9 hKo hK hrows hs5 F9
    intro m news hJ h' tk F1 N1
    replace F1 : Fr s.heap L' h' _ := F1
    replace N1 : News s.heap L' h' _ := N1
    obtain ⟨x1, x2, x3, TE, DE, e, t1, t2, t3, t4, od, kvs, ow, wv, rs, rfl, rfl, hod, hcs, hlo, how, hfT, hfD, hrs, hfin, hlen⟩ := hJ
    obtain ⟨fT1, fT2, fT3, fT4, fT5, fT6⟩ := hfT
    obtain ⟨fD1, fD2, fD3, fD4, fD5, fD6⟩ := hfD
    cases hrs
    have hfin' : e = E0 := hfin
    subst hfin'
    clear hfin hW hE0 k0 k1 k2 k3 hRA
    replace N1 := newsSub N1 (l' := [(TE, _), (DE, od), (L' + 1 + 1 + 1 + 1 + 1 + 1, o1), (L' + 1 + 1 + 1 + 1 + 1, o2), (L' + 1 + 1 + 1 + 1, o3), (L' + 1 + 1 + 1, o4), (L' + 1 + 1, o5), (L' + 1, ow)]) (sub_cons (by k_mem) (sub_cons (by k_mem) (sub_cons (by k_mem) (sub_cons (by k_mem) (sub_cons (by k_mem) (sub_cons (by k_mem) (sub_cons (by k_mem) (sub_cons (by k_mem) sub_nil))))))))
    have hG : LCg.SrcAt s.heap G #[.int p j1, .int q j2, .int r j3] [] := .inl hl2
    have hRg : s.heap.IsList R vsR.toArray := ⟨_, hl3, rfl, nR, rfl⟩
    unfold ov4 at F1
    clear K vs9 RA n9
    k_steps
    unfold Hold
    clear pz
    with_reducible rename Fr _ _ _ _ => F7
    with_reducible rename News _ _ _ _ => N7
    k_here
    refine' useC (c_count DE od kvs e.cs hod hcs hlo) ?B ?F ?N ?X ?T ?hk ?hd ?hu ?pre ?_
    case B => k_asm
    case F => k_asm
    case N => k_asm
    case X => k_asm
    case T => k_asm
    case hk => exact rfl
    case hd => exact room 1 (by assumption) rfl rfl
    case hu => exact room 3 (by assumption) rfl rfl
    case pre => exact newsAt N7 (by k_mem)
    intro v9 h9 tk9 F9 N9 P9
    obtain ⟨t9, e9⟩ := P9
    subst e9
    clear F7 N7
    have pz := pause
    try dsimp only
    k_steps
    unfold Hold
    clear pz
    with_reducible rename Fr _ _ _ _ => F7
    with_reducible rename News _ _ _ _ => N7
    k_here
    refine' useC (c_textL p q r G j1 j2 j3 (up255 hp) (up255 hq) (up255 hr)) ?B ?F ?N ?X ?T ?hk ?hd ?hu ?pre ?_
    case B => k_asm
    case F => k_asm
    case N => k_asm
    case X => k_asm
    case T => k_asm
    case hk => exact rfl
    case hd => exact room 1 (by assumption) rfl rfl
    case hu => exact room 3 (by assumption) rfl rfl
    case pre => exact stays_list F7.keep hl2
    intro v9 h9 tk9 F9 N9 P9
    obtain ⟨t9, e9⟩ := P9
    subst e9
    clear F7 N7
    have pz := pause
    try dsimp only
    k_steps
    unfold Hold
    clear pz
    with_reducible rename Fr _ _ _ _ => F7
    with_reducible rename News _ _ _ _ => N7
    k_here
    refine' useC (c_esc (textS p.toNat q.toNat r.toNat) t9 (esc3 hp hq hr).2.2) ?B ?F ?N ?X ?T ?hk ?hd ?hu ?pre ?_
    case B => k_asm
    case F => k_asm
    case N => k_asm
    case X => k_asm
    case T => k_asm
    case hk => exact rfl
    case hd => exact room 1 (by assumption) rfl rfl
    case hu => exact room 3 (by assumption) rfl rfl
    case pre => exact trivial
    intro v9 h9 tk9 F9 N9 P9
    obtain ⟨t9, e9⟩ := P9
    rw [esc_text] at e9
    subst e9
    obtain ⟨hE, hE2', _⟩ := esc3 hp hq hr
    clear F7 N7
    have pz := pause
    try dsimp only
    k_steps
    with_reducible rename Fr _ _ _ _ => F5
    with_reducible rename News _ _ _ _ => N5
    with_reducible rename Obj.IsDictOf (PySem.strKind _ _) _ [] => hs6
    refine LstSrc.byM (oa := W.listOf vsR.toArray nR) (n := nR) (orJ prog w vsR _ _) rfl rfl F5 N5 ⟨_, _, _, [], ov1_start _ _, rfl, hs6, rfl, (fun _ hu => nomatch hu), by simp; omega⟩ ?hk2 ?step2 ?done2
    case hk2 => intro vs m news hJ; exact .inl hl3
    case step2 =>
      intro v rr m news hJ I oI h₁ tk₁ hne F1 N1
      replace F1 : Fr s.heap L' h₁ _ := F1
      replace N1 : News s.heap L' h₁ _ := N1
      obtain ⟨x1', odO, kvsO, pre, rfl, rfl, hdO, hpre, hOr, hlenO⟩ := hJ
      have hv : v ∈ vsR := by rw [← hpre]; simp
      obtain ⟨ba, bb, bc, bt, rfl, hba, hbb, hbc⟩ := hB v hv
      have hne' := allNe_mem hne
      replace hne := allOff_ne hne
      simp +zetaDelta only [AllOff, and_true] at hne
      obtain ⟨g1, g2, g3, g4, g5, g6, g7, g8, g9, g10⟩ := hne
      have hz : kvsO.length ≤ sizeLine := by rw [sizeLine_eq]; omega
      unfold ov1 at F1
      clear F5 N5
      k_steps
      unfold Hold
      clear pz
      with_reducible rename Fr _ _ _ _ => F7
      with_reducible rename News _ _ _ _ => N7
      k_here
      refine' useC (c_nameB ba bb bc bt) ?B ?F ?N ?X ?T ?hk ?hd ?hu ?pre ?_
      case B => k_asm
      case F => k_asm
      case N => k_asm
      case X => k_asm
      case T => k_asm
      case hk => exact rfl
      case hd => exact room 1 (by assumption) rfl rfl
      case hu => exact room 3 (by assumption) rfl rfl
      case pre => exact trivial
      intro v9 h9 tk9 F9 N9 P9
      obtain ⟨t9, e9⟩ := P9
      subst e9
      clear F7 N7
      have pz := pause
      try dsimp only
      k_steps
      with_reducible rename Fr _ _ _ _ => F9
      with_reducible rename News _ _ _ _ => N9
      with_reducible rename Obj.IsDictOf (PySem.strKind _ _) _ (stored _ _ _) => hd9
      have hsl := stored_len kvsO (nmT ba.toNat bb.toNat bc.toNat) (.bytes #[ba, bb, bc] bt)
      refine ⟨_, _, _, _, rfl, F9, N9, all_cons g1 (fun p hp => hne' p (.tail _ hp)), _, _, stored kvsO (nmT ba.toNat bb.toNat bc.toNat) (.bytes #[ba, bb, bc] bt), pre ++ [.bytes #[ba, bb, bc] bt], ov1_again, rfl, hd9, by rw [List.append_assoc]; exact hpre,
        ordHas_step hba hbb hbc hOr (fun u hu => hB u (by rw [← hpre]; simp [hu])), ?_⟩
      simp only [List.length_cons] at hlenO
      omega
    case done2 =>
      intro m news hJ h' tk F1 N1
      replace F1 : Fr s.heap L' h' _ := F1
      replace N1 : News s.heap L' h' _ := N1
      obtain ⟨x1', odO, kvsO, pre, rfl, rfl, hdO, hpre, hOr, hlenO⟩ := hJ
      have hpre' : pre = vsR := by simpa using hpre
      subst hpre'
      unfold ov1 at F1
      clear F5 N5
      k_steps
      unfold Hold
      refine Mine.forItems (by k_asm) rfl ?_
      k_steps
      clear pz
      with_reducible rename Fr _ _ _ _ => F6
      with_reducible rename News _ _ _ _ => N6
      with_reducible rename Heap.IsItemsView _ _ _ => hv6
      with_reducible rename Obj.data _ = Data.cell (some (Value.ref _)) => dM
      refine ItemsSrc.ofM (meJ L' e.cs kvsO _ _ _ _ _ _ _) hv6 hod F6 N6 ⟨_, _, _, _, _, _, _, _, _, _, rfl, rfl, d1, d2, dM, ?far⟩ ?hd3 ?step3 ?done3
      case far => exact ⟨Nat.ne_of_lt (by with_reducible assumption), Nat.ne_of_lt (by with_reducible assumption), Nat.ne_of_lt (by with_reducible assumption), Nat.ne_of_lt (by with_reducible assumption), Nat.ne_of_lt (by with_reducible assumption), Nat.ne_of_lt (by with_reducible assumption)⟩
      case hd3 =>
        intro i h m news hJ F N
        obtain ⟨oc, on, om, vc, vn, ML, nM, u1, u2, u3, rfl, rfl, hoc, hon, hom, hML⟩ := hJ
        exact newsAt N (by k_mem)
      case step3 =>
        intro I i k v t' T m₁ news₁ oI h₁ tk₁ he hJ hne hT F1 N1
        replace F1 : Fr s.heap L' h₁ _ := F1
        replace N1 : News s.heap L' h₁ _ := N1
        obtain ⟨oc, on, om, vc, vn, ML, nM, u1, u2, u3, rfl, rfl, hoc, hon, hom, hML⟩ := hJ
        obtain ⟨n, tn, rfl, hcsi⟩ := hcs.at he
        have hmem : (k, n) ∈ e.cs := List.mem_of_getElem? hcsi
        have hn0 := hcnt _ hmem
        obtain ⟨ba, bb, bd, bt, hbv, hbk⟩ := hnm _ hmem
        obtain ⟨bt', hval⟩ := hOr _ hbv ba bb bd bt rfl
        have hbk' : k = nmT ba.toNat bb.toNat bd.toNat := hbk
        rw [← hbk'] at hval
        have hn1 : decide (n < 0) = false := decide_eq_false (by simpa using hn0)
        have hin : (valueAt kvsO k).isSome = true := by rw [hval]; rfl
        have b1 := ba.toNat_lt
        have b2 := bb.toNat_lt
        have b3 := bd.toNat_lt
        obtain ⟨m1, m2, m3, m4, m5, m6⟩ := hML
        have hne' := allNe_mem hne
        replace hne := allOff_ne hne
        simp +zetaDelta only [AllOff, and_true] at hne
        obtain ⟨g1, g2, g3, g4, g5, g6, g7, g8, g9, g10, g11⟩ := hne
        clear F6 N6 hv6 hRg hG
        k_steps
        with_reducible rename Fr _ _ _ _ => F9
        with_reducible rename News _ _ _ _ => N9
        have w1 : wsum (pickO kvsO 0) (e.cs.take i) + n * ((ba.toNat : Nat) : Int) = wsum (pickO kvsO 0) (e.cs.take (i + 1)) := by rw [wsum_take hcsi]; unfold pickO; rw [hval]; rfl
        have w2 : wsum (pickO kvsO 1) (e.cs.take i) + n * ((bb.toNat : Nat) : Int) = wsum (pickO kvsO 1) (e.cs.take (i + 1)) := by rw [wsum_take hcsi]; unfold pickO; rw [hval]; rfl
        have w3 : wsum (pickO kvsO 2) (e.cs.take i) + n * ((bd.toNat : Nat) : Int) = wsum (pickO kvsO 2) (e.cs.take (i + 1)) := by rw [wsum_take hcsi]; unfold pickO; rw [hval]; rfl
        rw [w1, w2, w3] at N9
        with_reducible rename Obj.data _ = Data.cell (some (Value.ref _)) => dM9
        with_reducible rename Obj.data _ = Data.cell (some (Value.str k _)) => dN9
        with_reducible rename Obj.data _ = Data.cell (some (Value.int n _)) => dC9
        refine' EndA.mk _ _ _ ?news rfl F9 ?nn ?ne (meJ.mk _ _ _ _ _ _ _ _ _ _ ?ea ?eb dC9 dN9 dM9 ?far)
        case ea => with_reducible rfl
        case eb => with_reducible rfl
        case far => exact ⟨by with_reducible assumption, by with_reducible assumption, by with_reducible assumption, by with_reducible assumption, by with_reducible assumption, by with_reducible assumption⟩
        (show News s.heap L' _ ((I, oI) :: _))
        refine newsSub N9 ?_
        row_timed "SUB" (exact (sub_cons (by k_mem) (sub_cons (by k_mem) (sub_cons (by k_mem) (sub_cons (by k_mem) (sub_cons (by k_mem) (sub_cons (by k_mem) (sub_cons (by k_mem) (sub_cons (by k_mem) (sub_cons (by k_mem) (sub_cons (by k_mem) (sub_cons (by k_mem) (sub_cons (by k_mem) sub_nil)))))))))))))
        row_timed "NE" (exact all_cons (Off.sym (by with_reducible assumption)) (all_cons g2 (all_cons g3 (all_cons g4 (all_cons g5 (all_cons g6 (all_cons g7 (all_cons g8 (all_cons g9 (all_cons g10 (all_cons g11 (fun _ hp => nomatch hp))))))))))))
      case done3 =>
        intro h' tk m news hJ F1 N1
        replace F1 : Fr s.heap L' h' _ := F1
        replace N1 : News s.heap L' h' _ := N1
        rw [hcs.length] at hJ
        obtain ⟨oc, on, om, vc, vn, ML, nM, u1, u2, u3, rfl, rfl, hoc, hon, hom, hML⟩ := hJ
        rw [List.take_length] at N1
        obtain ⟨q1, q2, q3⟩ := hme (pickO kvsO 0) (pickO kvsO 1) (pickO kvsO 2) (fun a b d t hv => by
          obtain ⟨t', hv'⟩ := hOr _ hv a b d t rfl
          unfold pickO; rw [hv']; exact ⟨rfl, rfl, rfl⟩)
        (try simp +zetaDelta only at N1)
        (try simp +zetaDelta only at F1)
        rw [q1, q2, q3, hE1, hE2, hE3, hE4] at N1
        rw [hE] at F1
        have hp1 : decide (total e.cs > 0) = true := decide_eq_true hpos
        clear F6 N6
        have pz := pause
        k_steps
        unfold Hold
        clear pz
        with_reducible rename News _ _ _ _ => N7
        refine eq_lists (vs := [.int _ _, .int _ _, .int _ _]) (us := [.int _ _, .int _ _, .int _ _]) (ns := [_, _, _]) (News.isList N7 (by k_mem)) (.cons _ _ (.cons _ _ (.cons _ _ .nil))) (News.isList N7 (by k_mem)) (.cons _ _ (.cons _ _ (.cons _ _ .nil))) (room 3 (by assumption) rfl rfl) ?_
        have pz := pause
        k_steps
        unfold Hold
        clear pz
        with_reducible rename News _ _ _ _ => N7
        refine eq_tups (vs := [.int _ _, .int _ _, .int _ _, .int _ _]) (us := [.int _ _, .int _ _, .int _ _, .int _ _]) (ns := [_, _, _, _]) (isTup_of N7 (by k_mem)) (.cons _ _ (.cons _ _ (.cons _ _ (.cons _ _ .nil)))) (isTup_of N7 (by k_mem)) (.cons _ _ (.cons _ _ (.cons _ _ (.cons _ _ .nil)))) (room 3 (by assumption) rfl rfl) ?_
        k_steps
        try dsimp only
        refine hret _ _ _ _ _ (by assumption) ?_
        rfl
end Mine
end
/- We -/
section
open PySem PySem.W PySem.Calls PyProof.Rows
example : True := by
  k_with_none
  k_with "my_enter" => (k_dflt (
  refine' Mine.enterC _ ?k1z0 ?k2z0 ?k3z0 ?k4z0 ?kAz0 ?kFz0 ?kKz0 ?kRz0 ?k6z0 ?k7z0 ?k8z0 ?k9z0 ?kBz0 ?_ ?c2z0 ?c3z0 ?c4z0 ?c5z0 ?c6z0
  (case kAz0 => exact rfl); (case kFz0 => exact rfl); (case kKz0 => assumption); (case k1z0 => k_asm); (case k2z0 => k_asm); (case k3z0 => k_asm); (case k4z0 => k_asm); (case kRz0 => assumption)
  (case k6z0 => k_is); (case k7z0 => k_is); (case k8z0 => exact Nat.lt_of_le_of_lt (Nat.le_add_right _ _) (by assumption)); (case k9z0 => exact BindsTo.of_eq rfl); (case c5z0 => decide); (case kBz0 => exact locs rfl); (case c2z0 => exact rfl); (case c3z0 => exact rfl); (case c4z0 => exact rfl); (case c6z0 => exact Nat.succ_pos _)))
  k_with "execs cons" => (k_here; (with_reducible show wpAny _ _ _ _ _ (Shared.mk _ _ _ (HAdd.hAdd _ 1) _)); (with_reducible rename Fr _ _ _ _ => F9z1); (with_reducible rename News _ _ _ _ => N9z1); with_reducible refine Mine.toks_let F9z1 N9z1 ?_; intro m9z1 n9z1 tkz1 htkz1 F8z1 N8z1; clear F9z1 N9z1)
  k_with "execs nil" => (k_here; (with_reducible show wpAny _ _ _ _ _ (Shared.mk _ _ _ (HAdd.hAdd _ 1) _)); (with_reducible rename Fr _ _ _ _ => F9z2); (with_reducible rename News _ _ _ _ => N9z2); with_reducible refine Mine.toks_let F9z2 N9z2 ?_; intro m9z2 n9z2 tkz2 htkz2 F8z2 N8z2; clear F9z2 N9z2)
  k_with "ite" => (k_here; first | refine PySem.W.ite_pos (by assumption) ?_ | refine PySem.W.ite_neg (ne_true_of_eq_false (by assumption)) ?_)
  k_with "subscriptTail Name Constant ref int" => (k_here; k_dflt (refine' Mine.item_L ?hlz4 ?h0z4 ?hhiz4 ?hxz4 ?_; (case hlz4 => first | exact Fr.lst (by k_asm) (by assumption) | exact News.isList (by k_asm) (by k_mem)); (case h0z4 => decide); (case hhiz4 => decide); (case hxz4 => exact rfl)))
  k_with "subscriptTail" => (k_here; (with_reducible show wpAny _ _ (subscriptTail _ _ (Value.bytes _ _) (Value.int _ _)) _ _ _); k_dflt (refine' Mine.item_B ?hxz5 ?hfz5 ?h0z5 ?_; (case hxz5 => exact rfl); (case hfz5 => exact Nat.le_of_ble_eq_true rfl); (case h0z5 => decide)))
  k_with "call builtin:len" => (k_here; (with_reducible show wpAny _ _ (call _ [Value.bytes _ _]) _ _ _); k_dflt (refine' Mine.len_B ?hnz6 ?hzz6 ?_; (case hnz6 => first | exact (rfl : _ = 2) | exact (rfl : _ = 3)); (case hzz6 => decide); (try dsimp only)))
  k_with "CompRest" => (with_unfolding_all (refine LCg.CompRest.succ ?_; intro vz7 Iz7 oIz7 Cz7 oCz7 Dz7 mz7 hz7 tkz7 Ez7 hvz7 hCz7 hxz7 Fz7 Nz7 offz7 nez7; obtain ⟨c9z7, u9z7, hc9z7, hv9z7⟩ := hvz7; subst hv9z7; have hc8 := Option.some.inj hc9z7; subst hc8; clear hc9z7; (try simp only [LCg.Off3, and_true] at offz7)))
  k_with "CompRest" => (with_unfolding_all (refine LCg.CompRest.succ ?_; intro vz8 Iz8 oIz8 Cz8 oCz8 Dz8 mz8 hz8 tkz8 Ez8 hvz8 hCz8 hxz8 Fz8 Nz8 offz8 nez8; replace nez8 := Mine.apart3 nez8; simp only [List.getElem?_toArray, List.getElem?_cons_succ, List.getElem?_cons_zero, Option.some.injEq] at hvz8; subst hvz8; (try k_sweep)))
  k_with "CompEnd" => ((with_reducible rename LCg.Off3 _ _ _ _ => of9z9); (with_reducible rename LCg.NsObj _ _ => ns9z9); refine' Mine.compEnd_same ?Fz9 ?Nz9 of9z9 ?Sz9 ?_; (case Fz9 => k_asm); (case Nz9 => k_asm); (case Sz9 => first | exact trivial | exact .inl (by assumption) | exact .inr ⟨_, by k_mem, rfl, _, rfl⟩); clear of9z9; (try (with_reducible rename Mine.Apart3 _ _ _ => ne9z9; clear ne9z9)))
  k_with "call builtin:list.append" => (k_here; (fail_if_success (with_reducible show wpAny _ _ (call _ [_, _]) _ _ _)); dsimp only [List.cons_append, List.nil_append])
  k_with "execs cons Assign cons" => walk_at "execs cons"
  k_with "subscriptTail Name Name ref int" => (k_here; k_dflt (refine' Mine.item_L ?hlz12 ?h0z12 ?hhiz12 ?hxz12 ?_; (case hlz12 => first | exact Fr.lst (by k_asm) (by assumption) | exact News.isList (by k_asm) (by k_mem)); (case h0z12 => decide); (case hhiz12 => decide); (case hxz12 => exact rfl)))
  k_with "binaryOp Mult int int" => (k_here; k_dflt (refine PySem.mul_int ?_ (IntMulOk.of_right (PySem.intBits_le_64 (by first | omega | (split <;> omega)) (by first | omega | (split <;> omega))))))
  k_with "k_ne" => (refine neN ?_; (try dsimp only); first | exact Nat.ne_of_gt (by with_reducible assumption) | exact Nat.ne_of_lt (by with_reducible assumption) | exact Mine.Off.ne (by with_reducible assumption) | exact Mine.Off.sym (by with_reducible assumption) | with_reducible assumption | exact Ne.symm (by with_reducible assumption) | omega)
  k_with "FinE" => ((unfold LCg.FinE); intro Dz16 hz16 tkz16 Fz16 Nz16 o1z16; (try (replace o1z16 := Mine.allOff_1 o1z16; simp +zetaDelta only [Mine.AllOff, and_true] at o1z16)); (repeat obtain ⟨l9z16, o1z16⟩ := o1z16); (try simp only [List.nil_append, List.cons_append] at Nz16); (try dsimp only))
  k_with "FinA" => ((unfold LCg.FinA); intro Dz17 hz17 tkz17 Fz17 Nz17 o1z17; (try (replace o1z17 := Mine.allOff_1 o1z17; simp +zetaDelta only [Mine.AllOff, and_true] at o1z17)); (repeat obtain ⟨l9z17, o1z17⟩ := o1z17); (try simp only [List.nil_append, List.cons_append] at Nz17); (try dsimp only))
  k_with "call builtin:list.append" => (k_here; (with_reducible show wpAny _ _ (call (Value.builtin _) [Value.ref _, _]) _ _ _); (k_dflt (refine' append_K ?k1z18 ?k2z18 ?k3z18 ?_ ?zz18; (case k1z18 => k_asm); (case k2z18 => k_asm); (case k3z18 => k_upd); (case zz18 => first | exact Nat.le_of_ble_eq_true rfl | size_fits); k_whole));  intro hz18 Fz18 Nz18; (try k_sweep))
  k_with "newList" => (k_here; k_dflt (refine' newList_K ?k1z19 ?k2z19 ?_ ?zz19; (case k1z19 => k_asm); (case k2z19 => k_asm); (case zz19 => first | exact Nat.le_of_ble_eq_true rfl | size_fits); k_whole); intro lz19 hz19 Fz19 Nz19 l1z19; (try k_lt l1z19); (try k_sweep))
  k_with "subscriptTail Name Constant ref int" => (k_here; (with_reducible show wpAny _ _ (subscriptTail (PySem.Expr.Name (PySem.Str.ofString "entry") _) _ _ _) _ _ _); k_dflt (refine' item_tupleT ?tz20 ?az20 ?bz20 ?cz20 ?dz20 ?_; (case tz20 => exact Mine.isTup_of (by k_asm) (by k_mem)); (case az20 => decide); (case bz20 => decide); (case cz20 => rfl); (case dz20 => rfl)))
  k_with "k_mem" => first | exact List.Mem.head _ | (refine' List.Mem.tail _ ?_; k_mem) | exact Mine.InK.mem (by with_reducible assumption)
  k_with "k_all" => assumption
  k_with "CompSrc" => (k_here; k_dflt (refine Mine.compSrc_both (by rfl) (by k_asm) (by k_asm) (Mine.srcSub (by assumption) (by (repeat (first | exact Mine.sub_refl | apply Mine.sub_tail)))) (by exact Nat.le_of_ble_eq_true rfl) ?_; intro gz23; lcg_lit))
  k_with "CompEnd" => ((with_reducible rename LCg.Off3 _ _ _ _ => of9z24); (with_reducible rename LCg.NsObj _ _ => ns9z24); refine' Mine.compEnd_same ?Fz24 ?Nz24 of9z24 ?Sz24 ?_; (case Fz24 => k_asm); (case Nz24 => k_asm); (case Sz24 => first | exact trivial | exact .inl (by assumption) | exact Mine.srcSub (by assumption) (by (repeat (first | exact Mine.sub_refl | apply Mine.sub_tail))) | exact .inr ⟨_, by k_mem, rfl, _, rfl⟩); clear of9z24; (try (with_reducible rename Mine.Apart3 _ _ _ => ne9z24; clear ne9z24)))
  k_with "subscriptTail Name Name ref int" => (k_here; k_dflt (refine' Mine.item_L ?hlz25 ?h0z25 ?hhiz25 ?hxz25 ?_; (case hlz25 => first | exact News.isList (by k_asm) (by k_mem) | exact Mine.srcIn (by with_reducible assumption) (by k_asm) (by k_asm) (by (repeat (first | exact Mine.sub_refl | apply Mine.sub_tail)))); (case h0z25 => exact Int.natCast_nonneg _); (case hhiz25 => with_reducible assumption); (case hxz25 => first | with_reducible assumption | exact Mine.AllAt.at (by with_reducible assumption) _)))
  k_with "setItem ref int" => (k_here; k_dflt (refine' ki_set ?Fz26 ?Nz26 ?az26 ?bz26 ?ez26 ?Uz26 ?_; (case Fz26 => k_asm); (case Nz26 => k_asm); (case Uz26 => k_upd); (case az26 => exact Int.natCast_nonneg _); (case bz26 => with_reducible assumption); (case ez26 => first | exact Mine.SetAt.at (by with_reducible assumption) _ | exact Mine.SetAt2.at (by with_reducible assumption) _ _)); intro hz26 Fz26 Nz26; (try k_sweep))
  k_with "exec For Tuple Name cons nil" => (k_here; (have pz' : Mine.Pause := by with_reducible assumption); clear pz'; refine Mine.Hold.out ?_)
  k_with "k_all" => first | assumption | exact Mine.allOff_mem (by with_reducible assumption) | exact Mine.allLt_ne (by with_reducible assumption)
  k_with "call builtin:list.append" => (k_here; (with_reducible show wpAny _ _ (call (Value.builtin _) [Value.ref _, _]) _ _ _); (k_dflt (refine' append_K ?k1z29 ?k2z29 ?k3z29 ?_ ?zz29; (case k1z29 => k_asm); (case k2z29 => k_asm); (case k3z29 => k_upd); (case zz29 => first | exact Mine.Grows.size (by with_reducible assumption) | exact Mine.Grows.size2 (by with_reducible assumption) _); k_whole));  intro hz29 Fz29 Nz29; (try k_sweep))
  k_with "exec For Name Name cons nil" => (k_here; k_dflt (refine Mine.forListA (by k_asm) rfl ?_))
  k_with "TurnEnd" => (dsimp only [Mine.TurnEnd])
  k_with "exec If" => (k_here; (have pz' : Mine.Pause := by with_reducible assumption); clear pz'; refine Mine.Hold.out ?_)
  k_with "k_steps" => repeat' (first | (k_unfold; (try dsimp only)) | (k_end; kc_close) | ((first | (with_reducible show wpAny _ _ (exec _ _) _ _ _) | (with_reducible show wpAny _ _ (execs (_ :: _) _) _ _ _) | (with_reducible show wpAny _ _ (eval (PySem.Expr.BinOp _ _ _ _) _) _ _ _) | (with_reducible show wpAny _ _ (eval (PySem.Expr.Call _ _ _ _) _) _ _ _) | (with_reducible show wpAny _ _ (eval (PySem.Expr.Subscript _ _ _) _) _ _ _) | (with_reducible show wpAny _ _ (eval (PySem.Expr.Tuple _ _ _) _) _ _ _) | (with_reducible show wpAny _ _ (eval (PySem.Expr.List _ _) _) _ _ _)); k_fold; walk1) | walk1 | (dsimp only; walk1) | (leave1; walk_say "STEP leave1"; (try dsimp only)) | fail "no step")
  trivial
example : (PySem.Challenge.rw_zo0010_01 = PySem.Challenge.rw_zo0010_01) ∧ (Mine.hd.heap_1 = Mine.hd.heap_1) := by k_fill; exact ⟨rfl, rfl⟩
namespace Mine
set_option maxHeartbeats 4000000 in
theorem c_weighed {prog : Program} {w : World} {mean : ExcName → Option Value} {mg mb : Str → Option Value} (H G : Addr) (x y z p q r : Int) (i1 i2 i3 j1 j2 j3 : Tok)
   (hx : 0 ≤ x ∧ x ≤ 255) (hy : 0 ≤ y ∧ y ≤ 255) (hz : 0 ≤ z ∧ z ≤ 255) (hp : 0 ≤ p ∧ p ≤ 255) (hq : 0 ≤ q ∧ q ≤ 255) (hr : 0 ≤ r ∧ r ≤ 255) :
  Claim prog w mean mg mb 111 [.ref H, .ref G] 4 20 (fun h => h.IsList H #[.int x i1, .int y i2, .int z i3] ∧ h.IsList G #[.int p j1, .int q j2, .int r j3])
   (WRows H [x, y, z] (weighL (movesOf x y z p q r) [x, y, z] [(1, [x, y, z])])) := by
  intro dp un gd cn cs' a ccd cl outer A₀ base h₀ L m s Q E B F X T hk hd hu hl hret
  obtain ⟨hl1, hl2⟩ := hl
  walk_at "my_enter"
  clear hret B F X T
  intro g₀ L' h₁ tk Q' hret hg htk F' N' B' X' T'
  subst hg
  (try dsimp only)
  w_on
  refine letAE ?_
  intro Ak ek9 gk dk ok
  have pz := pause
  k_steps
  unfold Hold
  clear pz
  with_reducible rename Fr _ _ _ _ => F5
  with_reducible rename News _ _ _ _ => N5
  refine mv_split (s₁ := s) (mv := movesOf x y z p q r) F5 ?mv ?go
  case mv =>
    by_cases hyq : y ≥ q
    · have hyq' : decide (y ≥ q) = true := decide_eq_true hyq
      k_steps
      with_reducible rename Fr _ _ _ _ => F9
      with_reducible rename News _ _ _ _ => N9
      exact .mk _ _ _ _ _ _ 1 2 (y - q) 0 2 (x - p) _ _ _ _ _ _ rfl rfl F9 (newsSub N9 (sub_cons (by k_mem) (sub_cons (by k_mem) (sub_cons (by k_mem) sub_nil)))) (if_pos hyq) (by decide) (by decide) (by decide) (by decide) (by decide) (by decide) (by omega) (by omega)
    · have hyq' : decide (y ≥ q) = false := decide_eq_false hyq
      k_steps
      with_reducible rename Fr _ _ _ _ => F9
      with_reducible rename News _ _ _ _ => N9
      exact .mk _ _ _ _ _ _ 0 1 (q - y) 0 2 (r - z) _ _ _ _ _ _ rfl rfl F9 (newsSub N9 (sub_cons (by k_mem) (sub_cons (by k_mem) (sub_cons (by k_mem) sub_nil)))) (if_neg hyq) (by decide) (by decide) (by decide) (by decide) (by decide) (by decide) (by omega) (by omega)
  case go =>
    intro f s' hQ
    obtain ⟨h6, tk6, MA, T1, T2, nM, g1, e1, m1, g2, e2, m2, k1, k2, k3, k4, k5, k6, rfl, rfl, F6, N6, hmv, b1, b2, b3, b4, b5, b6, b7, b8⟩ := hQ
    clear F5 N5
    have pz := pause
    k_steps
    unfold Hold
    clear pz
    refine Mine.forListA (by k_asm) rfl ?_
    k_steps
    with_reducible rename Fr _ _ _ _ => F5
    with_reducible rename News _ _ _ _ => N5
    obtain ⟨K, NK, hM, hms, hR, hrs, hne⟩ := we_start (hs := [x, y, z]) N5 (by with_reducible assumption) (by with_reducible assumption) (by with_reducible assumption) (by with_reducible assumption) (by with_reducible assumption) b1 b2 b3 b4 b5 b6 b7 b8
    refine LstSrc.byM (oa := W.listOf #[.ref T1, .ref T2] nM) (vs := [.ref T1, .ref T2]) (n := nM) (weJ _ _ _ H [x, y, z] (weighL (movesOf x y z p q r) [x, y, z] [(1, [x, y, z])])) rfl rfl F5 NK
      (.mk _ _ _ _ _ _ _ _ K _ [.int x i1, .int y i2, .int z i3] _ _ [x, y, z] _ _ _ 255 (ovs_start _ [Str.ofString "rows", Str.ofString "crossed", Str.ofString "three", Str.ofString "weight", Str.ofString "more", Str.ofString "gap", Str.ofString "much", Str.ofString "taker", Str.ofString "giver"]) rfl hM (.cons _ _ (.cons _ _ (.cons _ _ .nil))) rfl hR hrs hms hne ?b ⟨by decide, by show (255 : Int) + 255 * 2 ≤ 1000; decide⟩ (Nat.le_of_ble_eq_true rfl) (by rw [hmv])) ?hk ?step ?done
    case b => 
      intro n hn
      simp only [List.mem_cons, List.not_mem_nil, or_false] at hn
      rcases hn with rfl | rfl | rfl <;> omega
    case hk =>
      intro vs m news hJ
      obtain ⟨_, _, _, _, _, _, _, _, _, _, _, _, _, _, _, _, _, _, _, rfl, hM, _⟩ := hJ
      exact .inr (.tail _ hM)
    case step =>
      clear hM hms hR hrs hne hmv b1 b2 b3 b4 b5 b6 b7 b8
      intro v rest m news hJ I o h₁ tk₁ ne0 F1 N1
      replace F1 : Fr s.heap L' h₁ _ := F1
      replace N1 : News s.heap L' h₁ _ := N1
      obtain ⟨c, tt, w', mo, ga, mu, ta, gi, K, RA, mv, nm, nr, ml, rvs, rs, ms, b, rfl, rfl, hM, hml, hl3, hR, hrs, hms, hne, hb, hb0, hrl, hfin⟩ := hJ
      cases hms with
      | cons T g e mm kk1 kk2 kk3 hT hg he hge hmm hms' =>
      rename_i ms'
      have hKI : ∀ p ∈ K, p.1 ≠ I := fun p hp => allNe_mem ne0 p (.tail _ hp)
      have gI := ne0.1
      replace gI : Off _ I := gI
      dsimp only at gI
      replace hT : InK _ _ := hT
      replace hR : InK _ _ := hR
      replace hM : InK _ _ := hM
      have hT1 : IsTup h₁ T #[.int ((g : Nat) : Int) kk1, .int ((e : Nat) : Int) kk2, .int mm kk3] := isTup_of N1 (by k_mem)
      obtain ⟨ta1, ea1⟩ := ints_at hml (k := g) (by rw [hl3]; exact hg)
      obtain ⟨ta2, ea2⟩ := ints_at hml (k := e) (by rw [hl3]; exact he)
      have ea3 := allAt_of hge ea2
      have st1 := setAt_of (vs := mv) (k := g) (by rw [IntsAre.length hml, hl3]; exact hg)
      have st2 := setAt2_of (vs := mv) (k := g) (j := e) (by rw [IntsAre.length hml, hl3]; exact he)
      have hg63 : ((g : Nat) : Int) < 2 ^ 63 := by omega
      have he63 : ((e : Nat) : Int) < 2 ^ 63 := by omega
      have gb1 := hb.getD hb0.1 g
      have gb2 := hb.getD hb0.1 e
      dsimp only [ovs, we9] at F1
      clear F5 N5 NK
      have hb1000 : b ≤ 1000 := by have := hb0.2; have : (0 : Int) ≤ 255 * (((g, e, mm) :: ms').length : Nat) := Int.mul_nonneg (by decide) (Int.natCast_nonneg _); omega
      have hrl2 := pow_half hrl
      have pz := pause
      k_steps
      unfold Hold
      clear pz
      refine Mine.forListA (by k_asm) rfl ?_
      k_steps
      with_reducible rename Fr _ _ _ _ => F5
      with_reducible rename News _ _ _ _ => N5
      refine LstSrc.byM (oa := W.listOf rvs.toArray nr) (vs := rvs) (n := nr) (weI _ _ _ I o K H [x, y, z] (expand (gapL g e ml - mm) mm g e rs) (gapL g e ml - mm) mm g e) rfl rfl F5 N5
        (.mk _ _ _ K [] _ rs [] (ovs_start _ [Str.ofString "crossed", Str.ofString "three", Str.ofString "weight"]) rfl (fun p hp => hp) hrs .nil (allLt_ne (by with_reducible assumption)) hne hKI rfl ?len) ?hk2 ?step2 ?done2
      case len => have := hrl2.1; show 0 + 2 * rs.length ≤ 8; omega
      case hk2 =>
        intro vs m news hJ
        obtain ⟨_, _, _, K', _, _, _, _, _, rfl, hK', _⟩ := hJ
        exact .inr (.tail _ (.tail _ (.tail _ (hK' _ hR))))
      case step2 =>
        intro v2 rest2 m2 news2 hJ2 I2 o2 h₂ tk₂ ne2 F2 N2
        replace F2 : Fr s.heap L' h₂ _ := F2
        replace N2 : News s.heap L' h₂ _ := N2
        obtain ⟨c2, th2, wt2, K', xs, nx, rs', ds, rfl, rfl, hK', hrs', hds, h1', h2', h3', hfin', hlen'⟩ := hJ2
        cases hrs' with
        | cons hrow hrows =>
        rename_i r2 rs2
        obtain ⟨T2', C, w2, a, b', c', tt2, q1, q2, q3, rfl, rfl, hT2, hC, hn⟩ := rowO hl1 hrow
        replace hT2 : InK _ _ := hT2
        have hT3 : IsTup h₂ T2' #[.int w2 tt2, .ref C] := isTup_of N2 (by k_mem)
        have hKI2 : ∀ p ∈ K', p.1 ≠ I2 := fun p hp => allNe_mem ne2 p (.tail _ (.tail _ (.tail _ hp)))
        replace ne2 := allOff_ne ne2
        obtain ⟨y1, y2, y3, _⟩ := ne2
        dsimp only at y1 y2 y3
        have ints3 : IntsAre [.int a q1, .int b' q2, .int c' q3] [a, b', c'] := .cons _ _ (.cons _ _ (.cons _ _ .nil))
        obtain ⟨u1, f1⟩ := ints_at ints3 (k := g) hg
        obtain ⟨u2, f2⟩ := ints_at ints3 (k := e) he
        have s1 := setAt_of (vs := [.int a q1, .int b' q2, .int c' q3]) (k := g) hg
        have s2 := setAt2_of (vs := [.int a q1, .int b' q2, .int c' q3]) (k := g) (j := e) he
        have hgr : Grows xs := by unfold Grows; simp only [List.length_cons] at hlen'; omega
        dsimp only [ovs] at F2
        clear F5 N5 ea1 ea2 ea3 st1 st2
        k_steps
        with_reducible rename Fr _ _ _ _ => F9
        with_reducible rename News _ _ _ _ => N9
        obtain ⟨K2, N8, ne8, sub8, rows8, z1, z2, z3⟩ := we_turn (k := gapL g e ml - mm) N9 hds hn (by k_ne) (by k_ne) (by k_ne) (by k_ne) (by k_ne) (by k_ne) (by k_ne) (by k_ne) (by k_ne) (by k_ne) (by k_ne) (by k_ne) y1 y2 y3 hKI2 h1' h2' h3'
        refine ⟨_, _, _, _, rfl, F9, N8, ne8, .mk _ _ _ K2 _ _ rs2 (ds ++ expand1 (gapL g e ml - mm) mm g e (w2, [a, b', c'])) (ovs_again (l := [(Str.ofString "crossed", _), (Str.ofString "three", _), (Str.ofString "weight", _)]) (l' := [(Str.ofString "crossed", c2), (Str.ofString "three", th2), (Str.ofString "weight", wt2)]) rfl) rfl (fun p hp => sub8 p (hK' p hp)) (hrows.mono sub8) rows8 z1 z2 z3 ?fin ?len2⟩
        case fin =>
          rw [← hfin', List.append_assoc]
          rfl
        case len2 =>
          simp only [List.length_append, List.length_cons, List.length_nil] at hlen' ⊢
          omega
      case done2 =>
        intro m2 news2 hJ2 h₂ tk₂ F2 N2
        replace F2 : Fr s.heap L' h₂ _ := F2
        replace N2 : News s.heap L' h₂ _ := N2
        obtain ⟨c2, th2, wt2, K', xs, nx, rs', ds, rfl, rfl, hK', hrs', hds, h1', h2', h3', hfin', hlen'⟩ := hJ2
        cases hrs'
        have hds2 : ds = expand (gapL g e ml - mm) mm g e rs := by
          rw [← hfin']
          exact (List.append_nil _).symm
        dsimp only [ovs] at F2
        clear F5 N5 ea1 ea2 ea3 st1 st2
        k_steps
        with_reducible rename Fr _ _ _ _ => F9
        with_reducible rename News _ _ _ _ => N9
        obtain ⟨N8, ne8, neM⟩ := we_next N9 (by k_ne) (by k_ne) gI h2' h3'
        refine ⟨_, _, _, _, rfl, F9, N8, ne8, .mk _ _ _ _ _ _ _ _ _ _ _ _ _ (moveL g e mm ml) _ ds ms' (b + 255) (ovs_again (l := we9 _ _ _ _ _ _ _ _ _) (l' := we9 (some (.ref RA)) c tt w' mo ga mu ta gi) rfl) rfl (.tail _ (hK' _ hM)) (ints_two hml) ?l3 (.head _) (hds.mono (sub_tail sub_refl)) (hms'.mono (fun p hp => .tail _ (hK' p hp))) neM (hb.move hb0.1 hmm g e) ⟨?b0, ?b1⟩ ?rl ?fin⟩
        case l3 => unfold moveL; rw [List.length_set, List.length_set, hl3]
        case b0 => have := hb0.1; omega
        case b1 => have := hb0.2; rw [List.length_cons] at this; omega
        case rl => rw [hds2, expand_len]; exact hrl2.2
        case fin => rw [hds2]; exact hfin
    case done =>
      intro m news hJ h' tk F1 N1
      replace F1 : Fr s.heap L' h' _ := F1
      replace N1 : News s.heap L' h' _ := N1
      obtain ⟨c, tt, w', mo, ga, mu, ta, gi, K, RA, mv, nm, nr, ml, rvs, rs, ms, b, rfl, rfl, hM, hml, hl3, hR, hrs, hms, hne, hb, hb0, hrl, hfin⟩ := hJ
      cases hms
      dsimp only [ovs, we9] at F1
      clear F5 N5 NK
      k_steps
      try dsimp only
      refine hret _ _ _ _ _ F1 ?_
      exact ⟨RA, K, nr, rvs, rfl, fun p hp => ⟨(N1 p (.tail _ hp)).2.2, (N1 p (.tail _ hp)).1⟩, hR, hfin ▸ hrs⟩
end Mine
end
/- LawR -/
section
open PySem PySem.W PySem.Calls PyProof.Rows
namespace Mine
theorem perm3 {X Y Z x y z : Int} (h : [X, Y, Z].Perm [x, y, z]) : (X = x ∧ Y = y ∧ Z = z) ∨ (X = x ∧ Y = z ∧ Z = y) ∨ (X = y ∧ Y = x ∧ Z = z) ∨ (X = y ∧ Y = z ∧ Z = x) ∨ (X = z ∧ Y = x ∧ Z = y) ∨ (X = z ∧ Y = y ∧ Z = x) := by
  have two : ∀ {A B u v : Int}, [A, B].Perm [u, v] → (A = u ∧ B = v) ∨ (A = v ∧ B = u) := by
    intro A B u v h
    have m : A ∈ [u, v] := h.mem_iff.mp (by simp)
    simp only [List.mem_cons, List.not_mem_nil, or_false] at m
    rcases m with rfl | rfl
    · have := List.Perm.cons_inv h
      exact .inl ⟨rfl, by simpa using this⟩
    · have := List.Perm.cons_inv (h.trans (List.Perm.swap _ _ _))
      exact .inr ⟨rfl, by simpa using this⟩
  have m : X ∈ [x, y, z] := h.mem_iff.mp (by simp)
  simp only [List.mem_cons, List.not_mem_nil, or_false] at m
  rcases m with rfl | rfl | rfl
  · rcases two (List.Perm.cons_inv h) with q | q
    · exact .inl ⟨rfl, q⟩
    · exact .inr (.inl ⟨rfl, q⟩)
  · rcases two (List.Perm.cons_inv (h.trans (List.Perm.swap _ _ _))) with q | q
    · exact .inr (.inr (.inl ⟨rfl, q⟩))
    · exact .inr (.inr (.inr (.inl ⟨rfl, q⟩)))
  · rcases two (List.Perm.cons_inv (h.trans (List.Perm.trans (List.Perm.cons _ (List.Perm.swap _ _ _)) (List.Perm.swap _ _ _)))) with q | q
    · exact .inr (.inr (.inr (.inr (.inl ⟨rfl, q⟩))))
    · exact .inr (.inr (.inr (.inr (.inr ⟨rfl, q⟩))))
/-- three whole numbers, falling -/
def Fall3 (X Y Z x y z : Int) : Prop := [X, Y, Z].Perm [x, y, z] ∧ Y ≤ X ∧ Z ≤ Y
theorem sum3 {X Y Z x y z : Int} (hp : [X, Y, Z].Perm [x, y, z]) : X + Y + Z = x + y + z := by
  rcases perm3 hp with ⟨rfl, rfl, rfl⟩ | ⟨rfl, rfl, rfl⟩ | ⟨rfl, rfl, rfl⟩ | ⟨rfl, rfl, rfl⟩ | ⟨rfl, rfl, rfl⟩ | ⟨rfl, rfl, rfl⟩
  · rfl
  · exact Int.add_right_comm ..
  · rw [Int.add_comm X]
  · rw [Int.add_comm, ← Int.add_assoc]
  · rw [Int.add_assoc, Int.add_comm]
  · rw [Int.add_comm, Int.add_comm X, Int.add_assoc, Int.add_comm]
theorem Fall3.facts {X Y Z : Int} {x y z hi lo : Nat} (h : Fall3 X Y Z (x : Int) (y : Int) (z : Int)) (hma : max (max x y) z = hi) (hmi : min (min x y) z = lo) : Y ≤ X ∧ Z ≤ Y ∧ X + Y + Z = x + y + z ∧ X = hi ∧ Z = lo ∧ 0 ≤ Z := by
  obtain ⟨hp, h1, h2⟩ := h
  have r : [Z, Y, X].Perm [(x : Int), y, z] := List.Perm.trans (List.Perm.trans (List.Perm.swap _ _ _) (List.Perm.trans (List.Perm.cons _ (List.Perm.swap _ _ _)) (List.Perm.swap _ _ _))) hp
  obtain ⟨e1, e2⟩ := sorted3 r h2 h1 hma hmi
  exact ⟨h1, h2, sum3 hp, e2, e1, e1 ▸ Int.natCast_nonneg _⟩
theorem small {X Y Z : Int} {n : Nat} (h1 : Y ≤ X) (h2 : Z ≤ Y) (h3 : 0 ≤ Z) (h4 : X + Y + Z = n) (h5 : n ≤ 21) : (0 ≤ X ∧ X ≤ 21) ∧ (0 ≤ Y ∧ Y ≤ 21) ∧ (0 ≤ Z ∧ Z ≤ 21) := by omega
section
variable {prog : Program} {w : World} {A : Around} {E : Value → Shared → Prop} {s : Shared} {h₀ : Heap} {L : Addr} {m : Str → Option Value} {news : List (Addr × Obj)}
/-- sorted(.., reverse=True) of three whole numbers -/
theorem sortedR3 {l : Addr} {x y z : Int} {t1 t2 t3 : Tok} {Q : Value → Shared → Prop} (F : Fr h₀ L s.heap m) (N : News h₀ L s.heap news) (hl : s.heap.IsList l #[.int x t1, .int y t2, .int z t3])
    (h : ∀ (D : Addr) (h' : Heap) (X Y Z : Int) (s1 s2 s3 : Tok) (e : Nat), Fr h₀ L h' m → News h₀ L h' ((D, W.listOf #[.int X s1, .int Y s2, .int Z s3] e) :: news) → (∀ p ∈ news, p.1 < D) → Fall3 X Y Z x y z → Q (.ref D) { s with heap := h' }) :
    wpAny (model prog w) A (call (.builtin "sorted") [.ref l] [(Str.ofString "reverse", .bool true)]) Q E s := by
  refine sorted_N_rev (vs := [.int x t1, .int y t2, .int z t3]) (ns := [x, y, z]) F N hl (.cons _ _ (.cons _ _ (.cons _ _ .nil))) (Nat.le_of_ble_eq_true rfl) fun h' vs' ns' e F' N' hI hp ho => ?_
  obtain ⟨X, Y, Z, s1, s2, s3, rfl, rfl⟩ := intsAre3 hI (by rw [hp.length_eq]; rfl)
  have ho' : ([X, Y, Z] : List Int).Pairwise (fun a b => b ≤ a) := ho
  have h1 := List.pairwise_cons.mp ho'
  have h2 := List.pairwise_cons.mp h1.2
  exact h _ _ X Y Z s1 s2 s3 e F' N' (fun p hp' => Nat.lt_succ_of_lt (Heap.lt_size (N p hp').1)) ⟨hp, h1.1 _ (.head _), h2.1 _ (.head _)⟩
end
/-- what stands in a ring -/
abbrev ringL (a b c : UInt8) (u0 u1 u2 u3 u4 u5 u6 : Tok) : List Value := [.bytes #[a, b, c] u0, .bytes #[b, a, c] u1, .bytes #[b, c, a] u2, .bytes #[c, b, a] u3, .bytes #[c, a, b] u4, .bytes #[a, c, b] u5, .bytes #[a, b, c] u6]
theorem bts_ring {a b c : UInt8} {u0 u1 u2 u3 u4 u5 u6 : Tok} (h1 : a.toNat ≤ 21) (h2 : b.toNat ≤ 21) (h3 : c.toNat ≤ 21) : ∀ v ∈ ringL a b c u0 u1 u2 u3 u4 u5 u6, Bts v := by
  intro v hv
  simp only [List.mem_cons, List.not_mem_nil, or_false] at hv
  rcases hv with rfl | rfl | rfl | rfl | rfl | rfl | rfl <;> exact ⟨_, _, _, _, rfl, by assumption, by assumption, by assumption⟩
theorem inRing {a b c : UInt8} {u0 u1 u2 u3 u4 u5 u6 : Tok} {w X Y Z : Int} (h : [X, Y, Z].Perm [((a.toNat : Nat) : Int), ((b.toNat : Nat) : Int), ((c.toNat : Nat) : Int)]) : InRing (ringL a b c u0 u1 u2 u3 u4 u5 u6) ⟨w, X, Y, Z⟩ := by
  rcases perm3 h with ⟨rfl, rfl, rfl⟩ | ⟨rfl, rfl, rfl⟩ | ⟨rfl, rfl, rfl⟩ | ⟨rfl, rfl, rfl⟩ | ⟨rfl, rfl, rfl⟩ | ⟨rfl, rfl, rfl⟩
  · exact ⟨a, b, c, u0, by simp, rfl, rfl, rfl⟩
  · exact ⟨a, c, b, u5, by simp, rfl, rfl, rfl⟩
  · exact ⟨b, a, c, u1, by simp, rfl, rfl, rfl⟩
  · exact ⟨b, c, a, u2, by simp, rfl, rfl, rfl⟩
  · exact ⟨c, a, b, u4, by simp, rfl, rfl, rfl⟩
  · exact ⟨c, b, a, u3, by simp, rfl, rfl, rfl⟩
set_option maxHeartbeats 2000000 in
/-- _law_mean_holds of two rows, falling, and the ring of the first -/
theorem c_meanL {prog : Program} {w : World} {mean : ExcName → Option Value} {mg mb : Str → Option Value} (H G RO : Addr) (X Y Z P Q R : Int) (a b c p q r : UInt8) (s1 s2 s3 s4 s5 s6 u0 u1 u2 u3 u4 u5 u6 : Tok)
   (h1 : Fall3 X Y Z (a.toNat : Nat) (b.toNat : Nat) (c.toNat : Nat)) (h2 : Fall3 P Q R (p.toNat : Nat) (q.toNat : Nat) (r.toNat : Nat)) (hs1 : a.toNat + b.toNat + c.toNat ≤ 21) (hsum : a.toNat + b.toNat + c.toNat = p.toNat + q.toNat + r.toNat)
   (hma : max (max p.toNat q.toNat) r.toNat ≤ max (max a.toNat b.toNat) c.toNat) (hmi : min (min a.toNat b.toNat) c.toNat ≤ min (min p.toNat q.toNat) r.toNat) :
  Claim prog w mean mg mb 116 [.ref H, .ref G, .ref RO] 12 300 (fun h => h.IsList H #[.int X s1, .int Y s2, .int Z s3] ∧ h.IsList G #[.int P s4, .int Q s5, .int R s6] ∧ h.get? RO = some (ringObj a b c u0 u1 u2 u3 u4 u5 u6))
   (fun _ v _ => v = .bool true) := by
  obtain ⟨f1, f2, f3, f4, f5, f6⟩ := h1.facts rfl rfl
  obtain ⟨g1, g2, g3, g4, g5, g6⟩ := h2.facts rfl rfl
  have hp := h1.1
  have up : ∀ {x : Int}, 0 ≤ x ∧ x ≤ 21 → 0 ≤ x ∧ x ≤ 255 := fun h => ⟨h.1, Int.le_trans h.2 (by decide)⟩
  have hc : (a.toNat : Int) + b.toNat + c.toNat = ((a.toNat + b.toNat + c.toNat : Nat) : Int) := rfl
  have hd : (p.toNat : Int) + q.toNat + r.toNat = ((p.toNat + q.toNat + r.toNat : Nat) : Int) := rfl
  have hsS : X + Y + Z = P + Q + R := by rw [f3, g3, hc, hd, hsum]
  have hxp : P ≤ X := by rw [f4, g4]; exact Int.ofNat_le.mpr hma
  have hzr : Z ≤ R := by rw [f5, g5]; exact Int.ofNat_le.mpr hmi
  obtain ⟨bX, bY, bZ⟩ := small f1 f2 f6 (f3.trans hc) hs1
  obtain ⟨bP, bQ, bR⟩ := small g1 g2 g6 (g3.trans hd) (hsum ▸ hs1)
  obtain ⟨pa, pb, pc⟩ := parts hs1
  replace pa := Nat.le_of_lt_succ pa
  replace pb := Nat.le_of_lt_succ pb
  replace pc := Nat.le_of_lt_succ pc
  clear f3 g3 f4 g4 f5 g5 f6 g6 hc hd hma hmi
  by_cases hyq : Y ≥ Q
  · have W := weigh_A f1 f2 g1 g2 hsS hxp hzr hyq
    obtain ⟨E0, hE0⟩ : ∃ E0, ([⟨1 * (up1 (Y - Z) - (Y - Q)) * (up1 (X - (Z + (Y - Q))) - (X - P)), X, Y, Z⟩, ⟨1 * (up1 (Y - Z) - (Y - Q)) * (X - P), Z, Y, X⟩, ⟨1 * (Y - Q) * (up1 (X - (Z + (Y - Q))) - (X - P)), X, Z, Y⟩, ⟨1 * (Y - Q) * (X - P), Y, Z, X⟩] : List Row4).foldl rowStep ⟨0, 0, 0, 0, []⟩ = E0 := ⟨_, rfl⟩
    obtain ⟨m1, m2, m3, m4, m5, m6, m7, m8⟩ := mean_facts (vsR := ringL a b c u0 u1 u2 u3 u4 u5 u6) ⟨1 * (up1 (Y - Z) - (Y - Q)) * (up1 (X - (Z + (Y - Q))) - (X - P)), X, Y, Z⟩ ⟨1 * (up1 (Y - Z) - (Y - Q)) * (X - P), Z, Y, X⟩ ⟨1 * (Y - Q) * (up1 (X - (Z + (Y - Q))) - (X - P)), X, Z, Y⟩ ⟨1 * (Y - Q) * (X - P), Y, Z, X⟩ E0 hE0 W.g0 W.g1 W.g2 W.g3 W.hT W.ha W.hb W.hc (inRing hp) (inRing (List.Perm.trans (List.Perm.trans (List.Perm.swap _ _ _) (List.Perm.trans (List.Perm.cons _ (List.Perm.swap _ _ _)) (List.Perm.swap _ _ _))) hp)) (inRing ((List.Perm.cons _ (List.Perm.swap _ _ _)).trans hp)) (inRing (((List.Perm.cons _ (List.Perm.swap _ _ _)).trans (List.Perm.swap _ _ _)).trans hp))
    exact c_mean H G RO X Y Z P Q R s1 s2 s3 s4 s5 s6 (1 * (up1 (Y - Z) - (Y - Q)) * (up1 (X - (Z + (Y - Q))) - (X - P))) (1 * (up1 (Y - Z) - (Y - Q)) * (X - P)) (1 * (Y - Q) * (up1 (X - (Z + (Y - Q))) - (X - P))) (1 * (Y - Q) * (X - P)) (X, Z, Y) (Z, Y, X) (Y, Z, X) bX bY bZ bP bQ bR (by have e := c_weighed (prog := prog) (w := w) (mean := mean) (mg := mg) (mb := mb) H G X Y Z P Q R s1 s2 s3 s4 s5 s6 (up bX) (up bY) (up bZ) (up bP) (up bQ) (up bR); unfold movesOf at e; rw [if_pos hyq] at e; exact e) (ringL a b c u0 u1 u2 u3 u4 u5 u6) 6 (bts_ring pa pb pc) (Nat.le_of_ble_eq_true rfl) E0 hE0 m1 m2 m3 m4 m5 m6 m7 m8
      ⟨bX, bY, bZ⟩ ⟨bZ, bY, bX⟩ ⟨bX, bZ, bY⟩ ⟨bY, bZ, bX⟩
  · have W := weigh_B f1 f2 g1 g2 hsS hxp hzr hyq
    obtain ⟨E0, hE0⟩ : ∃ E0, ([⟨1 * (up1 (X - Y) - (Q - Y)) * (up1 (X - (Q - Y) - Z) - (R - Z)), X, Y, Z⟩, ⟨1 * (up1 (X - Y) - (Q - Y)) * (R - Z), Z, Y, X⟩, ⟨1 * (Q - Y) * (up1 (X - (Q - Y) - Z) - (R - Z)), Y, X, Z⟩, ⟨1 * (Q - Y) * (R - Z), Z, X, Y⟩] : List Row4).foldl rowStep ⟨0, 0, 0, 0, []⟩ = E0 := ⟨_, rfl⟩
    obtain ⟨m1, m2, m3, m4, m5, m6, m7, m8⟩ := mean_facts (vsR := ringL a b c u0 u1 u2 u3 u4 u5 u6) ⟨1 * (up1 (X - Y) - (Q - Y)) * (up1 (X - (Q - Y) - Z) - (R - Z)), X, Y, Z⟩ ⟨1 * (up1 (X - Y) - (Q - Y)) * (R - Z), Z, Y, X⟩ ⟨1 * (Q - Y) * (up1 (X - (Q - Y) - Z) - (R - Z)), Y, X, Z⟩ ⟨1 * (Q - Y) * (R - Z), Z, X, Y⟩ E0 hE0 W.g0 W.g1 W.g2 W.g3 W.hT W.ha W.hb W.hc (inRing hp) (inRing (List.Perm.trans (List.Perm.trans (List.Perm.swap _ _ _) (List.Perm.trans (List.Perm.cons _ (List.Perm.swap _ _ _)) (List.Perm.swap _ _ _))) hp)) (inRing ((List.Perm.swap _ _ _).trans hp)) (inRing (((List.Perm.swap _ _ _).trans (List.Perm.cons _ (List.Perm.swap _ _ _))).trans hp))
    exact c_mean H G RO X Y Z P Q R s1 s2 s3 s4 s5 s6 (1 * (up1 (X - Y) - (Q - Y)) * (up1 (X - (Q - Y) - Z) - (R - Z))) (1 * (up1 (X - Y) - (Q - Y)) * (R - Z)) (1 * (Q - Y) * (up1 (X - (Q - Y) - Z) - (R - Z))) (1 * (Q - Y) * (R - Z)) (Y, X, Z) (Z, Y, X) (Z, X, Y) bX bY bZ bP bQ bR (by have e := c_weighed (prog := prog) (w := w) (mean := mean) (mg := mg) (mb := mb) H G X Y Z P Q R s1 s2 s3 s4 s5 s6 (up bX) (up bY) (up bZ) (up bP) (up bQ) (up bR); unfold movesOf at e; rw [if_neg hyq] at e; exact e) (ringL a b c u0 u1 u2 u3 u4 u5 u6) 6 (bts_ring pa pb pc) (Nat.le_of_ble_eq_true rfl) E0 hE0 m1 m2 m3 m4 m5 m6 m7 m8
      ⟨bX, bY, bZ⟩ ⟨bZ, bY, bX⟩ ⟨bY, bX, bZ⟩ ⟨bZ, bX, bY⟩
/-- the sums at every level against the greatest and the least -/
theorem lift_ov {x y z p q r : Nat} (hs : x + y + z = p + q + r) : liftB (x : Int) (y : Int) (z : Int) (p : Int) (q : Int) (r : Int) = (decide (max (max p q) r ≤ max (max x y) z) && decide (min (min x y) z ≤ min (min p q) r)) := by
  have h := ov_iff hs
  rw [Bool.eq_iff_iff, Bool.and_eq_true, decide_eq_true_iff, decide_eq_true_iff, ← h]
  unfold liftB
  rw [decide_eq_true_iff]
  exact Iff.rfl
set_option maxHeartbeats 4000000 in
theorem tab_le : ∀ a, a < 22 → ∀ b, b < 22 → (Float64.cmp (q32 a) (q32 b) == some .lt || Float64.cmp (q32 a) (q32 b) == some .eq) = decide (a ≤ b) := by decide +kernel
end Mine
end
/- Two -/
section
open PySem PySem.W PySem.Calls PyProof.Rows
example : True := by
  k_with_none
  k_with "my_enter" => (k_dflt (
  refine' Mine.enterC _ ?k1z0 ?k2z0 ?k3z0 ?k4z0 ?kAz0 ?kFz0 ?kKz0 ?kRz0 ?k6z0 ?k7z0 ?k8z0 ?k9z0 ?kBz0 ?_ ?c2z0 ?c3z0 ?c4z0 ?c5z0 ?c6z0
  (case kAz0 => exact rfl); (case kFz0 => exact rfl); (case kKz0 => assumption); (case k1z0 => k_asm); (case k2z0 => k_asm); (case k3z0 => k_asm); (case k4z0 => k_asm); (case kRz0 => assumption)
  (case k6z0 => k_is); (case k7z0 => k_is); (case k8z0 => exact Nat.lt_of_le_of_lt (Nat.le_add_right _ _) (by assumption)); (case k9z0 => exact BindsTo.of_eq rfl); (case c5z0 => decide); (case kBz0 => exact locs rfl); (case c2z0 => exact rfl); (case c3z0 => exact rfl); (case c4z0 => exact rfl); (case c6z0 => exact Nat.succ_pos _)))
  k_with "execs cons" => (k_here; (with_reducible show wpAny _ _ _ _ _ (Shared.mk _ _ _ (HAdd.hAdd _ 1) _)); (with_reducible rename Fr _ _ _ _ => F9z1); (with_reducible rename News _ _ _ _ => N9z1); with_reducible refine Mine.toks_let F9z1 N9z1 ?_; intro m9z1 n9z1 tkz1 htkz1 F8z1 N8z1; clear F9z1 N9z1)
  k_with "execs nil" => (k_here; (with_reducible show wpAny _ _ _ _ _ (Shared.mk _ _ _ (HAdd.hAdd _ 1) _)); (with_reducible rename Fr _ _ _ _ => F9z2); (with_reducible rename News _ _ _ _ => N9z2); with_reducible refine Mine.toks_let F9z2 N9z2 ?_; intro m9z2 n9z2 tkz2 htkz2 F8z2 N8z2; clear F9z2 N9z2)
  k_with "ite" => (k_here; first | refine PySem.W.ite_pos (by assumption) ?_ | refine PySem.W.ite_neg (ne_true_of_eq_false (by assumption)) ?_)
  k_with "subscriptTail Name Constant ref int" => (k_here; k_dflt (refine' Mine.item_L ?hlz4 ?h0z4 ?hhiz4 ?hxz4 ?_; (case hlz4 => first | exact Fr.lst (by k_asm) (by assumption) | exact News.isList (by k_asm) (by k_mem)); (case h0z4 => decide); (case hhiz4 => decide); (case hxz4 => exact rfl)))
  k_with "subscriptTail" => (k_here; (with_reducible show wpAny _ _ (subscriptTail _ _ (Value.bytes _ _) (Value.int _ _)) _ _ _); k_dflt (refine' Mine.item_B ?hxz5 ?hfz5 ?h0z5 ?_; (case hxz5 => exact rfl); (case hfz5 => exact Nat.le_of_ble_eq_true rfl); (case h0z5 => decide)))
  k_with "call builtin:len" => (k_here; (with_reducible show wpAny _ _ (call _ [Value.bytes _ _]) _ _ _); k_dflt (refine' Mine.len_B ?hnz6 ?hzz6 ?_; (case hnz6 => first | exact (rfl : _ = 2) | exact (rfl : _ = 3)); (case hzz6 => decide); (try dsimp only)))
  k_with "CompRest" => (with_unfolding_all (refine LCg.CompRest.succ ?_; intro vz7 Iz7 oIz7 Cz7 oCz7 Dz7 mz7 hz7 tkz7 Ez7 hvz7 hCz7 hxz7 Fz7 Nz7 offz7 nez7; obtain ⟨c9z7, u9z7, hc9z7, hv9z7⟩ := hvz7; subst hv9z7; have hc8 := Option.some.inj hc9z7; subst hc8; clear hc9z7; (try simp only [LCg.Off3, and_true] at offz7)))
  k_with "subscriptTail Name Slice ref ref" => (k_here; (with_reducible show wpAny _ _ (subscriptTail _ (PySem.Expr.Slice _ _ (some _) _) (Value.ref _) (Value.ref _)) _ _ _); k_dflt (refine' Mine.slice3_ints ?Fz10 ?Nz10 ?lz10 ?iz10 ?nz10 ?pz10 ?qz10 ?kz10 ?oz10 ?_ ?sz10 ?tz10; (case Fz10 => k_asm); (case Nz10 => k_asm); (case lz10 => kmk_list); (case iz10 => assumption); (case nz10 => omega); (case pz10 => kmk_part); (case qz10 => kmk_part); (case kz10 => kmk_part); (case oz10 => decide); (case sz10 => with_unfolding_all rfl); (case tz10 => kmk_pure)); intro Dz10 wsz10 msz10 hz10 Fz10 Nz10 l1z10 hIz10 hnz10; (try k_lt l1z10); (try k_sweep))
  k_with "call builtin:sum" => (k_here; k_dflt (refine' Mine.sumNN ?hz11 ?Fz11 ?Nz11 ?lz11 ?iz11 ?_; (case hz11 => exact rfl); (case Fz11 => k_asm); (case Nz11 => k_asm); (case lz11 => is_list); (case iz11 => assumption)); intro nz11 hz11 tkz11 tz11 hnnz11 Fz11 Nz11; (try k_sweep))
  k_with "exec For Name Call cons nil" => (k_here; k_dflt (refine Mine.forRangeA 5 (by k_asm) rfl ?_))
  k_with "k_ne" => (refine neN ?_; (try dsimp only); first | exact Nat.ne_of_gt (by with_reducible assumption) | exact Nat.ne_of_lt (by with_reducible assumption) | exact Mine.Off.ne (by with_reducible assumption) | exact Mine.Off.sym (by with_reducible assumption) | with_reducible assumption | exact Ne.symm (by with_reducible assumption) | omega)
  k_with "FinE" => ((unfold LCg.FinE); intro Dz15 hz15 tkz15 Fz15 Nz15 o1z15; (try (replace o1z15 := Mine.allOff_1 o1z15; simp +zetaDelta only [Mine.AllOff, and_true] at o1z15)); (repeat obtain ⟨l9z15, o1z15⟩ := o1z15); (try simp only [List.nil_append, List.cons_append] at Nz15); (try dsimp only))
  k_with "FinA" => ((unfold LCg.FinA); intro Dz16 hz16 tkz16 Fz16 Nz16 o1z16; (try (replace o1z16 := Mine.allOff_1 o1z16; simp +zetaDelta only [Mine.AllOff, and_true] at o1z16)); (repeat obtain ⟨l9z16, o1z16⟩ := o1z16); (try simp only [List.nil_append, List.cons_append] at Nz16); (try dsimp only))
  k_with "call builtin:list.append" => (k_here; (with_reducible show wpAny _ _ (call (Value.builtin _) [Value.ref _, _]) _ _ _); (k_dflt (refine' append_K ?k1z17 ?k2z17 ?k3z17 ?_ ?zz17; (case k1z17 => k_asm); (case k2z17 => k_asm); (case k3z17 => k_upd); (case zz17 => first | exact Nat.le_of_ble_eq_true rfl | size_fits); k_whole));  intro hz17 Fz17 Nz17; (try k_sweep))
  k_with "newList" => (k_here; k_dflt (refine' newList_K ?k1z18 ?k2z18 ?_ ?zz18; (case k1z18 => k_asm); (case k2z18 => k_asm); (case zz18 => first | exact Nat.le_of_ble_eq_true rfl | size_fits); k_whole); intro lz18 hz18 Fz18 Nz18 l1z18; (try k_lt l1z18); (try k_sweep))
  k_with "call builtin:list.append" => (k_here; (fail_if_success (with_reducible show wpAny _ _ (call _ [_, _]) _ _ _)); dsimp only [List.cons_append, List.nil_append])
  k_with "execs cons Assign cons" => walk_at "execs cons"
  k_with "k_steps" => repeat' (first | (k_unfold; (try dsimp only)) | (k_end; kc_close) | ((first | (with_reducible show wpAny _ _ (exec _ _) _ _ _) | (with_reducible show wpAny _ _ (execs (_ :: _) _) _ _ _) | (with_reducible show wpAny _ _ (eval (PySem.Expr.BinOp _ _ _ _) _) _ _ _) | (with_reducible show wpAny _ _ (eval (PySem.Expr.Call _ _ _ _) _) _ _ _) | (with_reducible show wpAny _ _ (eval (PySem.Expr.Subscript _ _ _) _) _ _ _) | (with_reducible show wpAny _ _ (eval (PySem.Expr.Tuple _ _ _) _) _ _ _) | (with_reducible show wpAny _ _ (eval (PySem.Expr.List _ _) _) _ _ _)); k_fold; walk1) | walk1 | (dsimp only; walk1) | (leave1; walk_say "STEP leave1"; (try dsimp only)) | fail "no step")
  trivial
example : (PySem.Challenge.rw_zo0010_01 = PySem.Challenge.rw_zo0010_01) ∧ (Mine.hd.heap_1 = Mine.hd.heap_1) := by k_fill; exact ⟨rfl, rfl⟩
namespace Mine
theorem fm8 (d : Int) : 0 ≤ d.fmod 8 ∧ d.fmod 8 < 8 := ⟨Int.fmod_nonneg_of_pos _ (by decide), Int.fmod_lt_of_pos _ (by decide)⟩
theorem fmB (d L : Int) (h : 0 ≤ L) : 0 ≤ d.fmod (L + 1) ∧ d.fmod (L + 1) ≤ L := ⟨Int.fmod_nonneg_of_pos _ (by omega), Int.le_of_lt_add_one (Int.fmod_lt_of_pos _ (by omega))⟩
/-- two rows of three, of one sum, the first row's parts at most 7 -/
inductive TwoPost (g₀ : Heap) (v : Value) (h' : Heap) : Prop
  | mk (D1 D2 D3 : Addr) (a b c r g l : Int) (t1 t2 t3 t4 t5 t6 : Tok) : (v = .ref D3) → (g₀.get? D1 = none) → (g₀.get? D2 = none) → (g₀.get? D3 = none) → (h'.get? D1 = some (W.listOf #[.int a t1, .int b t2, .int c t3] 0)) → (h'.get? D2 = some (W.listOf #[.int r t4, .int g t5, .int l t6] 0)) → (h'.get? D3 = some (W.listOf #[.ref D1, .ref D2] 0)) → (D1 ≠ D2) → (D1 ≠ D3) → (D2 ≠ D3) → ((0 ≤ a ∧ a ≤ 7)) → ((0 ≤ b ∧ b ≤ 7)) → ((0 ≤ c ∧ c ≤ 7)) → (0 ≤ r) → (0 ≤ g) → (0 ≤ l) → (a + b + c = r + g + l) → TwoPost g₀ v h'
/-- numbers from 0 on -/
def Nn (i : Nat) (vs : List Value) : Prop := vs.length = i ∧ ∀ v ∈ vs, ∃ d t, v = Value.int d t ∧ 0 ≤ d
theorem Nn.snoc {i : Nat} {vs : List Value} {d : Int} {t : Tok} (h : Nn i vs) (hd : 0 ≤ d) : Nn (i + 1) (vs ++ [.int d t]) :=
  ⟨by rw [List.length_append, h.1]; rfl, fun v hv => (List.mem_append.mp hv).elim (h.2 v) fun hv => ⟨d, t, List.mem_singleton.mp hv, hd⟩⟩
inductive NnC (i : Nat) (vs : List Value) : Prop
  | mk (d : Int) (t : Tok) (r : List Value) : vs = .int d t :: r → 0 ≤ d → Nn i r → NnC i vs
theorem Nn.peel {i : Nat} : ∀ {vs : List Value}, Nn (i + 1) vs → NnC i vs
  | _ :: r, h => (h.2 _ (.head _)).elim fun d x => x.elim fun t x => ⟨d, t, r, x.1 ▸ rfl, x.2, Nat.succ.inj h.1, fun v hv => h.2 v (.tail _ hv)⟩
inductive Five (vs : List Value) : Prop
  | mk (d0 d1 d2 d3 d4 : Int) (t0 t1 t2 t3 t4 : Tok) : vs = [.int d0 t0, .int d1 t1, .int d2 t2, .int d3 t3, .int d4 t4] → 0 ≤ d0 → 0 ≤ d1 → 0 ≤ d2 → 0 ≤ d3 → 0 ≤ d4 → Five vs
theorem Nn.all {vs : List Value} (h : Nn 5 vs) : Five vs := by
  obtain ⟨d0, t0, r0, e0, h0, g0⟩ := h.peel
  obtain ⟨d1, t1, r1, e1, h1, g1⟩ := g0.peel
  obtain ⟨d2, t2, r2, e2, h2, g2⟩ := g1.peel
  obtain ⟨d3, t3, r3, e3, h3, g3⟩ := g2.peel
  obtain ⟨d4, t4, r4, e4, h4, g4⟩ := g3.peel
  subst e0 e1 e2 e3 e4
  cases List.eq_nil_of_length_eq_zero g4.1
  exact ⟨d0, d1, d2, d3, d4, t0, t1, t2, t3, t4, rfl, h0, h1, h2, h3, h4⟩
theorem own_nn {k : Nat} : 0 ≤ ([6, 1, 3, 4, 2] : List Int).getD k 0 := by
  rcases k with _ | _ | _ | _ | _ | k
  all_goals first | decide | exact Int.le_refl _
/-- _law_two's loop between two turns -/
inductive TwJ (D : Addr) (pO : Addr × Obj) (m₀ : Str → Option Value) (i : Nat) : (Str → Option Value) → List (Addr × Obj) → Prop
  | mk (x1 : Option Value) (vs : List Value) : Nn i vs → TwJ D pO m₀ i (ovs [(Str.ofString "j", x1)] m₀) [(D, W.listOf vs.toArray i), pO]
theorem TwJ.start {D : Addr} {pO : Addr × Obj} {m₀ : Str → Option Value} : TwJ D pO m₀ 0 m₀ [(D, W.listOf #[] 0), pO] :=
  (congrArg (fun m => TwJ D pO m₀ 0 m [(D, W.listOf #[] 0), pO]) (ovs_start m₀ [Str.ofString "j"])).mpr (.mk _ [] ⟨rfl, fun _ h => nomatch h⟩)
theorem TwJ.mk' {D : Addr} {pO : Addr × Obj} {m₀ : Str → Option Value} {i : Nat} {x1 x2 : Option Value} {vs : List Value} (h : Nn i vs) : TwJ D pO m₀ i (ovs [(Str.ofString "j", x1)] (ovs [(Str.ofString "j", x2)] m₀)) [(D, W.listOf vs.toArray i), pO] := by
  rw [ovs_again (l := [(Str.ofString "j", x1)]) (l' := [(Str.ofString "j", x2)]) rfl]
  exact .mk x1 vs h
set_option maxHeartbeats 16000000 in
theorem c_two {prog : Program} {w : World} {mean : ExcName → Option Value} {mg mb : Str → Option Value} (l : Addr) (vs : List Value) (ns : List Int) (hI : IntsAre vs ns) (hn : ns.length ≤ 1000) :
  Claim prog w mean mg mb 82 [.ref l] 4 20 (fun h => h.IsList l vs.toArray) TwoPost := by
  intro dp un gd cn cs a ccd cl outer A₀ base h₀ L m s Q E B F X T hk hd hu hl hret
  walk_at "my_enter"
  clear hret B F X T
  intro g₀ L' h₁ tk Q' hret hg htk F' N' B' X' T'
  subst hg
  (try dsimp only)
  w_on
  refine letAE ?_
  intro Ak ek9 gk dk ok
  k_steps
  rename Fr _ _ _ _ => F5
  rename News _ _ _ _ => N5
  refine letFN F5 N5 ?_
  clear F5 N5
  intro m5 n5 F5 N5
  refine RngA.byM (TwJ _ _) (by assumption) F5 N5 (by decide) TwJ.start ?step ?done
  case step =>
    clear N5 F5
    intro I i m news hi5 hJ hne h₁ tk₁ t F1 N1
    replace F1 : Fr s.heap L' h₁ _ := F1
    replace N1 : News s.heap L' h₁ _ := N1
    obtain ⟨x1, vs', hx⟩ := hJ
    have hD9 := hne _ (.head _)
    have hne' := allOff_ne (allNe_of hne)
    obtain ⟨g1, g2, _⟩ := hne'
    have hsz : vs'.toArray.size ≤ sizeLine := by rw [List.size_toArray, hx.1, sizeLine_eq]; omega
    have hi63 : ((i : Nat) : Int) < 2 ^ 63 := by omega
    k_steps
    try dsimp only [TurnEnd]
    rename Fr _ _ _ _ => F9
    rename News _ _ _ _ => N9
    simp +zetaDelta only [List.push_toArray] at N9
    try simp +zetaDelta only at F9
    exact ⟨_, _, _, _, rfl, F9, tail2 N9, (by intro p hp; rcases List.mem_cons.mp hp with rfl | hp; exact hD9; exact hne p (.tail _ hp)), TwJ.mk' (hx.snoc (Int.add_nonneg own_nn (by assumption)))⟩
  clear N5 F5
  intro m news hJ h₁ tk₁ F1 N1
  replace F1 : Fr s.heap L' h₁ _ := F1
  replace N1 : News s.heap L' h₁ _ := N1
  obtain ⟨x1, vs', hx⟩ := hJ
  obtain ⟨d0, d1, d2, d3, d4, t0, t1, t2, t3, t4, rfl, hd0, hd1, hd2, hd3, hd4⟩ := hx.all
  clear hx
  have a0 := fm8 d0
  have a1 := fm8 d1
  have a2 := fm8 d2
  have a3 := fmB d3 (d0.fmod 8 + (d1.fmod 8 + (d2.fmod 8 + 0))) (by omega)
  have a4 := fmB d4 (d0.fmod 8 + (d1.fmod 8 + (d2.fmod 8 + 0)) - d3.fmod (d0.fmod 8 + (d1.fmod 8 + (d2.fmod 8 + 0)) + 1)) (by omega)
  k_steps
  try dsimp only
  refine hret _ _ _ _ _ (by assumption) ?_
  rename News _ _ _ _ => N9
  exact ⟨_, _, _, _, _, _, _, _, _, _, _, _, _, _, _, rfl, (N9 _ (.tail _ (.tail _ (.head _)))).2.2, (N9 _ (.tail _ (.head _))).2.2, (N9 _ (.head _)).2.2, (N9 _ (.tail _ (.tail _ (.head _)))).1, (N9 _ (.tail _ (.head _))).1, (N9 _ (.head _)).1, by k_ne, by k_ne, by k_ne, by omega, by omega, by omega, by omega, by omega, by omega, by omega⟩
end Mine
end
/- Law -/
section
open PySem PySem.W PySem.Calls PySem.Spec PyProof.Rows
example : True := by
  k_with_none
  k_with "my_enter" => (k_dflt (
  refine' Mine.enterC _ ?k1z0 ?k2z0 ?k3z0 ?k4z0 ?kAz0 ?kFz0 ?kKz0 ?kRz0 ?k6z0 ?k7z0 ?k8z0 ?k9z0 ?kBz0 ?_ ?c2z0 ?c3z0 ?c4z0 ?c5z0 ?c6z0
  (case kAz0 => exact rfl); (case kFz0 => exact rfl); (case kKz0 => assumption); (case k1z0 => k_asm); (case k2z0 => k_asm); (case k3z0 => k_asm); (case k4z0 => k_asm); (case kRz0 => assumption)
  (case k6z0 => k_is); (case k7z0 => k_is); (case k8z0 => exact Nat.lt_of_le_of_lt (Nat.le_add_right _ _) (by assumption)); (case k9z0 => exact BindsTo.of_eq rfl); (case c5z0 => decide); (case kBz0 => exact locs rfl); (case c2z0 => exact rfl); (case c3z0 => exact rfl); (case c4z0 => exact rfl); (case c6z0 => exact Nat.succ_pos _)))
  k_with "execs cons" => (k_here; (with_reducible show wpAny _ _ _ _ _ (Shared.mk _ _ _ (HAdd.hAdd _ 1) _)); (with_reducible rename Fr _ _ _ _ => F9z1); (with_reducible rename News _ _ _ _ => N9z1); with_reducible refine Mine.toks_let F9z1 N9z1 ?_; intro m9z1 n9z1 tkz1 htkz1 F8z1 N8z1; clear F9z1 N9z1)
  k_with "execs nil" => (k_here; (with_reducible show wpAny _ _ _ _ _ (Shared.mk _ _ _ (HAdd.hAdd _ 1) _)); (with_reducible rename Fr _ _ _ _ => F9z2); (with_reducible rename News _ _ _ _ => N9z2); with_reducible refine Mine.toks_let F9z2 N9z2 ?_; intro m9z2 n9z2 tkz2 htkz2 F8z2 N8z2; clear F9z2 N9z2)
  k_with "ite" => (k_here; first | refine PySem.W.ite_pos (by assumption) ?_ | refine PySem.W.ite_neg (ne_true_of_eq_false (by assumption)) ?_)
  k_with "subscriptTail Name Constant ref int" => (k_here; k_dflt (refine' Mine.item_L ?hlz4 ?h0z4 ?hhiz4 ?hxz4 ?_; (case hlz4 => first | exact Fr.lst (by k_asm) (by assumption) | exact News.isList (by k_asm) (by k_mem)); (case h0z4 => decide); (case hhiz4 => decide); (case hxz4 => exact rfl)))
  k_with "subscriptTail" => (k_here; (with_reducible show wpAny _ _ (subscriptTail _ _ (Value.bytes _ _) (Value.int _ _)) _ _ _); k_dflt (refine' Mine.item_B ?hxz5 ?hfz5 ?h0z5 ?_; (case hxz5 => exact rfl); (case hfz5 => exact Nat.le_of_ble_eq_true rfl); (case h0z5 => decide)))
  k_with "call builtin:len" => (k_here; (with_reducible show wpAny _ _ (call _ [Value.bytes _ _]) _ _ _); k_dflt (refine' Mine.len_B ?hnz6 ?hzz6 ?_; (case hnz6 => first | exact (rfl : _ = 2) | exact (rfl : _ = 3)); (case hzz6 => decide); (try dsimp only)))
  k_with "CompRest" => (with_unfolding_all (refine LCg.CompRest.succ ?_; intro vz7 Iz7 oIz7 Cz7 oCz7 Dz7 mz7 hz7 tkz7 Ez7 hvz7 hCz7 hxz7 Fz7 Nz7 offz7 nez7; obtain ⟨c9z7, u9z7, hc9z7, hv9z7⟩ := hvz7; subst hv9z7; have hc8 := Option.some.inj hc9z7; subst hc8; clear hc9z7; (try simp only [LCg.Off3, and_true] at offz7)))
  k_with "CompRest" => (with_unfolding_all (refine LCg.CompRest.succ ?_; intro vz8 Iz8 oIz8 Cz8 oCz8 Dz8 mz8 hz8 tkz8 Ez8 hvz8 hCz8 hxz8 Fz8 Nz8 offz8 nez8; replace nez8 := Mine.apart3 nez8; simp only [List.getElem?_toArray, List.getElem?_cons_succ, List.getElem?_cons_zero, Option.some.injEq] at hvz8; subst hvz8; (try k_sweep)))
  k_with "CompEnd" => ((with_reducible rename LCg.Off3 _ _ _ _ => of9z9); (with_reducible rename LCg.NsObj _ _ => ns9z9); refine' Mine.compEnd_same ?Fz9 ?Nz9 of9z9 ?Sz9 ?_; (case Fz9 => k_asm); (case Nz9 => k_asm); (case Sz9 => first | exact trivial | exact .inl (by assumption) | exact .inr ⟨_, by k_mem, rfl, _, rfl⟩); clear of9z9; (try (with_reducible rename Mine.Apart3 _ _ _ => ne9z9; clear ne9z9)))
  k_with "call builtin:list.append" => (k_here; (fail_if_success (with_reducible show wpAny _ _ (call _ [_, _]) _ _ _)); dsimp only [List.cons_append, List.nil_append])
  k_with "execs cons Assign cons" => walk_at "execs cons"
  k_with "subscriptTail Name Name ref int" => (k_here; k_dflt (refine' Mine.item_L ?hlz12 ?h0z12 ?hhiz12 ?hxz12 ?_; (case hlz12 => first | exact Fr.lst (by k_asm) (by assumption) | exact News.isList (by k_asm) (by k_mem)); (case h0z12 => decide); (case hhiz12 => decide); (case hxz12 => exact rfl)))
  k_with "k_ne" => (refine neN ?_; (try dsimp only); first | exact Nat.ne_of_gt (by with_reducible assumption) | exact Nat.ne_of_lt (by with_reducible assumption) | exact Mine.Off.ne (by with_reducible assumption) | exact Mine.Off.sym (by with_reducible assumption) | with_reducible assumption | exact Ne.symm (by with_reducible assumption) | omega)
  k_with "FinE" => ((unfold LCg.FinE); intro Dz15 hz15 tkz15 Fz15 Nz15 o1z15; (try (replace o1z15 := Mine.allOff_1 o1z15; simp +zetaDelta only [Mine.AllOff, and_true] at o1z15)); (repeat obtain ⟨l9z15, o1z15⟩ := o1z15); (try simp only [List.nil_append, List.cons_append] at Nz15); (try dsimp only))
  k_with "FinA" => ((unfold LCg.FinA); intro Dz16 hz16 tkz16 Fz16 Nz16 o1z16; (try (replace o1z16 := Mine.allOff_1 o1z16; simp +zetaDelta only [Mine.AllOff, and_true] at o1z16)); (repeat obtain ⟨l9z16, o1z16⟩ := o1z16); (try simp only [List.nil_append, List.cons_append] at Nz16); (try dsimp only))
  k_with "call builtin:list.append" => (k_here; (with_reducible show wpAny _ _ (call (Value.builtin _) [Value.ref _, _]) _ _ _); (k_dflt (refine' append_K ?k1z17 ?k2z17 ?k3z17 ?_ ?zz17; (case k1z17 => k_asm); (case k2z17 => k_asm); (case k3z17 => k_upd); (case zz17 => first | exact Nat.le_of_ble_eq_true rfl | size_fits); k_whole));  intro hz17 Fz17 Nz17; (try k_sweep))
  k_with "newList" => (k_here; k_dflt (refine' newList_K ?k1z18 ?k2z18 ?_ ?zz18; (case k1z18 => k_asm); (case k2z18 => k_asm); (case zz18 => first | exact Nat.le_of_ble_eq_true rfl | size_fits); k_whole); intro lz18 hz18 Fz18 Nz18 l1z18; (try k_lt l1z18); (try k_sweep))
  k_with "subscriptTail Name Constant ref int" => (k_here; (with_reducible show wpAny _ _ (subscriptTail (PySem.Expr.Name (PySem.Str.ofString "entry") _) _ _ _) _ _ _); k_dflt (refine' item_tupleT ?tz19 ?az19 ?bz19 ?cz19 ?dz19 ?_; (case tz19 => exact Mine.isTup_of (by k_asm) (by k_mem)); (case az19 => decide); (case bz19 => decide); (case cz19 => rfl); (case dz19 => rfl)))
  k_with "k_mem" => first | exact List.Mem.head _ | (refine' List.Mem.tail _ ?_; k_mem) | exact Mine.InK.mem (by with_reducible assumption)
  k_with "k_all" => assumption
  k_with "CompSrc" => (k_here; k_dflt (refine Mine.compSrc_both (by rfl) (by k_asm) (by k_asm) (Mine.srcSub (by assumption) (by (repeat (first | exact Mine.sub_refl | apply Mine.sub_tail)))) (by exact Nat.le_of_ble_eq_true rfl) ?_; intro gz22; lcg_lit))
  k_with "CompEnd" => ((with_reducible rename LCg.Off3 _ _ _ _ => of9z23); (with_reducible rename LCg.NsObj _ _ => ns9z23); refine' Mine.compEnd_same ?Fz23 ?Nz23 of9z23 ?Sz23 ?_; (case Fz23 => k_asm); (case Nz23 => k_asm); (case Sz23 => first | exact trivial | exact .inl (by assumption) | exact Mine.srcSub (by assumption) (by (repeat (first | exact Mine.sub_refl | apply Mine.sub_tail))) | exact .inr ⟨_, by k_mem, rfl, _, rfl⟩); clear of9z23; (try (with_reducible rename Mine.Apart3 _ _ _ => ne9z23; clear ne9z23)))
  k_with "subscriptTail Name Name ref int" => (k_here; k_dflt (refine' Mine.item_L ?hlz24 ?h0z24 ?hhiz24 ?hxz24 ?_; (case hlz24 => exact News.isList (by k_asm) (by k_mem)); (case h0z24 => exact Int.natCast_nonneg _); (case hhiz24 => first | with_reducible assumption | omega); (case hxz24 => with_reducible assumption)))
  k_with "subscriptTail Name BinOp ref int" => (k_here; k_dflt (refine' Mine.item_L ?hlz25 ?h0z25 ?hhiz25 ?hxz25 ?_; (case hlz25 => exact News.isList (by k_asm) (by k_mem)); (case h0z25 => first | with_reducible assumption | omega); (case hhiz25 => first | with_reducible assumption | omega); (case hxz25 => with_reducible assumption)))
  k_with "call type:bytes" => (k_here; (with_reducible show wpAny _ _ (call (Value.type _) [Value.ref _]) _ _ _); k_dflt (refine' Mine.bytes3 ?Fz26 ?Nz26 ?lz26 ?hz26 ?_; (case Fz26 => k_asm); (case Nz26 => k_asm); (case lz26 => exact News.isList (by k_asm) (by k_mem)); (case hz26 => with_unfolding_all rfl)); intro hz26 tz26 kz26 Fz26 Nz26; (try k_sweep))
  k_with "subscriptTail Subscript Constant ref int" => (k_here; k_dflt (refine' Mine.item_L ?hlz27 ?h0z27 ?hhiz27 ?hxz27 ?_; (case hlz27 => exact News.isList (by k_asm) (by k_mem)); (case h0z27 => decide); (case hhiz27 => decide); (case hxz27 => exact rfl)))
  k_with "subscriptTail Subscript Name Name Constant ref int" => walk_at "subscriptTail Subscript Constant ref int"
  k_with "subscriptTail Subscript Slice ref ref" => (k_here; (with_reducible rename Fr _ _ _ _ => Fz29); (with_reducible rename News _ _ _ _ => Nz29); k_dflt (refine Mine.slice6 (s := ⟨_, _, _, _, _⟩) Fz29 Nz29 (News.isList Nz29 (by k_mem)) ?_); intro Dz29 hz29 Fz29 Nz29 l1z29; (try k_lt l1z29); (try k_sweep))
  k_with "subscriptTail Subscript Name Name Slice" => walk_at "subscriptTail Subscript Slice ref ref"
  k_with "call builtin:sorted" => (k_here; (with_reducible show wpAny _ _ (call _ [Value.ref _]) _ _ _); k_dflt (refine' Mine.sortedBq ?Fz31 ?Nz31 ?hlz31 ?hBz31 ?h64z31 ?_; (case Fz31 => k_asm); (case Nz31 => k_asm); (case hlz31 => exact News.isList (by k_asm) (by k_mem)); (case hBz31 => with_reducible assumption); (case h64z31 => first | with_reducible assumption | exact Nat.le_of_ble_eq_true rfl)); intro Dz31 hz31 vsz31 ez31 Fz31 Nz31 l1z31 hpz31; (try k_lt l1z31); (try k_sweep))
  k_with "compareOp NotEq bytes bytes" => (k_here; k_dflt (refine Mine.ne_bytesSame rfl ?_))
  k_with "compareOp Eq ref ref" => (k_here; k_dflt (refine' Mine.eq_emptyList ?hlz33 ?hmz33 ?hvz33 ?hrz33 ?_; (case hlz33 => exact News.isList (by k_asm) (by k_mem)); (case hmz33 => exact News.isList (by k_asm) (by k_mem)); (case hvz33 => exact Nat.le_of_ble_eq_true rfl); (case hrz33 => ktr_units)))
  k_with "call builtin:sorted" => (k_here; (show wpAny _ _ (call (Value.builtin _) [Value.ref _] [(_, Value.bool _)]) _ _ _); k_dflt (refine' Mine.sortedR3 ?Fz34 ?Nz34 ?hlz34 ?_; (case Fz34 => k_asm); (case Nz34 => k_asm); (case hlz34 => exact News.isList (by k_asm) (by k_mem))); intro Dz34 hz34 Xz34 Yz34 Zz34 s1z34 s2z34 s3z34 ez34 Fz34 Nz34 l1z34 hpz34; (try k_lt l1z34); (try k_sweep))
  k_with "call ref" => (k_here; (have pz' : Mine.Pause := by with_reducible assumption); clear pz'; refine Mine.Hold.out ?_)
  k_with "exec For Name Call cons nil" => (k_here; (have pz' : Mine.Pause := by with_reducible assumption); clear pz'; refine Mine.Hold.out ?_)
  k_with "FinA" => (k_here; (have pz' : Mine.Pause := by with_reducible assumption); clear pz'; refine Mine.Hold.out ?_)
  k_with "compareOp NotEq ref ref" => (k_here; (have pz' : Mine.Pause := by with_reducible assumption); clear pz'; refine Mine.Hold.out ?_)
  k_with "exec Assign cons ListComp" => (k_here; (with_reducible show wpAny _ _ (exec (Stmt.Assign _ (PySem.Expr.ListComp _ (_ :: _ :: _) _ _) _) _) _ _ _); (have pz' : Mine.Pause := by with_reducible assumption); clear pz'; refine Mine.Hold.out ?_)
  k_with "k_steps" => repeat' (first | (k_unfold; (try dsimp only)) | (k_end; kc_close) | ((first | (with_reducible show wpAny _ _ (exec _ _) _ _ _) | (with_reducible show wpAny _ _ (execs (_ :: _) _) _ _ _) | (with_reducible show wpAny _ _ (eval (PySem.Expr.BinOp _ _ _ _) _) _ _ _) | (with_reducible show wpAny _ _ (eval (PySem.Expr.Call _ _ _ _) _) _ _ _) | (with_reducible show wpAny _ _ (eval (PySem.Expr.Subscript _ _ _) _) _ _ _) | (with_reducible show wpAny _ _ (eval (PySem.Expr.Tuple _ _ _) _) _ _ _) | (with_reducible show wpAny _ _ (eval (PySem.Expr.List _ _) _) _ _ _)); k_fold; walk1) | walk1 | (dsimp only; walk1) | (leave1; walk_say "STEP leave1"; (try dsimp only)) | fail "no step")
  trivial
example : (PySem.Challenge.rw_zo0010_01 = PySem.Challenge.rw_zo0010_01) ∧ (Mine.hd.heap_1 = Mine.hd.heap_1) := by k_fill; exact ⟨rfl, rfl⟩
namespace Mine
set_option maxHeartbeats 8000000 in
theorem law_holds : PySem.Challenge.rw_zo0010_01.Holds := by
  refine holds_law (l := PySem.Challenge.rw_zo0010_01) (by decide +kernel) ?_
  intro said
  clear said
  refine Mine.hd ⟨by intro w; kernel_rfl, ?_⟩
  intro w s₀ s₁ mg mb G Y fa o pm cd doc dV kV ho hd hcd hD hmg hg args vals as hpre hlay hrd hwl hlo
  have KX := kIn_of Y
  have X := (Ground.X G).1
  have V := (Ground.X G).2
  refine Ground.open G ?_
  intro T B D TE TW
  clear B D TE TW hmg V
  wrow_args hpre hlay hrd hwl hlo
  with_reducible rename IntsAre _ _ => hI
  with_reducible rename Heap.IsList _ _ _ => hL
  rename ¬ (_ < _) => hlen
  clear X G Y
  have he := Dflts.none hD rfl; subst he; have he := Dflts.noKw hD; subst he
  clear hD
  obtain ⟨Q9, hQ9⟩ : ∃ Q9 : Value → Shared → Prop, Q9 = fun v s' => ∃ L' m', Fr s₁.heap L' s'.heap m' ∧ v = .bool true ∧ s'.gens = s₁.gens ∧ s'.os = s₁.os := ⟨_, rfl⟩
  have hret : ∀ (v : Value) (h' : Heap) (tk' : Nat) (L₂ : Addr) (m' : Str → Option Value), Fr s₁.heap L₂ h' m' → v = .bool true → Q9 v { s₁ with heap := h', toks := tk' } := by
    intro v h' tk' L₂ m' F hv
    rw [hQ9]
    exact ⟨L₂, m', F, hv, rfl, rfl⟩
  have B' := below_caller s₁.heap
  refine wpG_call (codeG_mono (call_cellsG (R := fun r s' => match r with | .ok (.ret v) => Q9 v s' | _ => False) (by decide) ho (fd_plain hd) (Top.nolimit T) hcd (BindsTo.of_eq (binds := [(PySem.Str.ofString "script", _)]) rfl) (by exact rfl) (by decide) fun g L' h₁ tk cells hge F N X0 => ?_) ?_)
  rotate_left
  · intro r s' h
    match r, h with
    | .ok (.ret v), h =>
      replace h : Q9 v s' := h
      rw [hQ9] at h
      obtain ⟨_, _, F, hv, hgn, hos⟩ := h
      subst hv
      refine GoodW.toG (goodW_bool F (hgn.trans hg) (raisesW_false ?_) ?_ hos)
      · wrow_none_raised
      · wrow_post
  clear hQ9
  subst hge
  generalize PySem.Challenge.rw_zo0010_01.row.prog = prog at *
  k_cells X0
  rename_i o1 d1
  (try simp only [List.cons_append, List.nil_append] at N)
  dsimp only at hd hcd F d1 ⊢
  clear hd hcd ho
  with_reducible rename ReadsAll _ _ _ _ => q1
  with_reducible rename Reads _ _ _ _ => q2
  with_reducible rename ReadsAllW _ _ _ _ _ _ => q3
  with_reducible rename Well _ _ _ _ => q4
  clear q1 q2 q3 q4
  replace d1 : o1.data = Data.cell none := d1
  refine execsG_cons (assignG (wpG_of ?_))
  have pz := pause
  k_steps
  unfold Hold
  clear pz
  with_reducible rename Fr _ _ _ _ => F7
  with_reducible rename News _ _ _ _ => N7
  k_here
  refine' useC (c_two _ _ _ hI (by omega)) ?B ?F ?N ?X ?T ?hk ?hd ?hu ?pre ?_
  case B => k_asm
  case F => k_asm
  case N => k_asm
  case X => k_asm
  case T => k_asm
  case hk => exact rfl
  case hd => exact Nat.le_of_ble_eq_true rfl
  case hu => exact Nat.le_of_ble_eq_true rfl
  case pre => exact stays_list F7.keep hL
  intro v9 h9 tk9 F9 N9 P9
  obtain ⟨D1, D2, D3, x, y, z, p, q, r, t1, t2, t3, t4, t5, t6, e9, a1, a2, a3, c1, c2, c3, n12, n13, n23, bx, by_, bz, bp, bq, br, hsum⟩ := P9
  subst e9
  obtain ⟨N9, neA⟩ := gain2 F7 N7 N9 a1 c1
  obtain ⟨N9, neB⟩ := gain2 F7 N7 N9 a2 c2 (fun p hp => by rcases List.mem_cons.mp hp with rfl | hp; exact .inr n12; exact .inl hp)
  obtain ⟨N9, neC⟩ := gain2 F7 N7 N9 a3 c3 (fun p hp => by rcases List.mem_cons.mp hp with rfl | hp; exact .inr n23; rcases List.mem_cons.mp hp with rfl | hp; exact .inr n13; exact .inl hp)
  replace neA := allOff_ne neA
  replace neB := allOff_ne neB
  replace neC := allOff_ne neC
  simp +zetaDelta only [AllOff, and_true] at neA neB neC
  clear F7 N7
  have pz := pause
  try dsimp only
  k_steps
  obtain ⟨o12, o1L⟩ := neB
  obtain ⟨o23, o13, o3L⟩ := neC
  obtain ⟨a, rfl⟩ := octet (x := x) (by omega)
  obtain ⟨b, rfl⟩ := octet (x := y) (by omega)
  obtain ⟨c, rfl⟩ := octet (x := z) (by omega)
  obtain ⟨d, rfl⟩ := octet (x := p) (by omega)
  obtain ⟨e, rfl⟩ := octet (x := q) (by omega)
  obtain ⟨f, rfl⟩ := octet (x := r) (by omega)
  have hs1 : a.toNat + b.toNat + c.toNat ≤ 21 := by omega
  have hs2 : d.toNat + e.toNat + f.toNat ≤ 21 := by omega
  replace hsum : a.toNat + b.toNat + c.toNat = d.toNat + e.toNat + f.toNat := by omega
  clear bx by_ bz bp bq br
  clear a1 a2 a3 c1 c2 c3 pz hL hI hlen
  with_reducible rename Fr _ _ _ _ => F1
  with_reducible rename News _ _ _ _ => N1
  refine execsG_cons (Assign_ListComp_G F1 rfl (by rfl) (by rfl) (by decide) (by rfl) (by decide) (by rfl) ?_ (by rfl) (by rfl))
  have pz := pause
  k_steps
  unfold SrcG
  refine ⟨_, [Value.ref D1, Value.ref D2], _, rfl, rfl, F1, N1, .inr ⟨_, by k_mem, rfl, _, rfl⟩, by exact Nat.le_of_ble_eq_true rfl, ?_⟩
  intro g7
  unfold TurnsG
  intro I oI C oC D m₂ h tk hC hx F2 N2 off ne
  refine callEG ?_
  k_steps
  try dsimp only
  refine callG_K (by k_asm) (by k_is) (wpG_of ?_)
  k_steps
  refine useG (c_turned ((a.toNat : Nat) : Int) ((b.toNat : Nat) : Int) ((c.toNat : Nat) : Int) D1 t1 t2 t3 (by omega) (by omega) (by omega)) (by k_asm) F2 N2 (by k_asm) (by k_asm) rfl (by ktr_room) (by ktr_units) (News.isList N2 (by k_mem)) ?_
  intro v9 h9 tk9 F9 N9 P9
  obtain ⟨R1, u0, u1, u2, u3, u4, u5, u6, e9, aR, cR⟩ := P9
  subst e9
  rw [octet_back, octet_back, octet_back] at cR
  obtain ⟨N9, neR⟩ := gain2 F2 N2 N9 aR cR
  obtain ⟨nI, nC, nD, neR⟩ := neR
  refine LCg.CompEnd.intro F9 N9 ((R1, ringObj a b c u0 u1 u2 u3 u4 u5 u6) :: _) (fun p hp => ?sub) ⟨⟨Ne.symm nI, Ne.symm nC, Ne.symm nD⟩, off⟩ ?src ?_
  case sub =>
    rcases List.mem_cons.mp hp with rfl | hp
    · exact .tail _ (.head _)
    rcases List.mem_cons.mp hp with rfl | hp
    · exact .tail _ (.tail _ (.head _))
    rcases List.mem_cons.mp hp with rfl | hp
    · exact .tail _ (.tail _ (.tail _ (.head _)))
    rcases List.mem_cons.mp hp with rfl | hp
    · exact .head _
    · exact .tail _ (.tail _ (.tail _ (.tail _ hp)))
  case src => exact .inr ⟨_, by k_mem, rfl, _, rfl⟩
  clear F2 N2 F9 N9 off hC hx
  replace neR := allOff_ne neR
  simp +zetaDelta only [AllOff, and_true] at neR
  have neR1 := neR
  clear neR
  unfold TurnsG
  intro I oI C oC D m₂ h tk hC hx F2 N2 off ne
  refine callEG ?_
  k_steps
  try dsimp only
  refine callG_K (by k_asm) (by k_is) (wpG_of ?_)
  k_steps
  refine useG (c_turned ((d.toNat : Nat) : Int) ((e.toNat : Nat) : Int) ((f.toNat : Nat) : Int) D2 t4 t5 t6 (by omega) (by omega) (by omega)) (by k_asm) F2 N2 (by k_asm) (by k_asm) rfl (by ktr_room) (by ktr_units) (News.isList N2 (by k_mem)) ?_
  intro v9 h9 tk9 F9 N9 P9
  obtain ⟨R2, w0, w1, w2, w3, w4, w5, w6, e9, aR, cR⟩ := P9
  subst e9
  rw [octet_back, octet_back, octet_back] at cR
  obtain ⟨N9, neR⟩ := gain2 F2 N2 N9 aR cR
  obtain ⟨nI, nC, nD, neR⟩ := neR
  refine LCg.CompEnd.intro F9 N9 ((R2, ringObj d e f w0 w1 w2 w3 w4 w5 w6) :: _) (fun p hp => ?sub) ⟨⟨Ne.symm nI, Ne.symm nC, Ne.symm nD⟩, off⟩ ?src ?_
  case sub =>
    rcases List.mem_cons.mp hp with rfl | hp
    · exact .tail _ (.head _)
    rcases List.mem_cons.mp hp with rfl | hp
    · exact .tail _ (.tail _ (.head _))
    rcases List.mem_cons.mp hp with rfl | hp
    · exact .tail _ (.tail _ (.tail _ (.head _)))
    rcases List.mem_cons.mp hp with rfl | hp
    · exact .head _
    · exact .tail _ (.tail _ (.tail _ (.tail _ hp)))
  case src => exact .inr ⟨_, by k_mem, rfl, _, rfl⟩
  clear F2 N2 F9 N9 off hC hx
  replace neR := allOff_ne neR
  simp +zetaDelta only [AllOff, and_true] at neR
  unfold TurnsG
  clear aR cR nI nC nD ne
  unfold LCg.FinA
  intro D4 h tk F3 N3 o4
  replace o4 := allOff_1 o4
  simp +zetaDelta only [AllOff, and_true] at o4
  (try simp only [List.nil_append, List.cons_append] at N3)
  dsimp only
  refine wpG_of ?_
  have pz := pause
  k_steps
  unfold Hold
  clear pz
  with_reducible rename Fr _ _ _ _ => F7
  with_reducible rename News _ _ _ _ => N7
  k_here
  refine' useC (c_toldR R1 a b c u0 u1 u2 u3 u4 u5 u6 hs1) ?B ?F ?N ?X ?T ?hk ?hd ?hu ?pre ?_
  case B => k_asm
  case F => k_asm
  case N => k_asm
  case X => k_asm
  case T => k_asm
  case hk => exact rfl
  case hd => exact Nat.le_of_ble_eq_true rfl
  case hu => exact Nat.le_of_ble_eq_true rfl
  case pre => exact newsAt N7 (by k_mem)
  intro v9 h9 tk9 F9 N9 P9
  obtain ⟨T1, v1, v2, e9, aT, cT⟩ := P9
  subst e9
  obtain ⟨N9, neT⟩ := gain2 F7 N7 N9 aT cT
  obtain ⟨nI, nC, nD, neT⟩ := neT
  k_unfold
  with_reducible rename LCg.Off3 _ _ _ _ => off
  have pz := pause
  try dsimp only
  refine LCg.CompEnd.intro F9 N9 ((T1, W.listOf #[.float (q32 (max (max a.toNat b.toNat) c.toNat)) v1, .float (q32 (min (min a.toNat b.toNat) c.toNat)) v2] 0) :: _) (fun p hp => ?sub) ⟨⟨Ne.symm nI, Ne.symm nC, Ne.symm nD⟩, off⟩ ?src ?_
  case sub =>
    rcases List.mem_cons.mp hp with rfl | hp
    · exact .tail _ (.head _)
    rcases List.mem_cons.mp hp with rfl | hp
    · exact .tail _ (.tail _ (.head _))
    rcases List.mem_cons.mp hp with rfl | hp
    · exact .tail _ (.tail _ (.tail _ (.head _)))
    rcases List.mem_cons.mp hp with rfl | hp
    · exact .head _
    · exact .tail _ (.tail _ (.tail _ (.tail _ hp)))
  case src => exact .inr ⟨_, by k_mem, rfl, _, rfl⟩
  clear F7 N7 off F9 N9 nI nC nD aT cT
  replace neT := allOff_ne neT
  simp +zetaDelta only [AllOff, and_true] at neT
  have neT1 := neT
  clear neT
  k_steps
  unfold Hold
  clear pz
  with_reducible rename Fr _ _ _ _ => F7
  with_reducible rename News _ _ _ _ => N7
  k_here
  refine' useC (c_toldR R2 d e f w0 w1 w2 w3 w4 w5 w6 hs2) ?B ?F ?N ?X ?T ?hk ?hd ?hu ?pre ?_
  case B => k_asm
  case F => k_asm
  case N => k_asm
  case X => k_asm
  case T => k_asm
  case hk => exact rfl
  case hd => exact Nat.le_of_ble_eq_true rfl
  case hu => exact Nat.le_of_ble_eq_true rfl
  case pre => exact newsAt N7 (by k_mem)
  intro v9 h9 tk9 F9 N9 P9
  obtain ⟨T2, v3, v4, e9, aT, cT⟩ := P9
  subst e9
  obtain ⟨N9, neT⟩ := gain2 F7 N7 N9 aT cT
  obtain ⟨nI, nC, nD, neT⟩ := neT
  k_unfold
  with_reducible rename LCg.Off3 _ _ _ _ => off
  have pz := pause
  try dsimp only
  refine LCg.CompEnd.intro F9 N9 ((T2, W.listOf #[.float (q32 (max (max d.toNat e.toNat) f.toNat)) v3, .float (q32 (min (min d.toNat e.toNat) f.toNat)) v4] 0) :: _) (fun p hp => ?sub) ⟨⟨Ne.symm nI, Ne.symm nC, Ne.symm nD⟩, off⟩ ?src ?_
  case sub =>
    rcases List.mem_cons.mp hp with rfl | hp
    · exact .tail _ (.head _)
    rcases List.mem_cons.mp hp with rfl | hp
    · exact .tail _ (.tail _ (.head _))
    rcases List.mem_cons.mp hp with rfl | hp
    · exact .tail _ (.tail _ (.tail _ (.head _)))
    rcases List.mem_cons.mp hp with rfl | hp
    · exact .head _
    · exact .tail _ (.tail _ (.tail _ (.tail _ hp)))
  case src => exact .inr ⟨_, by k_mem, rfl, _, rfl⟩
  clear F7 N7 off F9 N9 nI nC nD aT cT
  replace neT := allOff_ne neT
  simp +zetaDelta only [AllOff, and_true] at neT
  k_steps
  unfold Hold
  clear pz
  unfold LCg.FinA
  intro D5 h tk F3 N3 o5
  replace o5 := allOff_1 o5
  simp +zetaDelta only [AllOff, and_true] at o5
  (try simp only [List.nil_append, List.cons_append] at N3)
  dsimp only
  have pz := pause
  k_steps
  unfold Hold
  clear pz
  have hsel := law_sel (D5 := D5) (D1 := D1) (D2 := D2) (D3 := D3) (R1 := R1) (R2 := R2) (D4 := D4) (T1 := T1) (T2 := T2) (a := a) (b := b) (c := c) (d := d) (e := e) (f := f) (t1 := t1) (t2 := t2) (t3 := t3) (t4 := t4) (t5 := t5) (t6 := t6) (u0 := u0) (u1 := u1) (u2 := u2) (u3 := u3) (u4 := u4) (u5 := u5) (u6 := u6) (w0 := w0) (w1 := w1) (w2 := w2) (w3 := w3) (w4 := w4) (w5 := w5) (w6 := w6) (f1 := v1) (f2 := v2) (f3 := v3) (f4 := v4) (n3 := 0) (n4 := 2) (n5 := 2) hs1 hsum
  refine Mine.forRangeA 2 (by k_asm) rfl ?_
  k_steps
  with_reducible rename Fr _ _ _ _ => F5
  with_reducible rename News _ _ _ _ => N5
  obtain ⟨K, hK, hKo, NK⟩ : ∃ K, (∀ i, i < 2 → LawSel K D3 D4 D5 i) ∧ (∀ p ∈ K, p.1 ≠ L' + 1) ∧ News s₁.heap L' _ ((L' + 1, o1) :: K) := ⟨_, hsel, all_cons (Off.sym o5.2.2.2.2.2.2.2.2) (all_cons (Off.sym neT.2.2.2.2.2.2.2) (all_cons (Off.sym neT1.2.2.2.2.2.2) (all_cons (Off.sym o4.2.2.2.2.2) (all_cons (Off.sym neR.2.2.2.2) (all_cons (Off.sym neR1.2.2.2) (all_cons (Off.sym o3L) (all_cons (Off.sym o1L) (all_cons (Off.sym neA) fun _ hp => nomatch hp)))))))),
    newsSub N5 (sub_cons (by k_mem) (sub_cons (by k_mem) (sub_cons (by k_mem) (sub_cons (by k_mem) (sub_cons (by k_mem) (sub_cons (by k_mem) (sub_cons (by k_mem) (sub_cons (by k_mem) (sub_cons (by k_mem) (sub_cons (by k_mem) sub_nil))))))))))⟩
  clear N5 hsel o5 neT neT1 o4 neR neR1 o3L o1L neA o12 o23 o13 n12 n13 n23
  refine RngA.byM (lawJ L' K) (by assumption) F5 NK (by decide) ⟨_, _, _, _, _, _, _, _, _, _, ovs_start _ [Str.ofString "high", Str.ofString "flat", Str.ofString "over", Str.ofString "mine", Str.ofString "theirs", Str.ofString "orders", Str.ofString "other", Str.ofString "which"], rfl, d1⟩ ?step ?done
  case step =>
    intro I i m news hi2 hJ hne h₁ tk₁ t F1 N1
    replace F1 : Fr s₁.heap L' h₁ _ := F1
    replace N1 : News s₁.heap L' h₁ _ := N1
    obtain ⟨x1, x2, x3, x4, x5, x6, x7, x8, ow, wv, rfl, rfl, dW⟩ := hJ
    have hkI : ∀ p ∈ K, p.1 ≠ I := fun p hp => hne p (.tail _ hp)
    have g1 := hne _ (.head _)
    replace g1 : Off _ I := g1
    dsimp only at g1
    obtain ⟨v3, v4, v5, n3, n4, n5, O, O', RO, TO, TO', a, b, c, p, q, r, t1, t2, t3, t4, t5, t6, u0, u1, u2, u3, u4, u5, u6, f1, f2, f3, f4, k3, k4, k5, i3, i3', i4, i5, i5', kO, kO', kRO, kTO, kTO', hs1, hsum⟩ := hK i hi2
    replace k3 : InK _ _ := k3
    replace k4 : InK _ _ := k4
    replace k5 : InK _ _ := k5
    replace kO : InK _ _ := kO
    replace kO' : InK _ _ := kO'
    replace kRO : InK _ _ := kRO
    replace kTO : InK _ _ := kTO
    replace kTO' : InK _ _ := kTO'
    have hs2' : p.toNat + q.toNat + r.toNat ≤ 21 := hsum ▸ hs1
    have hE1 := tab_le (max (max p.toNat q.toNat) r.toNat) (Nat.lt_succ_of_le ((mm3 rfl rfl).sum hs2').1) (max (max a.toNat b.toNat) c.toNat) (Nat.lt_succ_of_le ((mm3 rfl rfl).sum hs1).1)
    have hE2 := tab_le (min (min a.toNat b.toNat) c.toNat) (Nat.lt_succ_of_le ((mm3 rfl rfl).sum hs1).2) (min (min p.toNat q.toNat) r.toNat) (Nat.lt_succ_of_le ((mm3 rfl rfl).sum hs2').2)
    obtain ⟨ha, hb, hc⟩ := le21 hs1
    obtain ⟨hp, hq, hr⟩ := le21 hs2'
    replace ha := n21 ha
    replace hb := n21 hb
    replace hc := n21 hc
    replace hp := n21 hp
    replace hq := n21 hq
    replace hr := n21 hr
    dsimp only [ovs, law8] at F1
    clear F5 NK hK
    have pz := pause
    k_steps
    unfold Hold
    clear pz
    refine Mine.Assign_ListComp_2 (ordJ a b c) (by k_asm) rfl (by with_unfolding_all rfl) (by rfl) (by decide) (by rfl) (by decide) (by rfl) (by rfl) (by decide) (by rfl) (by rfl) ?_
    have pz := pause
    k_steps
    with_reducible rename Fr _ _ _ _ => F5
    with_reducible rename News _ _ _ _ => N5
    refine ⟨_, _, _, _, _, rfl, rfl, F5, N5, by assumption, ordJ_0, ordJ_row, fun g => ⟨?turn, ?row, ?fin⟩⟩
    case row =>
      clear F5 N5
      intro i' ys' hi' I0 oI0 C oC D m₂ h tk t0 hoC hm0 F6 N6 off ne
      replace ne := apart3 ne
      k_steps
      with_reducible rename Fr _ _ _ _ => F7
      with_reducible rename News _ _ _ _ => N7
      exact ⟨_, _, _, _, _, _, rfl, rfl, by assumption, F7, N7⟩
    case turn =>
      intro i' j' ys' hi' hj' hJ' I1 oI1 I0 oI0 C oC D m₂ h tk y0 y1 hoC hm0 hm1 F6 N6 off ne
      replace ne := apart3 ne
      clear F5 N5
      by_cases hij : i' = j'
      · subst hij
        iterate 5 walk1
        refine PySem.W.ite_neg (by simp) ?_
        refine compEnd_same F6 N6 off (fun p hp => hp) (ordJ_skip hi' hJ')
      · obtain ⟨s1, e1⟩ := sel_at (a := a) (b := b) (c := c) (t1 := t1) (t2 := t2) (t3 := t3) hi'
        obtain ⟨s2, e2⟩ := sel_at (a := a) (b := b) (c := c) (t1 := t1) (t2 := t2) (t3 := t3) hj'
        obtain ⟨s3, e3⟩ := sel_at3 (a := a) (b := b) (c := c) (t1 := t1) (t2 := t2) (t3 := t3) hi' hj' hij
        iterate 5 walk1
        have e4 : (0 : Int) ≤ 3 - ((i' : Nat) : Int) - ((j' : Nat) : Int) := by omega
        have e5 : 3 - ((i' : Nat) : Int) - ((j' : Nat) : Int) < 2 ^ 63 := by omega
        have e6 : ((i' : Nat) : Int) < 2 ^ 63 := by omega
        have e7 : ((j' : Nat) : Int) < 2 ^ 63 := by omega
        refine PySem.W.ite_pos (by simp; omega) ?_
        iterate 31 walk1
        with_reducible rename Fr _ _ _ _ => F9
        with_reducible rename News _ _ _ _ => N9
        refine LCg.CompEnd.intro F9 N9 ((I0, oI0) :: _) (sub_cons (.tail _ (.head _)) (sub_cons (.tail _ (.tail _ (.head _))) (sub_cons (.tail _ (.tail _ (.tail _ (.head _)))) (sub_tail (sub_tail (sub_tail (sub_tail sub_refl))))))) off (fun p hp => hp) (ordJ_snoc hi' hj' hij hJ')
    case fin =>
      intro ys hys
      dsimp only
      unfold LCg.FinA
      intro D6 h tk F6 N6 o6
      clear F5 N5
      replace F6 : Fr s₁.heap L' h _ := F6
      replace N6 : News s₁.heap L' h _ := N6
      replace o6 := allOff_1 o6
      simp +zetaDelta only [AllOff, and_true] at o6
      obtain ⟨o61, o62, o63, o64⟩ := o6
      try dsimp only at F6 o61 o62 o63
      have hBy := hys.1
      have hys2 := hys.2
      have hyl : ys.length = 6 := by have := congrArg List.length hys2; rw [List.length_map, List.length_map] at this; exact this
      have hy64 : ys.length < 64 := by omega
      have hB6 : BytesAll [.bytes #[a, b, c] u0, .bytes #[b, a, c] u1, .bytes #[b, c, a] u2, .bytes #[c, b, a] u3, .bytes #[c, a, b] u4, .bytes #[a, c, b] u5] := bytesAll6
      k_steps
      unfold Hold
      clear pz
      with_reducible rename Fr _ _ _ _ => F7
      with_reducible rename News _ _ _ _ => N7
      with_reducible rename SortedOf _ ys => sp2
      with_reducible rename SortedOf _ (_ :: _) => sp1
      obtain ⟨bv, bu, eo⟩ := sorted_law hB6 hBy sp1 sp2 hys2
      refine ne_bytesLists (News.isList N7 (.tail _ (.head _))) (News.isList N7 (.head _)) bv bu eo (by ktr_units) ?_
      clear bv bu eo sp1 sp2 hys2 hBy hB6 hyl hy64
      have pz := pause
      k_steps
      unfold Hold
      clear pz
      with_reducible rename Fr _ _ _ _ => F7
      with_reducible rename News _ _ _ _ => N7
      k_here
      refine' useC (c_lifted O O' _ _ _ _ _ _ t1 t2 t3 t4 t5 t6 ha hb hc hp hq hr) ?B ?F ?N ?X ?T ?hk ?hd ?hu ?pre ?_
      case B => k_asm
      case F => k_asm
      case N => k_asm
      case X => k_asm
      case T => k_asm
      case hk => exact rfl
      case hd => exact Nat.le_of_ble_eq_true rfl
      case hu => exact Nat.le_of_ble_eq_true rfl
      case pre => exact ⟨News.isList N7 (by k_mem), News.isList N7 (by k_mem)⟩
      intro v9 h9 tk9 F9 N9 P9
      rw [lift_ov hsum] at P9
      subst P9
      clear F7 N7
      have pz := pause
      try dsimp only
      by_cases hA : max (max p.toNat q.toNat) r.toNat ≤ max (max a.toNat b.toNat) c.toNat
      · by_cases hB : min (min a.toNat b.toNat) c.toNat ≤ min (min p.toNat q.toNat) r.toNat
        · have n1 := hE1.trans (decide_eq_true hA)
          have n2 : ((Float64.cmp (q32 (min (min a.toNat b.toNat) c.toNat)) (q32 (min (min p.toNat q.toNat) r.toNat)) == some .lt || Float64.cmp (q32 (min (min a.toNat b.toNat) c.toNat)) (q32 (min (min p.toNat q.toNat) r.toNat)) == some .eq) != true) = false := by rw [hE2, decide_eq_true hB]; rfl
          rw [decide_eq_true hA, decide_eq_true hB, Bool.and_self]
          k_steps
          with_reducible rename Fall3 _ _ _ ((a.toNat : Nat) : Int) _ _ => fa
          with_reducible rename Fall3 _ _ _ ((p.toNat : Nat) : Int) _ _ => fp
          unfold Hold
          clear pz
          with_reducible rename Fr _ _ _ _ => F7
          with_reducible rename News _ _ _ _ => N7
          k_here
          refine' useC (c_meanL _ _ RO _ _ _ _ _ _ a b c p q r _ _ _ _ _ _ u0 u1 u2 u3 u4 u5 u6 fa fp hs1 hsum hA hB) ?B ?F ?N ?X ?T ?hk ?hd ?hu (⟨News.isList N7 (by k_mem), News.isList N7 (by k_mem), newsAt N7 (by k_mem)⟩) ?_
          case B => k_asm
          case F => k_asm
          case N => k_asm
          case X => k_asm
          case T => k_asm
          case hk => exact rfl
          case hd => exact Nat.le_of_ble_eq_true rfl
          case hu => exact Nat.le_of_ble_eq_true rfl
          skip
          intro v9 h9 tk9 F9 N9 P9
          subst P9
          clear F7 N7
          have pz := pause
          try dsimp only
          k_steps
          try dsimp only [TurnEnd]
          with_reducible rename Fr _ _ _ _ => F9
          with_reducible rename News _ _ _ _ => N9
          with_reducible rename Obj.data _ = Data.cell (some (Value.ref O)) => dO
          refine EndA.of rfl F9 (newsSub N9 (l' := (I, _) :: (L' + 1, _) :: K) (sub_cons (by k_mem) (sub_cons (by k_mem) (by (repeat (first | exact Mine.sub_refl | apply Mine.sub_tail)))))) (all_cons g1 hkI) ⟨_, _, _, _, _, _, _, _, _, _, ovs_again (l := law8 _ _ _ _ _ _ _ _) (l' := law8 x1 x2 x3 x4 x5 x6 x7 x8) rfl, rfl, dO⟩
        · have n1 := hE1.trans (decide_eq_true hA)
          have n2 : ((Float64.cmp (q32 (min (min a.toNat b.toNat) c.toNat)) (q32 (min (min p.toNat q.toNat) r.toNat)) == some .lt || Float64.cmp (q32 (min (min a.toNat b.toNat) c.toNat)) (q32 (min (min p.toNat q.toNat) r.toNat)) == some .eq) != false) = false := by rw [hE2, decide_eq_false hB]; rfl
          rw [decide_eq_true hA, decide_eq_false hB, Bool.and_false]
          k_steps
          try dsimp only [TurnEnd]
          with_reducible rename Fr _ _ _ _ => F9
          with_reducible rename News _ _ _ _ => N9
          with_reducible rename Obj.data _ = Data.cell (some (Value.ref O)) => dO
          refine EndA.of rfl F9 (newsSub N9 (l' := (I, _) :: (L' + 1, _) :: K) (sub_cons (by k_mem) (sub_cons (by k_mem) (by (repeat (first | exact Mine.sub_refl | apply Mine.sub_tail)))))) (all_cons g1 hkI) ⟨_, _, _, _, _, _, _, _, _, _, ovs_again (l := law8 _ _ _ _ _ _ _ _) (l' := law8 x1 x2 x3 x4 x5 x6 x7 x8) rfl, rfl, dO⟩
      · have n1 := hE1.trans (decide_eq_false hA)
        have n2 : ((Float64.cmp (q32 (max (max p.toNat q.toNat) r.toNat)) (q32 (max (max a.toNat b.toNat) c.toNat)) == some .lt || Float64.cmp (q32 (max (max p.toNat q.toNat) r.toNat)) (q32 (max (max a.toNat b.toNat) c.toNat)) == some .eq) != false) = false := by rw [n1]; rfl
        rw [decide_eq_false hA, Bool.false_and]
        k_steps
        try dsimp only [TurnEnd]
        with_reducible rename Fr _ _ _ _ => F9
        with_reducible rename News _ _ _ _ => N9
        with_reducible rename Obj.data _ = Data.cell (some (Value.ref O)) => dO
        refine EndA.of rfl F9 (newsSub N9 (l' := (I, _) :: (L' + 1, _) :: K) (sub_cons (by k_mem) (sub_cons (by k_mem) (by (repeat (first | exact Mine.sub_refl | apply Mine.sub_tail)))))) (all_cons g1 hkI) ⟨_, _, _, _, _, _, _, _, _, _, ovs_again (l := law8 _ _ _ _ _ _ _ _) (l' := law8 x1 x2 x3 x4 x5 x6 x7 x8) rfl, rfl, dO⟩
  case done =>
    intro m news hJ h' tk F1 N1
    replace F1 : Fr s₁.heap L' h' _ := F1
    replace N1 : News s₁.heap L' h' _ := N1
    obtain ⟨x1, x2, x3, x4, x5, x6, x7, x8, ow, wv, rfl, rfl, dW⟩ := hJ
    dsimp only [ovs, law8] at F1
    clear F5 NK hK
    k_steps
    exact hret _ _ _ _ _ F1 rfl
end Mine
end
end
theorem PySem.Challenge.cw_zo0010_01_holds : PySem.Challenge.rw_zo0010_01.Holds :=
  Mine.law_holds
