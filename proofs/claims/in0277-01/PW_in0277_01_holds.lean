import PyProof.Rows.All
import Wide.All
import OpenK.AllK
import Wide.FinOn
import KE.KTryDeep
import KE.KPairTest
import KE.KNest
import Lean
import PySem.Challenge.RW_in0277_01
set_option Elab.async false
set_option compiler.extract_closed false
section
-- ASaid
open PySem PySem.W PySem.Calls PySem.Spec PyProof.Rows
set_option Elab.async false
set_option maxRecDepth 100000
set_option maxHeartbeats 8000000
set_option linter.all false
namespace Mine
theorem band {a b : Bool} (h : a = true) (h' : b = true) : (a && b) = true := by rw [h, h']; rfl
theorem said1 : sreFenced PySem.Challenge.rw_in0277_01.row.prog.main = true := by kernel_rfl
theorem said2 : ((moduleNames PySem.Challenge.rw_in0277_01.row.prog.main.body).isEmpty || lookedIntoSs (moduleNames PySem.Challenge.rw_in0277_01.row.prog.main.body) PySem.Challenge.rw_in0277_01.row.prog.main.body) = true := by kernel_rfl
theorem said3 : namesResolve PySem.Challenge.rw_in0277_01.row.prog = true := by kernel_rfl
theorem said4 : PySem.Challenge.rw_in0277_01.row.prog.boundNames.all (fun n => !worldNames.contains n) = true := by kernel_rfl
theorem said5 : noRoadLSs { strict := !(importedModules PySem.Challenge.rw_in0277_01.row.prog.main.body).all cThrough.contains, foot := none, bare := (["vars", "dir", "locals"] : List Str).filter (readsOut PySem.Challenge.rw_in0277_01.row.prog PySem.Challenge.rw_in0277_01.row.prog.main.body) } PySem.Challenge.rw_in0277_01.row.prog.main.body = true := by kernel_rfl
theorem said6 : (namesMeet PySem.Challenge.rw_in0277_01.row.prog PySem.Challenge.rw_in0277_01.row.prog.main.body fun _ n => attrL n) = true := by kernel_rfl
theorem said_open : looksOpen PySem.Challenge.rw_in0277_01.row.prog = true := band (band (band (band (band said1 said2) said3) said4) said5) said6
theorem said_f3 : PySem.Challenge.rw_in0277_01.footing.all footLine = true := by kernel_rfl
theorem said_f4 : noClassBlock PySem.Challenge.rw_in0277_01.prog PySem.Challenge.rw_in0277_01.footing = true := by kernel_rfl
theorem said_f5 : noRoadLSs { strict := true, foot := some PySem.Challenge.rw_in0277_01.bound', writes := PySem.Challenge.rw_in0277_01.writes, may := PySem.Challenge.rw_in0277_01.may } PySem.Challenge.rw_in0277_01.footing = true := by kernel_rfl
theorem said_f6 : PySem.Challenge.rw_in0277_01.namesIt = true := by kernel_rfl
theorem said_f7 : PySem.Challenge.rw_in0277_01.bound'.all (fun n => !builtinNamed n || PySem.Challenge.rw_in0277_01.about == [n] || !PySem.Challenge.rw_in0277_01.reads n) = true := by kernel_rfl
theorem said_f9 : (PySem.Challenge.rw_in0277_01.prog.main.body.flatMap importedNames).all (fun n => !PySem.Challenge.rw_in0277_01.reads n || (drawsOf n PySem.Challenge.rw_in0277_01.prog.main.body).all fun mn => mn.2 != ("attrgetter" : Str) && mn.2 != ("methodcaller" : Str)) = true := by kernel_rfl
theorem law_said : OpenLaw.wellSaid PySem.Challenge.rw_in0277_01 = true := by
  delta OpenLaw.wellSaid OpenRow.wellSaid OpenRow.partSaid
  repeat' (with_reducible refine band ?_ ?_)
  all_goals (first | (with_reducible exact said_open) | (with_reducible exact said_f3) | (with_reducible exact said_f4) | (with_reducible exact said_f5) | (with_reducible exact said_f6) | (with_reducible exact said_f7) | (with_reducible exact said_f9) | skip)
  all_goals kernel_rfl
end Mine
end
section
-- EvC
namespace Mine
open PySem PySem.W

inductive Ans where
  | done (r : Result) (S : SharedT)
  | ask (Γ : Ctx) (p : Pos) (S : SharedT) (k : Result → SharedT → Ans)
  | fail

section
variable (den : Code → Sem Fin) (prog : Program) (P : Params) (isAsk : Code → Bool)
noncomputable def evC : Nat → Ctx → Sem Fin → Pos → SharedT → (Result → SharedT → Ans) → Ans
  | 0, _, _, _, _, _ => .fail
  | n + 1, Γ, t, p, S, κ => match t with
    | .pure (.done f) => κ (.ok f) S
    | .pure (.again c) => match c.quiet with
      | true => match isAsk c with
        | true => .ask (Γ.goto c) p S κ
        | false => evC n (Γ.goto c) (den c) p S κ
      | false => .fail
    | .raise e => κ (.error e) S
    | .rule _ k => evC n Γ (k ()) p S κ
    | .at p' k => evC n Γ (k ()) p' S κ
    | .load a _ k => match Nat.blt a S.n with
      | true => match S.tree.get a with
        | some o => match alive o with
          | some o' => evC n Γ (k o') p S κ
          | none => .fail
        | none => .fail
      | false => .fail
    | .update a _ f k => match Nat.blt a S.n with
      | true => match S.tree.get a with
        | some o => match alive o with
          | some _ => evC n Γ (k ()) p ⟨S.tree.set a f, S.n, S.life, S.gens, S.drawn, S.toks, S.os⟩ κ
          | none => .fail
        | none => .fail
      | false => .fail
    | .alloc o k => match ((S.tree.ins S.n o).get S.n).isSome with
      | true => evC n Γ (k S.n) p ⟨S.tree.ins S.n o, S.n + 1, S.life, S.gens, S.drawn, S.toks, S.os⟩ κ
      | false => .fail
    | .loadIfAlive a k => match Nat.blt a S.n with
      | true => match S.tree.get a with
        | some o => evC n Γ (k (alive o)) p S κ
        | none => .fail
      | false => evC n Γ (k none) p S κ
    | .point _ k => evC n Γ (k ()) p S κ
    | .fresh k => evC n Γ (k S.toks) p ⟨S.tree, S.n, S.life, S.gens, S.drawn, S.toks + 1, S.os⟩ κ
    | .ask k => evC n Γ (k ⟨prog, P⟩) p S κ
    | .handled own k => evC n Γ (k (match own with | true => Γ.own | false => Γ.handled)) p S κ
    | .stack k => evC n Γ (k ((Γ.code, p) :: Γ.below)) p S κ
    | .newGen c k => evC n Γ (k S.gens.size) p ⟨S.tree, S.n, S.life, S.gens.push (.fresh c), S.drawn, S.toks, S.os⟩ κ
    | .thread k => evC n Γ (k 0) p S κ
    | .call c h _ _ k => match isAsk c with
      | true => .ask (Γ.enter c h p) p S (fun r S' => evC n Γ (k r) p S' κ)
      | false => evC n (Γ.enter c h p) (den c) p S (fun r S' => evC n Γ (k r) p S' κ)
    | _ => .fail
end
end Mine
end
section
-- EvS
namespace Mine
open PySem PySem.W

noncomputable def Ans.holds (M : Model) (R : Result → Shared → Prop) : Ans → Prop
  | .done r S => R r S.abs
  | .ask Γ p S k => ∃ r S', Returns M Γ p S.abs r S'.abs ∧ (k r S').holds M R
  | .fail => False

theorem abs_set {S : SharedT} {a : Addr} {f : Obj → Obj} {o : Obj} (g : S.tree.get a = some o) :
    SharedT.abs ⟨S.tree.set a f, S.n, S.life, S.gens, S.drawn, S.toks, S.os⟩ = { S.abs with heap := S.abs.heap.update a f } := by
  unfold SharedT.abs
  rw [absHeap_set g]
theorem abs_ins {S : SharedT} {o : Obj} (g : ((S.tree.ins S.n o).get S.n).isSome = true) :
    SharedT.abs ⟨S.tree.ins S.n o, S.n + 1, S.life, S.gens, S.drawn, S.toks, S.os⟩ = { S.abs with heap := S.abs.heap.push o } := by
  unfold SharedT.abs
  rw [absHeap_ins g]
theorem abs_size (S : SharedT) : S.abs.heap.objs.size = S.n := absHeap_size _ _ _

section
variable {den : Code → Sem Fin} {prog : Program} {P : Params} {isAsk : Code → Bool} {n : Nat} {Γ : Ctx} {p : Pos} {S : SharedT} {κ : Result → SharedT → Ans}
theorem evC_again {c : Code} : evC den prog P isAsk (n + 1) Γ (.pure (.again c)) p S κ = (match c.quiet with
  | true => (match isAsk c with
    | true => .ask (Γ.goto c) p S κ
    | false => evC den prog P isAsk n (Γ.goto c) (den c) p S κ)
  | false => .fail) := rfl
theorem evC_load {a : Addr} {r} {k : Obj → Sem Fin} : evC den prog P isAsk (n + 1) Γ (.load a r k) p S κ = (match Nat.blt a S.n with
  | true => (match S.tree.get a with
    | some o => (match alive o with
      | some o' => evC den prog P isAsk n Γ (k o') p S κ
      | none => .fail)
    | none => .fail)
  | false => .fail) := rfl
theorem evC_update {a : Addr} {r f} {k : Unit → Sem Fin} : evC den prog P isAsk (n + 1) Γ (.update a r f k) p S κ = (match Nat.blt a S.n with
  | true => (match S.tree.get a with
    | some o => (match alive o with
      | some _ => evC den prog P isAsk n Γ (k ()) p ⟨S.tree.set a f, S.n, S.life, S.gens, S.drawn, S.toks, S.os⟩ κ
      | none => .fail)
    | none => .fail)
  | false => .fail) := rfl
theorem evC_alloc {o : Obj} {k : Addr → Sem Fin} : evC den prog P isAsk (n + 1) Γ (.alloc o k) p S κ = (match ((S.tree.ins S.n o).get S.n).isSome with
  | true => evC den prog P isAsk n Γ (k S.n) p ⟨S.tree.ins S.n o, S.n + 1, S.life, S.gens, S.drawn, S.toks, S.os⟩ κ
  | false => .fail) := rfl
theorem evC_alive {a : Addr} {k : Option Obj → Sem Fin} : evC den prog P isAsk (n + 1) Γ (.loadIfAlive a k) p S κ = (match Nat.blt a S.n with
  | true => (match S.tree.get a with
    | some o => evC den prog P isAsk n Γ (k (alive o)) p S κ
    | none => .fail)
  | false => evC den prog P isAsk n Γ (k none) p S κ) := rfl
theorem evC_call {c : Code} {h g l} {k : Result → Sem Fin} : evC den prog P isAsk (n + 1) Γ (.call c h g l k) p S κ = (match isAsk c with
  | true => .ask (Γ.enter c h p) p S (fun r S' => evC den prog P isAsk n Γ (k r) p S' κ)
  | false => evC den prog P isAsk n (Γ.enter c h p) (den c) p S (fun r S' => evC den prog P isAsk n Γ (k r) p S' κ)) := rfl
end
theorem evC_sound {M : Model} {isAsk : Code → Bool} {R : Result → Shared → Prop} : ∀ (n : Nat) (Γ : Ctx) (t : Sem Fin) (p : Pos) (S : SharedT) (κ : Result → SharedT → Ans),
    (evC M.den M.prog M.w.params isAsk n Γ t p S κ).holds M R →
    Sem.wp M Γ t (Sem.finPost M Γ fun r s => ∃ S', s = S'.abs ∧ (κ r S').holds M R) (fun e _ s => ∃ S', s = S'.abs ∧ (κ (.error e) S').holds M R) p S.abs
  | 0, _, _, _, _, _, h => h.elim
  | n + 1, Γ, t, p, S, κ, h => by
    cases t with
    | pure fin =>
      cases fin with
      | done f => exact ⟨S, rfl, h⟩
      | again c =>
        rw [evC_again] at h
        cases hq : c.quiet with
        | false => rw [hq] at h; exact h.elim
        | true =>
          rw [hq] at h
          refine ⟨hq, ?_⟩
          cases ha : isAsk c with
          | true =>
            rw [ha] at h
            obtain ⟨r, S', hr, hk⟩ := h
            exact ⟨r, S'.abs, hr, S', rfl, hk⟩
          | false =>
            rw [ha] at h
            rw [wpCode_iff_wp]
            exact evC_sound n (Γ.goto c) (M.den c) p S κ h
    | raise e => exact ⟨S, rfl, h⟩
    | rule tag k => exact evC_sound n Γ (k ()) p S κ h
    | «at» p' k => exact evC_sound n Γ (k ()) p' S κ h
    | load a part k =>
      rw [evC_load] at h
      cases hb : Nat.blt a S.n with
      | false => rw [hb] at h; exact h.elim
      | true =>
        rw [hb] at h
        cases hg : S.tree.get a with
        | none => rw [hg] at h; exact h.elim
        | some o =>
          rw [hg] at h
          dsimp only at h
          cases hl : alive o with
          | none => rw [hl] at h; exact h.elim
          | some o' =>
            rw [hl] at h
            refine ⟨o', (abs_get (Nat.le_of_ble_eq_true hb) hg).trans hl, ?_⟩
            exact evC_sound n Γ (k o') p S κ h
    | update a part f k =>
      rw [evC_update] at h
      cases hb : Nat.blt a S.n with
      | false => rw [hb] at h; exact h.elim
      | true =>
        rw [hb] at h
        cases hg : S.tree.get a with
        | none => rw [hg] at h; exact h.elim
        | some o =>
          rw [hg] at h
          dsimp only at h
          cases hl : alive o with
          | none => rw [hl] at h; exact h.elim
          | some o' =>
            rw [hl] at h
            refine ⟨by show (S.abs.heap.get? a).isSome = true; rw [show S.abs.heap.get? a = some o' from (abs_get (Nat.le_of_ble_eq_true hb) hg).trans hl]; rfl, ?_⟩
            have := evC_sound n Γ (k ()) p _ κ h
            rw [abs_set hg] at this
            exact this
    | alloc o k =>
      rw [evC_alloc] at h
      cases hi : ((S.tree.ins S.n o).get S.n).isSome with
      | false => rw [hi] at h; exact h.elim
      | true =>
        rw [hi] at h
        have := evC_sound n Γ (k S.n) p _ κ h
        rw [abs_ins hi] at this
        show Sem.wp M Γ (k S.abs.heap.objs.size) _ _ p { S.abs with heap := S.abs.heap.push o }
        rw [abs_size]
        exact this
    | loadIfAlive a k =>
      rw [evC_alive] at h
      show Sem.wp M Γ (k (S.abs.heap.get? a)) _ _ p S.abs
      cases hb : Nat.blt a S.n with
      | false =>
        rw [hb] at h
        have lt : ¬ a < S.n := fun q => by rw [show Nat.blt a S.n = true from Nat.ble_eq_true_of_le q] at hb; cases hb
        rw [show S.abs.heap.get? a = none from abs_get_none lt]
        exact evC_sound n Γ (k none) p S κ h
      | true =>
        rw [hb] at h
        cases hg : S.tree.get a with
        | none => rw [hg] at h; exact h.elim
        | some o =>
          rw [hg] at h
          rw [show S.abs.heap.get? a = alive o from abs_get (Nat.le_of_ble_eq_true hb) hg]
          exact evC_sound n Γ (k (alive o)) p S κ h
    | point l k => exact evC_sound n Γ (k ()) p S κ h
    | fresh k => exact evC_sound n Γ (k S.toks) p _ κ h
    | ask k => exact evC_sound n Γ (k ⟨M.prog, M.w.params⟩) p S κ h
    | handled own k =>
      have := evC_sound n Γ _ p S κ h
      show Sem.wp M Γ (k (if own then Γ.own else Γ.handled)) _ _ p S.abs
      cases own <;> exact this
    | stack k => exact evC_sound n Γ (k ((Γ.code, p) :: Γ.below)) p S κ h
    | newGen c k => exact evC_sound n Γ (k S.gens.size) p ⟨S.tree, S.n, S.life, S.gens.push (.fresh c), S.drawn, S.toks, S.os⟩ κ h
    | thread k => exact evC_sound n Γ (k 0) p S κ h
    | call c hd g l k =>
      rw [evC_call] at h
      show wpCode M (Γ.enter c hd p) (fun r s' => Sem.wp M Γ (k r) _ _ p s') p S.abs
      cases ha : isAsk c with
      | true =>
        rw [ha] at h
        obtain ⟨r, S', hr, hk⟩ := h
        exact ⟨r, S'.abs, hr, evC_sound n Γ (k r) p S' κ hk⟩
      | false =>
        rw [ha] at h
        rw [wpCode_iff_wp]
        have := evC_sound n (Γ.enter c hd p) (M.den c) p S _ h
        refine Sem.wp_mono M _ _ (fun fin p' s' hf => ?_) (fun e p' s' hf => ?_) p _ this
        · cases fin with
          | done f => obtain ⟨S', rfl, hk⟩ := hf; exact evC_sound n Γ (k (.ok f)) p S' κ hk
          | again c' =>
            obtain ⟨hq, hc⟩ := hf
            refine ⟨hq, wpCode_mono (fun r s' hx => ?_) hc⟩
            obtain ⟨S', rfl, hk⟩ := hx
            exact evC_sound n Γ (k r) p S' κ hk
        · obtain ⟨S', rfl, hk⟩ := hf
          exact evC_sound n Γ (k (.error e)) p S' κ hk
    | unsupported what => exact h.elim
    | finish e => exact h.elim
    | choose src m k => exact h.elim
    | os q l k => exact h.elim
    | genState g k => exact h.elim
    | resume g r l k => exact h.elim
    | yield v g l k => exact h.elim
    | fork c k => exact h.elim
    | await a f d l k => exact h.elim
    | register a k => exact h.elim

/-- one run by evaluation -/
theorem wp_of_evC {M : Model} {isAsk : Code → Bool} {R : Result → Shared → Prop} {n : Nat} {Γ : Ctx} {t : Sem Fin} {p : Pos} {S : SharedT}
    (h : (evC M.den M.prog M.w.params isAsk n Γ t p S .done).holds M R) : Sem.wp M Γ t (Sem.finPost M Γ R) (fun e _ s => R (.error e) s) p S.abs := by
  refine Sem.wp_mono M Γ t (fun fin p' s' hf => ?_) (fun e p' s' hf => ?_) p _ (evC_sound n Γ t p S _ h)
  · cases fin with
    | done f => obtain ⟨S', rfl, hk⟩ := hf; exact hk
    | again c => exact ⟨hf.1, wpCode_mono (fun r s' ⟨S', e, hk⟩ => by subst e; exact hk) hf.2⟩
  · obtain ⟨S', rfl, hk⟩ := hf; exact hk
end Mine
end
section
-- GenP
open PySem PySem.Spec PySem.Calls PyProof.Rows
set_option linter.all false
namespace Mine
/-- the end of a walk may be any that follows from it -/
theorem gen_post {M : Model} {A : Around} {s : Shared} {α : Type} {t : Sem α} {Q : α → Shared → Prop} {E : Value → Shared → Prop} (h : ∀ Q' : α → Shared → Prop, (∀ f s', Q f s' → Q' f s') → ∀ E' : Value → Shared → Prop, wpAny M A t Q' E' s) : wpAny M A t Q E s := h Q (fun _ _ h => h) E
end Mine
end
section
-- GenP3
open PySem PySem.Spec PySem.Calls PyProof.Rows
set_option linter.all false
namespace Mine
theorem let_A {M : Model} {A : Around} {s : Shared} {α : Type} {t : Sem α} {Q : α → Shared → Prop} {E : Value → Shared → Prop} (h : let A0 := A; wpAny M A0 t Q E s) : wpAny M A t Q E s := h
theorem let_N {h₀ h : Heap} {L : Addr} {led : List (Addr × Obj)} {P : Prop} (N : News h₀ L h led) (k : let led0 := led; News h₀ L h led0 → P) : P := k N
end Mine
end
section
-- KDef
open PySem PySem.W PyProof.Rows
set_option Elab.async false
set_option maxRecDepth 100000
namespace Mine
section
local macro_rules | `(tactic| o_head $_) => `(tactic| assumption)
theorem hd (h : PySem.Challenge.rw_in0277_01.row.Holds) : PySem.Challenge.rw_in0277_01.row.Holds := by k_head
end
end Mine
end
section
-- DefS
open PySem PySem.W PySem.Calls PySem.Spec PyProof.Rows
set_option Elab.async false
set_option maxRecDepth 100000
set_option linter.all false
namespace Mine
section
variable {prog : Program} {w : World} {A₀ A : Around} {s : Shared} {base h₀ : Heap} {L a : Addr} {m : Str → Option Value} {env : Env} {news : List (Addr × Obj)} {K : Frag} {p : Program} {loose : List Str} {mean : ExcName → Option Value} {mg mb : Str → Option Value}
    {R : Result → Shared → Prop} {name qual : Str} {params : Arguments} {body : List Stmt} {scope : Scope} {dV kV doc pm cdv ct oc : Value} {an od : Option Addr} {osl : Array (Option Value)} {f : Addr} {args : Args} {binds : List (Str × Value)}
/-- as code_defS0, for any caller's environment -/
theorem code_defS0X (B : Below A₀ base [] h₀) (F : Fr h₀ L s.heap m) (X₀ : K.In h₀) (N : News h₀ L s.heap news) (T : Top p loose mean mg mb h₀) (hA : A.frames = some [env]) (hf : env.frame = some L) (hke : env.scope.kind = .function)
    (ho : K.lookup f = some ⟨oc, od, .func (fnOf name qual params body scope dV kV doc pm an cdv ct), osl⟩) (hcd : codeIn K cdv qual = true) (hroom : A.depth < recursionLimit)
    (hbind : BindsTo s (fnOf name qual params body scope dV kV doc pm an cdv ct) args binds) (hloc : ∀ y ∈ binds, scope.names.lookup y.1 = some .local)
    (h : ∀ g L' h₁, Fr h₀ L g m → Fr g L' h₁ (fun y => binds.reverse.lookup y) → News g L' h₁ news → Below A base [env] g → K.In g → Top p loose mean mg mb g → KtsDicts ([env].filterMap (·.frame)) g →
      wpAny (model prog w) (A.deeper (envOf qual scope L' f cdv)) (execs body (envOf qual scope L' f cdv))
        (fun fl s' => LeaveS0 ([env].filterMap (·.frame)) h₀ L m g R (match fl with | .ret v => v | _ => .none) s')
        (fun e s' => wpAny (model prog w) (A.deeper (envOf qual scope L' f cdv)) (leaving (envOf qual scope L' f cdv) e) (fun _ s'' => R (.error e) s'') (fun e' s'' => R (.error e') s'') s')
        { s with heap := h₁, toks := s.toks + binds.length })
    (hco : scope.isCoroutine = false) (hgen : scope.isGenerator = false) (hk : scope.kind = .function)
    (hcell : ∀ x ∈ scope.names, x.2 ≠ .cell) : codeAny (model prog w) A (.call (.ref f) args) R s := by
  have X := X₀.keeps F.keep
  refine Classical.byContradiction fun k9 => ?_
  obtain ⟨FG, BG, st, _⟩ := groundX (R := R) B F N hA hf hke
  obtain ⟨oL, es, ep, hLg, hLd, hLk, hLf⟩ := FG.ns
  refine k9 ?_
  have mem1 : ∀ {b : Addr}, b ∈ [env].filterMap (·.frame) → b = L := fun {b} hb => by
    simp only [List.filterMap_cons, hf, List.filterMap_nil, List.mem_singleton] at hb
    exact hb
  refine codeAny_call_def (fd := fnOf name qual params body scope dV kV doc pm an cdv ct) (body := body) (binds := binds) hroom (X _ _ ho) rfl (T.nolimit.keeps F.keep) (codeRec_of X hcd) rfl hbind hcell hloc (fun h₁ hns hk₁ => ?_) hco hgen hk
  refine wpAny_mono (h _ s.heap.objs.size h₁ FG ⟨hns, fun b o e => hk₁ b o (of_hideAll _ e), Nat.le_of_eq (hideAll_size _ _)⟩
    (fun q hq => ⟨hk₁ _ _ (N q hq).1, Nat.ne_of_lt (Heap.lt_size (N q hq).1), hideAll_none _ (List.mem_map_of_mem hq)⟩) BG (X₀.keeps st) (T.keeps st) (fun b hb => ⟨oL, es, ep, mem1 hb ▸ hLg, hLd⟩)) (fun fl s' hl => ?_) fun _ _ y => y
  refine Classical.byContradiction fun k9 => ?_
  obtain ⟨g', L', m', news', T', F', N', k⟩ := hl
  refine k9 ?_
  have nL₀ : h₀.get? L = none := kts_self F
  obtain ⟨sl, hs⟩ := T'.up hLg
  refine k ⟨⟨_, es, ep, F'.keep _ _ hs, hLd, hLk, hLf⟩, fun b o e => F'.keep b o (T'.other b o (st b o e) (fun q => by
    rw [mem1 q, nL₀] at e
    cases e)), F.above⟩ fun q hq => ⟨(N' q hq).1, fun z => ?_, ?_⟩
  · have := (N' q hq).2.2; rw [z, hs] at this; cases this
  · cases z : h₀.get? q.1 with
    | none => rfl
    | some o =>
      obtain ⟨sl', hs'⟩ := T'.up (st _ _ z)
      have := (N' q hq).2.2
      rw [hs'] at this
      cases this
end
end Mine
end
section
-- Hold
namespace Mine
/-- a goal at which the walk stops; k_steps takes it off again -/
structure Hold (P : Prop) : Prop where
  h : P
theorem hold_in {P : Prop} (h : Hold P) : P := h.h
end Mine
end
section
-- Bnd
open PySem PySem.W PySem.Calls PySem.Spec PyProof.Rows
set_option Elab.async false
set_option maxRecDepth 100000
set_option linter.all false
namespace Mine
/-- a frame's names with one more -/
noncomputable def bnd (x : Str) (v : Value) (m : Str → Option Value) : Str → Option Value := fun y => if y = x then some v else m y
theorem bnd_ne {x z : Str} {v : Value} {m : Str → Option Value} (h : z ≠ x) : bnd x v m z = m z := if_neg h
section
variable {M : Model} {A : Around} {E : Value → Shared → Prop} {s : Shared} {h₀ : Heap} {L a : Addr} {m : Str → Option Value} {cn : Str} {cs : Scope} {ccd : Value} {cl : List (Str × Addr)}
  {x : Str} {v : Value} {news : List (Addr × Obj)}
theorem storeI {Q : Unit → Shared → Prop} {i : Int} {u : Tok} (F : Fr h₀ L s.heap m) (N : News h₀ L s.heap news)
    (h : ∀ t tk h', Fr h₀ L h' (bnd x (.int i t) m) → News h₀ L h' news → Q () { s with heap := h', toks := tk })
    (hk : cs.kind = .function) (hx : (envX cn cs L a ccd cl).kindOf x = some .local) : wpAny M A (storeName (envX cn cs L a ccd cl) x (.int i u)) Q E s := storeX_L F N (h _ _) hk hx
theorem storeS {Q : Unit → Shared → Prop} {i : Str} {u : Tok} (F : Fr h₀ L s.heap m) (N : News h₀ L s.heap news)
    (h : ∀ t tk h', Fr h₀ L h' (bnd x (.str i t) m) → News h₀ L h' news → Q () { s with heap := h', toks := tk })
    (hk : cs.kind = .function) (hx : (envX cn cs L a ccd cl).kindOf x = some .local) : wpAny M A (storeName (envX cn cs L a ccd cl) x (.str i u)) Q E s := storeX_L F N (h _ _) hk hx
theorem storeY {Q : Unit → Shared → Prop} {i : Array UInt8} {u : Tok} (F : Fr h₀ L s.heap m) (N : News h₀ L s.heap news)
    (h : ∀ t tk h', Fr h₀ L h' (bnd x (.bytes i t) m) → News h₀ L h' news → Q () { s with heap := h', toks := tk })
    (hk : cs.kind = .function) (hx : (envX cn cs L a ccd cl).kindOf x = some .local) : wpAny M A (storeName (envX cn cs L a ccd cl) x (.bytes i u)) Q E s := storeX_L F N (h _ _) hk hx
theorem storeB {Q : Unit → Shared → Prop}  (F : Fr h₀ L s.heap m) (N : News h₀ L s.heap news)
    (h : ∀  tk h', Fr h₀ L h' (bnd x v m) → News h₀ L h' news → Q () { s with heap := h', toks := tk })
    (hk : cs.kind = .function) (hx : (envX cn cs L a ccd cl).kindOf x = some .local) : wpAny M A (storeName (envX cn cs L a ccd cl) x v) Q E s := storeX_L F N (h  _) hk hx
end
/-- a tree of the world w gives the int i and changes nothing but the tokens -/
structure GivesI (H : Heap → Prop) (t : Sem Value) (i : Int) : Prop where
  go : ∀ (prog : Program) (w : World) (A : Around) (E : Value → Shared → Prop) (s : Shared) (Q : Value → Shared → Prop), H s.heap → (∀ t tk, Q (.int i t) { s with toks := tk }) → wpAny (model prog w) A t Q E s
theorem gi_name {env : Env} {m : Str → Option Value} {h₀ : Heap} {x : Str} {pos : Pos} {v : Value} {i : Int} {u : Tok} (hk : env.scope.kind = .function) (h1 : env.kindOf x = some .local) (h2 : (x == ("__debug__" : Str)) = false) (h3 : m x = some v) (h4 : v = .int i u) : GivesI (fun h => Fr h₀ env.locals h m) (eval (.Name x pos) env) i :=
  ⟨fun _ _ _ _ s _ F k => wpAny_Name (wpAny_loadName_local hk h1 F.ns (h3.trans (congrArg _ h4)) (k u s.toks)) h2⟩
theorem gi_two {H : Heap → Prop} {l r : Sem Value} {T : Value → Value → Sem Value} {a b i : Int} (hl : GivesI H l a) (hr : GivesI H r b) (ho : ∀ t u, GivesI (fun _ => True) (T (.int a t) (.int b u)) i) {p : Program} {w : World} {A : Around} {E : Value → Shared → Prop} {s : Shared} {Q : Value → Shared → Prop} (F : H s.heap) (k : ∀ t tk, Q (.int i t) { s with toks := tk }) :
    wpAny (model p w) A l (fun a s₁ => wpAny (model p w) A r (fun b s₂ => wpAny (model p w) A (T a b) Q E s₂) E s₁) E s :=
  hl.go p w A E s _ F fun t tk => hr.go p w A E { s with toks := tk } _ F fun u tk2 => (ho t u).go p w A E { s with toks := tk2 } _ trivial k
theorem gi_bin {env : Env} {H : Heap → Prop} {l r : PySem.Expr} {op : Operator} {pos : Pos} {a b i : Int} (hl : GivesI H (eval l env) a) (hr : GivesI H (eval r env) b) (ho : ∀ t u, GivesI (fun _ => True) (binaryOp op (.int a t) (.int b u)) i) : GivesI H (eval (.BinOp l op r pos) env) i :=
  ⟨fun _ _ _ _ _ _ F k => wpAny_BinOp (gi_two (T := binaryOp op) hl hr ho F k)⟩
theorem no_some {P : Prop} {α : Type} {i : α} (h : none = some i) : P := nomatch h
theorem bind_some {P : Prop} {α β : Type} {x : Option α} {f : α → Option β} {i : β} (h : x.bind f = some i) (k : ∀ a, x = some a → f a = some i → P) : P := match x, h, k with
  | some a, h, k => k a rfl h
theorem ite_left {P c : Prop} [d : Decidable c] {α : Type} {x : Option α} {i : α} (h : (if c then x else none) = some i) (k : c → x = some i → P) : P := match d with
  | .isTrue c => k c ((if_pos c).symm.trans h)
  | .isFalse c => no_some ((if_neg c).symm.trans h)
/-- two ints put together -/
noncomputable def opI (op : Operator) (a b : Int) : Option Int := Operator.casesOn op (some (a + b)) (some (a - b)) (none) (none) (none) (if b ≠ 0 then some (a.fmod b) else none) (none) (none) (if 0 ≤ b then some (a.fdiv (2 ^ b.toNat)) else none) (some (Builtin.bitOr a b)) (none) (some (Builtin.bitAnd a b)) (none)
theorem opI_ok {op : Operator} {a b i : Int} (t u : Tok) : opI op a b = some i → GivesI (fun _ => True) (binaryOp op (.int a t) (.int b u)) i :=
  Operator.casesOn (motive := fun op => opI op a b = some i → GivesI (fun _ => True) (binaryOp op (.int a t) (.int b u)) i) op (fun e => ⟨fun p w A E s Q _ k => add_int (Option.some.inj e ▸ k _ _)⟩) (fun e => ⟨fun p w A E s Q _ k => sub_int (Option.some.inj e ▸ k _ _)⟩) (no_some) (no_some) (no_some) (fun e => ite_left e fun h e => ⟨fun p w A E s Q _ k => mod_int' h (Option.some.inj e ▸ k _ _)⟩) (no_some) (no_some) (fun e => ite_left e fun h e => ⟨fun p w A E s Q _ k => rshift_int h (Option.some.inj e ▸ k _ _)⟩) (fun e => ⟨fun p w A E s Q _ k => or_int (Option.some.inj e ▸ k _ _)⟩) (no_some) (fun e => ⟨fun p w A E s Q _ k => and_int (Option.some.inj e ▸ k _ _)⟩) (no_some)
noncomputable def constI (c : Const) : Option Int := Const.casesOn c (none) (fun _ => none) (fun i => some i) (fun _ => none) (fun _ _ => none) (fun _ => none) (fun _ => none) (none)
noncomputable def valI (v : Value) : Option Int := Value.casesOn v (none) (none) (none) (fun _ => none) (fun i _ => some i) (fun _ _ => none) (fun _ _ => none) (fun _ _ => none) (fun _ => none) (fun _ => none) (fun _ => none)
theorem valI_ok {P : Prop} {v : Value} {i : Int} : valI v = some i → (∀ t, v = .int i t → P) → P :=
  Value.casesOn (motive := fun v => valI v = some i → (∀ t, v = .int i t → P) → P) v (fun h _ => no_some h) (fun h _ => no_some h) (fun h _ => no_some h) (fun _ => fun h _ => no_some h) (fun j t e k => k t (congrArg (Value.int · t) (Option.some.inj e))) (fun _ _ => fun h _ => no_some h) (fun _ _ => fun h _ => no_some h) (fun _ _ => fun h _ => no_some h) (fun _ => fun h _ => no_some h) (fun _ => fun h _ => no_some h) (fun _ => fun h _ => no_some h)
theorem constI_ok {H : Heap → Prop} {env : Env} {c : Const} {k : Nat} {pos : Pos} {i : Int} : constI c = some i → GivesI H (eval (.Constant c k pos) env) i :=
  Const.casesOn (motive := fun c => constI c = some i → GivesI H (eval (.Constant c k pos) env) i) c (no_some) (fun _ => no_some) (fun j e => ⟨fun _ _ _ _ _ _ _ k => wpAny_Constant_int (Option.some.inj e ▸ k _ _)⟩) (fun _ => no_some) (fun _ _ => no_some) (fun _ => no_some) (fun _ => no_some) (no_some)
/-- the int that an expression of names and numbers comes to -/
noncomputable def ivE (env : Env) (m : Str → Option Value) (n : Nat) : PySem.Expr → Option Int := Nat.rec (fun _ => none) (fun _ ih e => PySem.Expr.casesOn e (fun _ _ _ => none) (fun _ _ _ => none) (fun l op r _ => (ih l).bind fun a => (ih r).bind fun b => opI op a b) (fun _ _ _ => none) (fun _ _ _ _ => none) (fun _ _ _ _ => none) (fun _ _ _ => none) (fun _ _ _ => none) (fun _ _ _ _ => none) (fun _ _ _ _ => none) (fun _ _ _ _ _ => none) (fun _ _ _ _ => none) (fun _ _ => none) (fun _ _ => none) (fun _ _ => none) (fun _ _ _ _ => none) (fun _ _ _ _ => none) (fun _ _ _ _ => none) (fun _ _ => none) (fun c _ _ => constI c) (fun _ _ _ => none) (fun _ _ _ => none) (fun _ _ => none) (fun x _ => if env.kindOf x = some .local ∧ (x == ("__debug__" : Str)) = false then (m x).bind valI else none) (fun _ _ => none) (fun _ _ _ => none) (fun _ _ _ _ => none)) n
theorem ivE_ok {env : Env} (hk : env.scope.kind = .function) {h₀ : Heap} {m : Str → Option Value} (n : Nat) : ∀ (e : PySem.Expr) (i : Int), ivE env m n e = some i → GivesI (fun h => Fr h₀ env.locals h m) (eval e env) i :=
  Nat.rec (motive := fun n => ∀ (e : PySem.Expr) (i : Int), ivE env m n e = some i → GivesI (fun h => Fr h₀ env.locals h m) (eval e env) i) (fun _ _ => no_some)
    (fun n ih e i => PySem.Expr.casesOn (motive_1 := fun e => ivE env m (n + 1) e = some i → GivesI (fun h => Fr h₀ env.locals h m) (eval e env) i) e (fun _ _ _ => no_some) (fun _ _ _ => no_some) (fun l op r _ h => bind_some h fun a ha h => bind_some h fun b hb h => gi_bin (ih l a ha) (ih r b hb) fun t u => opI_ok t u h) (fun _ _ _ => no_some) (fun _ _ _ _ => no_some) (fun _ _ _ _ => no_some) (fun _ _ _ => no_some) (fun _ _ _ => no_some) (fun _ _ _ _ => no_some) (fun _ _ _ _ => no_some) (fun _ _ _ _ _ => no_some) (fun _ _ _ _ => no_some) (fun _ _ => no_some) (fun _ _ => no_some) (fun _ _ => no_some) (fun _ _ _ _ => no_some) (fun _ _ _ _ => no_some) (fun _ _ _ _ => no_some) (fun _ _ => no_some) (fun _ _ _ => constI_ok) (fun _ _ _ => no_some) (fun _ _ _ => no_some) (fun _ _ => no_some) (fun x _ h => ite_left h fun hc h => bind_some h fun v h3 h => valI_ok h fun t h4 => gi_name hk hc.1 hc.2 h3 h4) (fun _ _ => no_some) (fun _ _ _ => no_some) (fun _ _ _ _ => no_some)) n
theorem iv_ok {env : Env} (hk : env.scope.kind = .function) {h₀ : Heap} {m : Str → Option Value} {n : Nat} {e : PySem.Expr} {prog : Program} {w : World} {A : Around} {E : Value → Shared → Prop} {s : Shared} {i : Int} {Q : Value → Shared → Prop}
    (F : Fr h₀ env.locals s.heap m) (h : ivE env m n e = some i) (k : ∀ t tk, Q (.int i t) { s with toks := tk }) : wpAny (model prog w) A (eval e env) Q E s := (ivE_ok hk n e i h).go prog w A E s Q F k
/-- two ints compared -/
noncomputable def cmpI (op : CmpOp) (a b : Int) : Option Bool := CmpOp.casesOn op (some (a == b)) (some (a != b)) (some (decide (a < b))) (some (decide (a ≤ b))) (some (decide (a > b))) (some (decide (a ≥ b))) (none) (none) (none) (none)
theorem cmpI_ok {op : CmpOp} {a b : Int} {c : Bool} {t u : Tok} {prog : Program} {w : World} {A : Around} {E : Value → Shared → Prop} {s : Shared} {Q : Value → Shared → Prop} : cmpI op a b = some c → Q (.bool c) s → wpAny (model prog w) A (compareOp op (.int a t) (.int b u)) Q E s :=
  fun h9 => ((CmpOp.casesOn (motive := fun op => cmpI op a b = some c → Hold (Q (.bool c) s → wpAny (model prog w) A (compareOp op (.int a t) (.int b u)) Q E s)) op (fun e => ⟨fun k => PyProof.Rows.eq_int (Option.some.inj e ▸ k)⟩) (fun e => ⟨fun k => PyProof.Rows.ne_int (Option.some.inj e ▸ k)⟩) (fun e => ⟨fun k => PyProof.Rows.lt_int (Option.some.inj e ▸ k)⟩) (fun e => ⟨fun k => le_int (Option.some.inj e ▸ k)⟩) (fun e => ⟨fun k => PyProof.Rows.gt_int (Option.some.inj e ▸ k)⟩) (fun e => ⟨fun k => ge_int (Option.some.inj e ▸ k)⟩) (fun e => no_some e) (fun e => no_some e) (fun e => no_some e) (fun e => no_some e)) h9).h
theorem cmp_ok {env : Env} (hk : env.scope.kind = .function) {h₀ : Heap} {m : Str → Option Value} {n : Nat} {l r : PySem.Expr} {op : CmpOp} {pos : Pos} {whole : Sem Value} {prog : Program} {w : World} {A : Around} {E : Value → Shared → Prop} {s : Shared} {a b : Int} {c : Bool} {Q : Bool → Shared → Prop}
    (F : Fr h₀ env.locals s.heap m) (hl : ivE env m n l = some a) (hr : ivE env m n r = some b) (hc : cmpI op a b = some c) (hm : behindInMarks op r = false) (k : ∀ tk, Q c { s with toks := tk }) : wpAny (model prog w) A (isTrue (.Compare l [op] [r] pos) env whole) Q E s :=
  wpAny_isTrue_Compare1 ((ivE_ok hk n l a hl).go prog w A E s _ F fun t tk => (ivE_ok hk n r b hr).go prog w A E { s with toks := tk } _ F fun u tk2 => cmpI_ok hc (wpAny_truthy_bool (k tk2))) hm
theorem let_F {h₀ h : Heap} {L : Addr} {m : Str → Option Value} {P : Prop} (F : Fr h₀ L h m) (k : let m0 := m; Fr h₀ L h m0 → P) : P := k F
theorem cur7 {a b c d e f g : Type} {P : (a × b) × (c × d) × (e × f) × g → Prop} (h : ∀ x1 x2 x3 x4 x5 x6 x7, P ((x1, x2), (x3, x4), (x5, x6), x7)) : ∀ x, P x := fun _ => h _ _ _ _ _ _ _
theorem cur3 {a b c : Type} {P : a × b × c → Prop} (h : ∀ x1 x2 x3, P (x1, x2, x3)) : ∀ x, P x := fun _ => h _ _ _
theorem cur2 {a b : Type} {P : a × b → Prop} (h : ∀ x1 x2, P (x1, x2)) : ∀ x, P x := fun _ => h _ _
theorem curA {a b c d e f g h i j : Type} {P : (a × b) × (c × d) × (e × f) × g × (h × i) × j → Prop} (k : ∀ x1 x2 x3 x4 x5 x6 x7 x8 x9 x10, P ((x1, x2), (x3, x4), (x5, x6), x7, (x8, x9), x10)) : ∀ x, P x := fun _ => k _ _ _ _ _ _ _ _ _ _
/-- an expression that comes to an int, told apart from what is made of it -/
theorem cut_int {M : Model} {A : Around} {s : Shared} {t : Sem Value} {Q : Value → Shared → Prop} {E : Value → Shared → Prop} (x : Int) (ev : ∀ Q' : Value → Shared → Prop, (∀ u tk, Q' (.int x u) { s with toks := tk }) → wpAny M A t Q' E s) (k : ∀ u tk, Q (.int x u) { s with toks := tk }) : wpAny M A t Q E s := ev Q k
theorem tn_add {x : Int} {a : Nat} (h : x ≤ 50) (ha : a ≤ 5000) : a + x.toNat ≤ 10000 := by omega
theorem cut_str {M : Model} {A : Around} {s : Shared} {t : Sem Value} {Q : Value → Shared → Prop} {E : Value → Shared → Prop} (x : Str) (ev : ∀ Q' : Value → Shared → Prop, (∀ u tk, Q' (.str x u) { s with toks := tk }) → wpAny M A t Q' E s) (k : ∀ u tk, Q (.str x u) { s with toks := tk }) : wpAny M A t Q E s := ev Q k
theorem tn_le {x : Int} (h : x ≤ 50) : 1 * x.toNat ≤ 256 := by omega
end Mine
end
section
-- Chain2
open PySem PySem.W PySem.Calls PySem.Spec PyProof.Rows
set_option Elab.async false
set_option linter.all false
namespace Mine
/-- two comparisons of ints in a chain -/
theorem chain_ok {env : Env} (hk : env.scope.kind = .function) {h₀ : Heap} {m : Str → Option Value} {n : Nat} {l x r : PySem.Expr} {op1 op2 : CmpOp} {pos : Pos} {whole : Sem Value} {prog : Program} {w : World} {A : Around} {E : Value → Shared → Prop} {s : Shared} {a b c : Int} {c1 c2 : Bool} {Q : Bool → Shared → Prop}
    (F : Fr h₀ env.locals s.heap m) (hl : ivE env m n l = some a) (hx : ivE env m n x = some b) (hr : ivE env m n r = some c) (h1 : cmpI op1 a b = some c1) (h2 : cmpI op2 b c = some c2) (hm : lastMarks [op1, op2] [x, r] = false) (k : ∀ tk, Q (c1 && c2) { s with toks := tk }) : wpAny (model prog w) A (isTrue (.Compare l [op1, op2] [x, r] pos) env whole) Q E s :=
  isTrue_chain ((ivE_ok hk n l a hl).go prog w A E s _ F fun t tk => test_link ((ivE_ok hk n x b hx).go prog w A E { s with toks := tk } _ F fun u tk2 => cmpI_ok h1 (wpAny_truthy_bool (match c1, k with
    | false, k => k tk2
    | true, k => test_last ((ivE_ok hk n r c hr).go prog w A E { s with toks := tk2 } _ F fun v tk3 => cmpI_ok h2 (wpAny_truthy_bool (k tk3))))))) hm
end Mine
end
section
-- MemT
open PySem PySem.W PySem.Calls PySem.Spec PyProof.Rows
set_option linter.all false
namespace Mine
section
variable {α : Type} {p x a1 a2 a3 a4 a5 b1 b2 b3 b4 b5 : α} {l l1 l2 l' rl tabs own : List α}
theorem mc (hx : x ∈ l') (h : p ∈ l → p ∈ l') (hp : p ∈ x :: l) : p ∈ l' := (List.mem_cons.mp hp).elim (fun e => e ▸ hx) h
theorem ma (h1 : p ∈ l1 → p ∈ l') (h2 : p ∈ l2 → p ∈ l') (hp : p ∈ l1 ++ l2) : p ∈ l' := (List.mem_append.mp hp).elim h1 h2
theorem mz (hp : p ∈ ([] : List α)) : p ∈ l' := nomatch hp
theorem m0 : x ∈ x :: l := .head _
theorem mt (h : p ∈ l) : p ∈ x :: l := .tail _ h
theorem mt2 (h : p ∈ l) : p ∈ a1 :: a2 :: l := .tail _ (.tail _ h)
theorem mt5 (h : p ∈ l) : p ∈ a1 :: a2 :: a3 :: a4 :: a5 :: l := .tail _ (.tail _ (.tail _ (.tail _ (.tail _ h))))
theorem ml (h : p ∈ l1) : p ∈ l1 ++ l2 := List.mem_append_left _ h
theorem mr (h : p ∈ l2) : p ∈ l1 ++ l2 := List.mem_append_right _ h
/-- five ahead stay five ahead -/
theorem m5 (h : p ∈ l → p ∈ l') : p ∈ b1 :: b2 :: b3 :: b4 :: b5 :: l → p ∈ b1 :: b2 :: b3 :: b4 :: b5 :: l' := mc m0 (mc (mt m0) (mc (mt2 m0) (mc (mt (mt2 m0)) (mc (mt2 (mt2 m0)) fun h9 => mt5 (h h9)))))
theorem mem_l1 : p ∈ [b1, b2, b3] → p ∈ [b2, b3, b1] := mc (mt2 m0) (mc m0 (mc (mt m0) mz))
theorem mem_l5 : p ∈ b1 :: b2 :: b3 :: b4 :: b5 :: rl → p ∈ b2 :: (rl ++ [b3, b4, b1, b5]) := mc (mt (mr (mt2 m0))) (mc m0 (mc (mt (mr m0)) (mc (mt (mr (mt m0))) (mc (mt (mr (mt (mt2 m0)))) fun h => mt (ml h)))))
theorem mem_nr : p ∈ tabs ++ (b1 :: b2 :: b3 :: b4 :: b5 :: (rl ++ own)) → p ∈ a1 :: a2 :: a3 :: a4 :: a5 :: ((b1 :: b2 :: b3 :: b4 :: b5 :: (rl ++ tabs)) ++ own) := ma (fun h => mt5 (ml (mt5 (mr h)))) fun h => mt5 (m5 (ma (fun h => ml (ml h)) mr) h)
theorem mem_nt : p ∈ a1 :: b1 :: b2 :: b3 :: b4 :: b5 :: (rl ++ (own ++ tabs)) → p ∈ a1 :: (tabs ++ (b1 :: b2 :: b3 :: b4 :: b5 :: (rl ++ own))) :=
  mc m0 (mc (mt (mr m0)) (mc (mt (mr (mt m0))) (mc (mt (mr (mt2 m0))) (mc (mt (mr (mt (mt2 m0)))) (mc (mt (mr (mt2 (mt2 m0)))) (ma (fun h => mt (mr (mt5 (ml h)))) (ma (fun h => mt (mr (mt5 (mr h)))) fun h => mt (ml h))))))))
theorem mem_n1 (h : p ∈ b1 :: b2 :: b3 :: b4 :: b5 :: (rl ++ tabs)) : p ∈ tabs ++ (b1 :: b2 :: b3 :: b4 :: b5 :: (rl ++ own)) := (ma (l1 := [b1, b2, b3, b4, b5] ++ rl) (fun h => mr ((ma (fun h => ml (ml h)) (fun h => ml (mr h)) h : p ∈ ([b1, b2, b3, b4, b5] ++ rl) ++ own))) (fun h => ml h) h : p ∈ tabs ++ (([b1, b2, b3, b4, b5] ++ rl) ++ own))
theorem mem_o1 (h : p ∈ own) : p ∈ tabs ++ (b1 :: b2 :: b3 :: b4 :: b5 :: (rl ++ own)) := mr (mt5 (mr h))
theorem mem_n2 : p ∈ a4 :: b2 :: b3 :: b4 :: b5 :: (rl ++ tabs) → p ∈ a1 :: a2 :: a3 :: a4 :: a5 :: b1 :: b2 :: b3 :: b4 :: b5 :: (rl ++ (own ++ tabs)) :=
  mc (mt (mt2 m0)) (mc (mt5 (mt m0)) (mc (mt5 (mt2 m0)) (mc (mt5 (mt (mt2 m0))) (mc (mt5 (mt2 (mt2 m0))) (ma (fun h => mt5 (mt5 (ml h))) fun h => mt5 (mt5 (mr (mr h))))))))
theorem mem_o2 (h : p ∈ own) : p ∈ a1 :: a2 :: a3 :: a4 :: a5 :: b1 :: b2 :: b3 :: b4 :: b5 :: (rl ++ (own ++ tabs)) := mt5 (mt5 (mr (ml h)))
theorem mem_d : p ∈ tabs ++ [b5] → p ∈ b1 :: b2 :: b3 :: b4 :: b5 :: (rl ++ tabs) := ma (fun h => mt5 (mr h)) (mc (mt2 (mt2 m0)) mz)
theorem led_sub {a b c d e f t : α} {r : List α} : p ∈ a :: b :: c :: d :: f :: (r ++ [t]) → p ∈ a :: b :: c :: d :: e :: f :: t :: r :=
  mc m0 (mc (mt m0) (mc (mt2 m0) (mc (mt (mt2 m0)) (mc (mt5 m0) (ma (fun h => mt5 (mt2 h)) (mc (mt5 (mt m0)) mz))))))
theorem m4 {b1 b2 b3 b4 : α} (h : p ∈ l → p ∈ l') : p ∈ b1 :: b2 :: b3 :: b4 :: l → p ∈ b1 :: b2 :: b3 :: b4 :: l' := mc m0 (mc (mt m0) (mc (mt2 m0) (mc (mt (mt2 m0)) fun h9 => mt2 (mt2 (h h9)))))
theorem off4 {b1 b2 b3 b4 : α} : p ∈ b1 :: b2 :: b3 :: b4 :: (rl ++ own) → p ∈ b1 :: b2 :: b3 :: b4 :: rl ∨ p ∈ own := fun h => List.mem_append.mp (h : p ∈ (b1 :: b2 :: b3 :: b4 :: rl) ++ own)
end
end Mine
end
section
-- Objs
set_option maxRecDepth 100000
set_option Elab.async false
set_option linter.all false
namespace Mine
open PySem PySem.W

noncomputable abbrev pw : Program := PySem.Challenge.pw_in0277_01

/-- what the world leaves open of the top's objects -/
structure XX where
  x : Nat → Obj
  es : Nat → Array (Int × Value)
  ep : Nat → Nat
  tb : Nat → SetTable
noncomputable def setO (es : Array (Int × Value)) (ep : Nat) (t : SetTable) : Obj := ⟨.type "frozenset", none, .set es ep t, #[]⟩
noncomputable def sX (X : XX) (i : Nat) : Obj := setO (X.es i) (X.ep i) (X.tb i)
noncomputable def newS (P : Params) : Obj := setO #[] 0 (.fresh 0 0 (!(P.followText "set-order")))

noncomputable def stA (i : Nat) : Stmt := (pw.main.body[i]?).getD (.Pass default)
noncomputable def cBod : Stmt → List Stmt
  | .ClassDef _ _ _ b _ _ _ _ _ _ _ => b
  | _ => []
noncomputable def stB (i j : Nat) : Stmt := ((cBod (stA i))[j]?).getD (.Pass default)
noncomputable def fPar : Stmt → Arguments
  | .FunctionDef _ a _ _ _ _ _ _ _ _ => a
  | _ => default
noncomputable def fBod : Stmt → List Stmt
  | .FunctionDef _ _ b _ _ _ _ _ _ _ => b
  | _ => []
noncomputable def fSco : Stmt → Scope
  | .FunctionDef _ _ _ _ _ _ s _ _ _ => s
  | _ => default
noncomputable def genE : Expr := match stA 4 with
  | .Assign _ (.BinOp (.Call _ (e :: _) _ _) _ _ _) _ => e
  | _ => .Constant .none 0 default
noncomputable def genS : Scope := match genE with
  | .GeneratorExp _ _ s _ => s
  | _ => default
noncomputable def cenv : Env := { scope := genS, locals := 73, globals := mainNs, cells := [], qual := Str.ofString "<genexpr>.", func := none, code := .ref 72, frame := some 73, builtins := builtinsNs }
noncomputable def genC : Code := .compStart genE 0 (.ref 69) .none cenv
noncomputable def env0 : Env := { scope := pw.main.scope, locals := mainNs, globals := mainNs, cells := [], code := .ref 30, frame := some 31 }

noncomputable def fden : Code → Sem Fin := PySem.W.Fast.tw11892475500146522536 PySem.W.Fast.tw14364793385576792824
theorem fden_eq : denote table = fden := by
  unfold fden
  rw [table_eq_tree, ← PySem.W.Fast.te11892475500146522536, ← PySem.W.Fast.te14364793385576792824]
noncomputable def execsF : List Stmt → Env → Sem Flow := PySem.W.Fast.tw12563942051412417395
theorem execsF_eq : execs = execsF := PySem.W.Fast.te12563942051412417395

noncomputable def okCtx (Γ : Ctx) : Bool := Γ.handled.isNone && Nat.ble (frameCount Γ.below) 400 && Nat.ble (unitsOf Γ.below) 50
noncomputable def Ans.view : Ans → Option (Code × Bool × SharedT)
  | .ask Γ _ S _ => some (Γ.code, okCtx Γ, S)
  | _ => none
noncomputable def Ans.cont : Ans → Result → SharedT → Ans
  | .ask _ _ _ k, r, S => k r S
  | _, _, _ => .fail
noncomputable def isAskS : Code → Bool
  | .builtin id _ => id == "set.update.loop" || id == "frozenset.__or__" || id == "frozenset.__sub__"
  | _ => false
noncomputable def isAskB : Code → Bool
  | .body .. => true
  | _ => false
noncomputable def ctxB : Ctx := ⟨.body (behindTheImports pw) env0, none, none, [(.builtin "claim.caller" {}, default)], none⟩
noncomputable def evS (w : World) (isAsk : Code → Bool) (l : List Stmt) (q : Pos) (S : SharedT) : Ans :=
  evC fden pw w.params isAsk 100000 ctxB ((execsF l env0).bind fun f => .pure (.done f)) q S .done
noncomputable def none_ : Result := .ok (.ret .none)
noncomputable def refR (a : Addr) : Result := .ok (.ret (.ref a))
noncomputable def L1 : List Stmt := [stA 1, stA 2, stA 3]
noncomputable def L2 : List Stmt := [stA 9, stA 10]
noncomputable def L3a : List Stmt := [stA 12, stA 13, stA 14, stA 15, stA 16, stA 17, stA 18, stA 19, stA 20, stA 21, stA 22, stA 23, stA 24, stA 25, stA 26, stA 27, stA 28, stA 29, stA 30, stA 31, stA 32, stA 33, stA 34, stA 35, stA 36, stA 37, stA 38, stA 39, stA 40, stA 41]
noncomputable def L3b : List Stmt := [stA 42]
noncomputable def L3c : List Stmt := [stA 43, stA 44, stA 45, stA 46, stA 47, stA 48, stA 49, stA 50, stA 51, stA 52, stA 53, stA 54, stA 55, stA 56]
noncomputable def L3 : List Stmt := L3a ++ (L3b ++ L3c)

noncomputable def o1e (P : Params) : Obj := ⟨(.type "dict"), none, (.dict #[⟨PyData.keyHash P (.ofString "builtins"), (.str (.ofString "builtins") 162), (.ref 4)⟩, ⟨PyData.keyHash P (.ofString "__main__"), (.str (.ofString "__main__") 163), (.ref 5)⟩, ⟨PyData.keyHash P (.ofString "_sre"), (.str (.ofString "_sre") 244), (.ref 12)⟩] 3), #[]⟩
noncomputable def o2e (P : Params) : Obj := ⟨.none, none, (.dict #[⟨PyData.keyHash P (.ofString "\x69mport.loaded._sre"), (.str (.ofString "\x69mport.loaded._sre") 183), (.bool true)⟩, ⟨PyData.keyHash P (.ofString "class._frozen_importlib.BuiltinImporter"), (.str (.ofString "class._frozen_importlib.BuiltinImporter") 185), (.ref 14)⟩, ⟨PyData.keyHash P (.ofString "watched.\x69mport"), (.str (.ofString "watched.\x69mport") 206), (.ref 18)⟩, ⟨PyData.keyHash P (.ofString "class._frozen_importlib.ModuleSpec"), (.str (.ofString "class._frozen_importlib.ModuleSpec") 216), (.ref 22)⟩, ⟨PyData.keyHash P (.ofString "sys.modules.booked-epoch"), (.str (.ofString "sys.modules.booked-epoch") 245), (.int 3 0)⟩, ⟨PyData.keyHash P (.ofString "\x69mport.later-laid._sre"), (.str (.ofString "\x69mport.later-laid._sre") 270), (.bool true)⟩, ⟨PyData.keyHash P (.ofString "watched.library"), (.str (.ofString "watched.library") 272), (.ref 27)⟩, ⟨PyData.keyHash P (.ofString "watched.library-objects"), (.str (.ofString "watched.library-objects") 0), (.str (.mk #[12]) 0)⟩, ⟨PyData.keyHash P (.ofString "watched.library-deep._sre"), (.str (.ofString "watched.library-deep._sre") 273), (.str (.mk #[4, 0, 0, 11, 4, 0, 0, 11, 4, 0, 0, 3, 4, 0, 0, 11, 8, 4, 100, 105, 99, 116, 2]) 0)⟩] 9), #[]⟩
noncomputable def o3e (P : Params) : Obj := ⟨(.type "dict"), none, (.dict #[⟨PyData.keyHash P (.ofString "__name__"), (.str (.ofString "__name__") 165), (.str (.ofString "__main__") 164)⟩, ⟨PyData.keyHash P (.ofString "__doc__"), (.str (.ofString "__doc__") 166), .none⟩, ⟨PyData.keyHash P (.ofString "__package__"), (.str (.ofString "__package__") 167), .none⟩, ⟨PyData.keyHash P (.ofString "__loader__"), (.str (.ofString "__loader__") 168), (.builtin "__main__.__loader__#opaque")⟩, ⟨PyData.keyHash P (.ofString "__spec__"), (.str (.ofString "__spec__") 169), .none⟩, ⟨PyData.keyHash P (.ofString "__annotations__"), (.str (.ofString "__annotations__") 170), (.ref 6)⟩, ⟨PyData.keyHash P (.ofString "__builtins__"), (.str (.ofString "__builtins__") 171), (.ref 4)⟩, ⟨PyData.keyHash P (.ofString "__file__"), (.str (.ofString "__file__") 173), (.str (.ofString "/claim/cut.py") 172)⟩, ⟨PyData.keyHash P (.ofString "__cached__"), (.str (.ofString "__cached__") 174), .none⟩, ⟨PyData.keyHash P (.ofString "_sre"), (.str (.ofString "_sre") 275), (.ref 12)⟩] 10), #[]⟩
noncomputable def o11e (P : Params) : Obj := ⟨(.type "dict"), none, (.dict #[⟨PyData.keyHash P (.ofString "__name__"), (.str (.ofString "__name__") 247), (.str (.ofString "_sre") 246)⟩, ⟨PyData.keyHash P (.ofString "__doc__"), (.str (.ofString "__doc__") 248), .none⟩, ⟨PyData.keyHash P (.ofString "__package__"), (.str (.ofString "__package__") 250), (.str (.ofString "") 249)⟩, ⟨PyData.keyHash P (.ofString "__loader__"), (.str (.ofString "__loader__") 251), (.ref 14)⟩, ⟨PyData.keyHash P (.ofString "__spec__"), (.str (.ofString "__spec__") 252), (.ref 26)⟩, ⟨PyData.keyHash P (.ofString "compile"), (.str (.ofString "compile") 253), (.builtin "_sre.compile")⟩, ⟨PyData.keyHash P (.ofString "template"), (.str (.ofString "template") 254), (.builtin "_sre.template")⟩, ⟨PyData.keyHash P (.ofString "getcodesize"), (.str (.ofString "getcodesize") 255), (.builtin "_sre.getcodesize")⟩, ⟨PyData.keyHash P (.ofString "ascii_iscased"), (.str (.ofString "ascii_iscased") 256), (.builtin "_sre.ascii_iscased")⟩, ⟨PyData.keyHash P (.ofString "unicode_iscased"), (.str (.ofString "unicode_iscased") 257), (.builtin "_sre.unicode_iscased")⟩, ⟨PyData.keyHash P (.ofString "ascii_tolower"), (.str (.ofString "ascii_tolower") 258), (.builtin "_sre.ascii_tolower")⟩, ⟨PyData.keyHash P (.ofString "unicode_tolower"), (.str (.ofString "unicode_tolower") 259), (.builtin "_sre.unicode_tolower")⟩, ⟨PyData.keyHash P (.ofString "MAGIC"), (.str (.ofString "MAGIC") 261), (.int 20230612 260)⟩, ⟨PyData.keyHash P (.ofString "CODESIZE"), (.str (.ofString "CODESIZE") 263), (.int 4 262)⟩, ⟨PyData.keyHash P (.ofString "MAXREPEAT"), (.str (.ofString "MAXREPEAT") 265), (.int 4294967295 264)⟩, ⟨PyData.keyHash P (.ofString "MAXGROUPS"), (.str (.ofString "MAXGROUPS") 267), (.int 1073741823 266)⟩, ⟨PyData.keyHash P (.ofString "copyright"), (.str (.ofString "copyright") 269), (.str (.ofString " SRE 2.2.2 Copyright (c) 1997-2002 by Secret Labs AB ") 268)⟩] 17), #[]⟩
noncomputable def o12e (P : Params) : Obj := ⟨(.type "module"), (some 11), .plain, #[]⟩
noncomputable def o13e (P : Params) : Obj := ⟨(.type "dict"), none, (.dict #[⟨PyData.keyHash P (.ofString "__module__"), (.str (.ofString "__module__") 189), (.str (.ofString "_frozen_importlib") 186)⟩, ⟨PyData.keyHash P (.ofString "__firstlineno__"), (.str (.ofString "__firstlineno__") 190), (.int 971 187)⟩, ⟨PyData.keyHash P (.ofString "__doc__"), (.str (.ofString "__doc__") 191), (.builtin "_frozen_importlib.BuiltinImporter.__doc__:str#opaque")⟩, ⟨PyData.keyHash P (.ofString "_ORIGIN"), (.str (.ofString "_ORIGIN") 192), (.str (.ofString "built-in") 188)⟩, ⟨PyData.keyHash P (.ofString "find_spec"), (.str (.ofString "find_spec") 193), (.builtin "_frozen_importlib.BuiltinImporter.find_spec#opaque")⟩, ⟨PyData.keyHash P (.ofString "create_module"), (.str (.ofString "create_module") 194), (.builtin "_frozen_importlib.BuiltinImporter.create_module#opaque")⟩, ⟨PyData.keyHash P (.ofString "exec_module"), (.str (.ofString "exec_module") 195), (.builtin "_frozen_importlib.BuiltinImporter.exec_module#opaque")⟩, ⟨PyData.keyHash P (.ofString "get_code"), (.str (.ofString "get_code") 196), (.builtin "_frozen_importlib.BuiltinImporter.get_code#opaque")⟩, ⟨PyData.keyHash P (.ofString "get_source"), (.str (.ofString "get_source") 197), (.builtin "_frozen_importlib.BuiltinImporter.get_source#opaque")⟩, ⟨PyData.keyHash P (.ofString "is_package"), (.str (.ofString "is_package") 198), (.builtin "_frozen_importlib.BuiltinImporter.is_package#opaque")⟩, ⟨PyData.keyHash P (.ofString "load_module"), (.str (.ofString "load_module") 199), (.builtin "_frozen_importlib.BuiltinImporter.load_module#opaque")⟩, ⟨PyData.keyHash P (.ofString "__static_attributes__"), (.str (.ofString "__static_attributes__") 200), (.ref 15)⟩, ⟨PyData.keyHash P (.ofString "__dict__"), (.str (.ofString "__dict__") 202), (.ref 16)⟩, ⟨PyData.keyHash P (.ofString "__weakref__"), (.str (.ofString "__weakref__") 204), (.ref 17)⟩] 14), #[]⟩
noncomputable def o14e (P : Params) : Obj := ⟨(.type "type"), none, (.cls ⟨(.ofString "BuiltinImporter"), [(.type "object")], [(.ref 14), (.type "object")], 13, (.ofString "BuiltinImporter"), true, [], [], false, none, false⟩), #[]⟩
noncomputable def o15e (P : Params) : Obj := ⟨(.type "tuple"), none, (.seq #[] 0), #[]⟩
noncomputable def o16e (P : Params) : Obj := ⟨(.type "getset_descriptor"), none, (.fields #[(.str (.ofString "__dict__") 201), (.ref 14), (.builtin "function.__dict__"), (.builtin "function.__dict__#set")]), #[]⟩
noncomputable def o17e (P : Params) : Obj := ⟨(.type "getset_descriptor"), none, (.fields #[(.str (.ofString "__weakref__") 203), (.ref 14), (.builtin "ExceptionGroup.__weakref__"), .none]), #[]⟩
noncomputable def o18e (P : Params) : Obj := ⟨.none, none, (.seq #[(.int 13 0), (.str (.mk #[6, 189, 10, 95, 95, 109, 111, 100, 117, 108, 101, 95, 95, 6, 186, 17, 95, 102, 114, 111, 122, 101, 110, 95, 105, 109, 112, 111, 114, 116, 108, 105, 98, 6, 190, 15, 95, 95, 102, 105, 114, 115, 116, 108, 105, 110, 101, 110, 111, 95, 95, 4, 187, 0, 971, 6, 191, 7, 95, 95, 100, 111, 99, 95, 95, 9, 52, 95, 102, 114, 111, 122, 101, 110, 95, 105, 109, 112, 111, 114, 116, 108, 105, 98, 46, 66, 117, 105, 108, 116, 105, 110, 73, 109, 112, 111, 114, 116, 101, 114, 46, 95, 95, 100, 111, 99, 95, 95, 58, 115, 116, 114, 35, 111, 112, 97, 113, 117, 101, 6, 192, 7, 95, 79, 82, 73, 71, 73, 78, 6, 188, 8, 98, 117, 105, 108, 116, 45, 105, 110, 6, 193, 9, 102, 105, 110, 100, 95, 115, 112, 101, 99, 9, 50, 95, 102, 114, 111, 122, 101, 110, 95, 105, 109, 112, 111, 114, 116, 108, 105, 98, 46, 66, 117, 105, 108, 116, 105, 110, 73, 109, 112, 111, 114, 116, 101, 114, 46, 102, 105, 110, 100, 95, 115, 112, 101, 99, 35, 111, 112, 97, 113, 117, 101, 6, 194, 13, 99, 114, 101, 97, 116, 101, 95, 109, 111, 100, 117, 108, 101, 9, 54, 95, 102, 114, 111, 122, 101, 110, 95, 105, 109, 112, 111, 114, 116, 108, 105, 98, 46, 66, 117, 105, 108, 116, 105, 110, 73, 109, 112, 111, 114, 116, 101, 114, 46, 99, 114, 101, 97, 116, 101, 95, 109, 111, 100, 117, 108, 101, 35, 111, 112, 97, 113, 117, 101, 6, 195, 11, 101, 120, 101, 99, 95, 109, 111, 100, 117, 108, 101, 9, 52, 95, 102, 114, 111, 122, 101, 110, 95, 105, 109, 112, 111, 114, 116, 108, 105, 98, 46, 66, 117, 105, 108, 116, 105, 110, 73, 109, 112, 111, 114, 116, 101, 114, 46, 101, 120, 101, 99, 95, 109, 111, 100, 117, 108, 101, 35, 111, 112, 97, 113, 117, 101, 6, 196, 8, 103, 101, 116, 95, 99, 111, 100, 101, 9, 49, 95, 102, 114, 111, 122, 101, 110, 95, 105, 109, 112, 111, 114, 116, 108, 105, 98, 46, 66, 117, 105, 108, 116, 105, 110, 73, 109, 112, 111, 114, 116, 101, 114, 46, 103, 101, 116, 95, 99, 111, 100, 101, 35, 111, 112, 97, 113, 117, 101, 6, 197, 10, 103, 101, 116, 95, 115, 111, 117, 114, 99, 101, 9, 51, 95, 102, 114, 111, 122, 101, 110, 95, 105, 109, 112, 111, 114, 116, 108, 105, 98, 46, 66, 117, 105, 108, 116, 105, 110, 73, 109, 112, 111, 114, 116, 101, 114, 46, 103, 101, 116, 95, 115, 111, 117, 114, 99, 101, 35, 111, 112, 97, 113, 117, 101, 6, 198, 10, 105, 115, 95, 112, 97, 99, 107, 97, 103, 101, 9, 51, 95, 102, 114, 111, 122, 101, 110, 95, 105, 109, 112, 111, 114, 116, 108, 105, 98, 46, 66, 117, 105, 108, 116, 105, 110, 73, 109, 112, 111, 114, 116, 101, 114, 46, 105, 115, 95, 112, 97, 99, 107, 97, 103, 101, 35, 111, 112, 97, 113, 117, 101, 6, 199, 11, 108, 111, 97, 100, 95, 109, 111, 100, 117, 108, 101, 9, 52, 95, 102, 114, 111, 122, 101, 110, 95, 105, 109, 112, 111, 114, 116, 108, 105, 98, 46, 66, 117, 105, 108, 116, 105, 110, 73, 109, 112, 111, 114, 116, 101, 114, 46, 108, 111, 97, 100, 95, 109, 111, 100, 117, 108, 101, 35, 111, 112, 97, 113, 117, 101, 6, 200, 21, 95, 95, 115, 116, 97, 116, 105, 99, 95, 97, 116, 116, 114, 105, 98, 117, 116, 101, 115, 95, 95, 4, 0, 0, 15, 6, 202, 8, 95, 95, 100, 105, 99, 116, 95, 95, 4, 0, 0, 16, 6, 204, 11, 95, 95, 119, 101, 97, 107, 114, 101, 102, 95, 95, 4, 0, 0, 17]) 0), (.bool true), (.bool true), (.str (.ofString "") 205), (.int 21 0), (.str (.mk #[6, 227, 10, 95, 95, 109, 111, 100, 117, 108, 101, 95, 95, 6, 217, 17, 95, 102, 114, 111, 122, 101, 110, 95, 105, 109, 112, 111, 114, 116, 108, 105, 98, 6, 228, 15, 95, 95, 102, 105, 114, 115, 116, 108, 105, 110, 101, 110, 111, 95, 95, 4, 218, 0, 562, 6, 229, 7, 95, 95, 100, 111, 99, 95, 95, 9, 47, 95, 102, 114, 111, 122, 101, 110, 95, 105, 109, 112, 111, 114, 116, 108, 105, 98, 46, 77, 111, 100, 117, 108, 101, 83, 112, 101, 99, 46, 95, 95, 100, 111, 99, 95, 95, 58, 115, 116, 114, 35, 111, 112, 97, 113, 117, 101, 6, 230, 8, 95, 95, 105, 110, 105, 116, 95, 95, 9, 44, 95, 102, 114, 111, 122, 101, 110, 95, 105, 109, 112, 111, 114, 116, 108, 105, 98, 46, 77, 111, 100, 117, 108, 101, 83, 112, 101, 99, 46, 95, 95, 105, 110, 105, 116, 95, 95, 35, 111, 112, 97, 113, 117, 101, 6, 231, 8, 95, 95, 114, 101, 112, 114, 95, 95, 9, 44, 95, 102, 114, 111, 122, 101, 110, 95, 105, 109, 112, 111, 114, 116, 108, 105, 98, 46, 77, 111, 100, 117, 108, 101, 83, 112, 101, 99, 46, 95, 95, 114, 101, 112, 114, 95, 95, 35, 111, 112, 97, 113, 117, 101, 6, 232, 6, 95, 95, 101, 113, 95, 95, 9, 42, 95, 102, 114, 111, 122, 101, 110, 95, 105, 109, 112, 111, 114, 116, 108, 105, 98, 46, 77, 111, 100, 117, 108, 101, 83, 112, 101, 99, 46, 95, 95, 101, 113, 95, 95, 35, 111, 112, 97, 113, 117, 101, 6, 233, 6, 99, 97, 99, 104, 101, 100, 9, 42, 95, 102, 114, 111, 122, 101, 110, 95, 105, 109, 112, 111, 114, 116, 108, 105, 98, 46, 77, 111, 100, 117, 108, 101, 83, 112, 101, 99, 46, 99, 97, 99, 104, 101, 100, 35, 111, 112, 97, 113, 117, 101, 6, 234, 6, 112, 97, 114, 101, 110, 116, 9, 42, 95, 102, 114, 111, 122, 101, 110, 95, 105, 109, 112, 111, 114, 116, 108, 105, 98, 46, 77, 111, 100, 117, 108, 101, 83, 112, 101, 99, 46, 112, 97, 114, 101, 110, 116, 35, 111, 112, 97, 113, 117, 101, 6, 235, 12, 104, 97, 115, 95, 108, 111, 99, 97, 116, 105, 111, 110, 9, 48, 95, 102, 114, 111, 122, 101, 110, 95, 105, 109, 112, 111, 114, 116, 108, 105, 98, 46, 77, 111, 100, 117, 108, 101, 83, 112, 101, 99, 46, 104, 97, 115, 95, 108, 111, 99, 97, 116, 105, 111, 110, 35, 111, 112, 97, 113, 117, 101, 6, 236, 21, 95, 95, 115, 116, 97, 116, 105, 99, 95, 97, 116, 116, 114, 105, 98, 117, 116, 101, 115, 95, 95, 4, 0, 0, 23, 6, 238, 8, 95, 95, 100, 105, 99, 116, 95, 95, 4, 0, 0, 24, 6, 240, 11, 95, 95, 119, 101, 97, 107, 114, 101, 102, 95, 95, 4, 0, 0, 25, 6, 241, 8, 95, 95, 104, 97, 115, 104, 95, 95, 0]) 0), (.bool true), (.bool true), (.str (.ofString "") 242)] 1), #[]⟩
noncomputable def o19e (P : Params) : Obj := ⟨(.type "list"), none, (.seq #[] 0), #[]⟩
noncomputable def o20e (P : Params) : Obj := ⟨(.type "dict"), none, (.dict #[⟨PyData.keyHash P (.ofString "name"), (.str (.ofString "name") 208), (.str (.ofString "_sre") 207)⟩, ⟨PyData.keyHash P (.ofString "loader"), (.str (.ofString "loader") 209), (.ref 14)⟩, ⟨PyData.keyHash P (.ofString "origin"), (.str (.ofString "origin") 210), (.str (.ofString "built-in") 184)⟩, ⟨PyData.keyHash P (.ofString "loader_state"), (.str (.ofString "loader_state") 211), .none⟩, ⟨PyData.keyHash P (.ofString "submodule_search_locations"), (.str (.ofString "submodule_search_locations") 212), .none⟩, ⟨PyData.keyHash P (.ofString "_uninitialized_submodules"), (.str (.ofString "_uninitialized_submodules") 213), (.ref 19)⟩, ⟨PyData.keyHash P (.ofString "_set_fileattr"), (.str (.ofString "_set_fileattr") 214), (.bool false)⟩, ⟨PyData.keyHash P (.ofString "_cached"), (.str (.ofString "_cached") 215), .none⟩, ⟨PyData.keyHash P (.ofString "_initializing"), (.str (.ofString "_initializing") 243), (.bool false)⟩] 9), #[]⟩
noncomputable def o21e (P : Params) : Obj := ⟨(.type "dict"), none, (.dict #[⟨PyData.keyHash P (.ofString "__module__"), (.str (.ofString "__module__") 227), (.str (.ofString "_frozen_importlib") 217)⟩, ⟨PyData.keyHash P (.ofString "__firstlineno__"), (.str (.ofString "__firstlineno__") 228), (.int 562 218)⟩, ⟨PyData.keyHash P (.ofString "__doc__"), (.str (.ofString "__doc__") 229), (.builtin "_frozen_importlib.ModuleSpec.__doc__:str#opaque")⟩, ⟨PyData.keyHash P (.ofString "__init__"), (.str (.ofString "__init__") 230), (.builtin "_frozen_importlib.ModuleSpec.__init__#opaque")⟩, ⟨PyData.keyHash P (.ofString "__repr__"), (.str (.ofString "__repr__") 231), (.builtin "_frozen_importlib.ModuleSpec.__repr__#opaque")⟩, ⟨PyData.keyHash P (.ofString "__eq__"), (.str (.ofString "__eq__") 232), (.builtin "_frozen_importlib.ModuleSpec.__eq__#opaque")⟩, ⟨PyData.keyHash P (.ofString "cached"), (.str (.ofString "cached") 233), (.builtin "_frozen_importlib.ModuleSpec.cached#opaque")⟩, ⟨PyData.keyHash P (.ofString "parent"), (.str (.ofString "parent") 234), (.builtin "_frozen_importlib.ModuleSpec.parent#opaque")⟩, ⟨PyData.keyHash P (.ofString "has_location"), (.str (.ofString "has_location") 235), (.builtin "_frozen_importlib.ModuleSpec.has_location#opaque")⟩, ⟨PyData.keyHash P (.ofString "__static_attributes__"), (.str (.ofString "__static_attributes__") 236), (.ref 23)⟩, ⟨PyData.keyHash P (.ofString "__dict__"), (.str (.ofString "__dict__") 238), (.ref 24)⟩, ⟨PyData.keyHash P (.ofString "__weakref__"), (.str (.ofString "__weakref__") 240), (.ref 25)⟩, ⟨PyData.keyHash P (.ofString "__hash__"), (.str (.ofString "__hash__") 241), .none⟩] 13), #[]⟩
noncomputable def o22e (P : Params) : Obj := ⟨(.type "type"), none, (.cls ⟨(.ofString "ModuleSpec"), [(.type "object")], [(.ref 22), (.type "object")], 21, (.ofString "ModuleSpec"), true, [], [], false, none, false⟩), #[]⟩
noncomputable def o23e (P : Params) : Obj := ⟨(.type "tuple"), none, (.seq #[(.str (.ofString "_cached") 219), (.str (.ofString "_set_fileattr") 220), (.str (.ofString "_uninitialized_submodules") 221), (.str (.ofString "loader") 222), (.str (.ofString "loader_state") 223), (.str (.ofString "name") 224), (.str (.ofString "origin") 225), (.str (.ofString "submodule_search_locations") 226)] 0), #[]⟩
noncomputable def o24e (P : Params) : Obj := ⟨(.type "getset_descriptor"), none, (.fields #[(.str (.ofString "__dict__") 237), (.ref 22), (.builtin "function.__dict__"), (.builtin "function.__dict__#set")]), #[]⟩
noncomputable def o25e (P : Params) : Obj := ⟨(.type "getset_descriptor"), none, (.fields #[(.str (.ofString "__weakref__") 239), (.ref 22), (.builtin "ExceptionGroup.__weakref__"), .none]), #[]⟩
noncomputable def o26e (P : Params) : Obj := ⟨(.ref 22), (some 20), .plain, #[]⟩
noncomputable def o27e (P : Params) : Obj := ⟨.none, none, (.seq #[(.int 11 0), (.str (.mk #[6, 247, 8, 95, 95, 110, 97, 109, 101, 95, 95, 6, 246, 4, 95, 115, 114, 101, 6, 248, 7, 95, 95, 100, 111, 99, 95, 95, 0, 6, 250, 11, 95, 95, 112, 97, 99, 107, 97, 103, 101, 95, 95, 6, 249, 0, 6, 251, 10, 95, 95, 108, 111, 97, 100, 101, 114, 95, 95, 4, 0, 0, 14, 6, 252, 8, 95, 95, 115, 112, 101, 99, 95, 95, 4, 0, 0, 26, 6, 253, 7, 99, 111, 109, 112, 105, 108, 101, 9, 12, 95, 115, 114, 101, 46, 99, 111, 109, 112, 105, 108, 101, 6, 254, 8, 116, 101, 109, 112, 108, 97, 116, 101, 9, 13, 95, 115, 114, 101, 46, 116, 101, 109, 112, 108, 97, 116, 101, 6, 255, 11, 103, 101, 116, 99, 111, 100, 101, 115, 105, 122, 101, 9, 16, 95, 115, 114, 101, 46, 103, 101, 116, 99, 111, 100, 101, 115, 105, 122, 101, 6, 256, 13, 97, 115, 99, 105, 105, 95, 105, 115, 99, 97, 115, 101, 100, 9, 18, 95, 115, 114, 101, 46, 97, 115, 99, 105, 105, 95, 105, 115, 99, 97, 115, 101, 100, 6, 257, 15, 117, 110, 105, 99, 111, 100, 101, 95, 105, 115, 99, 97, 115, 101, 100, 9, 20, 95, 115, 114, 101, 46, 117, 110, 105, 99, 111, 100, 101, 95, 105, 115, 99, 97, 115, 101, 100, 6, 258, 13, 97, 115, 99, 105, 105, 95, 116, 111, 108, 111, 119, 101, 114, 9, 18, 95, 115, 114, 101, 46, 97, 115, 99, 105, 105, 95, 116, 111, 108, 111, 119, 101, 114, 6, 259, 15, 117, 110, 105, 99, 111, 100, 101, 95, 116, 111, 108, 111, 119, 101, 114, 9, 20, 95, 115, 114, 101, 46, 117, 110, 105, 99, 111, 100, 101, 95, 116, 111, 108, 111, 119, 101, 114, 6, 261, 5, 77, 65, 71, 73, 67, 4, 260, 0, 20230612, 6, 263, 8, 67, 79, 68, 69, 83, 73, 90, 69, 4, 262, 0, 4, 6, 265, 9, 77, 65, 88, 82, 69, 80, 69, 65, 84, 4, 264, 0, 4294967295, 6, 267, 9, 77, 65, 88, 71, 82, 79, 85, 80, 83, 4, 266, 0, 1073741823, 6, 269, 9, 99, 111, 112, 121, 114, 105, 103, 104, 116, 6, 268, 53, 32, 83, 82, 69, 32, 50, 46, 50, 46, 50, 32, 67, 111, 112, 121, 114, 105, 103, 104, 116, 32, 40, 99, 41, 32, 49, 57, 57, 55, 45, 50, 48, 48, 50, 32, 98, 121, 32, 83, 101, 99, 114, 101, 116, 32, 76, 97, 98, 115, 32, 65, 66, 32]) 0), (.bool true), (.bool false), (.str (.ofString "_sre") 271)] 0), #[]⟩
noncomputable def hE (P : Params) : Heap := ⟨#[boot_o_0 P, o1e P, o2e P, o3e P, boot_o_4 P, boot_o_5 P, boot_o_6 P, boot_o_7 P, boot_o_8 P, boot_o_9 P, boot_o_10 P, o11e P, o12e P, o13e P, o14e P, o15e P, o16e P, o17e P, o18e P, o19e P, o20e P, o21e P, o22e P, o23e P, o24e P, o25e P, o26e P, o27e P], {}⟩
noncomputable def toksE : Nat := 276
noncomputable def o11f (P : Params) : Obj := ⟨(.type "dict"), none, (.dict #[⟨PyData.keyHash P (.ofString "__name__"), (.str (.ofString "__name__") 247), (.str (.ofString "_sre") 246)⟩, ⟨PyData.keyHash P (.ofString "__doc__"), (.str (.ofString "__doc__") 248), .none⟩, ⟨PyData.keyHash P (.ofString "__package__"), (.str (.ofString "__package__") 250), (.str (.ofString "") 249)⟩, ⟨PyData.keyHash P (.ofString "__loader__"), (.str (.ofString "__loader__") 251), (.builtin "off-the-table:_sre.__loader__:shared#opaque")⟩, ⟨PyData.keyHash P (.ofString "__spec__"), (.str (.ofString "__spec__") 252), (.builtin "off-the-table:_sre.__spec__:shared#opaque")⟩, ⟨PyData.keyHash P (.ofString "compile"), (.str (.ofString "compile") 253), (.builtin "_sre.compile")⟩, ⟨PyData.keyHash P (.ofString "template"), (.str (.ofString "template") 254), (.builtin "off-the-table:_sre.template:shared#opaque")⟩, ⟨PyData.keyHash P (.ofString "getcodesize"), (.str (.ofString "getcodesize") 255), (.builtin "off-the-table:_sre.getcodesize:shared#opaque")⟩, ⟨PyData.keyHash P (.ofString "ascii_iscased"), (.str (.ofString "ascii_iscased") 256), (.builtin "off-the-table:_sre.ascii_iscased:shared#opaque")⟩, ⟨PyData.keyHash P (.ofString "unicode_iscased"), (.str (.ofString "unicode_iscased") 257), (.builtin "off-the-table:_sre.unicode_iscased:shared#opaque")⟩, ⟨PyData.keyHash P (.ofString "ascii_tolower"), (.str (.ofString "ascii_tolower") 258), (.builtin "off-the-table:_sre.ascii_tolower:shared#opaque")⟩, ⟨PyData.keyHash P (.ofString "unicode_tolower"), (.str (.ofString "unicode_tolower") 259), (.builtin "off-the-table:_sre.unicode_tolower:shared#opaque")⟩, ⟨PyData.keyHash P (.ofString "MAGIC"), (.str (.ofString "MAGIC") 261), (.int 20230612 260)⟩, ⟨PyData.keyHash P (.ofString "CODESIZE"), (.str (.ofString "CODESIZE") 263), (.int 4 262)⟩, ⟨PyData.keyHash P (.ofString "MAXREPEAT"), (.str (.ofString "MAXREPEAT") 265), (.int 4294967295 264)⟩, ⟨PyData.keyHash P (.ofString "MAXGROUPS"), (.str (.ofString "MAXGROUPS") 267), (.int 1073741823 266)⟩, ⟨PyData.keyHash P (.ofString "copyright"), (.str (.ofString "copyright") 269), (.str (.ofString " SRE 2.2.2 Copyright (c) 1997-2002 by Secret Labs AB ") 268)⟩] 17), #[]⟩
noncomputable def hF (P : Params) : Heap := ⟨#[boot_o_0 P, o1e P, o2e P, o3e P, boot_o_4 P, boot_o_5 P, boot_o_6 P, boot_o_7 P, boot_o_8 P, boot_o_9 P, boot_o_10 P, o11f P, o12e P, o13e P, o14e P, o15e P, o16e P, o17e P, o18e P, o19e P, o20e P, o21e P, o22e P, o23e P, o24e P, o25e P, o26e P, o27e P], {}⟩
noncomputable def t28 (P : Params) (X : XX) : BT := (.node (boot_o_0 P) (.node (o1e P) (.node (o3e P) (.node (boot_o_7 P) (.node (o15e P) .nil .nil) (.node (o23e P) .nil .nil)) (.node (o11f P) (.node (o19e P) .nil .nil) (.node (o27e P) .nil .nil))) (.node (boot_o_5 P) (.node (boot_o_9 P) (.node (o17e P) .nil .nil) (.node (o25e P) .nil .nil)) (.node (o13e P) (.node (o21e P) .nil .nil) .nil))) (.node (o2e P) (.node (boot_o_4 P) (.node (boot_o_8 P) (.node (o16e P) .nil .nil) (.node (o24e P) .nil .nil)) (.node (o12e P) (.node (o20e P) .nil .nil) .nil)) (.node (boot_o_6 P) (.node (boot_o_10 P) (.node (o18e P) .nil .nil) (.node (o26e P) .nil .nil)) (.node (o14e P) (.node (o22e P) .nil .nil) .nil))))
noncomputable def s28 (P : Params) (X : XX) (os : OsState) : SharedT := ⟨t28 P X, 28, {}, #[], {}, 276, os⟩
noncomputable def o28b (P : Params) : Obj := ⟨(.type "tuple"), none, (.seq #[] 0), #[]⟩
noncomputable def o29b (P : Params) : Obj := ⟨.none, none, (.fields #[]), #[]⟩
noncomputable def o30b (P : Params) : Obj := ⟨(.type "code"), none, (.fields #[(.str (.ofString "<module>") 277), (.str (.ofString "<module>") 278), (.str (.ofString "/claim/cut.py") 279), (.int 1 0), (.int 0 0), (.int 0 0), (.int 0 0), (.int 0 0), (.ref 28), (.bool false), (.int 276 0), (.ref 29), .none, .none, .none, .none, (.int 280 0), (.int 1 0), (.str (.ofString "/claim/cut.py") 281)]), #[]⟩
noncomputable def o31b (P : Params) : Obj := ⟨(.type "frame"), none, .plain, #[(some (.ref 30)), (some (.ref 3)), (some (.ref 3)), none, (some (.str (.ofString "__main__") 164)), none, (some (.ref 0))]⟩
noncomputable def t32 (P : Params) (X : XX) : BT := (((((t28 P X).ins 28 (o28b P)).ins 29 (o29b P)).ins 30 (o30b P)).ins 31 (o31b P))
noncomputable def s32 (P : Params) (X : XX) (os : OsState) : SharedT := ⟨t32 P X, 32, {}, #[], {}, 282, os⟩
noncomputable def o3c (P : Params) : Obj := ⟨(.type "dict"), none, (.dict #[⟨PyData.keyHash P (.ofString "__name__"), (.str (.ofString "__name__") 165), (.str (.ofString "cpy313.tomllib._parser") 329)⟩, ⟨PyData.keyHash P (.ofString "__doc__"), (.str (.ofString "__doc__") 166), .none⟩, ⟨PyData.keyHash P (.ofString "__package__"), (.str (.ofString "__package__") 167), .none⟩, ⟨PyData.keyHash P (.ofString "__loader__"), (.str (.ofString "__loader__") 168), (.builtin "__main__.__loader__#opaque")⟩, ⟨PyData.keyHash P (.ofString "__spec__"), (.str (.ofString "__spec__") 169), .none⟩, ⟨PyData.keyHash P (.ofString "__annotations__"), (.str (.ofString "__annotations__") 170), (.ref 6)⟩, ⟨PyData.keyHash P (.ofString "__builtins__"), (.str (.ofString "__builtins__") 171), (.ref 4)⟩, ⟨PyData.keyHash P (.ofString "__file__"), (.str (.ofString "__file__") 173), (.str (.ofString "/claim/cut.py") 172)⟩, ⟨PyData.keyHash P (.ofString "__cached__"), (.str (.ofString "__cached__") 174), .none⟩, ⟨PyData.keyHash P (.ofString "_sre"), (.str (.ofString "_sre") 275), (.ref 12)⟩, ⟨PyData.keyHash P (.ofString "_wall"), (.str (.ofString "_wall") 288), (.ref 38)⟩, ⟨PyData.keyHash P (.ofString "_WallAttr"), (.str (.ofString "_WallAttr") 328), (.ref 63)⟩] 12), #[]⟩
noncomputable def o29c (P : Params) : Obj := ⟨.none, none, (.fields #[(.int 2 0), (.int 0 0), (.ref 37), (.int 5 0), (.int 0 0), (.ref 44)]), #[]⟩
noncomputable def o32c (P : Params) : Obj := ⟨(.type "tuple"), none, (.seq #[] 0), #[]⟩
noncomputable def o33c (P : Params) : Obj := ⟨.none, none, (.fields #[]), #[]⟩
noncomputable def o34c (P : Params) : Obj := ⟨(.type "tuple"), none, (.seq #[(.str (.ofString "k") 285)] 0), #[]⟩
noncomputable def o35c (P : Params) : Obj := ⟨(.type "tuple"), none, (.seq #[] 0), #[]⟩
noncomputable def o36c (P : Params) : Obj := ⟨.none, none, (.func ⟨(.ofString "_wall"), (.ofString "_wall"), fPar (stA 1), .stmts (fBod (stA 1)), fSco (stA 1), 0, [], .none, .none, .none, .none, none, .none, .none, 0⟩), #[]⟩
noncomputable def o37c (P : Params) : Obj := ⟨(.type "code"), none, (.fields #[(.str (.ofString "_wall") 282), (.str (.ofString "_wall") 283), (.str (.ofString "/claim/cut.py") 284), (.int 2 0), (.int 1 0), (.int 0 0), (.int 0 0), (.int 3 0), (.ref 32), (.bool true), (.int 276 0), (.ref 33), .none, (.ref 34), (.ref 35), (.ref 36), (.int 286 0), (.int 2 0), (.str (.ofString "/claim/cut.py") 287)]), #[]⟩
noncomputable def o38c (P : Params) : Obj := ⟨(.type "function"), none, (.func ⟨(.ofString "_wall"), (.ofString "_wall"), fPar (stA 1), .stmts (fBod (stA 1)), fSco (stA 1), 3, [], .none, .none, .none, (.str (.ofString "__main__") 164), none, (.ref 37), .none, 0⟩), #[]⟩
noncomputable def o39c (P : Params) : Obj := ⟨(.type "tuple"), none, (.seq #[] 0), #[]⟩
noncomputable def o40c (P : Params) : Obj := ⟨(.type "builtin_function_or_method"), none, (.fields #[(.builtin "type.__prepare__"), (.type "type")]), #[]⟩
noncomputable def o41c (P : Params) : Obj := ⟨(.type "dict"), none, (.dict #[⟨PyData.keyHash P (.ofString "__module__"), (.str (.ofString "__module__") 296), (.str (.ofString "__main__") 164)⟩, ⟨PyData.keyHash P (.ofString "__qualname__"), (.str (.ofString "__qualname__") 298), (.str (.ofString "_WallAttr") 297)⟩, ⟨PyData.keyHash P (.ofString "__firstlineno__"), (.str (.ofString "__firstlineno__") 300), (.int 5 299)⟩, ⟨PyData.keyHash P (.ofString "__init__"), (.str (.ofString "__init__") 308), (.ref 52)⟩, ⟨PyData.keyHash P (.ofString "__get__"), (.str (.ofString "__get__") 317), (.ref 60)⟩, ⟨PyData.keyHash P (.ofString "__set__"), (.str (.ofString "__set__") 318), (.ref 60)⟩, ⟨PyData.keyHash P (.ofString "__delete__"), (.str (.ofString "__delete__") 319), (.ref 60)⟩, ⟨PyData.keyHash P (.ofString "__static_attributes__"), (.str (.ofString "__static_attributes__") 321), (.ref 61)⟩] 8), #[]⟩
noncomputable def o42c (P : Params) : Obj := ⟨(.type "tuple"), none, (.seq #[] 0), #[]⟩
noncomputable def o43c (P : Params) : Obj := ⟨.none, none, (.fields #[(.int 6 0), (.int 4 0), (.ref 51), (.int 8 0), (.int 4 0), (.ref 59)]), #[]⟩
noncomputable def o44c (P : Params) : Obj := ⟨(.type "code"), none, (.fields #[(.str (.ofString "_WallAttr") 291), (.str (.ofString "_WallAttr") 292), (.str (.ofString "/claim/cut.py") 293), (.int 5 0), (.int 0 0), (.int 0 0), (.int 0 0), (.int 0 0), (.ref 42), (.bool false), (.int 276 0), (.ref 43), .none, .none, .none, .none, (.int 294 0), (.int 5 0), (.str (.ofString "/claim/cut.py") 295)]), #[]⟩
noncomputable def o45c (P : Params) : Obj := ⟨(.type "frame"), none, .plain, #[(some (.ref 44)), (some (.ref 3)), (some (.ref 41)), none, (some (.str (.ofString "__main__") 164)), none, (some (.ref 0))]⟩
noncomputable def o46c (P : Params) : Obj := ⟨(.type "tuple"), none, (.seq #[] 0), #[]⟩
noncomputable def o47c (P : Params) : Obj := ⟨.none, none, (.fields #[]), #[]⟩
noncomputable def o48c (P : Params) : Obj := ⟨(.type "tuple"), none, (.seq #[(.str (.ofString "self") 304), (.str (.ofString "k") 305)] 0), #[]⟩
noncomputable def o49c (P : Params) : Obj := ⟨(.type "tuple"), none, (.seq #[] 0), #[]⟩
noncomputable def o50c (P : Params) : Obj := ⟨.none, none, (.func ⟨(.ofString "__init__"), (.ofString "_WallAttr.__init__"), fPar (stB 2 0), .stmts (fBod (stB 2 0)), fSco (stB 2 0), 0, [], .none, .none, .none, .none, none, .none, .none, 0⟩), #[]⟩
noncomputable def o51c (P : Params) : Obj := ⟨(.type "code"), none, (.fields #[(.str (.ofString "__init__") 301), (.str (.ofString "_WallAttr.__init__") 302), (.str (.ofString "/claim/cut.py") 303), (.int 6 0), (.int 2 0), (.int 0 0), (.int 0 0), (.int 3 0), (.ref 46), (.bool true), (.int 276 0), (.ref 47), .none, (.ref 48), (.ref 49), (.ref 50), (.int 306 0), (.int 6 0), (.str (.ofString "/claim/cut.py") 307)]), #[]⟩
noncomputable def o52c (P : Params) : Obj := ⟨(.type "function"), none, (.func ⟨(.ofString "__init__"), (.ofString "_WallAttr.__init__"), fPar (stB 2 0), .stmts (fBod (stB 2 0)), fSco (stB 2 0), 3, [], .none, .none, .none, (.str (.ofString "__main__") 164), none, (.ref 51), .none, 0⟩), #[]⟩
noncomputable def o53c (P : Params) : Obj := ⟨(.type "tuple"), none, (.seq #[.none] 0), #[]⟩
noncomputable def o54c (P : Params) : Obj := ⟨(.type "tuple"), none, (.seq #[] 0), #[]⟩
noncomputable def o55c (P : Params) : Obj := ⟨.none, none, (.fields #[]), #[]⟩
noncomputable def o56c (P : Params) : Obj := ⟨(.type "tuple"), none, (.seq #[(.str (.ofString "self") 312), (.str (.ofString "o") 313), (.str (.ofString "t") 314)] 0), #[]⟩
noncomputable def o57c (P : Params) : Obj := ⟨(.type "tuple"), none, (.seq #[] 0), #[]⟩
noncomputable def o58c (P : Params) : Obj := ⟨.none, none, (.func ⟨(.ofString "__get__"), (.ofString "_WallAttr.__get__"), fPar (stB 2 1), .stmts (fBod (stB 2 1)), fSco (stB 2 1), 0, [], .none, .none, .none, .none, none, .none, .none, 0⟩), #[]⟩
noncomputable def o59c (P : Params) : Obj := ⟨(.type "code"), none, (.fields #[(.str (.ofString "__get__") 309), (.str (.ofString "_WallAttr.__get__") 310), (.str (.ofString "/claim/cut.py") 311), (.int 8 0), (.int 3 0), (.int 0 0), (.int 0 0), (.int 3 0), (.ref 54), (.bool true), (.int 276 0), (.ref 55), .none, (.ref 56), (.ref 57), (.ref 58), (.int 315 0), (.int 8 0), (.str (.ofString "/claim/cut.py") 316)]), #[]⟩
noncomputable def o60c (P : Params) : Obj := ⟨(.type "function"), none, (.func ⟨(.ofString "__get__"), (.ofString "_WallAttr.__get__"), fPar (stB 2 1), .stmts (fBod (stB 2 1)), fSco (stB 2 1), 3, [], (.ref 53), .none, .none, (.str (.ofString "__main__") 164), none, (.ref 59), .none, 0⟩), #[]⟩
noncomputable def o61c (P : Params) : Obj := ⟨(.type "tuple"), none, (.seq #[(.str (.ofString "k") 320)] 0), #[]⟩
noncomputable def o62c (P : Params) : Obj := ⟨(.type "dict"), none, (.dict #[⟨PyData.keyHash P (.ofString "__module__"), (.str (.ofString "__module__") 296), (.str (.ofString "__main__") 164)⟩, ⟨PyData.keyHash P (.ofString "__firstlineno__"), (.str (.ofString "__firstlineno__") 300), (.int 5 299)⟩, ⟨PyData.keyHash P (.ofString "__init__"), (.str (.ofString "__init__") 308), (.ref 52)⟩, ⟨PyData.keyHash P (.ofString "__get__"), (.str (.ofString "__get__") 317), (.ref 60)⟩, ⟨PyData.keyHash P (.ofString "__set__"), (.str (.ofString "__set__") 318), (.ref 60)⟩, ⟨PyData.keyHash P (.ofString "__delete__"), (.str (.ofString "__delete__") 319), (.ref 60)⟩, ⟨PyData.keyHash P (.ofString "__static_attributes__"), (.str (.ofString "__static_attributes__") 321), (.ref 61)⟩, ⟨PyData.keyHash P (.ofString "__dict__"), (.str (.ofString "__dict__") 323), (.ref 64)⟩, ⟨PyData.keyHash P (.ofString "__weakref__"), (.str (.ofString "__weakref__") 325), (.ref 65)⟩, ⟨PyData.keyHash P (.ofString "__doc__"), (.str (.ofString "__doc__") 326), .none⟩] 4), #[]⟩
noncomputable def o63c (P : Params) : Obj := ⟨(.type "type"), none, (.cls ⟨(.ofString "_WallAttr"), [(.type "object")], [(.ref 63), (.type "object")], 62, (.ofString "_WallAttr"), true, [], [], false, none, false⟩), #[none, none, (some (.str (.ofString "_WallAttr") 289)), (some (.str (.ofString "_WallAttr") 297)), (some (.builtin "object.__new__")), (some (.bool true))]⟩
noncomputable def o64c (P : Params) : Obj := ⟨(.type "getset_descriptor"), none, (.fields #[(.str (.ofString "__dict__") 322), (.ref 63), (.builtin "function.__dict__"), (.builtin "function.__dict__#set")]), #[]⟩
noncomputable def o65c (P : Params) : Obj := ⟨(.type "getset_descriptor"), none, (.fields #[(.str (.ofString "__weakref__") 324), (.ref 63), (.builtin "ExceptionGroup.__weakref__"), .none]), #[]⟩
noncomputable def o66c (P : Params) : Obj := ⟨(.type "super"), none, (.fields #[(.ref 63), (.ref 63), (.ref 63)]), #[]⟩
noncomputable def o67c (P : Params) : Obj := ⟨(.type "builtin_function_or_method"), none, (.fields #[(.builtin "object.__init_subclass__"), (.ref 63)]), #[]⟩
noncomputable def t68 (P : Params) (X : XX) : BT := (.node (boot_o_0 P) (.node (o1e P) (.node (o3c P) (.node (boot_o_7 P) (.node (o15e P) (.node (o31b P) (.node (o63c P) .nil .nil) .nil) (.node (o47c P) .nil .nil)) (.node (o23e P) (.node (o39c P) .nil .nil) (.node (o55c P) .nil .nil))) (.node (o11f P) (.node (o19e P) (.node (o35c P) (.node (o67c P) .nil .nil) .nil) (.node (o51c P) .nil .nil)) (.node (o27e P) (.node (o43c P) .nil .nil) (.node (o59c P) .nil .nil)))) (.node (boot_o_5 P) (.node (boot_o_9 P) (.node (o17e P) (.node (o33c P) (.node (o65c P) .nil .nil) .nil) (.node (o49c P) .nil .nil)) (.node (o25e P) (.node (o41c P) .nil .nil) (.node (o57c P) .nil .nil))) (.node (o13e P) (.node (o21e P) (.node (o37c P) .nil .nil) (.node (o53c P) .nil .nil)) (.node (o29c P) (.node (o45c P) .nil .nil) (.node (o61c P) .nil .nil))))) (.node (o2e P) (.node (boot_o_4 P) (.node (boot_o_8 P) (.node (o16e P) (.node (o32c P) (.node (o64c P) .nil .nil) .nil) (.node (o48c P) .nil .nil)) (.node (o24e P) (.node (o40c P) .nil .nil) (.node (o56c P) .nil .nil))) (.node (o12e P) (.node (o20e P) (.node (o36c P) .nil .nil) (.node (o52c P) .nil .nil)) (.node (o28b P) (.node (o44c P) .nil .nil) (.node (o60c P) .nil .nil)))) (.node (boot_o_6 P) (.node (boot_o_10 P) (.node (o18e P) (.node (o34c P) (.node (o66c P) .nil .nil) .nil) (.node (o50c P) .nil .nil)) (.node (o26e P) (.node (o42c P) .nil .nil) (.node (o58c P) .nil .nil))) (.node (o14e P) (.node (o22e P) (.node (o38c P) .nil .nil) (.node (o54c P) .nil .nil)) (.node (o30b P) (.node (o46c P) .nil .nil) (.node (o62c P) .nil .nil))))))
noncomputable def s68 (P : Params) (X : XX) (os : OsState) : SharedT := ⟨t68 P X, 68, {}, #[], {}, 331, os⟩
noncomputable def o29d3a1 (P : Params) : Obj := ⟨.none, none, (.fields #[(.int 2 0), (.int 0 0), (.ref 37), (.int 5 0), (.int 0 0), (.ref 44), (.int 12 0), (.int 23 0), (.ref 72)]), #[]⟩
noncomputable def o68d3a1 (P : Params) : Obj := ⟨(.type "range"), none, (.fields #[(.int 0 332), (.int 32 331), (.int 1 333)]), #[]⟩
noncomputable def o69d3a1 (P : Params) : Obj := ⟨(.type "range_iterator"), none, (.fields #[(.int 0 0), (.int 32 0), (.int 1 0)]), #[]⟩
noncomputable def o70d3a1 (P : Params) : Obj := ⟨(.type "tuple"), none, (.seq #[] 0), #[]⟩
noncomputable def o71d3a1 (P : Params) : Obj := ⟨.none, none, (.fields #[]), #[]⟩
noncomputable def o72d3a1 (P : Params) : Obj := ⟨(.type "code"), none, (.fields #[(.str (.ofString "<genexpr>") 334), (.str (.ofString "<genexpr>") 335), (.str (.ofString "/claim/cut.py") 336), (.int 12 0), (.int 1 0), (.int 0 0), (.int 0 0), (.int 35 0), (.ref 70), (.bool true), (.int 276 0), (.ref 71), .none, .none, .none, .none, (.int 337 0), (.int 12 0), (.str (.ofString "/claim/cut.py") 338)]), #[]⟩
noncomputable def o73d3a1 (P : Params) : Obj := ⟨(.type "frame"), none, (.dict #[⟨PyData.keyHash P (.ofString ".0"), (.str (.ofString ".0") 339), (.ref 69)⟩] 1), #[]⟩
noncomputable def o74d3a1 (P : Params) : Obj := ⟨(.type "generator"), none, (.fields #[(.int 0 0), (.str (.ofString "<genexpr>") 340), (.str (.ofString "<genexpr>") 341)]), #[]⟩
noncomputable def t3a1 (P : Params) (X : XX) : BT := ((((((((((t68 P X).set 29 fun _ => o29d3a1 P).ins 68 (o68d3a1 P)).ins 69 (o69d3a1 P)).ins 70 (o70d3a1 P)).ins 71 (o71d3a1 P)).ins 72 (o72d3a1 P)).ins 73 (o73d3a1 P)).ins 74 (o74d3a1 P)).ins 75 (newS P))
noncomputable def s3a1 (P : Params) (X : XX) (os : OsState) : SharedT := ⟨t3a1 P X, 76, {}, #[(.fresh genC)], {}, 342, os⟩
noncomputable def t3b1 (P : Params) (X : XX) : BT := ((((((((t3a1 P X).set 69 fun _ => X.x 69).set 73 fun _ => X.x 73).set 75 fun _ => sX X 75).ins 76 (X.x 76)).ins 77 (X.x 77)).ins 78 (X.x 78)).ins 79 (X.x 79))
noncomputable def s3b1 (P : Params) (X : XX) (os : OsState) : SharedT := ⟨t3b1 P X, 80, {}, #[.finished], {}, 470, os⟩
noncomputable def o81d3a2 (P : Params) : Obj := ⟨(.type "str_ascii_iterator"), none, (.fields #[(.str (.mk #[127]) 471), (.int 0 0)]), #[]⟩
noncomputable def t3a2 (P : Params) (X : XX) : BT := (((t3b1 P X).ins 80 (newS P)).ins 81 (o81d3a2 P))
noncomputable def s3a2 (P : Params) (X : XX) (os : OsState) : SharedT := ⟨t3a2 P X, 82, {}, #[.finished], {}, 472, os⟩
noncomputable def t3b2 (P : Params) (X : XX) : BT := (((((t3a2 P X).set 80 fun _ => sX X 80).set 81 fun _ => X.x 81).ins 82 (X.x 82)).ins 83 (X.x 83))
noncomputable def s3b2 (P : Params) (X : XX) (os : OsState) : SharedT := ⟨t3b2 P X, 84, {}, #[.finished], {}, 474, os⟩
noncomputable def t3a3 (P : Params) (X : XX) : BT := (t3b2 P X)
noncomputable def s3a3 (P : Params) (X : XX) (os : OsState) : SharedT := ⟨t3a3 P X, 84, {}, #[.finished], {}, 474, os⟩
noncomputable def t3b3 (P : Params) (X : XX) : BT := ((t3a3 P X).ins 84 (sX X 84))
noncomputable def s3b3 (P : Params) (X : XX) (os : OsState) : SharedT := ⟨t3b3 P X, 85, {}, #[.finished], {}, 474, os⟩
noncomputable def o3d3 (P : Params) : Obj := ⟨(.type "dict"), none, (.dict #[⟨PyData.keyHash P (.ofString "__name__"), (.str (.ofString "__name__") 165), (.str (.ofString "cpy313.tomllib._parser") 329)⟩, ⟨PyData.keyHash P (.ofString "__doc__"), (.str (.ofString "__doc__") 166), .none⟩, ⟨PyData.keyHash P (.ofString "__package__"), (.str (.ofString "__package__") 167), .none⟩, ⟨PyData.keyHash P (.ofString "__loader__"), (.str (.ofString "__loader__") 168), (.builtin "__main__.__loader__#opaque")⟩, ⟨PyData.keyHash P (.ofString "__spec__"), (.str (.ofString "__spec__") 169), .none⟩, ⟨PyData.keyHash P (.ofString "__annotations__"), (.str (.ofString "__annotations__") 170), (.ref 6)⟩, ⟨PyData.keyHash P (.ofString "__builtins__"), (.str (.ofString "__builtins__") 171), (.ref 4)⟩, ⟨PyData.keyHash P (.ofString "__file__"), (.str (.ofString "__file__") 173), (.str (.ofString "/claim/cut.py") 172)⟩, ⟨PyData.keyHash P (.ofString "__cached__"), (.str (.ofString "__cached__") 174), .none⟩, ⟨PyData.keyHash P (.ofString "_sre"), (.str (.ofString "_sre") 275), (.ref 12)⟩, ⟨PyData.keyHash P (.ofString "_wall"), (.str (.ofString "_wall") 288), (.ref 38)⟩, ⟨PyData.keyHash P (.ofString "_WallAttr"), (.str (.ofString "_WallAttr") 328), (.ref 63)⟩, ⟨PyData.keyHash P (.ofString "ASCII_CTRL"), (.str (.ofString "ASCII_CTRL") 474), (.ref 84)⟩] 13), #[]⟩
noncomputable def t85 (P : Params) (X : XX) : BT := ((t3b3 P X).set 3 fun _ => o3d3 P)
noncomputable def s85 (P : Params) (X : XX) (os : OsState) : SharedT := ⟨t85 P X, 85, {}, #[.finished], {}, 475, os⟩
noncomputable def o86d4a1 (P : Params) : Obj := ⟨(.type "str_ascii_iterator"), none, (.fields #[(.str (.mk #[9]) 475), (.int 0 0)]), #[]⟩
noncomputable def t4a1 (P : Params) (X : XX) : BT := (((t85 P X).ins 85 (newS P)).ins 86 (o86d4a1 P))
noncomputable def s4a1 (P : Params) (X : XX) (os : OsState) : SharedT := ⟨t4a1 P X, 87, {}, #[.finished], {}, 476, os⟩
noncomputable def t4b1 (P : Params) (X : XX) : BT := (((((t4a1 P X).set 85 fun _ => sX X 85).set 86 fun _ => X.x 86).ins 87 (X.x 87)).ins 88 (X.x 88))
noncomputable def s4b1 (P : Params) (X : XX) (os : OsState) : SharedT := ⟨t4b1 P X, 89, {}, #[.finished], {}, 478, os⟩
noncomputable def t4a2 (P : Params) (X : XX) : BT := (t4b1 P X)
noncomputable def s4a2 (P : Params) (X : XX) (os : OsState) : SharedT := ⟨t4a2 P X, 89, {}, #[.finished], {}, 478, os⟩
noncomputable def t4b2 (P : Params) (X : XX) : BT := ((t4a2 P X).ins 89 (sX X 89))
noncomputable def s4b2 (P : Params) (X : XX) (os : OsState) : SharedT := ⟨t4b2 P X, 90, {}, #[.finished], {}, 478, os⟩
noncomputable def o3d4 (P : Params) : Obj := ⟨(.type "dict"), none, (.dict #[⟨PyData.keyHash P (.ofString "__name__"), (.str (.ofString "__name__") 165), (.str (.ofString "cpy313.tomllib._parser") 329)⟩, ⟨PyData.keyHash P (.ofString "__doc__"), (.str (.ofString "__doc__") 166), .none⟩, ⟨PyData.keyHash P (.ofString "__package__"), (.str (.ofString "__package__") 167), .none⟩, ⟨PyData.keyHash P (.ofString "__loader__"), (.str (.ofString "__loader__") 168), (.builtin "__main__.__loader__#opaque")⟩, ⟨PyData.keyHash P (.ofString "__spec__"), (.str (.ofString "__spec__") 169), .none⟩, ⟨PyData.keyHash P (.ofString "__annotations__"), (.str (.ofString "__annotations__") 170), (.ref 6)⟩, ⟨PyData.keyHash P (.ofString "__builtins__"), (.str (.ofString "__builtins__") 171), (.ref 4)⟩, ⟨PyData.keyHash P (.ofString "__file__"), (.str (.ofString "__file__") 173), (.str (.ofString "/claim/cut.py") 172)⟩, ⟨PyData.keyHash P (.ofString "__cached__"), (.str (.ofString "__cached__") 174), .none⟩, ⟨PyData.keyHash P (.ofString "_sre"), (.str (.ofString "_sre") 275), (.ref 12)⟩, ⟨PyData.keyHash P (.ofString "_wall"), (.str (.ofString "_wall") 288), (.ref 38)⟩, ⟨PyData.keyHash P (.ofString "_WallAttr"), (.str (.ofString "_WallAttr") 328), (.ref 63)⟩, ⟨PyData.keyHash P (.ofString "ASCII_CTRL"), (.str (.ofString "ASCII_CTRL") 474), (.ref 84)⟩, ⟨PyData.keyHash P (.ofString "ILLEGAL_BASIC_STR_CHARS"), (.str (.ofString "ILLEGAL_BASIC_STR_CHARS") 478), (.ref 89)⟩] 14), #[]⟩
noncomputable def t90 (P : Params) (X : XX) : BT := ((t4b2 P X).set 3 fun _ => o3d4 P)
noncomputable def s90 (P : Params) (X : XX) (os : OsState) : SharedT := ⟨t90 P X, 90, {}, #[.finished], {}, 479, os⟩
noncomputable def o91d5a1 (P : Params) : Obj := ⟨(.type "str_ascii_iterator"), none, (.fields #[(.str (.mk #[9, 10]) 479), (.int 0 0)]), #[]⟩
noncomputable def t5a1 (P : Params) (X : XX) : BT := (((t90 P X).ins 90 (newS P)).ins 91 (o91d5a1 P))
noncomputable def s5a1 (P : Params) (X : XX) (os : OsState) : SharedT := ⟨t5a1 P X, 92, {}, #[.finished], {}, 480, os⟩
noncomputable def t5b1 (P : Params) (X : XX) : BT := (((((t5a1 P X).set 90 fun _ => sX X 90).set 91 fun _ => X.x 91).ins 92 (X.x 92)).ins 93 (X.x 93))
noncomputable def s5b1 (P : Params) (X : XX) (os : OsState) : SharedT := ⟨t5b1 P X, 94, {}, #[.finished], {}, 484, os⟩
noncomputable def t5a2 (P : Params) (X : XX) : BT := (t5b1 P X)
noncomputable def s5a2 (P : Params) (X : XX) (os : OsState) : SharedT := ⟨t5a2 P X, 94, {}, #[.finished], {}, 484, os⟩
noncomputable def t5b2 (P : Params) (X : XX) : BT := ((t5a2 P X).ins 94 (sX X 94))
noncomputable def s5b2 (P : Params) (X : XX) (os : OsState) : SharedT := ⟨t5b2 P X, 95, {}, #[.finished], {}, 484, os⟩
noncomputable def o3d5 (P : Params) : Obj := ⟨(.type "dict"), none, (.dict #[⟨PyData.keyHash P (.ofString "__name__"), (.str (.ofString "__name__") 165), (.str (.ofString "cpy313.tomllib._parser") 329)⟩, ⟨PyData.keyHash P (.ofString "__doc__"), (.str (.ofString "__doc__") 166), .none⟩, ⟨PyData.keyHash P (.ofString "__package__"), (.str (.ofString "__package__") 167), .none⟩, ⟨PyData.keyHash P (.ofString "__loader__"), (.str (.ofString "__loader__") 168), (.builtin "__main__.__loader__#opaque")⟩, ⟨PyData.keyHash P (.ofString "__spec__"), (.str (.ofString "__spec__") 169), .none⟩, ⟨PyData.keyHash P (.ofString "__annotations__"), (.str (.ofString "__annotations__") 170), (.ref 6)⟩, ⟨PyData.keyHash P (.ofString "__builtins__"), (.str (.ofString "__builtins__") 171), (.ref 4)⟩, ⟨PyData.keyHash P (.ofString "__file__"), (.str (.ofString "__file__") 173), (.str (.ofString "/claim/cut.py") 172)⟩, ⟨PyData.keyHash P (.ofString "__cached__"), (.str (.ofString "__cached__") 174), .none⟩, ⟨PyData.keyHash P (.ofString "_sre"), (.str (.ofString "_sre") 275), (.ref 12)⟩, ⟨PyData.keyHash P (.ofString "_wall"), (.str (.ofString "_wall") 288), (.ref 38)⟩, ⟨PyData.keyHash P (.ofString "_WallAttr"), (.str (.ofString "_WallAttr") 328), (.ref 63)⟩, ⟨PyData.keyHash P (.ofString "ASCII_CTRL"), (.str (.ofString "ASCII_CTRL") 474), (.ref 84)⟩, ⟨PyData.keyHash P (.ofString "ILLEGAL_BASIC_STR_CHARS"), (.str (.ofString "ILLEGAL_BASIC_STR_CHARS") 478), (.ref 89)⟩, ⟨PyData.keyHash P (.ofString "ILLEGAL_MULTILINE_BASIC_STR_CHARS"), (.str (.ofString "ILLEGAL_MULTILINE_BASIC_STR_CHARS") 484), (.ref 94)⟩] 15), #[]⟩
noncomputable def t95 (P : Params) (X : XX) : BT := ((t5b2 P X).set 3 fun _ => o3d5 P)
noncomputable def s95 (P : Params) (X : XX) (os : OsState) : SharedT := ⟨t95 P X, 95, {}, #[.finished], {}, 485, os⟩
noncomputable def o96d6a1 (P : Params) : Obj := ⟨(.type "str_ascii_iterator"), none, (.fields #[(.str (.mk #[32, 9]) 485), (.int 0 0)]), #[]⟩
noncomputable def t6a1 (P : Params) (X : XX) : BT := (((t95 P X).ins 95 (newS P)).ins 96 (o96d6a1 P))
noncomputable def s6a1 (P : Params) (X : XX) (os : OsState) : SharedT := ⟨t6a1 P X, 97, {}, #[.finished], {}, 486, os⟩
noncomputable def t6b1 (P : Params) (X : XX) : BT := (((((t6a1 P X).set 95 fun _ => sX X 95).set 96 fun _ => X.x 96).ins 97 (X.x 97)).ins 98 (X.x 98))
noncomputable def s6b1 (P : Params) (X : XX) (os : OsState) : SharedT := ⟨t6b1 P X, 99, {}, #[.finished], {}, 490, os⟩
noncomputable def o3d6 (P : Params) : Obj := ⟨(.type "dict"), none, (.dict #[⟨PyData.keyHash P (.ofString "__name__"), (.str (.ofString "__name__") 165), (.str (.ofString "cpy313.tomllib._parser") 329)⟩, ⟨PyData.keyHash P (.ofString "__doc__"), (.str (.ofString "__doc__") 166), .none⟩, ⟨PyData.keyHash P (.ofString "__package__"), (.str (.ofString "__package__") 167), .none⟩, ⟨PyData.keyHash P (.ofString "__loader__"), (.str (.ofString "__loader__") 168), (.builtin "__main__.__loader__#opaque")⟩, ⟨PyData.keyHash P (.ofString "__spec__"), (.str (.ofString "__spec__") 169), .none⟩, ⟨PyData.keyHash P (.ofString "__annotations__"), (.str (.ofString "__annotations__") 170), (.ref 6)⟩, ⟨PyData.keyHash P (.ofString "__builtins__"), (.str (.ofString "__builtins__") 171), (.ref 4)⟩, ⟨PyData.keyHash P (.ofString "__file__"), (.str (.ofString "__file__") 173), (.str (.ofString "/claim/cut.py") 172)⟩, ⟨PyData.keyHash P (.ofString "__cached__"), (.str (.ofString "__cached__") 174), .none⟩, ⟨PyData.keyHash P (.ofString "_sre"), (.str (.ofString "_sre") 275), (.ref 12)⟩, ⟨PyData.keyHash P (.ofString "_wall"), (.str (.ofString "_wall") 288), (.ref 38)⟩, ⟨PyData.keyHash P (.ofString "_WallAttr"), (.str (.ofString "_WallAttr") 328), (.ref 63)⟩, ⟨PyData.keyHash P (.ofString "ASCII_CTRL"), (.str (.ofString "ASCII_CTRL") 474), (.ref 84)⟩, ⟨PyData.keyHash P (.ofString "ILLEGAL_BASIC_STR_CHARS"), (.str (.ofString "ILLEGAL_BASIC_STR_CHARS") 478), (.ref 89)⟩, ⟨PyData.keyHash P (.ofString "ILLEGAL_MULTILINE_BASIC_STR_CHARS"), (.str (.ofString "ILLEGAL_MULTILINE_BASIC_STR_CHARS") 484), (.ref 94)⟩, ⟨PyData.keyHash P (.ofString "TOML_WS"), (.str (.ofString "TOML_WS") 490), (.ref 95)⟩] 16), #[]⟩
noncomputable def t99 (P : Params) (X : XX) : BT := ((t6b1 P X).set 3 fun _ => o3d6 P)
noncomputable def s99 (P : Params) (X : XX) (os : OsState) : SharedT := ⟨t99 P X, 99, {}, #[.finished], {}, 491, os⟩
noncomputable def o100d7a1 (P : Params) : Obj := ⟨(.type "str_ascii_iterator"), none, (.fields #[(.str (.mk #[10]) 491), (.int 0 0)]), #[]⟩
noncomputable def t7a1 (P : Params) (X : XX) : BT := (((t99 P X).ins 99 (newS P)).ins 100 (o100d7a1 P))
noncomputable def s7a1 (P : Params) (X : XX) (os : OsState) : SharedT := ⟨t7a1 P X, 101, {}, #[.finished], {}, 492, os⟩
noncomputable def t7b1 (P : Params) (X : XX) : BT := (((((t7a1 P X).set 99 fun _ => sX X 99).set 100 fun _ => X.x 100).ins 101 (X.x 101)).ins 102 (X.x 102))
noncomputable def s7b1 (P : Params) (X : XX) (os : OsState) : SharedT := ⟨t7b1 P X, 103, {}, #[.finished], {}, 494, os⟩
noncomputable def t7a2 (P : Params) (X : XX) : BT := (t7b1 P X)
noncomputable def s7a2 (P : Params) (X : XX) (os : OsState) : SharedT := ⟨t7a2 P X, 103, {}, #[.finished], {}, 494, os⟩
noncomputable def t7b2 (P : Params) (X : XX) : BT := ((t7a2 P X).ins 103 (sX X 103))
noncomputable def s7b2 (P : Params) (X : XX) (os : OsState) : SharedT := ⟨t7b2 P X, 104, {}, #[.finished], {}, 494, os⟩
noncomputable def o3d7 (P : Params) : Obj := ⟨(.type "dict"), none, (.dict #[⟨PyData.keyHash P (.ofString "__name__"), (.str (.ofString "__name__") 165), (.str (.ofString "cpy313.tomllib._parser") 329)⟩, ⟨PyData.keyHash P (.ofString "__doc__"), (.str (.ofString "__doc__") 166), .none⟩, ⟨PyData.keyHash P (.ofString "__package__"), (.str (.ofString "__package__") 167), .none⟩, ⟨PyData.keyHash P (.ofString "__loader__"), (.str (.ofString "__loader__") 168), (.builtin "__main__.__loader__#opaque")⟩, ⟨PyData.keyHash P (.ofString "__spec__"), (.str (.ofString "__spec__") 169), .none⟩, ⟨PyData.keyHash P (.ofString "__annotations__"), (.str (.ofString "__annotations__") 170), (.ref 6)⟩, ⟨PyData.keyHash P (.ofString "__builtins__"), (.str (.ofString "__builtins__") 171), (.ref 4)⟩, ⟨PyData.keyHash P (.ofString "__file__"), (.str (.ofString "__file__") 173), (.str (.ofString "/claim/cut.py") 172)⟩, ⟨PyData.keyHash P (.ofString "__cached__"), (.str (.ofString "__cached__") 174), .none⟩, ⟨PyData.keyHash P (.ofString "_sre"), (.str (.ofString "_sre") 275), (.ref 12)⟩, ⟨PyData.keyHash P (.ofString "_wall"), (.str (.ofString "_wall") 288), (.ref 38)⟩, ⟨PyData.keyHash P (.ofString "_WallAttr"), (.str (.ofString "_WallAttr") 328), (.ref 63)⟩, ⟨PyData.keyHash P (.ofString "ASCII_CTRL"), (.str (.ofString "ASCII_CTRL") 474), (.ref 84)⟩, ⟨PyData.keyHash P (.ofString "ILLEGAL_BASIC_STR_CHARS"), (.str (.ofString "ILLEGAL_BASIC_STR_CHARS") 478), (.ref 89)⟩, ⟨PyData.keyHash P (.ofString "ILLEGAL_MULTILINE_BASIC_STR_CHARS"), (.str (.ofString "ILLEGAL_MULTILINE_BASIC_STR_CHARS") 484), (.ref 94)⟩, ⟨PyData.keyHash P (.ofString "TOML_WS"), (.str (.ofString "TOML_WS") 490), (.ref 95)⟩, ⟨PyData.keyHash P (.ofString "TOML_WS_AND_NEWLINE"), (.str (.ofString "TOML_WS_AND_NEWLINE") 494), (.ref 103)⟩] 17), #[]⟩
noncomputable def t104 (P : Params) (X : XX) : BT := ((t7b2 P X).set 3 fun _ => o3d7 P)
noncomputable def s104 (P : Params) (X : XX) (os : OsState) : SharedT := ⟨t104 P X, 104, {}, #[.finished], {}, 495, os⟩
noncomputable def o3w (P : Params) : Obj := ⟨(.type "dict"), none, (.dict #[⟨PyData.keyHash P (.ofString "__name__"), (.str (.ofString "__name__") 165), (.str (.ofString "cpy313.tomllib._parser") 329)⟩, ⟨PyData.keyHash P (.ofString "__doc__"), (.str (.ofString "__doc__") 166), .none⟩, ⟨PyData.keyHash P (.ofString "__package__"), (.str (.ofString "__package__") 167), .none⟩, ⟨PyData.keyHash P (.ofString "__loader__"), (.str (.ofString "__loader__") 168), (.builtin "__main__.__loader__#opaque")⟩, ⟨PyData.keyHash P (.ofString "__spec__"), (.str (.ofString "__spec__") 169), .none⟩, ⟨PyData.keyHash P (.ofString "__annotations__"), (.str (.ofString "__annotations__") 170), (.ref 6)⟩, ⟨PyData.keyHash P (.ofString "__builtins__"), (.str (.ofString "__builtins__") 171), (.ref 4)⟩, ⟨PyData.keyHash P (.ofString "__file__"), (.str (.ofString "__file__") 173), (.str (.ofString "/claim/cut.py") 172)⟩, ⟨PyData.keyHash P (.ofString "__cached__"), (.str (.ofString "__cached__") 174), .none⟩, ⟨PyData.keyHash P (.ofString "_sre"), (.str (.ofString "_sre") 275), (.ref 12)⟩, ⟨PyData.keyHash P (.ofString "_wall"), (.str (.ofString "_wall") 288), (.ref 38)⟩, ⟨PyData.keyHash P (.ofString "_WallAttr"), (.str (.ofString "_WallAttr") 328), (.ref 63)⟩, ⟨PyData.keyHash P (.ofString "ASCII_CTRL"), (.str (.ofString "ASCII_CTRL") 474), (.ref 84)⟩, ⟨PyData.keyHash P (.ofString "ILLEGAL_BASIC_STR_CHARS"), (.str (.ofString "ILLEGAL_BASIC_STR_CHARS") 478), (.ref 89)⟩, ⟨PyData.keyHash P (.ofString "ILLEGAL_MULTILINE_BASIC_STR_CHARS"), (.str (.ofString "ILLEGAL_MULTILINE_BASIC_STR_CHARS") 484), (.ref 94)⟩, ⟨PyData.keyHash P (.ofString "TOML_WS"), (.str (.ofString "TOML_WS") 490), (.ref 95)⟩, ⟨PyData.keyHash P (.ofString "TOML_WS_AND_NEWLINE"), (.str (.ofString "TOML_WS_AND_NEWLINE") 494), (.ref 103)⟩, ⟨PyData.keyHash P (.ofString "digits"), (.str (.ofString "digits") 496), (.str (.ofString "0123456789") 495)⟩, ⟨PyData.keyHash P (.ofString "hexdigits"), (.str (.ofString "hexdigits") 501), (.str (.ofString "0123456789abcdefABCDEF") 500)⟩] 19), #[]⟩
noncomputable def t104w (P : Params) (X : XX) : BT := ((t104 P X).set 3 fun _ => o3w P)
noncomputable def s104w (P : Params) (X : XX) (os : OsState) : SharedT := ⟨t104w P X, 104, {}, #[.finished], {}, 502, os⟩
noncomputable def o105d10a1 (P : Params) : Obj := ⟨(.type "str_ascii_iterator"), none, (.fields #[(.str (.ofString "0123456789abcdefABCDEF") 500), (.int 0 0)]), #[]⟩
noncomputable def t10a1 (P : Params) (X : XX) : BT := (((t104w P X).ins 104 (newS P)).ins 105 (o105d10a1 P))
noncomputable def s10a1 (P : Params) (X : XX) (os : OsState) : SharedT := ⟨t10a1 P X, 106, {}, #[.finished], {}, 502, os⟩
noncomputable def t10b1 (P : Params) (X : XX) : BT := (((((t10a1 P X).set 104 fun _ => sX X 104).set 105 fun _ => X.x 105).ins 106 (X.x 106)).ins 107 (X.x 107))
noncomputable def s10b1 (P : Params) (X : XX) (os : OsState) : SharedT := ⟨t10b1 P X, 108, {}, #[.finished], {}, 546, os⟩
noncomputable def o3d10 (P : Params) : Obj := ⟨(.type "dict"), none, (.dict #[⟨PyData.keyHash P (.ofString "__name__"), (.str (.ofString "__name__") 165), (.str (.ofString "cpy313.tomllib._parser") 329)⟩, ⟨PyData.keyHash P (.ofString "__doc__"), (.str (.ofString "__doc__") 166), .none⟩, ⟨PyData.keyHash P (.ofString "__package__"), (.str (.ofString "__package__") 167), .none⟩, ⟨PyData.keyHash P (.ofString "__loader__"), (.str (.ofString "__loader__") 168), (.builtin "__main__.__loader__#opaque")⟩, ⟨PyData.keyHash P (.ofString "__spec__"), (.str (.ofString "__spec__") 169), .none⟩, ⟨PyData.keyHash P (.ofString "__annotations__"), (.str (.ofString "__annotations__") 170), (.ref 6)⟩, ⟨PyData.keyHash P (.ofString "__builtins__"), (.str (.ofString "__builtins__") 171), (.ref 4)⟩, ⟨PyData.keyHash P (.ofString "__file__"), (.str (.ofString "__file__") 173), (.str (.ofString "/claim/cut.py") 172)⟩, ⟨PyData.keyHash P (.ofString "__cached__"), (.str (.ofString "__cached__") 174), .none⟩, ⟨PyData.keyHash P (.ofString "_sre"), (.str (.ofString "_sre") 275), (.ref 12)⟩, ⟨PyData.keyHash P (.ofString "_wall"), (.str (.ofString "_wall") 288), (.ref 38)⟩, ⟨PyData.keyHash P (.ofString "_WallAttr"), (.str (.ofString "_WallAttr") 328), (.ref 63)⟩, ⟨PyData.keyHash P (.ofString "ASCII_CTRL"), (.str (.ofString "ASCII_CTRL") 474), (.ref 84)⟩, ⟨PyData.keyHash P (.ofString "ILLEGAL_BASIC_STR_CHARS"), (.str (.ofString "ILLEGAL_BASIC_STR_CHARS") 478), (.ref 89)⟩, ⟨PyData.keyHash P (.ofString "ILLEGAL_MULTILINE_BASIC_STR_CHARS"), (.str (.ofString "ILLEGAL_MULTILINE_BASIC_STR_CHARS") 484), (.ref 94)⟩, ⟨PyData.keyHash P (.ofString "TOML_WS"), (.str (.ofString "TOML_WS") 490), (.ref 95)⟩, ⟨PyData.keyHash P (.ofString "TOML_WS_AND_NEWLINE"), (.str (.ofString "TOML_WS_AND_NEWLINE") 494), (.ref 103)⟩, ⟨PyData.keyHash P (.ofString "digits"), (.str (.ofString "digits") 496), (.str (.ofString "0123456789") 495)⟩, ⟨PyData.keyHash P (.ofString "hexdigits"), (.str (.ofString "hexdigits") 501), (.str (.ofString "0123456789abcdefABCDEF") 500)⟩, ⟨PyData.keyHash P (.ofString "HEXDIGIT_CHARS"), (.str (.ofString "HEXDIGIT_CHARS") 546), (.ref 104)⟩] 20), #[]⟩
noncomputable def t108z (P : Params) (X : XX) : BT := (.node (boot_o_0 P) (.node (o1e P) (.node (o3d10 P) (.node (boot_o_7 P) (.node (o15e P) (.node (o31b P) (.node (o63c P) .nil .nil) (.node (sX X 95) .nil .nil)) (.node (o47c P) (.node (X.x 79) .nil .nil) .nil)) (.node (o23e P) (.node (o39c P) (.node (o71d3a1 P) .nil .nil) (.node (sX X 103) .nil .nil)) (.node (o55c P) (.node (X.x 87) .nil .nil) .nil))) (.node (o11f P) (.node (o19e P) (.node (o35c P) (.node (o67c P) .nil .nil) (.node (sX X 99) .nil .nil)) (.node (o51c P) (.node (X.x 83) .nil .nil) .nil)) (.node (o27e P) (.node (o43c P) (.node (sX X 75) .nil .nil) (.node (X.x 107) .nil .nil)) (.node (o59c P) (.node (X.x 91) .nil .nil) .nil)))) (.node (boot_o_5 P) (.node (boot_o_9 P) (.node (o17e P) (.node (o33c P) (.node (o65c P) .nil .nil) (.node (X.x 97) .nil .nil)) (.node (o49c P) (.node (X.x 81) .nil .nil) .nil)) (.node (o25e P) (.node (o41c P) (.node (X.x 73) .nil .nil) (.node (X.x 105) .nil .nil)) (.node (o57c P) (.node (sX X 89) .nil .nil) .nil))) (.node (o13e P) (.node (o21e P) (.node (o37c P) (.node (X.x 69) .nil .nil) (.node (X.x 101) .nil .nil)) (.node (o53c P) (.node (sX X 85) .nil .nil) .nil)) (.node (o29d3a1 P) (.node (o45c P) (.node (X.x 77) .nil .nil) .nil) (.node (o61c P) (.node (X.x 93) .nil .nil) .nil))))) (.node (o2e P) (.node (boot_o_4 P) (.node (boot_o_8 P) (.node (o16e P) (.node (o32c P) (.node (o64c P) .nil .nil) (.node (X.x 96) .nil .nil)) (.node (o48c P) (.node (sX X 80) .nil .nil) .nil)) (.node (o24e P) (.node (o40c P) (.node (o72d3a1 P) .nil .nil) (.node (sX X 104) .nil .nil)) (.node (o56c P) (.node (X.x 88) .nil .nil) .nil))) (.node (o12e P) (.node (o20e P) (.node (o36c P) (.node (o68d3a1 P) .nil .nil) (.node (X.x 100) .nil .nil)) (.node (o52c P) (.node (sX X 84) .nil .nil) .nil)) (.node (o28b P) (.node (o44c P) (.node (X.x 76) .nil .nil) .nil) (.node (o60c P) (.node (X.x 92) .nil .nil) .nil)))) (.node (boot_o_6 P) (.node (boot_o_10 P) (.node (o18e P) (.node (o34c P) (.node (o66c P) .nil .nil) (.node (X.x 98) .nil .nil)) (.node (o50c P) (.node (X.x 82) .nil .nil) .nil)) (.node (o26e P) (.node (o42c P) (.node (o74d3a1 P) .nil .nil) (.node (X.x 106) .nil .nil)) (.node (o58c P) (.node (sX X 90) .nil .nil) .nil))) (.node (o14e P) (.node (o22e P) (.node (o38c P) (.node (o70d3a1 P) .nil .nil) (.node (X.x 102) .nil .nil)) (.node (o54c P) (.node (X.x 86) .nil .nil) .nil)) (.node (o30b P) (.node (o46c P) (.node (X.x 78) .nil .nil) .nil) (.node (o62c P) (.node (sX X 94) .nil .nil) .nil))))))
noncomputable def s108z (P : Params) (X : XX) (os : OsState) : SharedT := ⟨t108z P X, 108, {}, #[.finished], {}, 547, os⟩
noncomputable def o3z (P : Params) : Obj := ⟨(.type "dict"), none, (.dict #[⟨PyData.keyHash P (.ofString "__name__"), (.str (.ofString "__name__") 165), (.str (.ofString "law_in0277_01") 1000)⟩, ⟨PyData.keyHash P (.ofString "__doc__"), (.str (.ofString "__doc__") 166), .none⟩, ⟨PyData.keyHash P (.ofString "__package__"), (.str (.ofString "__package__") 167), .none⟩, ⟨PyData.keyHash P (.ofString "__loader__"), (.str (.ofString "__loader__") 168), (.builtin "__main__.__loader__#opaque")⟩, ⟨PyData.keyHash P (.ofString "__spec__"), (.str (.ofString "__spec__") 169), .none⟩, ⟨PyData.keyHash P (.ofString "__annotations__"), (.str (.ofString "__annotations__") 170), (.ref 6)⟩, ⟨PyData.keyHash P (.ofString "__builtins__"), (.str (.ofString "__builtins__") 171), (.ref 4)⟩, ⟨PyData.keyHash P (.ofString "__file__"), (.str (.ofString "__file__") 173), (.str (.ofString "/claim/cut.py") 172)⟩, ⟨PyData.keyHash P (.ofString "__cached__"), (.str (.ofString "__cached__") 174), .none⟩, ⟨PyData.keyHash P (.ofString "_sre"), (.str (.ofString "_sre") 275), (.ref 12)⟩, ⟨PyData.keyHash P (.ofString "_wall"), (.str (.ofString "_wall") 288), (.ref 38)⟩, ⟨PyData.keyHash P (.ofString "_WallAttr"), (.str (.ofString "_WallAttr") 328), (.ref 63)⟩, ⟨PyData.keyHash P (.ofString "ASCII_CTRL"), (.str (.ofString "ASCII_CTRL") 474), (.ref 84)⟩, ⟨PyData.keyHash P (.ofString "ILLEGAL_BASIC_STR_CHARS"), (.str (.ofString "ILLEGAL_BASIC_STR_CHARS") 478), (.ref 89)⟩, ⟨PyData.keyHash P (.ofString "ILLEGAL_MULTILINE_BASIC_STR_CHARS"), (.str (.ofString "ILLEGAL_MULTILINE_BASIC_STR_CHARS") 484), (.ref 94)⟩, ⟨PyData.keyHash P (.ofString "TOML_WS"), (.str (.ofString "TOML_WS") 490), (.ref 95)⟩, ⟨PyData.keyHash P (.ofString "TOML_WS_AND_NEWLINE"), (.str (.ofString "TOML_WS_AND_NEWLINE") 494), (.ref 103)⟩, ⟨PyData.keyHash P (.ofString "digits"), (.str (.ofString "digits") 496), (.str (.ofString "0123456789") 495)⟩, ⟨PyData.keyHash P (.ofString "hexdigits"), (.str (.ofString "hexdigits") 501), (.str (.ofString "0123456789abcdefABCDEF") 500)⟩, ⟨PyData.keyHash P (.ofString "HEXDIGIT_CHARS"), (.str (.ofString "HEXDIGIT_CHARS") 546), (.ref 104)⟩, ⟨PyData.keyHash P (.ofString "MappingProxyType"), (.str (.ofString "MappingProxyType") 550), (.type "mappingproxy")⟩, ⟨PyData.keyHash P (.ofString "BASIC_STR_ESCAPE_REPLACEMENTS"), (.str (.ofString "BASIC_STR_ESCAPE_REPLACEMENTS") 574), (.ref 110)⟩, ⟨PyData.keyHash P (.ofString "TOMLDecodeError"), (.str (.ofString "TOMLDecodeError") 592), (.ref 120)⟩, ⟨PyData.keyHash P (.ofString "skip_chars"), (.str (.ofString "skip_chars") 601), (.ref 130)⟩, ⟨PyData.keyHash P (.ofString "parse_one_line_basic_str"), (.str (.ofString "parse_one_line_basic_str") 609), (.ref 137)⟩, ⟨PyData.keyHash P (.ofString "parse_basic_str_escape"), (.str (.ofString "parse_basic_str_escape") 621), (.ref 145)⟩, ⟨PyData.keyHash P (.ofString "parse_basic_str_escape_multiline"), (.str (.ofString "parse_basic_str_escape_multiline") 629), (.ref 152)⟩, ⟨PyData.keyHash P (.ofString "parse_hex_char"), (.str (.ofString "parse_hex_char") 640), (.ref 159)⟩, ⟨PyData.keyHash P (.ofString "parse_basic_str"), (.str (.ofString "parse_basic_str") 655), (.ref 166)⟩, ⟨PyData.keyHash P (.ofString "suffixed_err"), (.str (.ofString "suffixed_err") 665), (.ref 173)⟩, ⟨PyData.keyHash P (.ofString "is_unicode_scalar_value"), (.str (.ofString "is_unicode_scalar_value") 672), (.ref 180)⟩, ⟨PyData.keyHash P (.ofString "bytes_types"), (.str (.ofString "bytes_types") 675), (.ref 181)⟩, ⟨PyData.keyHash P (.ofString "_bytes_from_decode_data"), (.str (.ofString "_bytes_from_decode_data") 682), (.ref 188)⟩, ⟨PyData.keyHash P (.ofString "Error"), (.str (.ofString "Error") 702), (.ref 198)⟩, ⟨PyData.keyHash P (.ofString "_ascii_buffer"), (.str (.ofString "_ascii_buffer") 710), (.ref 208)⟩, ⟨PyData.keyHash P (.ofString "_buffer"), (.str (.ofString "_buffer") 718), (.ref 215)⟩, ⟨PyData.keyHash P (.ofString "_truth"), (.str (.ofString "_truth") 726), (.ref 222)⟩, ⟨PyData.keyHash P (.ofString "_B64"), (.str (.ofString "_B64") 728), (.bytes #[65, 66, 67, 68, 69, 70, 71, 72, 73, 74, 75, 76, 77, 78, 79, 80, 81, 82, 83, 84, 85, 86, 87, 88, 89, 90, 97, 98, 99, 100, 101, 102, 103, 104, 105, 106, 107, 108, 109, 110, 111, 112, 113, 114, 115, 116, 117, 118, 119, 120, 121, 122, 48, 49, 50, 51, 52, 53, 54, 55, 56, 57, 43, 47] 727)⟩, ⟨PyData.keyHash P (.ofString "_b64_value"), (.str (.ofString "_b64_value") 735), (.ref 229)⟩, ⟨PyData.keyHash P (.ofString "a2b_base64"), (.str (.ofString "a2b_base64") 751), (.ref 237)⟩, ⟨PyData.keyHash P (.ofString "b2a_base64"), (.str (.ofString "b2a_base64") 765), (.ref 245)⟩, ⟨PyData.keyHash P (.ofString "b64encode"), (.str (.ofString "b64encode") 776), (.ref 253)⟩, ⟨PyData.keyHash P (.ofString "b64decode"), (.str (.ofString "b64decode") 785), (.ref 261)⟩, ⟨PyData.keyHash P (.ofString "_twin_re_1"), (.str (.ofString "_twin_re_1") 823), (.ref 266)⟩, ⟨PyData.keyHash P (.ofString "_special_chars_map"), (.str (.ofString "_special_chars_map") 971), (.ref 268)⟩, ⟨PyData.keyHash P (.ofString "escape"), (.str (.ofString "escape") 978), (.ref 278)⟩, ⟨PyData.keyHash P (.ofString "_translate"), (.str (.ofString "_translate") 999), (.ref 285)⟩, ⟨PyData.keyHash P (.ofString "_law_octets"), (.str (.ofString "_law_octets") 1012), (.ref 292)⟩, ⟨PyData.keyHash P (.ofString "_law_letter"), (.str (.ofString "_law_letter") 1021), (.ref 299)⟩, ⟨PyData.keyHash P (.ofString "_law_runs"), (.str (.ofString "_law_runs") 1030), (.ref 306)⟩, ⟨PyData.keyHash P (.ofString "_law_twos"), (.str (.ofString "_law_twos") 1038), (.ref 313)⟩, ⟨PyData.keyHash P (.ofString "_law_now"), (.str (.ofString "_law_now") 1049), (.ref 320)⟩, ⟨PyData.keyHash P (.ofString "_law_written"), (.str (.ofString "_law_written") 1055), (.ref 325)⟩, ⟨PyData.keyHash P (.ofString "_law_text"), (.str (.ofString "_law_text") 1061), (.ref 330)⟩, ⟨PyData.keyHash P (.ofString "_law_parts"), (.str (.ofString "_law_parts") 1073), (.ref 337)⟩, ⟨PyData.keyHash P (.ofString "_law_read"), (.str (.ofString "_law_read") 1080), (.ref 344)⟩, ⟨PyData.keyHash P (.ofString "law"), (.str (.ofString "law") 1086), (.ref 349)⟩] 57), #[]⟩
noncomputable def o29z (P : Params) : Obj := ⟨.none, none, (.fields #[(.int 2 0), (.int 0 0), (.ref 37), (.int 5 0), (.int 0 0), (.ref 44), (.int 12 0), (.int 23 0), (.ref 72), (.int 24 0), (.int 0 0), (.ref 116), (.int 26 0), (.int 0 0), (.ref 129), (.int 33 0), (.int 0 0), (.ref 136), (.int 36 0), (.int 0 0), (.ref 144), (.int 59 0), (.int 0 0), (.ref 151), (.int 61 0), (.int 0 0), (.ref 158), (.int 70 0), (.int 0 0), (.ref 165), (.int 100 0), (.int 0 0), (.ref 172), (.int 112 0), (.int 0 0), (.ref 179), (.int 116 0), (.int 0 0), (.ref 187), (.int 129 0), (.int 0 0), (.ref 194), (.int 131 0), (.int 0 0), (.ref 207), (.int 142 0), (.int 0 0), (.ref 214), (.int 149 0), (.int 0 0), (.ref 221), (.int 155 0), (.int 0 0), (.ref 228), (.int 167 0), (.int 0 0), (.ref 236), (.int 221 0), (.int 0 0), (.ref 244), (.int 244 0), (.int 0 0), (.ref 252), (.int 250 0), (.int 0 0), (.ref 260), (.int 260 0), (.int 0 0), (.ref 277), (.int 267 0), (.int 0 0), (.ref 284), (.int 330 0), (.int 0 0), (.ref 291), (.int 338 0), (.int 0 0), (.ref 298), (.int 344 0), (.int 0 0), (.ref 305), (.int 352 0), (.int 0 0), (.ref 312), (.int 358 0), (.int 0 0), (.ref 319), (.int 363 0), (.int 0 0), (.ref 324), (.int 365 0), (.int 0 0), (.ref 329), (.int 367 0), (.int 0 0), (.ref 336), (.int 375 0), (.int 0 0), (.ref 343), (.int 380 0), (.int 0 0), (.ref 348)]), #[]⟩
noncomputable def o108z (P : Params) : Obj := ⟨(.type "mappingproxy"), none, (.fields #[(.ref 62)]), #[]⟩
noncomputable def o109z (P : Params) : Obj := ⟨(.type "dict"), none, (.dict #[⟨PyData.keyHash P (.mk #[92, 98]), (.str (.mk #[92, 98]) 553), (.str (.mk #[8]) 554)⟩, ⟨PyData.keyHash P (.mk #[92, 116]), (.str (.mk #[92, 116]) 555), (.str (.mk #[9]) 556)⟩, ⟨PyData.keyHash P (.mk #[92, 110]), (.str (.mk #[92, 110]) 557), (.str (.mk #[10]) 558)⟩, ⟨PyData.keyHash P (.mk #[92, 102]), (.str (.mk #[92, 102]) 559), (.str (.mk #[12]) 560)⟩, ⟨PyData.keyHash P (.mk #[92, 114]), (.str (.mk #[92, 114]) 561), (.str (.mk #[13]) 562)⟩, ⟨PyData.keyHash P (.mk #[92, 34]), (.str (.mk #[92, 34]) 563), (.str (.mk #[34]) 564)⟩, ⟨PyData.keyHash P (.mk #[92, 92]), (.str (.mk #[92, 92]) 565), (.str (.mk #[92]) 566)⟩] 7), #[]⟩
noncomputable def o110z (P : Params) : Obj := ⟨(.type "mappingproxy"), none, (.fields #[(.ref 109)]), #[]⟩
noncomputable def o111z (P : Params) : Obj := ⟨(.type "tuple"), none, (.seq #[(.type "ValueError")] 0), #[]⟩
noncomputable def o112z (P : Params) : Obj := ⟨(.type "builtin_function_or_method"), none, (.fields #[(.builtin "type.__prepare__"), (.type "type")]), #[]⟩
noncomputable def o113z (P : Params) : Obj := ⟨(.type "dict"), none, (.dict #[⟨PyData.keyHash P (.ofString "__module__"), (.str (.ofString "__module__") 582), (.str (.ofString "cpy313.tomllib._parser") 551)⟩, ⟨PyData.keyHash P (.ofString "__qualname__"), (.str (.ofString "__qualname__") 584), (.str (.ofString "TOMLDecodeError") 583)⟩, ⟨PyData.keyHash P (.ofString "__firstlineno__"), (.str (.ofString "__firstlineno__") 586), (.int 24 585)⟩, ⟨PyData.keyHash P (.ofString "__static_attributes__"), (.str (.ofString "__static_attributes__") 587), (.ref 118)⟩] 4), #[]⟩
noncomputable def o114z (P : Params) : Obj := ⟨(.type "tuple"), none, (.seq #[] 0), #[]⟩
noncomputable def o115z (P : Params) : Obj := ⟨.none, none, (.fields #[]), #[]⟩
noncomputable def o116z (P : Params) : Obj := ⟨(.type "code"), none, (.fields #[(.str (.ofString "TOMLDecodeError") 577), (.str (.ofString "TOMLDecodeError") 578), (.str (.ofString "/claim/cut.py") 579), (.int 24 0), (.int 0 0), (.int 0 0), (.int 0 0), (.int 0 0), (.ref 114), (.bool false), (.int 276 0), (.ref 115), .none, .none, .none, .none, (.int 580 0), (.int 24 0), (.str (.ofString "/claim/cut.py") 581)]), #[]⟩
noncomputable def o117z (P : Params) : Obj := ⟨(.type "frame"), none, .plain, #[(some (.ref 116)), (some (.ref 3)), (some (.ref 113)), none, (some (.str (.ofString "cpy313.tomllib._parser") 551)), none, (some (.ref 0))]⟩
noncomputable def o118z (P : Params) : Obj := ⟨(.type "tuple"), none, (.seq #[] 0), #[]⟩
noncomputable def o119z (P : Params) : Obj := ⟨(.type "dict"), none, (.dict #[⟨PyData.keyHash P (.ofString "__module__"), (.str (.ofString "__module__") 582), (.str (.ofString "cpy313.tomllib._parser") 551)⟩, ⟨PyData.keyHash P (.ofString "__firstlineno__"), (.str (.ofString "__firstlineno__") 586), (.int 24 585)⟩, ⟨PyData.keyHash P (.ofString "__static_attributes__"), (.str (.ofString "__static_attributes__") 587), (.ref 118)⟩, ⟨PyData.keyHash P (.ofString "__weakref__"), (.str (.ofString "__weakref__") 589), (.ref 121)⟩, ⟨PyData.keyHash P (.ofString "__doc__"), (.str (.ofString "__doc__") 590), .none⟩] 3), #[]⟩
noncomputable def o120z (P : Params) : Obj := ⟨(.type "type"), none, (.cls ⟨(.ofString "TOMLDecodeError"), [(.type "ValueError")], [(.ref 120), (.type "ValueError"), (.type "Exception"), (.type "BaseException"), (.type "object")], 119, (.ofString "TOMLDecodeError"), true, [], [], false, none, false⟩), #[(some (.ref 111)), none, (some (.str (.ofString "TOMLDecodeError") 575)), (some (.str (.ofString "TOMLDecodeError") 583)), (some (.builtin "ValueError.__new__")), (some (.bool true))]⟩
noncomputable def o121z (P : Params) : Obj := ⟨(.type "getset_descriptor"), none, (.fields #[(.str (.ofString "__weakref__") 588), (.ref 120), (.builtin "ExceptionGroup.__weakref__"), .none]), #[]⟩
noncomputable def o122z (P : Params) : Obj := ⟨(.type "super"), none, (.fields #[(.ref 120), (.ref 120), (.ref 120)]), #[]⟩
noncomputable def o123z (P : Params) : Obj := ⟨(.type "builtin_function_or_method"), none, (.fields #[(.builtin "object.__init_subclass__"), (.ref 120)]), #[]⟩
noncomputable def o124z (P : Params) : Obj := ⟨(.type "tuple"), none, (.seq #[] 0), #[]⟩
noncomputable def o125z (P : Params) : Obj := ⟨.none, none, (.fields #[]), #[]⟩
noncomputable def o126z (P : Params) : Obj := ⟨(.type "tuple"), none, (.seq #[(.str (.ofString "src") 596), (.str (.ofString "pos") 597), (.str (.ofString "chars") 598)] 0), #[]⟩
noncomputable def o127z (P : Params) : Obj := ⟨(.type "tuple"), none, (.seq #[] 0), #[]⟩
noncomputable def o128z (P : Params) : Obj := ⟨.none, none, (.func ⟨(.ofString "skip_chars"), (.ofString "skip_chars"), fPar (stA 17), .stmts (fBod (stA 17)), fSco (stA 17), 0, [], .none, .none, .none, .none, none, .none, .none, 0⟩), #[]⟩
noncomputable def o129z (P : Params) : Obj := ⟨(.type "code"), none, (.fields #[(.str (.ofString "skip_chars") 593), (.str (.ofString "skip_chars") 594), (.str (.ofString "/claim/cut.py") 595), (.int 26 0), (.int 3 0), (.int 0 0), (.int 0 0), (.int 3 0), (.ref 124), (.bool true), (.int 276 0), (.ref 125), .none, (.ref 126), (.ref 127), (.ref 128), (.int 599 0), (.int 26 0), (.str (.ofString "/claim/cut.py") 600)]), #[]⟩
noncomputable def o130z (P : Params) : Obj := ⟨(.type "function"), none, (.func ⟨(.ofString "skip_chars"), (.ofString "skip_chars"), fPar (stA 17), .stmts (fBod (stA 17)), fSco (stA 17), 3, [], .none, .none, .none, (.str (.ofString "cpy313.tomllib._parser") 551), none, (.ref 129), .none, 0⟩), #[]⟩
noncomputable def o131z (P : Params) : Obj := ⟨(.type "tuple"), none, (.seq #[] 0), #[]⟩
noncomputable def o132z (P : Params) : Obj := ⟨.none, none, (.fields #[]), #[]⟩
noncomputable def o133z (P : Params) : Obj := ⟨(.type "tuple"), none, (.seq #[(.str (.ofString "src") 605), (.str (.ofString "pos") 606)] 0), #[]⟩
noncomputable def o134z (P : Params) : Obj := ⟨(.type "tuple"), none, (.seq #[] 0), #[]⟩
noncomputable def o135z (P : Params) : Obj := ⟨.none, none, (.func ⟨(.ofString "parse_one_line_basic_str"), (.ofString "parse_one_line_basic_str"), fPar (stA 18), .stmts (fBod (stA 18)), fSco (stA 18), 0, [], .none, .none, .none, .none, none, .none, .none, 0⟩), #[]⟩
noncomputable def o136z (P : Params) : Obj := ⟨(.type "code"), none, (.fields #[(.str (.ofString "parse_one_line_basic_str") 602), (.str (.ofString "parse_one_line_basic_str") 603), (.str (.ofString "/claim/cut.py") 604), (.int 33 0), (.int 2 0), (.int 0 0), (.int 0 0), (.int 3 0), (.ref 131), (.bool true), (.int 276 0), (.ref 132), .none, (.ref 133), (.ref 134), (.ref 135), (.int 607 0), (.int 33 0), (.str (.ofString "/claim/cut.py") 608)]), #[]⟩
noncomputable def o137z (P : Params) : Obj := ⟨(.type "function"), none, (.func ⟨(.ofString "parse_one_line_basic_str"), (.ofString "parse_one_line_basic_str"), fPar (stA 18), .stmts (fBod (stA 18)), fSco (stA 18), 3, [], .none, .none, .none, (.str (.ofString "cpy313.tomllib._parser") 551), none, (.ref 136), .none, 0⟩), #[]⟩
noncomputable def o138z (P : Params) : Obj := ⟨(.type "dict"), none, (.dict #[⟨PyData.keyHash P (.ofString "multiline"), (.str (.ofString "multiline") 610), (.bool false)⟩] 1), #[]⟩
noncomputable def o139z (P : Params) : Obj := ⟨(.type "tuple"), none, (.seq #[] 0), #[]⟩
noncomputable def o140z (P : Params) : Obj := ⟨.none, none, (.fields #[]), #[]⟩
noncomputable def o141z (P : Params) : Obj := ⟨(.type "tuple"), none, (.seq #[(.str (.ofString "src") 614), (.str (.ofString "pos") 615), (.str (.ofString "multiline") 616), (.str (.ofString "escape_id") 617), (.str (.ofString "char") 618)] 0), #[]⟩
noncomputable def o142z (P : Params) : Obj := ⟨(.type "tuple"), none, (.seq #[] 0), #[]⟩
noncomputable def o143z (P : Params) : Obj := ⟨.none, none, (.func ⟨(.ofString "parse_basic_str_escape"), (.ofString "parse_basic_str_escape"), fPar (stA 19), .stmts (fBod (stA 19)), fSco (stA 19), 0, [], .none, .none, .none, .none, none, .none, .none, 0⟩), #[]⟩
noncomputable def o144z (P : Params) : Obj := ⟨(.type "code"), none, (.fields #[(.str (.ofString "parse_basic_str_escape") 611), (.str (.ofString "parse_basic_str_escape") 612), (.str (.ofString "/claim/cut.py") 613), (.int 36 0), (.int 2 0), (.int 0 0), (.int 1 0), (.int 3 0), (.ref 139), (.bool true), (.int 276 0), (.ref 140), .none, (.ref 141), (.ref 142), (.ref 143), (.int 619 0), (.int 36 0), (.str (.ofString "/claim/cut.py") 620)]), #[]⟩
noncomputable def o145z (P : Params) : Obj := ⟨(.type "function"), none, (.func ⟨(.ofString "parse_basic_str_escape"), (.ofString "parse_basic_str_escape"), fPar (stA 19), .stmts (fBod (stA 19)), fSco (stA 19), 3, [], .none, (.ref 138), .none, (.str (.ofString "cpy313.tomllib._parser") 551), none, (.ref 144), .none, 0⟩), #[]⟩
noncomputable def o146z (P : Params) : Obj := ⟨(.type "tuple"), none, (.seq #[] 0), #[]⟩
noncomputable def o147z (P : Params) : Obj := ⟨.none, none, (.fields #[]), #[]⟩
noncomputable def o148z (P : Params) : Obj := ⟨(.type "tuple"), none, (.seq #[(.str (.ofString "src") 625), (.str (.ofString "pos") 626)] 0), #[]⟩
noncomputable def o149z (P : Params) : Obj := ⟨(.type "tuple"), none, (.seq #[] 0), #[]⟩
noncomputable def o150z (P : Params) : Obj := ⟨.none, none, (.func ⟨(.ofString "parse_basic_str_escape_multiline"), (.ofString "parse_basic_str_escape_multiline"), fPar (stA 20), .stmts (fBod (stA 20)), fSco (stA 20), 0, [], .none, .none, .none, .none, none, .none, .none, 0⟩), #[]⟩
noncomputable def o151z (P : Params) : Obj := ⟨(.type "code"), none, (.fields #[(.str (.ofString "parse_basic_str_escape_multiline") 622), (.str (.ofString "parse_basic_str_escape_multiline") 623), (.str (.ofString "/claim/cut.py") 624), (.int 59 0), (.int 2 0), (.int 0 0), (.int 0 0), (.int 3 0), (.ref 146), (.bool true), (.int 276 0), (.ref 147), .none, (.ref 148), (.ref 149), (.ref 150), (.int 627 0), (.int 59 0), (.str (.ofString "/claim/cut.py") 628)]), #[]⟩
noncomputable def o152z (P : Params) : Obj := ⟨(.type "function"), none, (.func ⟨(.ofString "parse_basic_str_escape_multiline"), (.ofString "parse_basic_str_escape_multiline"), fPar (stA 20), .stmts (fBod (stA 20)), fSco (stA 20), 3, [], .none, .none, .none, (.str (.ofString "cpy313.tomllib._parser") 551), none, (.ref 151), .none, 0⟩), #[]⟩
noncomputable def o153z (P : Params) : Obj := ⟨(.type "tuple"), none, (.seq #[] 0), #[]⟩
noncomputable def o154z (P : Params) : Obj := ⟨.none, none, (.fields #[]), #[]⟩
noncomputable def o155z (P : Params) : Obj := ⟨(.type "tuple"), none, (.seq #[(.str (.ofString "src") 633), (.str (.ofString "pos") 634), (.str (.ofString "hex_len") 635), (.str (.ofString "hex_str") 636), (.str (.ofString "hex_int") 637)] 0), #[]⟩
noncomputable def o156z (P : Params) : Obj := ⟨(.type "tuple"), none, (.seq #[] 0), #[]⟩
noncomputable def o157z (P : Params) : Obj := ⟨.none, none, (.func ⟨(.ofString "parse_hex_char"), (.ofString "parse_hex_char"), fPar (stA 21), .stmts (fBod (stA 21)), fSco (stA 21), 0, [], .none, .none, .none, .none, none, .none, .none, 0⟩), #[]⟩
noncomputable def o158z (P : Params) : Obj := ⟨(.type "code"), none, (.fields #[(.str (.ofString "parse_hex_char") 630), (.str (.ofString "parse_hex_char") 631), (.str (.ofString "/claim/cut.py") 632), (.int 61 0), (.int 3 0), (.int 0 0), (.int 0 0), (.int 3 0), (.ref 153), (.bool true), (.int 276 0), (.ref 154), .none, (.ref 155), (.ref 156), (.ref 157), (.int 638 0), (.int 61 0), (.str (.ofString "/claim/cut.py") 639)]), #[]⟩
noncomputable def o159z (P : Params) : Obj := ⟨(.type "function"), none, (.func ⟨(.ofString "parse_hex_char"), (.ofString "parse_hex_char"), fPar (stA 21), .stmts (fBod (stA 21)), fSco (stA 21), 3, [], .none, .none, .none, (.str (.ofString "cpy313.tomllib._parser") 551), none, (.ref 158), .none, 0⟩), #[]⟩
noncomputable def o160z (P : Params) : Obj := ⟨(.type "tuple"), none, (.seq #[] 0), #[]⟩
noncomputable def o161z (P : Params) : Obj := ⟨.none, none, (.fields #[]), #[]⟩
noncomputable def o162z (P : Params) : Obj := ⟨(.type "tuple"), none, (.seq #[(.str (.ofString "src") 644), (.str (.ofString "pos") 645), (.str (.ofString "multiline") 646), (.str (.ofString "error_on") 647), (.str (.ofString "parse_escapes") 648), (.str (.ofString "result") 649), (.str (.ofString "start_pos") 650), (.str (.ofString "char") 651), (.str (.ofString "parsed_escape") 652)] 0), #[]⟩
noncomputable def o163z (P : Params) : Obj := ⟨(.type "tuple"), none, (.seq #[] 0), #[]⟩
noncomputable def o164z (P : Params) : Obj := ⟨.none, none, (.func ⟨(.ofString "parse_basic_str"), (.ofString "parse_basic_str"), fPar (stA 22), .stmts (fBod (stA 22)), fSco (stA 22), 0, [], .none, .none, .none, .none, none, .none, .none, 0⟩), #[]⟩
noncomputable def o165z (P : Params) : Obj := ⟨(.type "code"), none, (.fields #[(.str (.ofString "parse_basic_str") 641), (.str (.ofString "parse_basic_str") 642), (.str (.ofString "/claim/cut.py") 643), (.int 70 0), (.int 2 0), (.int 0 0), (.int 1 0), (.int 3 0), (.ref 160), (.bool true), (.int 276 0), (.ref 161), .none, (.ref 162), (.ref 163), (.ref 164), (.int 653 0), (.int 70 0), (.str (.ofString "/claim/cut.py") 654)]), #[]⟩
noncomputable def o166z (P : Params) : Obj := ⟨(.type "function"), none, (.func ⟨(.ofString "parse_basic_str"), (.ofString "parse_basic_str"), fPar (stA 22), .stmts (fBod (stA 22)), fSco (stA 22), 3, [], .none, .none, .none, (.str (.ofString "cpy313.tomllib._parser") 551), none, (.ref 165), .none, 0⟩), #[]⟩
noncomputable def o167z (P : Params) : Obj := ⟨(.type "tuple"), none, (.seq #[] 0), #[]⟩
noncomputable def o168z (P : Params) : Obj := ⟨.none, none, (.fields #[]), #[]⟩
noncomputable def o169z (P : Params) : Obj := ⟨(.type "tuple"), none, (.seq #[(.str (.ofString "src") 659), (.str (.ofString "pos") 660), (.str (.ofString "msg") 661), (.str (.ofString "coord_repr") 662)] 0), #[]⟩
noncomputable def o170z (P : Params) : Obj := ⟨(.type "tuple"), none, (.seq #[] 0), #[]⟩
noncomputable def o171z (P : Params) : Obj := ⟨.none, none, (.func ⟨(.ofString "suffixed_err"), (.ofString "suffixed_err"), fPar (stA 23), .stmts (fBod (stA 23)), fSco (stA 23), 0, [], .none, .none, .none, .none, none, .none, .none, 0⟩), #[]⟩
noncomputable def o172z (P : Params) : Obj := ⟨(.type "code"), none, (.fields #[(.str (.ofString "suffixed_err") 656), (.str (.ofString "suffixed_err") 657), (.str (.ofString "/claim/cut.py") 658), (.int 100 0), (.int 3 0), (.int 0 0), (.int 0 0), (.int 3 0), (.ref 167), (.bool true), (.int 276 0), (.ref 168), .none, (.ref 169), (.ref 170), (.ref 171), (.int 663 0), (.int 100 0), (.str (.ofString "/claim/cut.py") 664)]), #[]⟩
noncomputable def o173z (P : Params) : Obj := ⟨(.type "function"), none, (.func ⟨(.ofString "suffixed_err"), (.ofString "suffixed_err"), fPar (stA 23), .stmts (fBod (stA 23)), fSco (stA 23), 3, [], .none, .none, .none, (.str (.ofString "cpy313.tomllib._parser") 551), none, (.ref 172), .none, 0⟩), #[]⟩
noncomputable def o174z (P : Params) : Obj := ⟨(.type "tuple"), none, (.seq #[] 0), #[]⟩
noncomputable def o175z (P : Params) : Obj := ⟨.none, none, (.fields #[]), #[]⟩
noncomputable def o176z (P : Params) : Obj := ⟨(.type "tuple"), none, (.seq #[(.str (.ofString "codepoint") 669)] 0), #[]⟩
noncomputable def o177z (P : Params) : Obj := ⟨(.type "tuple"), none, (.seq #[] 0), #[]⟩
noncomputable def o178z (P : Params) : Obj := ⟨.none, none, (.func ⟨(.ofString "is_unicode_scalar_value"), (.ofString "is_unicode_scalar_value"), fPar (stA 24), .stmts (fBod (stA 24)), fSco (stA 24), 0, [], .none, .none, .none, .none, none, .none, .none, 0⟩), #[]⟩
noncomputable def o179z (P : Params) : Obj := ⟨(.type "code"), none, (.fields #[(.str (.ofString "is_unicode_scalar_value") 666), (.str (.ofString "is_unicode_scalar_value") 667), (.str (.ofString "/claim/cut.py") 668), (.int 112 0), (.int 1 0), (.int 0 0), (.int 0 0), (.int 3 0), (.ref 174), (.bool true), (.int 276 0), (.ref 175), .none, (.ref 176), (.ref 177), (.ref 178), (.int 670 0), (.int 112 0), (.str (.ofString "/claim/cut.py") 671)]), #[]⟩
noncomputable def o180z (P : Params) : Obj := ⟨(.type "function"), none, (.func ⟨(.ofString "is_unicode_scalar_value"), (.ofString "is_unicode_scalar_value"), fPar (stA 24), .stmts (fBod (stA 24)), fSco (stA 24), 3, [], .none, .none, .none, (.str (.ofString "cpy313.tomllib._parser") 551), none, (.ref 179), .none, 0⟩), #[]⟩
noncomputable def o181z (P : Params) : Obj := ⟨(.type "tuple"), none, (.seq #[(.type "bytes"), (.type "bytearray")] 0), #[]⟩
noncomputable def o182z (P : Params) : Obj := ⟨(.type "tuple"), none, (.seq #[] 0), #[]⟩
noncomputable def o183z (P : Params) : Obj := ⟨.none, none, (.fields #[]), #[]⟩
noncomputable def o184z (P : Params) : Obj := ⟨(.type "tuple"), none, (.seq #[(.str (.ofString "s") 679)] 0), #[]⟩
noncomputable def o185z (P : Params) : Obj := ⟨(.type "tuple"), none, (.seq #[] 0), #[]⟩
noncomputable def o186z (P : Params) : Obj := ⟨.none, none, (.func ⟨(.ofString "_bytes_from_decode_data"), (.ofString "_bytes_from_decode_data"), fPar (stA 27), .stmts (fBod (stA 27)), fSco (stA 27), 0, [], .none, .none, .none, .none, none, .none, .none, 0⟩), #[]⟩
noncomputable def o187z (P : Params) : Obj := ⟨(.type "code"), none, (.fields #[(.str (.ofString "_bytes_from_decode_data") 676), (.str (.ofString "_bytes_from_decode_data") 677), (.str (.ofString "/claim/cut.py") 678), (.int 116 0), (.int 1 0), (.int 0 0), (.int 0 0), (.int 3 0), (.ref 182), (.bool true), (.int 276 0), (.ref 183), .none, (.ref 184), (.ref 185), (.ref 186), (.int 680 0), (.int 116 0), (.str (.ofString "/claim/cut.py") 681)]), #[]⟩
noncomputable def o188z (P : Params) : Obj := ⟨(.type "function"), none, (.func ⟨(.ofString "_bytes_from_decode_data"), (.ofString "_bytes_from_decode_data"), fPar (stA 27), .stmts (fBod (stA 27)), fSco (stA 27), 3, [], .none, .none, .none, (.str (.ofString "cpy313.base64") 673), none, (.ref 187), .none, 0⟩), #[]⟩
noncomputable def o189z (P : Params) : Obj := ⟨(.type "tuple"), none, (.seq #[(.type "ValueError")] 0), #[]⟩
noncomputable def o190z (P : Params) : Obj := ⟨(.type "builtin_function_or_method"), none, (.fields #[(.builtin "type.__prepare__"), (.type "type")]), #[]⟩
noncomputable def o191z (P : Params) : Obj := ⟨(.type "dict"), none, (.dict #[⟨PyData.keyHash P (.ofString "__module__"), (.str (.ofString "__module__") 692), (.str (.ofString "binascii") 683)⟩, ⟨PyData.keyHash P (.ofString "__qualname__"), (.str (.ofString "__qualname__") 694), (.str (.ofString "Error") 693)⟩, ⟨PyData.keyHash P (.ofString "__firstlineno__"), (.str (.ofString "__firstlineno__") 696), (.int 129 695)⟩, ⟨PyData.keyHash P (.ofString "__static_attributes__"), (.str (.ofString "__static_attributes__") 697), (.ref 196)⟩] 4), #[]⟩
noncomputable def o192z (P : Params) : Obj := ⟨(.type "tuple"), none, (.seq #[] 0), #[]⟩
noncomputable def o193z (P : Params) : Obj := ⟨.none, none, (.fields #[]), #[]⟩
noncomputable def o194z (P : Params) : Obj := ⟨(.type "code"), none, (.fields #[(.str (.ofString "Error") 687), (.str (.ofString "Error") 688), (.str (.ofString "/claim/cut.py") 689), (.int 129 0), (.int 0 0), (.int 0 0), (.int 0 0), (.int 0 0), (.ref 192), (.bool false), (.int 276 0), (.ref 193), .none, .none, .none, .none, (.int 690 0), (.int 129 0), (.str (.ofString "/claim/cut.py") 691)]), #[]⟩
noncomputable def o195z (P : Params) : Obj := ⟨(.type "frame"), none, .plain, #[(some (.ref 194)), (some (.ref 3)), (some (.ref 191)), none, (some (.str (.ofString "binascii") 683)), none, (some (.ref 0))]⟩
noncomputable def o196z (P : Params) : Obj := ⟨(.type "tuple"), none, (.seq #[] 0), #[]⟩
noncomputable def o197z (P : Params) : Obj := ⟨(.type "dict"), none, (.dict #[⟨PyData.keyHash P (.ofString "__module__"), (.str (.ofString "__module__") 692), (.str (.ofString "binascii") 683)⟩, ⟨PyData.keyHash P (.ofString "__firstlineno__"), (.str (.ofString "__firstlineno__") 696), (.int 129 695)⟩, ⟨PyData.keyHash P (.ofString "__static_attributes__"), (.str (.ofString "__static_attributes__") 697), (.ref 196)⟩, ⟨PyData.keyHash P (.ofString "__weakref__"), (.str (.ofString "__weakref__") 699), (.ref 199)⟩, ⟨PyData.keyHash P (.ofString "__doc__"), (.str (.ofString "__doc__") 700), .none⟩] 3), #[]⟩
noncomputable def o198z (P : Params) : Obj := ⟨(.type "type"), none, (.cls ⟨(.ofString "Error"), [(.type "ValueError")], [(.ref 198), (.type "ValueError"), (.type "Exception"), (.type "BaseException"), (.type "object")], 197, (.ofString "Error"), true, [], [], false, none, false⟩), #[(some (.ref 189)), none, (some (.str (.ofString "Error") 685)), (some (.str (.ofString "Error") 693)), (some (.builtin "ValueError.__new__")), (some (.bool true))]⟩
noncomputable def o199z (P : Params) : Obj := ⟨(.type "getset_descriptor"), none, (.fields #[(.str (.ofString "__weakref__") 698), (.ref 198), (.builtin "ExceptionGroup.__weakref__"), .none]), #[]⟩
noncomputable def o200z (P : Params) : Obj := ⟨(.type "super"), none, (.fields #[(.ref 198), (.ref 198), (.ref 198)]), #[]⟩
noncomputable def o201z (P : Params) : Obj := ⟨(.type "builtin_function_or_method"), none, (.fields #[(.builtin "object.__init_subclass__"), (.ref 198)]), #[]⟩
noncomputable def o202z (P : Params) : Obj := ⟨(.type "tuple"), none, (.seq #[] 0), #[]⟩
noncomputable def o203z (P : Params) : Obj := ⟨.none, none, (.fields #[]), #[]⟩
noncomputable def o204z (P : Params) : Obj := ⟨(.type "tuple"), none, (.seq #[(.str (.ofString "data") 706), (.str (.ofString "t") 707)] 0), #[]⟩
noncomputable def o205z (P : Params) : Obj := ⟨(.type "tuple"), none, (.seq #[] 0), #[]⟩
noncomputable def o206z (P : Params) : Obj := ⟨.none, none, (.func ⟨(.ofString "_ascii_buffer"), (.ofString "_ascii_buffer"), fPar (stA 30), .stmts (fBod (stA 30)), fSco (stA 30), 0, [], .none, .none, .none, .none, none, .none, .none, 0⟩), #[]⟩
noncomputable def o207z (P : Params) : Obj := ⟨(.type "code"), none, (.fields #[(.str (.ofString "_ascii_buffer") 703), (.str (.ofString "_ascii_buffer") 704), (.str (.ofString "/claim/cut.py") 705), (.int 131 0), (.int 1 0), (.int 0 0), (.int 0 0), (.int 3 0), (.ref 202), (.bool true), (.int 276 0), (.ref 203), .none, (.ref 204), (.ref 205), (.ref 206), (.int 708 0), (.int 131 0), (.str (.ofString "/claim/cut.py") 709)]), #[]⟩
noncomputable def o208z (P : Params) : Obj := ⟨(.type "function"), none, (.func ⟨(.ofString "_ascii_buffer"), (.ofString "_ascii_buffer"), fPar (stA 30), .stmts (fBod (stA 30)), fSco (stA 30), 3, [], .none, .none, .none, (.str (.ofString "binascii") 683), none, (.ref 207), .none, 0⟩), #[]⟩
noncomputable def o209z (P : Params) : Obj := ⟨(.type "tuple"), none, (.seq #[] 0), #[]⟩
noncomputable def o210z (P : Params) : Obj := ⟨.none, none, (.fields #[]), #[]⟩
noncomputable def o211z (P : Params) : Obj := ⟨(.type "tuple"), none, (.seq #[(.str (.ofString "data") 714), (.str (.ofString "t") 715)] 0), #[]⟩
noncomputable def o212z (P : Params) : Obj := ⟨(.type "tuple"), none, (.seq #[] 0), #[]⟩
noncomputable def o213z (P : Params) : Obj := ⟨.none, none, (.func ⟨(.ofString "_buffer"), (.ofString "_buffer"), fPar (stA 31), .stmts (fBod (stA 31)), fSco (stA 31), 0, [], .none, .none, .none, .none, none, .none, .none, 0⟩), #[]⟩
noncomputable def o214z (P : Params) : Obj := ⟨(.type "code"), none, (.fields #[(.str (.ofString "_buffer") 711), (.str (.ofString "_buffer") 712), (.str (.ofString "/claim/cut.py") 713), (.int 142 0), (.int 1 0), (.int 0 0), (.int 0 0), (.int 3 0), (.ref 209), (.bool true), (.int 276 0), (.ref 210), .none, (.ref 211), (.ref 212), (.ref 213), (.int 716 0), (.int 142 0), (.str (.ofString "/claim/cut.py") 717)]), #[]⟩
noncomputable def o215z (P : Params) : Obj := ⟨(.type "function"), none, (.func ⟨(.ofString "_buffer"), (.ofString "_buffer"), fPar (stA 31), .stmts (fBod (stA 31)), fSco (stA 31), 3, [], .none, .none, .none, (.str (.ofString "binascii") 683), none, (.ref 214), .none, 0⟩), #[]⟩
noncomputable def o216z (P : Params) : Obj := ⟨(.type "tuple"), none, (.seq #[] 0), #[]⟩
noncomputable def o217z (P : Params) : Obj := ⟨.none, none, (.fields #[]), #[]⟩
noncomputable def o218z (P : Params) : Obj := ⟨(.type "tuple"), none, (.seq #[(.str (.ofString "x") 722), (.str (.ofString "t") 723)] 0), #[]⟩
noncomputable def o219z (P : Params) : Obj := ⟨(.type "tuple"), none, (.seq #[] 0), #[]⟩
noncomputable def o220z (P : Params) : Obj := ⟨.none, none, (.func ⟨(.ofString "_truth"), (.ofString "_truth"), fPar (stA 32), .stmts (fBod (stA 32)), fSco (stA 32), 0, [], .none, .none, .none, .none, none, .none, .none, 0⟩), #[]⟩
noncomputable def o221z (P : Params) : Obj := ⟨(.type "code"), none, (.fields #[(.str (.ofString "_truth") 719), (.str (.ofString "_truth") 720), (.str (.ofString "/claim/cut.py") 721), (.int 149 0), (.int 1 0), (.int 0 0), (.int 0 0), (.int 3 0), (.ref 216), (.bool true), (.int 276 0), (.ref 217), .none, (.ref 218), (.ref 219), (.ref 220), (.int 724 0), (.int 149 0), (.str (.ofString "/claim/cut.py") 725)]), #[]⟩
noncomputable def o222z (P : Params) : Obj := ⟨(.type "function"), none, (.func ⟨(.ofString "_truth"), (.ofString "_truth"), fPar (stA 32), .stmts (fBod (stA 32)), fSco (stA 32), 3, [], .none, .none, .none, (.str (.ofString "binascii") 683), none, (.ref 221), .none, 0⟩), #[]⟩
noncomputable def o223z (P : Params) : Obj := ⟨(.type "tuple"), none, (.seq #[] 0), #[]⟩
noncomputable def o224z (P : Params) : Obj := ⟨.none, none, (.fields #[]), #[]⟩
noncomputable def o225z (P : Params) : Obj := ⟨(.type "tuple"), none, (.seq #[(.str (.ofString "c") 732)] 0), #[]⟩
noncomputable def o226z (P : Params) : Obj := ⟨(.type "tuple"), none, (.seq #[] 0), #[]⟩
noncomputable def o227z (P : Params) : Obj := ⟨.none, none, (.func ⟨(.ofString "_b64_value"), (.ofString "_b64_value"), fPar (stA 34), .stmts (fBod (stA 34)), fSco (stA 34), 0, [], .none, .none, .none, .none, none, .none, .none, 0⟩), #[]⟩
noncomputable def o228z (P : Params) : Obj := ⟨(.type "code"), none, (.fields #[(.str (.ofString "_b64_value") 729), (.str (.ofString "_b64_value") 730), (.str (.ofString "/claim/cut.py") 731), (.int 155 0), (.int 1 0), (.int 0 0), (.int 0 0), (.int 3 0), (.ref 223), (.bool true), (.int 276 0), (.ref 224), .none, (.ref 225), (.ref 226), (.ref 227), (.int 733 0), (.int 155 0), (.str (.ofString "/claim/cut.py") 734)]), #[]⟩
noncomputable def o229z (P : Params) : Obj := ⟨(.type "function"), none, (.func ⟨(.ofString "_b64_value"), (.ofString "_b64_value"), fPar (stA 34), .stmts (fBod (stA 34)), fSco (stA 34), 3, [], .none, .none, .none, (.str (.ofString "binascii") 683), none, (.ref 228), .none, 0⟩), #[]⟩
noncomputable def o230z (P : Params) : Obj := ⟨(.type "dict"), none, (.dict #[⟨PyData.keyHash P (.ofString "strict_mode"), (.str (.ofString "strict_mode") 736), (.bool false)⟩] 1), #[]⟩
noncomputable def o231z (P : Params) : Obj := ⟨(.type "tuple"), none, (.seq #[] 0), #[]⟩
noncomputable def o232z (P : Params) : Obj := ⟨.none, none, (.fields #[]), #[]⟩
noncomputable def o233z (P : Params) : Obj := ⟨(.type "tuple"), none, (.seq #[(.str (.ofString "data") 740), (.str (.ofString "strict_mode") 741), (.str (.ofString "ascii_data") 742), (.str (.ofString "out") 743), (.str (.ofString "quad_pos") 744), (.str (.ofString "leftchar") 745), (.str (.ofString "pads") 746), (.str (.ofString "i") 747), (.str (.ofString "this_ch") 748)] 0), #[]⟩
noncomputable def o234z (P : Params) : Obj := ⟨(.type "tuple"), none, (.seq #[] 0), #[]⟩
noncomputable def o235z (P : Params) : Obj := ⟨.none, none, (.func ⟨(.ofString "a2b_base64"), (.ofString "a2b_base64"), fPar (stA 35), .stmts (fBod (stA 35)), fSco (stA 35), 0, [], .none, .none, .none, .none, none, .none, .none, 0⟩), #[]⟩
noncomputable def o236z (P : Params) : Obj := ⟨(.type "code"), none, (.fields #[(.str (.ofString "a2b_base64") 737), (.str (.ofString "a2b_base64") 738), (.str (.ofString "/claim/cut.py") 739), (.int 167 0), (.int 1 0), (.int 1 0), (.int 1 0), (.int 3 0), (.ref 231), (.bool true), (.int 276 0), (.ref 232), .none, (.ref 233), (.ref 234), (.ref 235), (.int 749 0), (.int 167 0), (.str (.ofString "/claim/cut.py") 750)]), #[]⟩
noncomputable def o237z (P : Params) : Obj := ⟨(.type "function"), none, (.func ⟨(.ofString "a2b_base64"), (.ofString "a2b_base64"), fPar (stA 35), .stmts (fBod (stA 35)), fSco (stA 35), 3, [], .none, (.ref 230), .none, (.str (.ofString "binascii") 683), none, (.ref 236), .none, 0⟩), #[]⟩
noncomputable def o238z (P : Params) : Obj := ⟨(.type "dict"), none, (.dict #[⟨PyData.keyHash P (.ofString "newline"), (.str (.ofString "newline") 752), (.bool true)⟩] 1), #[]⟩
noncomputable def o239z (P : Params) : Obj := ⟨(.type "tuple"), none, (.seq #[] 0), #[]⟩
noncomputable def o240z (P : Params) : Obj := ⟨.none, none, (.fields #[]), #[]⟩
noncomputable def o241z (P : Params) : Obj := ⟨(.type "tuple"), none, (.seq #[(.str (.ofString "data") 756), (.str (.ofString "newline") 757), (.str (.ofString "bin_data") 758), (.str (.ofString "out") 759), (.str (.ofString "leftbits") 760), (.str (.ofString "leftchar") 761), (.str (.ofString "b") 762)] 0), #[]⟩
noncomputable def o242z (P : Params) : Obj := ⟨(.type "tuple"), none, (.seq #[] 0), #[]⟩
noncomputable def o243z (P : Params) : Obj := ⟨.none, none, (.func ⟨(.ofString "b2a_base64"), (.ofString "b2a_base64"), fPar (stA 36), .stmts (fBod (stA 36)), fSco (stA 36), 0, [], .none, .none, .none, .none, none, .none, .none, 0⟩), #[]⟩
noncomputable def o244z (P : Params) : Obj := ⟨(.type "code"), none, (.fields #[(.str (.ofString "b2a_base64") 753), (.str (.ofString "b2a_base64") 754), (.str (.ofString "/claim/cut.py") 755), (.int 221 0), (.int 1 0), (.int 1 0), (.int 1 0), (.int 3 0), (.ref 239), (.bool true), (.int 276 0), (.ref 240), .none, (.ref 241), (.ref 242), (.ref 243), (.int 763 0), (.int 221 0), (.str (.ofString "/claim/cut.py") 764)]), #[]⟩
noncomputable def o245z (P : Params) : Obj := ⟨(.type "function"), none, (.func ⟨(.ofString "b2a_base64"), (.ofString "b2a_base64"), fPar (stA 36), .stmts (fBod (stA 36)), fSco (stA 36), 3, [], .none, (.ref 238), .none, (.str (.ofString "binascii") 683), none, (.ref 244), .none, 0⟩), #[]⟩
noncomputable def o246z (P : Params) : Obj := ⟨(.type "tuple"), none, (.seq #[.none] 0), #[]⟩
noncomputable def o247z (P : Params) : Obj := ⟨(.type "tuple"), none, (.seq #[] 0), #[]⟩
noncomputable def o248z (P : Params) : Obj := ⟨.none, none, (.fields #[]), #[]⟩
noncomputable def o249z (P : Params) : Obj := ⟨(.type "tuple"), none, (.seq #[(.str (.ofString "s") 771), (.str (.ofString "altchars") 772), (.str (.ofString "encoded") 773)] 0), #[]⟩
noncomputable def o250z (P : Params) : Obj := ⟨(.type "tuple"), none, (.seq #[] 0), #[]⟩
noncomputable def o251z (P : Params) : Obj := ⟨.none, none, (.func ⟨(.ofString "b64encode"), (.ofString "b64encode"), fPar (stA 38), .stmts (fBod (stA 38)), fSco (stA 38), 0, [], .none, .none, .none, .none, none, .none, .none, 0⟩), #[]⟩
noncomputable def o252z (P : Params) : Obj := ⟨(.type "code"), none, (.fields #[(.str (.ofString "b64encode") 768), (.str (.ofString "b64encode") 769), (.str (.ofString "/claim/cut.py") 770), (.int 244 0), (.int 2 0), (.int 0 0), (.int 0 0), (.int 3 0), (.ref 247), (.bool true), (.int 276 0), (.ref 248), .none, (.ref 249), (.ref 250), (.ref 251), (.int 774 0), (.int 244 0), (.str (.ofString "/claim/cut.py") 775)]), #[]⟩
noncomputable def o253z (P : Params) : Obj := ⟨(.type "function"), none, (.func ⟨(.ofString "b64encode"), (.ofString "b64encode"), fPar (stA 38), .stmts (fBod (stA 38)), fSco (stA 38), 3, [], (.ref 246), .none, .none, (.str (.ofString "cpy313.base64") 766), none, (.ref 252), .none, 0⟩), #[]⟩
noncomputable def o254z (P : Params) : Obj := ⟨(.type "tuple"), none, (.seq #[.none, (.bool false)] 0), #[]⟩
noncomputable def o255z (P : Params) : Obj := ⟨(.type "tuple"), none, (.seq #[] 0), #[]⟩
noncomputable def o256z (P : Params) : Obj := ⟨.none, none, (.fields #[]), #[]⟩
noncomputable def o257z (P : Params) : Obj := ⟨(.type "tuple"), none, (.seq #[(.str (.ofString "s") 780), (.str (.ofString "altchars") 781), (.str (.ofString "validate") 782)] 0), #[]⟩
noncomputable def o258z (P : Params) : Obj := ⟨(.type "tuple"), none, (.seq #[] 0), #[]⟩
noncomputable def o259z (P : Params) : Obj := ⟨.none, none, (.func ⟨(.ofString "b64decode"), (.ofString "b64decode"), fPar (stA 39), .stmts (fBod (stA 39)), fSco (stA 39), 0, [], .none, .none, .none, .none, none, .none, .none, 0⟩), #[]⟩
noncomputable def o260z (P : Params) : Obj := ⟨(.type "code"), none, (.fields #[(.str (.ofString "b64decode") 777), (.str (.ofString "b64decode") 778), (.str (.ofString "/claim/cut.py") 779), (.int 250 0), (.int 3 0), (.int 0 0), (.int 0 0), (.int 3 0), (.ref 255), (.bool true), (.int 276 0), (.ref 256), .none, (.ref 257), (.ref 258), (.ref 259), (.int 783 0), (.int 250 0), (.str (.ofString "/claim/cut.py") 784)]), #[]⟩
noncomputable def o261z (P : Params) : Obj := ⟨(.type "function"), none, (.func ⟨(.ofString "b64decode"), (.ofString "b64decode"), fPar (stA 39), .stmts (fBod (stA 39)), fSco (stA 39), 3, [], (.ref 254), .none, .none, (.str (.ofString "cpy313.base64") 766), none, (.ref 260), .none, 0⟩), #[]⟩
noncomputable def o262z (P : Params) : Obj := ⟨(.type "list"), none, (.seq #[(.int 14 789), (.int 14 790), (.int 4 791), (.int 1 792), (.int 1 793), (.int 9 794), (.int 0 795), (.int 64 796), (.int 0 797), (.int 1342177280 798), (.int 0 799), (.int 0 800), (.int 0 801), (.int 0 802), (.int 0 803), (.int 17 804), (.int 0 805), (.int 13 806), (.int 11 807), (.int 9 808), (.int 0 809), (.int 64 810), (.int 0 811), (.int 1342177280 812), (.int 0 813), (.int 0 814), (.int 0 815), (.int 0 816), (.int 0 817), (.int 17 818), (.int 1 819), (.int 1 820)] 0), #[]⟩
noncomputable def o263z (P : Params) : Obj := ⟨(.type "dict"), none, (.dict #[] 0), #[]⟩
noncomputable def o264z (P : Params) : Obj := ⟨(.type "tuple"), none, (.seq #[.none, .none] 0), #[]⟩
noncomputable def o265z (P : Params) : Obj := ⟨(.type "tuple"), none, (.seq #[(.int 14 0), (.int 14 0), (.int 4 0), (.int 1 0), (.int 1 0), (.int 9 0), (.int 0 0), (.int 64 0), (.int 0 0), (.int 1342177280 0), (.int 0 0), (.int 0 0), (.int 0 0), (.int 0 0), (.int 0 0), (.int 17 0), (.int 0 0), (.int 13 0), (.int 11 0), (.int 9 0), (.int 0 0), (.int 64 0), (.int 0 0), (.int 1342177280 0), (.int 0 0), (.int 0 0), (.int 0 0), (.int 0 0), (.int 0 0), (.int 17 0), (.int 1 0), (.int 1 0)] 0), #[]⟩
noncomputable def o266z (P : Params) : Obj := ⟨(.type "re.Pattern"), none, (.fields #[(.str (.ofString "([&~|])") 787), (.int 32 822), (.int 1 0), .none, .none, (.ref 265), (.int 0 0)]), #[]⟩
noncomputable def o267z (P : Params) : Obj := ⟨(.type "bytes_iterator"), none, (.fields #[.none, (.int 24 0)]), #[]⟩
noncomputable def o268z (P : Params) : Obj := ⟨(.type "dict"), none, (.dict #[⟨40, (.int 40 827), (.str (.mk #[92, 40]) 831)⟩, ⟨41, (.int 41 833), (.str (.mk #[92, 41]) 837)⟩, ⟨91, (.int 91 839), (.str (.mk #[92, 91]) 843)⟩, ⟨93, (.int 93 845), (.str (.mk #[92, 93]) 849)⟩, ⟨123, (.int 123 851), (.str (.mk #[92, 123]) 855)⟩, ⟨125, (.int 125 857), (.str (.mk #[92, 125]) 861)⟩, ⟨63, (.int 63 863), (.str (.mk #[92, 63]) 867)⟩, ⟨42, (.int 42 869), (.str (.mk #[92, 42]) 873)⟩, ⟨43, (.int 43 875), (.str (.mk #[92, 43]) 879)⟩, ⟨45, (.int 45 881), (.str (.mk #[92, 45]) 885)⟩, ⟨124, (.int 124 887), (.str (.mk #[92, 124]) 891)⟩, ⟨94, (.int 94 893), (.str (.mk #[92, 94]) 897)⟩, ⟨36, (.int 36 899), (.str (.mk #[92, 36]) 903)⟩, ⟨92, (.int 92 905), (.str (.mk #[92, 92]) 909)⟩, ⟨46, (.int 46 911), (.str (.mk #[92, 46]) 915)⟩, ⟨38, (.int 38 917), (.str (.mk #[92, 38]) 921)⟩, ⟨126, (.int 126 923), (.str (.mk #[92, 126]) 927)⟩, ⟨35, (.int 35 929), (.str (.mk #[92, 35]) 933)⟩, ⟨32, (.int 32 935), (.str (.mk #[92, 32]) 939)⟩, ⟨9, (.int 9 941), (.str (.mk #[92, 9]) 945)⟩, ⟨10, (.int 10 947), (.str (.mk #[92, 10]) 951)⟩, ⟨13, (.int 13 953), (.str (.mk #[92, 13]) 957)⟩, ⟨11, (.int 11 959), (.str (.mk #[92, 11]) 963)⟩, ⟨12, (.int 12 965), (.str (.mk #[92, 12]) 969)⟩] 24), #[]⟩
noncomputable def o269z (P : Params) : Obj := ⟨(.type "dict"), none, (.dict #[] 2), #[]⟩
noncomputable def o270z (P : Params) : Obj := ⟨(.type "tuple"), none, (.seq #[] 0), #[]⟩
noncomputable def o271z (P : Params) : Obj := ⟨(.type "StopIteration"), none, (.fields #[(.ref 270), .none, .none, .none, (.bool false), .none]), #[]⟩
noncomputable def o272z (P : Params) : Obj := ⟨(.type "tuple"), none, (.seq #[] 0), #[]⟩
noncomputable def o273z (P : Params) : Obj := ⟨.none, none, (.fields #[]), #[]⟩
noncomputable def o274z (P : Params) : Obj := ⟨(.type "tuple"), none, (.seq #[(.str (.ofString "pattern") 975)] 0), #[]⟩
noncomputable def o275z (P : Params) : Obj := ⟨(.type "tuple"), none, (.seq #[] 0), #[]⟩
noncomputable def o276z (P : Params) : Obj := ⟨.none, none, (.func ⟨(.ofString "escape"), (.ofString "escape"), fPar (stA 43), .stmts (fBod (stA 43)), fSco (stA 43), 0, [], .none, .none, .none, .none, none, .none, .none, 0⟩), #[]⟩
noncomputable def o277z (P : Params) : Obj := ⟨(.type "code"), none, (.fields #[(.str (.ofString "escape") 972), (.str (.ofString "escape") 973), (.str (.ofString "/claim/cut.py") 974), (.int 260 0), (.int 1 0), (.int 0 0), (.int 0 0), (.int 3 0), (.ref 272), (.bool true), (.int 276 0), (.ref 273), .none, (.ref 274), (.ref 275), (.ref 276), (.int 976 0), (.int 260 0), (.str (.ofString "/claim/cut.py") 977)]), #[]⟩
noncomputable def o278z (P : Params) : Obj := ⟨(.type "function"), none, (.func ⟨(.ofString "escape"), (.ofString "escape"), fPar (stA 43), .stmts (fBod (stA 43)), fSco (stA 43), 3, [], .none, .none, .none, (.str (.ofString "re") 824), none, (.ref 277), .none, 0⟩), #[]⟩
noncomputable def o279z (P : Params) : Obj := ⟨(.type "tuple"), none, (.seq #[] 0), #[]⟩
noncomputable def o280z (P : Params) : Obj := ⟨.none, none, (.fields #[]), #[]⟩
noncomputable def o281z (P : Params) : Obj := ⟨(.type "tuple"), none, (.seq #[(.str (.ofString "pat") 984), (.str (.ofString "STAR") 985), (.str (.ofString "QUESTION_MARK") 986), (.str (.ofString "res") 987), (.str (.ofString "add") 988), (.str (.ofString "i") 989), (.str (.ofString "n") 990), (.str (.ofString "c") 991), (.str (.ofString "j") 992), (.str (.ofString "stuff") 993), (.str (.ofString "chunks") 994), (.str (.ofString "k") 995), (.str (.ofString "chunk") 996)] 0), #[]⟩
noncomputable def o282z (P : Params) : Obj := ⟨(.type "tuple"), none, (.seq #[] 0), #[]⟩
noncomputable def o283z (P : Params) : Obj := ⟨.none, none, (.func ⟨(.ofString "_translate"), (.ofString "_translate"), fPar (stA 45), .stmts (fBod (stA 45)), fSco (stA 45), 0, [], .none, .none, .none, .none, none, .none, .none, 0⟩), #[]⟩
noncomputable def o284z (P : Params) : Obj := ⟨(.type "code"), none, (.fields #[(.str (.ofString "_translate") 981), (.str (.ofString "_translate") 982), (.str (.ofString "/claim/cut.py") 983), (.int 267 0), (.int 3 0), (.int 0 0), (.int 0 0), (.int 3 0), (.ref 279), (.bool true), (.int 276 0), (.ref 280), .none, (.ref 281), (.ref 282), (.ref 283), (.int 997 0), (.int 267 0), (.str (.ofString "/claim/cut.py") 998)]), #[]⟩
noncomputable def o285z (P : Params) : Obj := ⟨(.type "function"), none, (.func ⟨(.ofString "_translate"), (.ofString "_translate"), fPar (stA 45), .stmts (fBod (stA 45)), fSco (stA 45), 3, [], .none, .none, .none, (.str (.ofString "cpy313.fnmatch") 979), none, (.ref 284), .none, 0⟩), #[]⟩
noncomputable def o286z (P : Params) : Obj := ⟨(.type "tuple"), none, (.seq #[] 0), #[]⟩
noncomputable def o287z (P : Params) : Obj := ⟨.none, none, (.fields #[]), #[]⟩
noncomputable def o288z (P : Params) : Obj := ⟨(.type "tuple"), none, (.seq #[(.str (.ofString "values") 1005), (.str (.ofString "row") 1006), (.str (.ofString "k") 1007), (.str (.ofString "number") 1008), (.str (.ofString "v") 1009)] 0), #[]⟩
noncomputable def o289z (P : Params) : Obj := ⟨(.type "tuple"), none, (.seq #[] 0), #[]⟩
noncomputable def o290z (P : Params) : Obj := ⟨.none, none, (.func ⟨(.ofString "_law_octets"), (.ofString "_law_octets"), fPar (stA 47), .stmts (fBod (stA 47)), fSco (stA 47), 0, [], .none, .none, .none, .none, none, .none, .none, 0⟩), #[]⟩
noncomputable def o291z (P : Params) : Obj := ⟨(.type "code"), none, (.fields #[(.str (.ofString "_law_octets") 1002), (.str (.ofString "_law_octets") 1003), (.str (.ofString "/claim/cut.py") 1004), (.int 330 0), (.int 1 0), (.int 0 0), (.int 0 0), (.int 3 0), (.ref 286), (.bool true), (.int 276 0), (.ref 287), .none, (.ref 288), (.ref 289), (.ref 290), (.int 1010 0), (.int 330 0), (.str (.ofString "/claim/cut.py") 1011)]), #[]⟩
noncomputable def o292z (P : Params) : Obj := ⟨(.type "function"), none, (.func ⟨(.ofString "_law_octets"), (.ofString "_law_octets"), fPar (stA 47), .stmts (fBod (stA 47)), fSco (stA 47), 3, [], .none, .none, .none, (.str (.ofString "law_in0277_01") 1000), none, (.ref 291), .none, 0⟩), #[]⟩
noncomputable def o293z (P : Params) : Obj := ⟨(.type "tuple"), none, (.seq #[] 0), #[]⟩
noncomputable def o294z (P : Params) : Obj := ⟨.none, none, (.fields #[]), #[]⟩
noncomputable def o295z (P : Params) : Obj := ⟨(.type "tuple"), none, (.seq #[(.str (.ofString "script") 1016), (.str (.ofString "values") 1017), (.str (.ofString "x") 1018)] 0), #[]⟩
noncomputable def o296z (P : Params) : Obj := ⟨(.type "tuple"), none, (.seq #[] 0), #[]⟩
noncomputable def o297z (P : Params) : Obj := ⟨.none, none, (.func ⟨(.ofString "_law_letter"), (.ofString "_law_letter"), fPar (stA 48), .stmts (fBod (stA 48)), fSco (stA 48), 0, [], .none, .none, .none, .none, none, .none, .none, 0⟩), #[]⟩
noncomputable def o298z (P : Params) : Obj := ⟨(.type "code"), none, (.fields #[(.str (.ofString "_law_letter") 1013), (.str (.ofString "_law_letter") 1014), (.str (.ofString "/claim/cut.py") 1015), (.int 338 0), (.int 1 0), (.int 0 0), (.int 0 0), (.int 3 0), (.ref 293), (.bool true), (.int 276 0), (.ref 294), .none, (.ref 295), (.ref 296), (.ref 297), (.int 1019 0), (.int 338 0), (.str (.ofString "/claim/cut.py") 1020)]), #[]⟩
noncomputable def o299z (P : Params) : Obj := ⟨(.type "function"), none, (.func ⟨(.ofString "_law_letter"), (.ofString "_law_letter"), fPar (stA 48), .stmts (fBod (stA 48)), fSco (stA 48), 3, [], .none, .none, .none, (.str (.ofString "law_in0277_01") 1000), none, (.ref 298), .none, 0⟩), #[]⟩
noncomputable def o300z (P : Params) : Obj := ⟨(.type "tuple"), none, (.seq #[] 0), #[]⟩
noncomputable def o301z (P : Params) : Obj := ⟨.none, none, (.fields #[]), #[]⟩
noncomputable def o302z (P : Params) : Obj := ⟨(.type "tuple"), none, (.seq #[(.str (.ofString "values") 1025), (.str (.ofString "runs") 1026), (.str (.ofString "v") 1027)] 0), #[]⟩
noncomputable def o303z (P : Params) : Obj := ⟨(.type "tuple"), none, (.seq #[] 0), #[]⟩
noncomputable def o304z (P : Params) : Obj := ⟨.none, none, (.func ⟨(.ofString "_law_runs"), (.ofString "_law_runs"), fPar (stA 49), .stmts (fBod (stA 49)), fSco (stA 49), 0, [], .none, .none, .none, .none, none, .none, .none, 0⟩), #[]⟩
noncomputable def o305z (P : Params) : Obj := ⟨(.type "code"), none, (.fields #[(.str (.ofString "_law_runs") 1022), (.str (.ofString "_law_runs") 1023), (.str (.ofString "/claim/cut.py") 1024), (.int 344 0), (.int 1 0), (.int 0 0), (.int 0 0), (.int 3 0), (.ref 300), (.bool true), (.int 276 0), (.ref 301), .none, (.ref 302), (.ref 303), (.ref 304), (.int 1028 0), (.int 344 0), (.str (.ofString "/claim/cut.py") 1029)]), #[]⟩
noncomputable def o306z (P : Params) : Obj := ⟨(.type "function"), none, (.func ⟨(.ofString "_law_runs"), (.ofString "_law_runs"), fPar (stA 49), .stmts (fBod (stA 49)), fSco (stA 49), 3, [], .none, .none, .none, (.str (.ofString "law_in0277_01") 1000), none, (.ref 305), .none, 0⟩), #[]⟩
noncomputable def o307z (P : Params) : Obj := ⟨(.type "tuple"), none, (.seq #[] 0), #[]⟩
noncomputable def o308z (P : Params) : Obj := ⟨.none, none, (.fields #[]), #[]⟩
noncomputable def o309z (P : Params) : Obj := ⟨(.type "tuple"), none, (.seq #[(.str (.ofString "n") 1034), (.str (.ofString "count") 1035)] 0), #[]⟩
noncomputable def o310z (P : Params) : Obj := ⟨(.type "tuple"), none, (.seq #[] 0), #[]⟩
noncomputable def o311z (P : Params) : Obj := ⟨.none, none, (.func ⟨(.ofString "_law_twos"), (.ofString "_law_twos"), fPar (stA 50), .stmts (fBod (stA 50)), fSco (stA 50), 0, [], .none, .none, .none, .none, none, .none, .none, 0⟩), #[]⟩
noncomputable def o312z (P : Params) : Obj := ⟨(.type "code"), none, (.fields #[(.str (.ofString "_law_twos") 1031), (.str (.ofString "_law_twos") 1032), (.str (.ofString "/claim/cut.py") 1033), (.int 352 0), (.int 1 0), (.int 0 0), (.int 0 0), (.int 3 0), (.ref 307), (.bool true), (.int 276 0), (.ref 308), .none, (.ref 309), (.ref 310), (.ref 311), (.int 1036 0), (.int 352 0), (.str (.ofString "/claim/cut.py") 1037)]), #[]⟩
noncomputable def o313z (P : Params) : Obj := ⟨(.type "function"), none, (.func ⟨(.ofString "_law_twos"), (.ofString "_law_twos"), fPar (stA 50), .stmts (fBod (stA 50)), fSco (stA 50), 3, [], .none, .none, .none, (.str (.ofString "law_in0277_01") 1000), none, (.ref 312), .none, 0⟩), #[]⟩
noncomputable def o314z (P : Params) : Obj := ⟨(.type "tuple"), none, (.seq #[] 0), #[]⟩
noncomputable def o315z (P : Params) : Obj := ⟨.none, none, (.fields #[]), #[]⟩
noncomputable def o316z (P : Params) : Obj := ⟨(.type "tuple"), none, (.seq #[(.str (.ofString "runs") 1042), (.str (.ofString "halved") 1043), (.str (.ofString "values") 1044), (.str (.ofString "v") 1045), (.str (.ofString "n") 1046)] 0), #[]⟩
noncomputable def o317z (P : Params) : Obj := ⟨(.type "tuple"), none, (.seq #[] 0), #[]⟩
noncomputable def o318z (P : Params) : Obj := ⟨.none, none, (.func ⟨(.ofString "_law_now"), (.ofString "_law_now"), fPar (stA 51), .stmts (fBod (stA 51)), fSco (stA 51), 0, [], .none, .none, .none, .none, none, .none, .none, 0⟩), #[]⟩
noncomputable def o319z (P : Params) : Obj := ⟨(.type "code"), none, (.fields #[(.str (.ofString "_law_now") 1039), (.str (.ofString "_law_now") 1040), (.str (.ofString "/claim/cut.py") 1041), (.int 358 0), (.int 2 0), (.int 0 0), (.int 0 0), (.int 3 0), (.ref 314), (.bool true), (.int 276 0), (.ref 315), .none, (.ref 316), (.ref 317), (.ref 318), (.int 1047 0), (.int 358 0), (.str (.ofString "/claim/cut.py") 1048)]), #[]⟩
noncomputable def o320z (P : Params) : Obj := ⟨(.type "function"), none, (.func ⟨(.ofString "_law_now"), (.ofString "_law_now"), fPar (stA 51), .stmts (fBod (stA 51)), fSco (stA 51), 3, [], .none, .none, .none, (.str (.ofString "law_in0277_01") 1000), none, (.ref 319), .none, 0⟩), #[]⟩
noncomputable def o321z (P : Params) : Obj := ⟨(.type "tuple"), none, (.seq #[] 0), #[]⟩
noncomputable def o322z (P : Params) : Obj := ⟨.none, none, (.fields #[]), #[]⟩
noncomputable def o323z (P : Params) : Obj := ⟨.none, none, (.func ⟨(.ofString "_law_written"), (.ofString "_law_written"), fPar (stA 52), .stmts (fBod (stA 52)), fSco (stA 52), 0, [], .none, .none, .none, .none, none, .none, .none, 0⟩), #[]⟩
noncomputable def o324z (P : Params) : Obj := ⟨(.type "code"), none, (.fields #[(.str (.ofString "_law_written") 1050), (.str (.ofString "_law_written") 1051), (.str (.ofString "/claim/cut.py") 1052), (.int 363 0), (.int 3 0), (.int 0 0), (.int 0 0), (.int 3 0), (.ref 321), (.bool true), (.int 276 0), (.ref 322), .none, .none, .none, (.ref 323), (.int 1053 0), (.int 363 0), (.str (.ofString "/claim/cut.py") 1054)]), #[]⟩
noncomputable def o325z (P : Params) : Obj := ⟨(.type "function"), none, (.func ⟨(.ofString "_law_written"), (.ofString "_law_written"), fPar (stA 52), .stmts (fBod (stA 52)), fSco (stA 52), 3, [], .none, .none, .none, (.str (.ofString "law_in0277_01") 1000), none, (.ref 324), .none, 0⟩), #[]⟩
noncomputable def o326z (P : Params) : Obj := ⟨(.type "tuple"), none, (.seq #[] 0), #[]⟩
noncomputable def o327z (P : Params) : Obj := ⟨.none, none, (.fields #[]), #[]⟩
noncomputable def o328z (P : Params) : Obj := ⟨.none, none, (.func ⟨(.ofString "_law_text"), (.ofString "_law_text"), fPar (stA 53), .stmts (fBod (stA 53)), fSco (stA 53), 0, [], .none, .none, .none, .none, none, .none, .none, 0⟩), #[]⟩
noncomputable def o329z (P : Params) : Obj := ⟨(.type "code"), none, (.fields #[(.str (.ofString "_law_text") 1056), (.str (.ofString "_law_text") 1057), (.str (.ofString "/claim/cut.py") 1058), (.int 365 0), (.int 1 0), (.int 0 0), (.int 0 0), (.int 3 0), (.ref 326), (.bool true), (.int 276 0), (.ref 327), .none, .none, .none, (.ref 328), (.int 1059 0), (.int 365 0), (.str (.ofString "/claim/cut.py") 1060)]), #[]⟩
noncomputable def o330z (P : Params) : Obj := ⟨(.type "function"), none, (.func ⟨(.ofString "_law_text"), (.ofString "_law_text"), fPar (stA 53), .stmts (fBod (stA 53)), fSco (stA 53), 3, [], .none, .none, .none, (.str (.ofString "law_in0277_01") 1000), none, (.ref 329), .none, 0⟩), #[]⟩
noncomputable def o331z (P : Params) : Obj := ⟨(.type "tuple"), none, (.seq #[] 0), #[]⟩
noncomputable def o332z (P : Params) : Obj := ⟨.none, none, (.fields #[]), #[]⟩
noncomputable def o333z (P : Params) : Obj := ⟨(.type "tuple"), none, (.seq #[(.str (.ofString "runs") 1065), (.str (.ofString "halved") 1066), (.str (.ofString "fill") 1067), (.str (.ofString "parts") 1068), (.str (.ofString "v") 1069), (.str (.ofString "n") 1070)] 0), #[]⟩
noncomputable def o334z (P : Params) : Obj := ⟨(.type "tuple"), none, (.seq #[] 0), #[]⟩
noncomputable def o335z (P : Params) : Obj := ⟨.none, none, (.func ⟨(.ofString "_law_parts"), (.ofString "_law_parts"), fPar (stA 54), .stmts (fBod (stA 54)), fSco (stA 54), 0, [], .none, .none, .none, .none, none, .none, .none, 0⟩), #[]⟩
noncomputable def o336z (P : Params) : Obj := ⟨(.type "code"), none, (.fields #[(.str (.ofString "_law_parts") 1062), (.str (.ofString "_law_parts") 1063), (.str (.ofString "/claim/cut.py") 1064), (.int 367 0), (.int 3 0), (.int 0 0), (.int 0 0), (.int 3 0), (.ref 331), (.bool true), (.int 276 0), (.ref 332), .none, (.ref 333), (.ref 334), (.ref 335), (.int 1071 0), (.int 367 0), (.str (.ofString "/claim/cut.py") 1072)]), #[]⟩
noncomputable def o337z (P : Params) : Obj := ⟨(.type "function"), none, (.func ⟨(.ofString "_law_parts"), (.ofString "_law_parts"), fPar (stA 54), .stmts (fBod (stA 54)), fSco (stA 54), 3, [], .none, .none, .none, (.str (.ofString "law_in0277_01") 1000), none, (.ref 336), .none, 0⟩), #[]⟩
noncomputable def o338z (P : Params) : Obj := ⟨(.type "tuple"), none, (.seq #[] 0), #[]⟩
noncomputable def o339z (P : Params) : Obj := ⟨.none, none, (.fields #[]), #[]⟩
noncomputable def o340z (P : Params) : Obj := ⟨(.type "tuple"), none, (.seq #[(.str (.ofString "text") 1077)] 0), #[]⟩
noncomputable def o341z (P : Params) : Obj := ⟨(.type "tuple"), none, (.seq #[] 0), #[]⟩
noncomputable def o342z (P : Params) : Obj := ⟨.none, none, (.func ⟨(.ofString "_law_read"), (.ofString "_law_read"), fPar (stA 55), .stmts (fBod (stA 55)), fSco (stA 55), 0, [], .none, .none, .none, .none, none, .none, .none, 0⟩), #[]⟩
noncomputable def o343z (P : Params) : Obj := ⟨(.type "code"), none, (.fields #[(.str (.ofString "_law_read") 1074), (.str (.ofString "_law_read") 1075), (.str (.ofString "/claim/cut.py") 1076), (.int 375 0), (.int 1 0), (.int 0 0), (.int 0 0), (.int 3 0), (.ref 338), (.bool true), (.int 276 0), (.ref 339), .none, (.ref 340), (.ref 341), (.ref 342), (.int 1078 0), (.int 375 0), (.str (.ofString "/claim/cut.py") 1079)]), #[]⟩
noncomputable def o344z (P : Params) : Obj := ⟨(.type "function"), none, (.func ⟨(.ofString "_law_read"), (.ofString "_law_read"), fPar (stA 55), .stmts (fBod (stA 55)), fSco (stA 55), 3, [], .none, .none, .none, (.str (.ofString "law_in0277_01") 1000), none, (.ref 343), .none, 0⟩), #[]⟩
noncomputable def o345z (P : Params) : Obj := ⟨(.type "tuple"), none, (.seq #[] 0), #[]⟩
noncomputable def o346z (P : Params) : Obj := ⟨.none, none, (.fields #[]), #[]⟩
noncomputable def o347z (P : Params) : Obj := ⟨.none, none, (.func ⟨(.ofString "law"), (.ofString "law"), fPar (stA 56), .stmts (fBod (stA 56)), fSco (stA 56), 0, [], .none, .none, .none, .none, none, .none, .none, 0⟩), #[]⟩
noncomputable def o348z (P : Params) : Obj := ⟨(.type "code"), none, (.fields #[(.str (.ofString "law") 1081), (.str (.ofString "law") 1082), (.str (.ofString "/claim/cut.py") 1083), (.int 380 0), (.int 1 0), (.int 0 0), (.int 0 0), (.int 3 0), (.ref 345), (.bool true), (.int 276 0), (.ref 346), .none, .none, .none, (.ref 347), (.int 1084 0), (.int 380 0), (.str (.ofString "/claim/cut.py") 1085)]), #[]⟩
noncomputable def o349z (P : Params) : Obj := ⟨(.type "function"), none, (.func ⟨(.ofString "law"), (.ofString "law"), fPar (stA 56), .stmts (fBod (stA 56)), fSco (stA 56), 3, [], .none, .none, .none, (.str (.ofString "law_in0277_01") 1000), none, (.ref 348), .none, 0⟩), #[]⟩
noncomputable def t350 (P : Params) (X : XX) : BT := (.node (boot_o_0 P) (.node (o1e P) (.node (o3z P) (.node (boot_o_7 P) (.node (o15e P) (.node (o31b P) (.node (o63c P) (.node (o127z P) (.node (o255z P) .nil .nil) .nil) (.node (o191z P) (.node (o319z P) .nil .nil) .nil)) (.node (sX X 95) (.node (o159z P) (.node (o287z P) .nil .nil) .nil) (.node (o223z P) .nil .nil))) (.node (o47c P) (.node (X.x 79) (.node (o143z P) (.node (o271z P) .nil .nil) .nil) (.node (o207z P) (.node (o335z P) .nil .nil) .nil)) (.node (o111z P) (.node (o175z P) (.node (o303z P) .nil .nil) .nil) (.node (o239z P) .nil .nil)))) (.node (o23e P) (.node (o39c P) (.node (o71d3a1 P) (.node (o135z P) (.node (o263z P) .nil .nil) .nil) (.node (o199z P) (.node (o327z P) .nil .nil) .nil)) (.node (sX X 103) (.node (o167z P) (.node (o295z P) .nil .nil) .nil) (.node (o231z P) .nil .nil))) (.node (o55c P) (.node (X.x 87) (.node (o151z P) (.node (o279z P) .nil .nil) .nil) (.node (o215z P) (.node (o343z P) .nil .nil) .nil)) (.node (o119z P) (.node (o183z P) (.node (o311z P) .nil .nil) .nil) (.node (o247z P) .nil .nil))))) (.node (o11f P) (.node (o19e P) (.node (o35c P) (.node (o67c P) (.node (o131z P) (.node (o259z P) .nil .nil) .nil) (.node (o195z P) (.node (o323z P) .nil .nil) .nil)) (.node (sX X 99) (.node (o163z P) (.node (o291z P) .nil .nil) .nil) (.node (o227z P) .nil .nil))) (.node (o51c P) (.node (X.x 83) (.node (o147z P) (.node (o275z P) .nil .nil) .nil) (.node (o211z P) (.node (o339z P) .nil .nil) .nil)) (.node (o115z P) (.node (o179z P) (.node (o307z P) .nil .nil) .nil) (.node (o243z P) .nil .nil)))) (.node (o27e P) (.node (o43c P) (.node (sX X 75) (.node (o139z P) (.node (o267z P) .nil .nil) .nil) (.node (o203z P) (.node (o331z P) .nil .nil) .nil)) (.node (X.x 107) (.node (o171z P) (.node (o299z P) .nil .nil) .nil) (.node (o235z P) .nil .nil))) (.node (o59c P) (.node (X.x 91) (.node (o155z P) (.node (o283z P) .nil .nil) .nil) (.node (o219z P) (.node (o347z P) .nil .nil) .nil)) (.node (o123z P) (.node (o187z P) (.node (o315z P) .nil .nil) .nil) (.node (o251z P) .nil .nil)))))) (.node (boot_o_5 P) (.node (boot_o_9 P) (.node (o17e P) (.node (o33c P) (.node (o65c P) (.node (o129z P) (.node (o257z P) .nil .nil) .nil) (.node (o193z P) (.node (o321z P) .nil .nil) .nil)) (.node (X.x 97) (.node (o161z P) (.node (o289z P) .nil .nil) .nil) (.node (o225z P) .nil .nil))) (.node (o49c P) (.node (X.x 81) (.node (o145z P) (.node (o273z P) .nil .nil) .nil) (.node (o209z P) (.node (o337z P) .nil .nil) .nil)) (.node (o113z P) (.node (o177z P) (.node (o305z P) .nil .nil) .nil) (.node (o241z P) .nil .nil)))) (.node (o25e P) (.node (o41c P) (.node (X.x 73) (.node (o137z P) (.node (o265z P) .nil .nil) .nil) (.node (o201z P) (.node (o329z P) .nil .nil) .nil)) (.node (X.x 105) (.node (o169z P) (.node (o297z P) .nil .nil) .nil) (.node (o233z P) .nil .nil))) (.node (o57c P) (.node (sX X 89) (.node (o153z P) (.node (o281z P) .nil .nil) .nil) (.node (o217z P) (.node (o345z P) .nil .nil) .nil)) (.node (o121z P) (.node (o185z P) (.node (o313z P) .nil .nil) .nil) (.node (o249z P) .nil .nil))))) (.node (o13e P) (.node (o21e P) (.node (o37c P) (.node (X.x 69) (.node (o133z P) (.node (o261z P) .nil .nil) .nil) (.node (o197z P) (.node (o325z P) .nil .nil) .nil)) (.node (X.x 101) (.node (o165z P) (.node (o293z P) .nil .nil) .nil) (.node (o229z P) .nil .nil))) (.node (o53c P) (.node (sX X 85) (.node (o149z P) (.node (o277z P) .nil .nil) .nil) (.node (o213z P) (.node (o341z P) .nil .nil) .nil)) (.node (o117z P) (.node (o181z P) (.node (o309z P) .nil .nil) .nil) (.node (o245z P) .nil .nil)))) (.node (o29z P) (.node (o45c P) (.node (X.x 77) (.node (o141z P) (.node (o269z P) .nil .nil) .nil) (.node (o205z P) (.node (o333z P) .nil .nil) .nil)) (.node (o109z P) (.node (o173z P) (.node (o301z P) .nil .nil) .nil) (.node (o237z P) .nil .nil))) (.node (o61c P) (.node (X.x 93) (.node (o157z P) (.node (o285z P) .nil .nil) .nil) (.node (o221z P) (.node (o349z P) .nil .nil) .nil)) (.node (o125z P) (.node (o189z P) (.node (o317z P) .nil .nil) .nil) (.node (o253z P) .nil .nil))))))) (.node (o2e P) (.node (boot_o_4 P) (.node (boot_o_8 P) (.node (o16e P) (.node (o32c P) (.node (o64c P) (.node (o128z P) (.node (o256z P) .nil .nil) .nil) (.node (o192z P) (.node (o320z P) .nil .nil) .nil)) (.node (X.x 96) (.node (o160z P) (.node (o288z P) .nil .nil) .nil) (.node (o224z P) .nil .nil))) (.node (o48c P) (.node (sX X 80) (.node (o144z P) (.node (o272z P) .nil .nil) .nil) (.node (o208z P) (.node (o336z P) .nil .nil) .nil)) (.node (o112z P) (.node (o176z P) (.node (o304z P) .nil .nil) .nil) (.node (o240z P) .nil .nil)))) (.node (o24e P) (.node (o40c P) (.node (o72d3a1 P) (.node (o136z P) (.node (o264z P) .nil .nil) .nil) (.node (o200z P) (.node (o328z P) .nil .nil) .nil)) (.node (sX X 104) (.node (o168z P) (.node (o296z P) .nil .nil) .nil) (.node (o232z P) .nil .nil))) (.node (o56c P) (.node (X.x 88) (.node (o152z P) (.node (o280z P) .nil .nil) .nil) (.node (o216z P) (.node (o344z P) .nil .nil) .nil)) (.node (o120z P) (.node (o184z P) (.node (o312z P) .nil .nil) .nil) (.node (o248z P) .nil .nil))))) (.node (o12e P) (.node (o20e P) (.node (o36c P) (.node (o68d3a1 P) (.node (o132z P) (.node (o260z P) .nil .nil) .nil) (.node (o196z P) (.node (o324z P) .nil .nil) .nil)) (.node (X.x 100) (.node (o164z P) (.node (o292z P) .nil .nil) .nil) (.node (o228z P) .nil .nil))) (.node (o52c P) (.node (sX X 84) (.node (o148z P) (.node (o276z P) .nil .nil) .nil) (.node (o212z P) (.node (o340z P) .nil .nil) .nil)) (.node (o116z P) (.node (o180z P) (.node (o308z P) .nil .nil) .nil) (.node (o244z P) .nil .nil)))) (.node (o28b P) (.node (o44c P) (.node (X.x 76) (.node (o140z P) (.node (o268z P) .nil .nil) .nil) (.node (o204z P) (.node (o332z P) .nil .nil) .nil)) (.node (o108z P) (.node (o172z P) (.node (o300z P) .nil .nil) .nil) (.node (o236z P) .nil .nil))) (.node (o60c P) (.node (X.x 92) (.node (o156z P) (.node (o284z P) .nil .nil) .nil) (.node (o220z P) (.node (o348z P) .nil .nil) .nil)) (.node (o124z P) (.node (o188z P) (.node (o316z P) .nil .nil) .nil) (.node (o252z P) .nil .nil)))))) (.node (boot_o_6 P) (.node (boot_o_10 P) (.node (o18e P) (.node (o34c P) (.node (o66c P) (.node (o130z P) (.node (o258z P) .nil .nil) .nil) (.node (o194z P) (.node (o322z P) .nil .nil) .nil)) (.node (X.x 98) (.node (o162z P) (.node (o290z P) .nil .nil) .nil) (.node (o226z P) .nil .nil))) (.node (o50c P) (.node (X.x 82) (.node (o146z P) (.node (o274z P) .nil .nil) .nil) (.node (o210z P) (.node (o338z P) .nil .nil) .nil)) (.node (o114z P) (.node (o178z P) (.node (o306z P) .nil .nil) .nil) (.node (o242z P) .nil .nil)))) (.node (o26e P) (.node (o42c P) (.node (o74d3a1 P) (.node (o138z P) (.node (o266z P) .nil .nil) .nil) (.node (o202z P) (.node (o330z P) .nil .nil) .nil)) (.node (X.x 106) (.node (o170z P) (.node (o298z P) .nil .nil) .nil) (.node (o234z P) .nil .nil))) (.node (o58c P) (.node (sX X 90) (.node (o154z P) (.node (o282z P) .nil .nil) .nil) (.node (o218z P) (.node (o346z P) .nil .nil) .nil)) (.node (o122z P) (.node (o186z P) (.node (o314z P) .nil .nil) .nil) (.node (o250z P) .nil .nil))))) (.node (o14e P) (.node (o22e P) (.node (o38c P) (.node (o70d3a1 P) (.node (o134z P) (.node (o262z P) .nil .nil) .nil) (.node (o198z P) (.node (o326z P) .nil .nil) .nil)) (.node (X.x 102) (.node (o166z P) (.node (o294z P) .nil .nil) .nil) (.node (o230z P) .nil .nil))) (.node (o54c P) (.node (X.x 86) (.node (o150z P) (.node (o278z P) .nil .nil) .nil) (.node (o214z P) (.node (o342z P) .nil .nil) .nil)) (.node (o118z P) (.node (o182z P) (.node (o310z P) .nil .nil) .nil) (.node (o246z P) .nil .nil)))) (.node (o30b P) (.node (o46c P) (.node (X.x 78) (.node (o142z P) (.node (o270z P) .nil .nil) .nil) (.node (o206z P) (.node (o334z P) .nil .nil) .nil)) (.node (o110z P) (.node (o174z P) (.node (o302z P) .nil .nil) .nil) (.node (o238z P) .nil .nil))) (.node (o62c P) (.node (sX X 94) (.node (o158z P) (.node (o286z P) .nil .nil) .nil) (.node (o222z P) .nil .nil)) (.node (o126z P) (.node (o190z P) (.node (o318z P) .nil .nil) .nil) (.node (o254z P) .nil .nil))))))))
noncomputable def s350 (P : Params) (X : XX) (os : OsState) : SharedT := ⟨t350 P X, 350, {}, #[.finished], {}, 1087, os⟩
noncomputable def h350 (P : Params) (X : XX) : Heap := ⟨#[boot_o_0 P, o1e P, o2e P, o3z P, boot_o_4 P, boot_o_5 P, boot_o_6 P, boot_o_7 P, boot_o_8 P, boot_o_9 P, boot_o_10 P, o11f P, o12e P, o13e P, o14e P, o15e P, o16e P, o17e P, o18e P, o19e P, o20e P, o21e P, o22e P, o23e P, o24e P, o25e P, o26e P, o27e P, o28b P, o29z P, o30b P, o31b P, o32c P, o33c P, o34c P, o35c P, o36c P, o37c P, o38c P, o39c P, o40c P, o41c P, o42c P, o43c P, o44c P, o45c P, o46c P, o47c P, o48c P, o49c P, o50c P, o51c P, o52c P, o53c P, o54c P, o55c P, o56c P, o57c P, o58c P, o59c P, o60c P, o61c P, o62c P, o63c P, o64c P, o65c P, o66c P, o67c P, o68d3a1 P, X.x 69, o70d3a1 P, o71d3a1 P, o72d3a1 P, X.x 73, o74d3a1 P, sX X 75, X.x 76, X.x 77, X.x 78, X.x 79, sX X 80, X.x 81, X.x 82, X.x 83, sX X 84, sX X 85, X.x 86, X.x 87, X.x 88, sX X 89, sX X 90, X.x 91, X.x 92, X.x 93, sX X 94, sX X 95, X.x 96, X.x 97, X.x 98, sX X 99, X.x 100, X.x 101, X.x 102, sX X 103, sX X 104, X.x 105, X.x 106, X.x 107, o108z P, o109z P, o110z P, o111z P, o112z P, o113z P, o114z P, o115z P, o116z P, o117z P, o118z P, o119z P, o120z P, o121z P, o122z P, o123z P, o124z P, o125z P, o126z P, o127z P, o128z P, o129z P, o130z P, o131z P, o132z P, o133z P, o134z P, o135z P, o136z P, o137z P, o138z P, o139z P, o140z P, o141z P, o142z P, o143z P, o144z P, o145z P, o146z P, o147z P, o148z P, o149z P, o150z P, o151z P, o152z P, o153z P, o154z P, o155z P, o156z P, o157z P, o158z P, o159z P, o160z P, o161z P, o162z P, o163z P, o164z P, o165z P, o166z P, o167z P, o168z P, o169z P, o170z P, o171z P, o172z P, o173z P, o174z P, o175z P, o176z P, o177z P, o178z P, o179z P, o180z P, o181z P, o182z P, o183z P, o184z P, o185z P, o186z P, o187z P, o188z P, o189z P, o190z P, o191z P, o192z P, o193z P, o194z P, o195z P, o196z P, o197z P, o198z P, o199z P, o200z P, o201z P, o202z P, o203z P, o204z P, o205z P, o206z P, o207z P, o208z P, o209z P, o210z P, o211z P, o212z P, o213z P, o214z P, o215z P, o216z P, o217z P, o218z P, o219z P, o220z P, o221z P, o222z P, o223z P, o224z P, o225z P, o226z P, o227z P, o228z P, o229z P, o230z P, o231z P, o232z P, o233z P, o234z P, o235z P, o236z P, o237z P, o238z P, o239z P, o240z P, o241z P, o242z P, o243z P, o244z P, o245z P, o246z P, o247z P, o248z P, o249z P, o250z P, o251z P, o252z P, o253z P, o254z P, o255z P, o256z P, o257z P, o258z P, o259z P, o260z P, o261z P, o262z P, o263z P, o264z P, o265z P, o266z P, o267z P, o268z P, o269z P, o270z P, o271z P, o272z P, o273z P, o274z P, o275z P, o276z P, o277z P, o278z P, o279z P, o280z P, o281z P, o282z P, o283z P, o284z P, o285z P, o286z P, o287z P, o288z P, o289z P, o290z P, o291z P, o292z P, o293z P, o294z P, o295z P, o296z P, o297z P, o298z P, o299z P, o300z P, o301z P, o302z P, o303z P, o304z P, o305z P, o306z P, o307z P, o308z P, o309z P, o310z P, o311z P, o312z P, o313z P, o314z P, o315z P, o316z P, o317z P, o318z P, o319z P, o320z P, o321z P, o322z P, o323z P, o324z P, o325z P, o326z P, o327z P, o328z P, o329z P, o330z P, o331z P, o332z P, o333z P, o334z P, o335z P, o336z P, o337z P, o338z P, o339z P, o340z P, o341z P, o342z P, o343z P, o344z P, o345z P, o346z P, o347z P, o348z P, o349z P], {}⟩
noncomputable def KK (P : Params) : Frag := [(2, o2e P), (3, o3z P), (32, o32c P), (34, o34c P), (35, o35c P), (37, o37c P), (38, o38c P), (109, o109z P), (110, o110z P), (111, o111z P), (118, o118z P), (119, o119z P), (120, o120z P), (121, o121z P), (124, o124z P), (126, o126z P), (127, o127z P), (129, o129z P), (130, o130z P), (131, o131z P), (133, o133z P), (134, o134z P), (136, o136z P), (137, o137z P), (138, o138z P), (139, o139z P), (141, o141z P), (142, o142z P), (144, o144z P), (145, o145z P), (146, o146z P), (148, o148z P), (149, o149z P), (151, o151z P), (152, o152z P), (153, o153z P), (155, o155z P), (156, o156z P), (158, o158z P), (159, o159z P), (160, o160z P), (162, o162z P), (163, o163z P), (165, o165z P), (166, o166z P), (167, o167z P), (169, o169z P), (170, o170z P), (172, o172z P), (173, o173z P), (174, o174z P), (176, o176z P), (177, o177z P), (179, o179z P), (180, o180z P), (181, o181z P), (182, o182z P), (184, o184z P), (185, o185z P), (187, o187z P), (188, o188z P), (189, o189z P), (196, o196z P), (197, o197z P), (198, o198z P), (199, o199z P), (202, o202z P), (204, o204z P), (205, o205z P), (207, o207z P), (208, o208z P), (209, o209z P), (211, o211z P), (212, o212z P), (214, o214z P), (215, o215z P), (216, o216z P), (218, o218z P), (219, o219z P), (221, o221z P), (222, o222z P), (223, o223z P), (225, o225z P), (226, o226z P), (228, o228z P), (229, o229z P), (230, o230z P), (231, o231z P), (233, o233z P), (234, o234z P), (236, o236z P), (237, o237z P), (238, o238z P), (239, o239z P), (241, o241z P), (242, o242z P), (244, o244z P), (245, o245z P), (246, o246z P), (247, o247z P), (249, o249z P), (250, o250z P), (252, o252z P), (253, o253z P), (254, o254z P), (255, o255z P), (257, o257z P), (258, o258z P), (260, o260z P), (261, o261z P), (265, o265z P), (266, o266z P), (268, o268z P), (272, o272z P), (274, o274z P), (275, o275z P), (277, o277z P), (278, o278z P), (279, o279z P), (281, o281z P), (282, o282z P), (284, o284z P), (285, o285z P), (286, o286z P), (288, o288z P), (289, o289z P), (291, o291z P), (292, o292z P), (293, o293z P), (295, o295z P), (296, o296z P), (298, o298z P), (299, o299z P), (300, o300z P), (302, o302z P), (303, o303z P), (305, o305z P), (306, o306z P), (307, o307z P), (309, o309z P), (310, o310z P), (312, o312z P), (313, o313z P), (314, o314z P), (316, o316z P), (317, o317z P), (319, o319z P), (320, o320z P), (321, o321z P), (324, o324z P), (325, o325z P), (326, o326z P), (329, o329z P), (330, o330z P), (331, o331z P), (333, o333z P), (334, o334z P), (336, o336z P), (337, o337z P), (338, o338z P), (340, o340z P), (341, o341z P), (343, o343z P), (344, o344z P), (345, o345z P), (348, o348z P), (349, o349z P)]
noncomputable def kAs : List Nat := [2, 3, 32, 34, 35, 37, 38, 109, 110, 111, 118, 119, 120, 121, 124, 126, 127, 129, 130, 131, 133, 134, 136, 137, 138, 139, 141, 142, 144, 145, 146, 148, 149, 151, 152, 153, 155, 156, 158, 159, 160, 162, 163, 165, 166, 167, 169, 170, 172, 173, 174, 176, 177, 179, 180, 181, 182, 184, 185, 187, 188, 189, 196, 197, 198, 199, 202, 204, 205, 207, 208, 209, 211, 212, 214, 215, 216, 218, 219, 221, 222, 223, 225, 226, 228, 229, 230, 231, 233, 234, 236, 237, 238, 239, 241, 242, 244, 245, 246, 247, 249, 250, 252, 253, 254, 255, 257, 258, 260, 261, 265, 266, 268, 272, 274, 275, 277, 278, 279, 281, 282, 284, 285, 286, 288, 289, 291, 292, 293, 295, 296, 298, 299, 300, 302, 303, 305, 306, 307, 309, 310, 312, 313, 314, 316, 317, 319, 320, 321, 324, 325, 326, 329, 330, 331, 333, 334, 336, 337, 338, 340, 341, 343, 344, 345, 348, 349]

theorem st3_1 : ∀ w : World, ∀ (X : XX) (os : OsState) (q : Pos), (evS w isAskS [stA 4] q (s68 w.params X os)).view = some ((.builtin "set.update.loop" ⟨[(.ref 75), (.ref 74)], []⟩), true, s3a1 w.params X os) :=
  byRow2 "special-get-raises" (P := fun w => ∀ (X : XX) (os : OsState) (q : Pos), (evS w isAskS [stA 4] q (s68 w.params X os)).view = some ((.builtin "set.update.loop" ⟨[(.ref 75), (.ref 74)], []⟩), true, s3a1 w.params X os)) (fun w X os q => by kernel_rfl) (fun w X os q => by kernel_rfl)
theorem st3_2 : ∀ w : World, ∀ (X : XX) (os : OsState) (q : Pos), ((evS w isAskS [stA 4] q (s68 w.params X os)).cont none_ (s3b1 w.params X os)).view = some ((.builtin "set.update.loop" ⟨[(.ref 80), (.ref 81)], []⟩), true, s3a2 w.params X os) :=
  byRow2 "special-get-raises" (P := fun w => ∀ (X : XX) (os : OsState) (q : Pos), ((evS w isAskS [stA 4] q (s68 w.params X os)).cont none_ (s3b1 w.params X os)).view = some ((.builtin "set.update.loop" ⟨[(.ref 80), (.ref 81)], []⟩), true, s3a2 w.params X os)) (fun w X os q => by kernel_rfl) (fun w X os q => by kernel_rfl)
theorem st3_3 : ∀ w : World, ∀ (X : XX) (os : OsState) (q : Pos), (((evS w isAskS [stA 4] q (s68 w.params X os)).cont none_ (s3b1 w.params X os)).cont none_ (s3b2 w.params X os)).view = some ((.builtin "frozenset.__or__" ⟨[(.ref 75), (.ref 80)], []⟩), true, s3a3 w.params X os) :=
  byRow2 "special-get-raises" (P := fun w => ∀ (X : XX) (os : OsState) (q : Pos), (((evS w isAskS [stA 4] q (s68 w.params X os)).cont none_ (s3b1 w.params X os)).cont none_ (s3b2 w.params X os)).view = some ((.builtin "frozenset.__or__" ⟨[(.ref 75), (.ref 80)], []⟩), true, s3a3 w.params X os)) (fun w X os q => by kernel_rfl) (fun w X os q => by kernel_rfl)
theorem st3_end : ∀ w : World, ∀ (X : XX) (os : OsState) (q : Pos), ((((evS w isAskS [stA 4] q (s68 w.params X os)).cont none_ (s3b1 w.params X os)).cont none_ (s3b2 w.params X os)).cont (refR 84) (s3b3 w.params X os)) = .done (.ok .next) (s85 w.params X os) :=
  byRow2 "special-get-raises" (P := fun w => ∀ (X : XX) (os : OsState) (q : Pos), ((((evS w isAskS [stA 4] q (s68 w.params X os)).cont none_ (s3b1 w.params X os)).cont none_ (s3b2 w.params X os)).cont (refR 84) (s3b3 w.params X os)) = .done (.ok .next) (s85 w.params X os)) (fun w X os q => by kernel_rfl) (fun w X os q => by kernel_rfl)
theorem st4_1 : ∀ w : World, ∀ (X : XX) (os : OsState) (q : Pos), (evS w isAskS [stA 5] q (s85 w.params X os)).view = some ((.builtin "set.update.loop" ⟨[(.ref 85), (.ref 86)], []⟩), true, s4a1 w.params X os) :=
  byRow2 "special-get-raises" (P := fun w => ∀ (X : XX) (os : OsState) (q : Pos), (evS w isAskS [stA 5] q (s85 w.params X os)).view = some ((.builtin "set.update.loop" ⟨[(.ref 85), (.ref 86)], []⟩), true, s4a1 w.params X os)) (fun w X os q => by kernel_rfl) (fun w X os q => by kernel_rfl)
theorem st4_2 : ∀ w : World, ∀ (X : XX) (os : OsState) (q : Pos), ((evS w isAskS [stA 5] q (s85 w.params X os)).cont none_ (s4b1 w.params X os)).view = some ((.builtin "frozenset.__sub__" ⟨[(.ref 84), (.ref 85)], []⟩), true, s4a2 w.params X os) :=
  byRow2 "special-get-raises" (P := fun w => ∀ (X : XX) (os : OsState) (q : Pos), ((evS w isAskS [stA 5] q (s85 w.params X os)).cont none_ (s4b1 w.params X os)).view = some ((.builtin "frozenset.__sub__" ⟨[(.ref 84), (.ref 85)], []⟩), true, s4a2 w.params X os)) (fun w X os q => by kernel_rfl) (fun w X os q => by kernel_rfl)
theorem st4_end : ∀ w : World, ∀ (X : XX) (os : OsState) (q : Pos), (((evS w isAskS [stA 5] q (s85 w.params X os)).cont none_ (s4b1 w.params X os)).cont (refR 89) (s4b2 w.params X os)) = .done (.ok .next) (s90 w.params X os) :=
  byRow2 "special-get-raises" (P := fun w => ∀ (X : XX) (os : OsState) (q : Pos), (((evS w isAskS [stA 5] q (s85 w.params X os)).cont none_ (s4b1 w.params X os)).cont (refR 89) (s4b2 w.params X os)) = .done (.ok .next) (s90 w.params X os)) (fun w X os q => by kernel_rfl) (fun w X os q => by kernel_rfl)
theorem st5_1 : ∀ w : World, ∀ (X : XX) (os : OsState) (q : Pos), (evS w isAskS [stA 6] q (s90 w.params X os)).view = some ((.builtin "set.update.loop" ⟨[(.ref 90), (.ref 91)], []⟩), true, s5a1 w.params X os) :=
  byRow2 "special-get-raises" (P := fun w => ∀ (X : XX) (os : OsState) (q : Pos), (evS w isAskS [stA 6] q (s90 w.params X os)).view = some ((.builtin "set.update.loop" ⟨[(.ref 90), (.ref 91)], []⟩), true, s5a1 w.params X os)) (fun w X os q => by kernel_rfl) (fun w X os q => by kernel_rfl)
theorem st5_2 : ∀ w : World, ∀ (X : XX) (os : OsState) (q : Pos), ((evS w isAskS [stA 6] q (s90 w.params X os)).cont none_ (s5b1 w.params X os)).view = some ((.builtin "frozenset.__sub__" ⟨[(.ref 84), (.ref 90)], []⟩), true, s5a2 w.params X os) :=
  byRow2 "special-get-raises" (P := fun w => ∀ (X : XX) (os : OsState) (q : Pos), ((evS w isAskS [stA 6] q (s90 w.params X os)).cont none_ (s5b1 w.params X os)).view = some ((.builtin "frozenset.__sub__" ⟨[(.ref 84), (.ref 90)], []⟩), true, s5a2 w.params X os)) (fun w X os q => by kernel_rfl) (fun w X os q => by kernel_rfl)
theorem st5_end : ∀ w : World, ∀ (X : XX) (os : OsState) (q : Pos), (((evS w isAskS [stA 6] q (s90 w.params X os)).cont none_ (s5b1 w.params X os)).cont (refR 94) (s5b2 w.params X os)) = .done (.ok .next) (s95 w.params X os) :=
  byRow2 "special-get-raises" (P := fun w => ∀ (X : XX) (os : OsState) (q : Pos), (((evS w isAskS [stA 6] q (s90 w.params X os)).cont none_ (s5b1 w.params X os)).cont (refR 94) (s5b2 w.params X os)) = .done (.ok .next) (s95 w.params X os)) (fun w X os q => by kernel_rfl) (fun w X os q => by kernel_rfl)
theorem st6_1 : ∀ w : World, ∀ (X : XX) (os : OsState) (q : Pos), (evS w isAskS [stA 7] q (s95 w.params X os)).view = some ((.builtin "set.update.loop" ⟨[(.ref 95), (.ref 96)], []⟩), true, s6a1 w.params X os) :=
  byRow2 "special-get-raises" (P := fun w => ∀ (X : XX) (os : OsState) (q : Pos), (evS w isAskS [stA 7] q (s95 w.params X os)).view = some ((.builtin "set.update.loop" ⟨[(.ref 95), (.ref 96)], []⟩), true, s6a1 w.params X os)) (fun w X os q => by kernel_rfl) (fun w X os q => by kernel_rfl)
theorem st6_end : ∀ w : World, ∀ (X : XX) (os : OsState) (q : Pos), ((evS w isAskS [stA 7] q (s95 w.params X os)).cont none_ (s6b1 w.params X os)) = .done (.ok .next) (s99 w.params X os) :=
  byRow2 "special-get-raises" (P := fun w => ∀ (X : XX) (os : OsState) (q : Pos), ((evS w isAskS [stA 7] q (s95 w.params X os)).cont none_ (s6b1 w.params X os)) = .done (.ok .next) (s99 w.params X os)) (fun w X os q => by kernel_rfl) (fun w X os q => by kernel_rfl)
theorem st7_1 : ∀ w : World, ∀ (X : XX) (os : OsState) (q : Pos), (evS w isAskS [stA 8] q (s99 w.params X os)).view = some ((.builtin "set.update.loop" ⟨[(.ref 99), (.ref 100)], []⟩), true, s7a1 w.params X os) :=
  byRow2 "special-get-raises" (P := fun w => ∀ (X : XX) (os : OsState) (q : Pos), (evS w isAskS [stA 8] q (s99 w.params X os)).view = some ((.builtin "set.update.loop" ⟨[(.ref 99), (.ref 100)], []⟩), true, s7a1 w.params X os)) (fun w X os q => by kernel_rfl) (fun w X os q => by kernel_rfl)
theorem st7_2 : ∀ w : World, ∀ (X : XX) (os : OsState) (q : Pos), ((evS w isAskS [stA 8] q (s99 w.params X os)).cont none_ (s7b1 w.params X os)).view = some ((.builtin "frozenset.__or__" ⟨[(.ref 95), (.ref 99)], []⟩), true, s7a2 w.params X os) :=
  byRow2 "special-get-raises" (P := fun w => ∀ (X : XX) (os : OsState) (q : Pos), ((evS w isAskS [stA 8] q (s99 w.params X os)).cont none_ (s7b1 w.params X os)).view = some ((.builtin "frozenset.__or__" ⟨[(.ref 95), (.ref 99)], []⟩), true, s7a2 w.params X os)) (fun w X os q => by kernel_rfl) (fun w X os q => by kernel_rfl)
theorem st7_end : ∀ w : World, ∀ (X : XX) (os : OsState) (q : Pos), (((evS w isAskS [stA 8] q (s99 w.params X os)).cont none_ (s7b1 w.params X os)).cont (refR 103) (s7b2 w.params X os)) = .done (.ok .next) (s104 w.params X os) :=
  byRow2 "special-get-raises" (P := fun w => ∀ (X : XX) (os : OsState) (q : Pos), (((evS w isAskS [stA 8] q (s99 w.params X os)).cont none_ (s7b1 w.params X os)).cont (refR 103) (s7b2 w.params X os)) = .done (.ok .next) (s104 w.params X os)) (fun w X os q => by kernel_rfl) (fun w X os q => by kernel_rfl)
theorem st10_1 : ∀ w : World, ∀ (X : XX) (os : OsState) (q : Pos), (evS w isAskS [stA 11] q (s104w w.params X os)).view = some ((.builtin "set.update.loop" ⟨[(.ref 104), (.ref 105)], []⟩), true, s10a1 w.params X os) :=
  byRow2 "special-get-raises" (P := fun w => ∀ (X : XX) (os : OsState) (q : Pos), (evS w isAskS [stA 11] q (s104w w.params X os)).view = some ((.builtin "set.update.loop" ⟨[(.ref 104), (.ref 105)], []⟩), true, s10a1 w.params X os)) (fun w X os q => by kernel_rfl) (fun w X os q => by kernel_rfl)
theorem st10_end : ∀ w : World, ∀ (X : XX) (os : OsState) (q : Pos), ((evS w isAskS [stA 11] q (s104w w.params X os)).cont none_ (s10b1 w.params X os)) = .done (.ok .next) (s108z w.params X os) :=
  byRow2 "special-get-raises" (P := fun w => ∀ (X : XX) (os : OsState) (q : Pos), ((evS w isAskS [stA 11] q (s104w w.params X os)).cont none_ (s10b1 w.params X os)) = .done (.ok .next) (s108z w.params X os)) (fun w X os q => by kernel_rfl) (fun w X os q => by kernel_rfl)
theorem pc1 : ∀ (w : World) (X : XX) (os : OsState) (q : Pos), evS w (fun _ => false) L1 q (s32 w.params X os) = .done (.ok .next) (s68 w.params X os) := fun w X os q => by kernel_rfl
theorem pc2 : ∀ (w : World) (X : XX) (os : OsState) (q : Pos), evS w (fun _ => false) L2 q (s104 w.params X os) = .done (.ok .next) (s104w w.params X os) := fun w X os q => by kernel_rfl
noncomputable def o3y1 (P : Params) : Obj := ⟨(.type "dict"), none, (.dict #[⟨PyData.keyHash P (.ofString "__name__"), (.str (.ofString "__name__") 165), (.str (.ofString "re") 824)⟩, ⟨PyData.keyHash P (.ofString "__doc__"), (.str (.ofString "__doc__") 166), .none⟩, ⟨PyData.keyHash P (.ofString "__package__"), (.str (.ofString "__package__") 167), .none⟩, ⟨PyData.keyHash P (.ofString "__loader__"), (.str (.ofString "__loader__") 168), (.builtin "__main__.__loader__#opaque")⟩, ⟨PyData.keyHash P (.ofString "__spec__"), (.str (.ofString "__spec__") 169), .none⟩, ⟨PyData.keyHash P (.ofString "__annotations__"), (.str (.ofString "__annotations__") 170), (.ref 6)⟩, ⟨PyData.keyHash P (.ofString "__builtins__"), (.str (.ofString "__builtins__") 171), (.ref 4)⟩, ⟨PyData.keyHash P (.ofString "__file__"), (.str (.ofString "__file__") 173), (.str (.ofString "/claim/cut.py") 172)⟩, ⟨PyData.keyHash P (.ofString "__cached__"), (.str (.ofString "__cached__") 174), .none⟩, ⟨PyData.keyHash P (.ofString "_sre"), (.str (.ofString "_sre") 275), (.ref 12)⟩, ⟨PyData.keyHash P (.ofString "_wall"), (.str (.ofString "_wall") 288), (.ref 38)⟩, ⟨PyData.keyHash P (.ofString "_WallAttr"), (.str (.ofString "_WallAttr") 328), (.ref 63)⟩, ⟨PyData.keyHash P (.ofString "ASCII_CTRL"), (.str (.ofString "ASCII_CTRL") 474), (.ref 84)⟩, ⟨PyData.keyHash P (.ofString "ILLEGAL_BASIC_STR_CHARS"), (.str (.ofString "ILLEGAL_BASIC_STR_CHARS") 478), (.ref 89)⟩, ⟨PyData.keyHash P (.ofString "ILLEGAL_MULTILINE_BASIC_STR_CHARS"), (.str (.ofString "ILLEGAL_MULTILINE_BASIC_STR_CHARS") 484), (.ref 94)⟩, ⟨PyData.keyHash P (.ofString "TOML_WS"), (.str (.ofString "TOML_WS") 490), (.ref 95)⟩, ⟨PyData.keyHash P (.ofString "TOML_WS_AND_NEWLINE"), (.str (.ofString "TOML_WS_AND_NEWLINE") 494), (.ref 103)⟩, ⟨PyData.keyHash P (.ofString "digits"), (.str (.ofString "digits") 496), (.str (.ofString "0123456789") 495)⟩, ⟨PyData.keyHash P (.ofString "hexdigits"), (.str (.ofString "hexdigits") 501), (.str (.ofString "0123456789abcdefABCDEF") 500)⟩, ⟨PyData.keyHash P (.ofString "HEXDIGIT_CHARS"), (.str (.ofString "HEXDIGIT_CHARS") 546), (.ref 104)⟩, ⟨PyData.keyHash P (.ofString "MappingProxyType"), (.str (.ofString "MappingProxyType") 550), (.type "mappingproxy")⟩, ⟨PyData.keyHash P (.ofString "BASIC_STR_ESCAPE_REPLACEMENTS"), (.str (.ofString "BASIC_STR_ESCAPE_REPLACEMENTS") 574), (.ref 110)⟩, ⟨PyData.keyHash P (.ofString "TOMLDecodeError"), (.str (.ofString "TOMLDecodeError") 592), (.ref 120)⟩, ⟨PyData.keyHash P (.ofString "skip_chars"), (.str (.ofString "skip_chars") 601), (.ref 130)⟩, ⟨PyData.keyHash P (.ofString "parse_one_line_basic_str"), (.str (.ofString "parse_one_line_basic_str") 609), (.ref 137)⟩, ⟨PyData.keyHash P (.ofString "parse_basic_str_escape"), (.str (.ofString "parse_basic_str_escape") 621), (.ref 145)⟩, ⟨PyData.keyHash P (.ofString "parse_basic_str_escape_multiline"), (.str (.ofString "parse_basic_str_escape_multiline") 629), (.ref 152)⟩, ⟨PyData.keyHash P (.ofString "parse_hex_char"), (.str (.ofString "parse_hex_char") 640), (.ref 159)⟩, ⟨PyData.keyHash P (.ofString "parse_basic_str"), (.str (.ofString "parse_basic_str") 655), (.ref 166)⟩, ⟨PyData.keyHash P (.ofString "suffixed_err"), (.str (.ofString "suffixed_err") 665), (.ref 173)⟩, ⟨PyData.keyHash P (.ofString "is_unicode_scalar_value"), (.str (.ofString "is_unicode_scalar_value") 672), (.ref 180)⟩, ⟨PyData.keyHash P (.ofString "bytes_types"), (.str (.ofString "bytes_types") 675), (.ref 181)⟩, ⟨PyData.keyHash P (.ofString "_bytes_from_decode_data"), (.str (.ofString "_bytes_from_decode_data") 682), (.ref 188)⟩, ⟨PyData.keyHash P (.ofString "Error"), (.str (.ofString "Error") 702), (.ref 198)⟩, ⟨PyData.keyHash P (.ofString "_ascii_buffer"), (.str (.ofString "_ascii_buffer") 710), (.ref 208)⟩, ⟨PyData.keyHash P (.ofString "_buffer"), (.str (.ofString "_buffer") 718), (.ref 215)⟩, ⟨PyData.keyHash P (.ofString "_truth"), (.str (.ofString "_truth") 726), (.ref 222)⟩, ⟨PyData.keyHash P (.ofString "_B64"), (.str (.ofString "_B64") 728), (.bytes #[65, 66, 67, 68, 69, 70, 71, 72, 73, 74, 75, 76, 77, 78, 79, 80, 81, 82, 83, 84, 85, 86, 87, 88, 89, 90, 97, 98, 99, 100, 101, 102, 103, 104, 105, 106, 107, 108, 109, 110, 111, 112, 113, 114, 115, 116, 117, 118, 119, 120, 121, 122, 48, 49, 50, 51, 52, 53, 54, 55, 56, 57, 43, 47] 727)⟩, ⟨PyData.keyHash P (.ofString "_b64_value"), (.str (.ofString "_b64_value") 735), (.ref 229)⟩, ⟨PyData.keyHash P (.ofString "a2b_base64"), (.str (.ofString "a2b_base64") 751), (.ref 237)⟩, ⟨PyData.keyHash P (.ofString "b2a_base64"), (.str (.ofString "b2a_base64") 765), (.ref 245)⟩, ⟨PyData.keyHash P (.ofString "b64encode"), (.str (.ofString "b64encode") 776), (.ref 253)⟩, ⟨PyData.keyHash P (.ofString "b64decode"), (.str (.ofString "b64decode") 785), (.ref 261)⟩, ⟨PyData.keyHash P (.ofString "_twin_re_1"), (.str (.ofString "_twin_re_1") 823), (.ref 266)⟩] 44), #[]⟩
noncomputable def o29y1 (P : Params) : Obj := ⟨.none, none, (.fields #[(.int 2 0), (.int 0 0), (.ref 37), (.int 5 0), (.int 0 0), (.ref 44), (.int 12 0), (.int 23 0), (.ref 72), (.int 24 0), (.int 0 0), (.ref 116), (.int 26 0), (.int 0 0), (.ref 129), (.int 33 0), (.int 0 0), (.ref 136), (.int 36 0), (.int 0 0), (.ref 144), (.int 59 0), (.int 0 0), (.ref 151), (.int 61 0), (.int 0 0), (.ref 158), (.int 70 0), (.int 0 0), (.ref 165), (.int 100 0), (.int 0 0), (.ref 172), (.int 112 0), (.int 0 0), (.ref 179), (.int 116 0), (.int 0 0), (.ref 187), (.int 129 0), (.int 0 0), (.ref 194), (.int 131 0), (.int 0 0), (.ref 207), (.int 142 0), (.int 0 0), (.ref 214), (.int 149 0), (.int 0 0), (.ref 221), (.int 155 0), (.int 0 0), (.ref 228), (.int 167 0), (.int 0 0), (.ref 236), (.int 221 0), (.int 0 0), (.ref 244), (.int 244 0), (.int 0 0), (.ref 252), (.int 250 0), (.int 0 0), (.ref 260)]), #[]⟩
noncomputable def tM1 (P : Params) (X : XX) : BT := (.node (boot_o_0 P) (.node (o1e P) (.node (o3y1 P) (.node (boot_o_7 P) (.node (o15e P) (.node (o31b P) (.node (o63c P) (.node (o127z P) (.node (o255z P) .nil .nil) .nil) (.node (o191z P) .nil .nil)) (.node (sX X 95) (.node (o159z P) .nil .nil) (.node (o223z P) .nil .nil))) (.node (o47c P) (.node (X.x 79) (.node (o143z P) .nil .nil) (.node (o207z P) .nil .nil)) (.node (o111z P) (.node (o175z P) .nil .nil) (.node (o239z P) .nil .nil)))) (.node (o23e P) (.node (o39c P) (.node (o71d3a1 P) (.node (o135z P) (.node (o263z P) .nil .nil) .nil) (.node (o199z P) .nil .nil)) (.node (sX X 103) (.node (o167z P) .nil .nil) (.node (o231z P) .nil .nil))) (.node (o55c P) (.node (X.x 87) (.node (o151z P) .nil .nil) (.node (o215z P) .nil .nil)) (.node (o119z P) (.node (o183z P) .nil .nil) (.node (o247z P) .nil .nil))))) (.node (o11f P) (.node (o19e P) (.node (o35c P) (.node (o67c P) (.node (o131z P) (.node (o259z P) .nil .nil) .nil) (.node (o195z P) .nil .nil)) (.node (sX X 99) (.node (o163z P) .nil .nil) (.node (o227z P) .nil .nil))) (.node (o51c P) (.node (X.x 83) (.node (o147z P) .nil .nil) (.node (o211z P) .nil .nil)) (.node (o115z P) (.node (o179z P) .nil .nil) (.node (o243z P) .nil .nil)))) (.node (o27e P) (.node (o43c P) (.node (sX X 75) (.node (o139z P) .nil .nil) (.node (o203z P) .nil .nil)) (.node (X.x 107) (.node (o171z P) .nil .nil) (.node (o235z P) .nil .nil))) (.node (o59c P) (.node (X.x 91) (.node (o155z P) .nil .nil) (.node (o219z P) .nil .nil)) (.node (o123z P) (.node (o187z P) .nil .nil) (.node (o251z P) .nil .nil)))))) (.node (boot_o_5 P) (.node (boot_o_9 P) (.node (o17e P) (.node (o33c P) (.node (o65c P) (.node (o129z P) (.node (o257z P) .nil .nil) .nil) (.node (o193z P) .nil .nil)) (.node (X.x 97) (.node (o161z P) .nil .nil) (.node (o225z P) .nil .nil))) (.node (o49c P) (.node (X.x 81) (.node (o145z P) .nil .nil) (.node (o209z P) .nil .nil)) (.node (o113z P) (.node (o177z P) .nil .nil) (.node (o241z P) .nil .nil)))) (.node (o25e P) (.node (o41c P) (.node (X.x 73) (.node (o137z P) (.node (o265z P) .nil .nil) .nil) (.node (o201z P) .nil .nil)) (.node (X.x 105) (.node (o169z P) .nil .nil) (.node (o233z P) .nil .nil))) (.node (o57c P) (.node (sX X 89) (.node (o153z P) .nil .nil) (.node (o217z P) .nil .nil)) (.node (o121z P) (.node (o185z P) .nil .nil) (.node (o249z P) .nil .nil))))) (.node (o13e P) (.node (o21e P) (.node (o37c P) (.node (X.x 69) (.node (o133z P) (.node (o261z P) .nil .nil) .nil) (.node (o197z P) .nil .nil)) (.node (X.x 101) (.node (o165z P) .nil .nil) (.node (o229z P) .nil .nil))) (.node (o53c P) (.node (sX X 85) (.node (o149z P) .nil .nil) (.node (o213z P) .nil .nil)) (.node (o117z P) (.node (o181z P) .nil .nil) (.node (o245z P) .nil .nil)))) (.node (o29y1 P) (.node (o45c P) (.node (X.x 77) (.node (o141z P) .nil .nil) (.node (o205z P) .nil .nil)) (.node (o109z P) (.node (o173z P) .nil .nil) (.node (o237z P) .nil .nil))) (.node (o61c P) (.node (X.x 93) (.node (o157z P) .nil .nil) (.node (o221z P) .nil .nil)) (.node (o125z P) (.node (o189z P) .nil .nil) (.node (o253z P) .nil .nil))))))) (.node (o2e P) (.node (boot_o_4 P) (.node (boot_o_8 P) (.node (o16e P) (.node (o32c P) (.node (o64c P) (.node (o128z P) (.node (o256z P) .nil .nil) .nil) (.node (o192z P) .nil .nil)) (.node (X.x 96) (.node (o160z P) .nil .nil) (.node (o224z P) .nil .nil))) (.node (o48c P) (.node (sX X 80) (.node (o144z P) .nil .nil) (.node (o208z P) .nil .nil)) (.node (o112z P) (.node (o176z P) .nil .nil) (.node (o240z P) .nil .nil)))) (.node (o24e P) (.node (o40c P) (.node (o72d3a1 P) (.node (o136z P) (.node (o264z P) .nil .nil) .nil) (.node (o200z P) .nil .nil)) (.node (sX X 104) (.node (o168z P) .nil .nil) (.node (o232z P) .nil .nil))) (.node (o56c P) (.node (X.x 88) (.node (o152z P) .nil .nil) (.node (o216z P) .nil .nil)) (.node (o120z P) (.node (o184z P) .nil .nil) (.node (o248z P) .nil .nil))))) (.node (o12e P) (.node (o20e P) (.node (o36c P) (.node (o68d3a1 P) (.node (o132z P) (.node (o260z P) .nil .nil) .nil) (.node (o196z P) .nil .nil)) (.node (X.x 100) (.node (o164z P) .nil .nil) (.node (o228z P) .nil .nil))) (.node (o52c P) (.node (sX X 84) (.node (o148z P) .nil .nil) (.node (o212z P) .nil .nil)) (.node (o116z P) (.node (o180z P) .nil .nil) (.node (o244z P) .nil .nil)))) (.node (o28b P) (.node (o44c P) (.node (X.x 76) (.node (o140z P) .nil .nil) (.node (o204z P) .nil .nil)) (.node (o108z P) (.node (o172z P) .nil .nil) (.node (o236z P) .nil .nil))) (.node (o60c P) (.node (X.x 92) (.node (o156z P) .nil .nil) (.node (o220z P) .nil .nil)) (.node (o124z P) (.node (o188z P) .nil .nil) (.node (o252z P) .nil .nil)))))) (.node (boot_o_6 P) (.node (boot_o_10 P) (.node (o18e P) (.node (o34c P) (.node (o66c P) (.node (o130z P) (.node (o258z P) .nil .nil) .nil) (.node (o194z P) .nil .nil)) (.node (X.x 98) (.node (o162z P) .nil .nil) (.node (o226z P) .nil .nil))) (.node (o50c P) (.node (X.x 82) (.node (o146z P) .nil .nil) (.node (o210z P) .nil .nil)) (.node (o114z P) (.node (o178z P) .nil .nil) (.node (o242z P) .nil .nil)))) (.node (o26e P) (.node (o42c P) (.node (o74d3a1 P) (.node (o138z P) (.node (o266z P) .nil .nil) .nil) (.node (o202z P) .nil .nil)) (.node (X.x 106) (.node (o170z P) .nil .nil) (.node (o234z P) .nil .nil))) (.node (o58c P) (.node (sX X 90) (.node (o154z P) .nil .nil) (.node (o218z P) .nil .nil)) (.node (o122z P) (.node (o186z P) .nil .nil) (.node (o250z P) .nil .nil))))) (.node (o14e P) (.node (o22e P) (.node (o38c P) (.node (o70d3a1 P) (.node (o134z P) (.node (o262z P) .nil .nil) .nil) (.node (o198z P) .nil .nil)) (.node (X.x 102) (.node (o166z P) .nil .nil) (.node (o230z P) .nil .nil))) (.node (o54c P) (.node (X.x 86) (.node (o150z P) .nil .nil) (.node (o214z P) .nil .nil)) (.node (o118z P) (.node (o182z P) .nil .nil) (.node (o246z P) .nil .nil)))) (.node (o30b P) (.node (o46c P) (.node (X.x 78) (.node (o142z P) .nil .nil) (.node (o206z P) .nil .nil)) (.node (o110z P) (.node (o174z P) .nil .nil) (.node (o238z P) .nil .nil))) (.node (o62c P) (.node (sX X 94) (.node (o158z P) .nil .nil) (.node (o222z P) .nil .nil)) (.node (o126z P) (.node (o190z P) .nil .nil) (.node (o254z P) .nil .nil))))))))
noncomputable def sM1 (P : Params) (X : XX) (os : OsState) : SharedT := ⟨tM1 P X, 267, {}, #[.finished], {}, 826, os⟩
noncomputable def o3y2 (P : Params) : Obj := ⟨(.type "dict"), none, (.dict #[⟨PyData.keyHash P (.ofString "__name__"), (.str (.ofString "__name__") 165), (.str (.ofString "re") 824)⟩, ⟨PyData.keyHash P (.ofString "__doc__"), (.str (.ofString "__doc__") 166), .none⟩, ⟨PyData.keyHash P (.ofString "__package__"), (.str (.ofString "__package__") 167), .none⟩, ⟨PyData.keyHash P (.ofString "__loader__"), (.str (.ofString "__loader__") 168), (.builtin "__main__.__loader__#opaque")⟩, ⟨PyData.keyHash P (.ofString "__spec__"), (.str (.ofString "__spec__") 169), .none⟩, ⟨PyData.keyHash P (.ofString "__annotations__"), (.str (.ofString "__annotations__") 170), (.ref 6)⟩, ⟨PyData.keyHash P (.ofString "__builtins__"), (.str (.ofString "__builtins__") 171), (.ref 4)⟩, ⟨PyData.keyHash P (.ofString "__file__"), (.str (.ofString "__file__") 173), (.str (.ofString "/claim/cut.py") 172)⟩, ⟨PyData.keyHash P (.ofString "__cached__"), (.str (.ofString "__cached__") 174), .none⟩, ⟨PyData.keyHash P (.ofString "_sre"), (.str (.ofString "_sre") 275), (.ref 12)⟩, ⟨PyData.keyHash P (.ofString "_wall"), (.str (.ofString "_wall") 288), (.ref 38)⟩, ⟨PyData.keyHash P (.ofString "_WallAttr"), (.str (.ofString "_WallAttr") 328), (.ref 63)⟩, ⟨PyData.keyHash P (.ofString "ASCII_CTRL"), (.str (.ofString "ASCII_CTRL") 474), (.ref 84)⟩, ⟨PyData.keyHash P (.ofString "ILLEGAL_BASIC_STR_CHARS"), (.str (.ofString "ILLEGAL_BASIC_STR_CHARS") 478), (.ref 89)⟩, ⟨PyData.keyHash P (.ofString "ILLEGAL_MULTILINE_BASIC_STR_CHARS"), (.str (.ofString "ILLEGAL_MULTILINE_BASIC_STR_CHARS") 484), (.ref 94)⟩, ⟨PyData.keyHash P (.ofString "TOML_WS"), (.str (.ofString "TOML_WS") 490), (.ref 95)⟩, ⟨PyData.keyHash P (.ofString "TOML_WS_AND_NEWLINE"), (.str (.ofString "TOML_WS_AND_NEWLINE") 494), (.ref 103)⟩, ⟨PyData.keyHash P (.ofString "digits"), (.str (.ofString "digits") 496), (.str (.ofString "0123456789") 495)⟩, ⟨PyData.keyHash P (.ofString "hexdigits"), (.str (.ofString "hexdigits") 501), (.str (.ofString "0123456789abcdefABCDEF") 500)⟩, ⟨PyData.keyHash P (.ofString "HEXDIGIT_CHARS"), (.str (.ofString "HEXDIGIT_CHARS") 546), (.ref 104)⟩, ⟨PyData.keyHash P (.ofString "MappingProxyType"), (.str (.ofString "MappingProxyType") 550), (.type "mappingproxy")⟩, ⟨PyData.keyHash P (.ofString "BASIC_STR_ESCAPE_REPLACEMENTS"), (.str (.ofString "BASIC_STR_ESCAPE_REPLACEMENTS") 574), (.ref 110)⟩, ⟨PyData.keyHash P (.ofString "TOMLDecodeError"), (.str (.ofString "TOMLDecodeError") 592), (.ref 120)⟩, ⟨PyData.keyHash P (.ofString "skip_chars"), (.str (.ofString "skip_chars") 601), (.ref 130)⟩, ⟨PyData.keyHash P (.ofString "parse_one_line_basic_str"), (.str (.ofString "parse_one_line_basic_str") 609), (.ref 137)⟩, ⟨PyData.keyHash P (.ofString "parse_basic_str_escape"), (.str (.ofString "parse_basic_str_escape") 621), (.ref 145)⟩, ⟨PyData.keyHash P (.ofString "parse_basic_str_escape_multiline"), (.str (.ofString "parse_basic_str_escape_multiline") 629), (.ref 152)⟩, ⟨PyData.keyHash P (.ofString "parse_hex_char"), (.str (.ofString "parse_hex_char") 640), (.ref 159)⟩, ⟨PyData.keyHash P (.ofString "parse_basic_str"), (.str (.ofString "parse_basic_str") 655), (.ref 166)⟩, ⟨PyData.keyHash P (.ofString "suffixed_err"), (.str (.ofString "suffixed_err") 665), (.ref 173)⟩, ⟨PyData.keyHash P (.ofString "is_unicode_scalar_value"), (.str (.ofString "is_unicode_scalar_value") 672), (.ref 180)⟩, ⟨PyData.keyHash P (.ofString "bytes_types"), (.str (.ofString "bytes_types") 675), (.ref 181)⟩, ⟨PyData.keyHash P (.ofString "_bytes_from_decode_data"), (.str (.ofString "_bytes_from_decode_data") 682), (.ref 188)⟩, ⟨PyData.keyHash P (.ofString "Error"), (.str (.ofString "Error") 702), (.ref 198)⟩, ⟨PyData.keyHash P (.ofString "_ascii_buffer"), (.str (.ofString "_ascii_buffer") 710), (.ref 208)⟩, ⟨PyData.keyHash P (.ofString "_buffer"), (.str (.ofString "_buffer") 718), (.ref 215)⟩, ⟨PyData.keyHash P (.ofString "_truth"), (.str (.ofString "_truth") 726), (.ref 222)⟩, ⟨PyData.keyHash P (.ofString "_B64"), (.str (.ofString "_B64") 728), (.bytes #[65, 66, 67, 68, 69, 70, 71, 72, 73, 74, 75, 76, 77, 78, 79, 80, 81, 82, 83, 84, 85, 86, 87, 88, 89, 90, 97, 98, 99, 100, 101, 102, 103, 104, 105, 106, 107, 108, 109, 110, 111, 112, 113, 114, 115, 116, 117, 118, 119, 120, 121, 122, 48, 49, 50, 51, 52, 53, 54, 55, 56, 57, 43, 47] 727)⟩, ⟨PyData.keyHash P (.ofString "_b64_value"), (.str (.ofString "_b64_value") 735), (.ref 229)⟩, ⟨PyData.keyHash P (.ofString "a2b_base64"), (.str (.ofString "a2b_base64") 751), (.ref 237)⟩, ⟨PyData.keyHash P (.ofString "b2a_base64"), (.str (.ofString "b2a_base64") 765), (.ref 245)⟩, ⟨PyData.keyHash P (.ofString "b64encode"), (.str (.ofString "b64encode") 776), (.ref 253)⟩, ⟨PyData.keyHash P (.ofString "b64decode"), (.str (.ofString "b64decode") 785), (.ref 261)⟩, ⟨PyData.keyHash P (.ofString "_twin_re_1"), (.str (.ofString "_twin_re_1") 823), (.ref 266)⟩, ⟨PyData.keyHash P (.ofString "_special_chars_map"), (.str (.ofString "_special_chars_map") 971), (.ref 268)⟩] 45), #[]⟩
noncomputable def tM2 (P : Params) (X : XX) : BT := (.node (boot_o_0 P) (.node (o1e P) (.node (o3y2 P) (.node (boot_o_7 P) (.node (o15e P) (.node (o31b P) (.node (o63c P) (.node (o127z P) (.node (o255z P) .nil .nil) .nil) (.node (o191z P) .nil .nil)) (.node (sX X 95) (.node (o159z P) .nil .nil) (.node (o223z P) .nil .nil))) (.node (o47c P) (.node (X.x 79) (.node (o143z P) (.node (o271z P) .nil .nil) .nil) (.node (o207z P) .nil .nil)) (.node (o111z P) (.node (o175z P) .nil .nil) (.node (o239z P) .nil .nil)))) (.node (o23e P) (.node (o39c P) (.node (o71d3a1 P) (.node (o135z P) (.node (o263z P) .nil .nil) .nil) (.node (o199z P) .nil .nil)) (.node (sX X 103) (.node (o167z P) .nil .nil) (.node (o231z P) .nil .nil))) (.node (o55c P) (.node (X.x 87) (.node (o151z P) .nil .nil) (.node (o215z P) .nil .nil)) (.node (o119z P) (.node (o183z P) .nil .nil) (.node (o247z P) .nil .nil))))) (.node (o11f P) (.node (o19e P) (.node (o35c P) (.node (o67c P) (.node (o131z P) (.node (o259z P) .nil .nil) .nil) (.node (o195z P) .nil .nil)) (.node (sX X 99) (.node (o163z P) .nil .nil) (.node (o227z P) .nil .nil))) (.node (o51c P) (.node (X.x 83) (.node (o147z P) .nil .nil) (.node (o211z P) .nil .nil)) (.node (o115z P) (.node (o179z P) .nil .nil) (.node (o243z P) .nil .nil)))) (.node (o27e P) (.node (o43c P) (.node (sX X 75) (.node (o139z P) (.node (o267z P) .nil .nil) .nil) (.node (o203z P) .nil .nil)) (.node (X.x 107) (.node (o171z P) .nil .nil) (.node (o235z P) .nil .nil))) (.node (o59c P) (.node (X.x 91) (.node (o155z P) .nil .nil) (.node (o219z P) .nil .nil)) (.node (o123z P) (.node (o187z P) .nil .nil) (.node (o251z P) .nil .nil)))))) (.node (boot_o_5 P) (.node (boot_o_9 P) (.node (o17e P) (.node (o33c P) (.node (o65c P) (.node (o129z P) (.node (o257z P) .nil .nil) .nil) (.node (o193z P) .nil .nil)) (.node (X.x 97) (.node (o161z P) .nil .nil) (.node (o225z P) .nil .nil))) (.node (o49c P) (.node (X.x 81) (.node (o145z P) .nil .nil) (.node (o209z P) .nil .nil)) (.node (o113z P) (.node (o177z P) .nil .nil) (.node (o241z P) .nil .nil)))) (.node (o25e P) (.node (o41c P) (.node (X.x 73) (.node (o137z P) (.node (o265z P) .nil .nil) .nil) (.node (o201z P) .nil .nil)) (.node (X.x 105) (.node (o169z P) .nil .nil) (.node (o233z P) .nil .nil))) (.node (o57c P) (.node (sX X 89) (.node (o153z P) .nil .nil) (.node (o217z P) .nil .nil)) (.node (o121z P) (.node (o185z P) .nil .nil) (.node (o249z P) .nil .nil))))) (.node (o13e P) (.node (o21e P) (.node (o37c P) (.node (X.x 69) (.node (o133z P) (.node (o261z P) .nil .nil) .nil) (.node (o197z P) .nil .nil)) (.node (X.x 101) (.node (o165z P) .nil .nil) (.node (o229z P) .nil .nil))) (.node (o53c P) (.node (sX X 85) (.node (o149z P) .nil .nil) (.node (o213z P) .nil .nil)) (.node (o117z P) (.node (o181z P) .nil .nil) (.node (o245z P) .nil .nil)))) (.node (o29y1 P) (.node (o45c P) (.node (X.x 77) (.node (o141z P) (.node (o269z P) .nil .nil) .nil) (.node (o205z P) .nil .nil)) (.node (o109z P) (.node (o173z P) .nil .nil) (.node (o237z P) .nil .nil))) (.node (o61c P) (.node (X.x 93) (.node (o157z P) .nil .nil) (.node (o221z P) .nil .nil)) (.node (o125z P) (.node (o189z P) .nil .nil) (.node (o253z P) .nil .nil))))))) (.node (o2e P) (.node (boot_o_4 P) (.node (boot_o_8 P) (.node (o16e P) (.node (o32c P) (.node (o64c P) (.node (o128z P) (.node (o256z P) .nil .nil) .nil) (.node (o192z P) .nil .nil)) (.node (X.x 96) (.node (o160z P) .nil .nil) (.node (o224z P) .nil .nil))) (.node (o48c P) (.node (sX X 80) (.node (o144z P) .nil .nil) (.node (o208z P) .nil .nil)) (.node (o112z P) (.node (o176z P) .nil .nil) (.node (o240z P) .nil .nil)))) (.node (o24e P) (.node (o40c P) (.node (o72d3a1 P) (.node (o136z P) (.node (o264z P) .nil .nil) .nil) (.node (o200z P) .nil .nil)) (.node (sX X 104) (.node (o168z P) .nil .nil) (.node (o232z P) .nil .nil))) (.node (o56c P) (.node (X.x 88) (.node (o152z P) .nil .nil) (.node (o216z P) .nil .nil)) (.node (o120z P) (.node (o184z P) .nil .nil) (.node (o248z P) .nil .nil))))) (.node (o12e P) (.node (o20e P) (.node (o36c P) (.node (o68d3a1 P) (.node (o132z P) (.node (o260z P) .nil .nil) .nil) (.node (o196z P) .nil .nil)) (.node (X.x 100) (.node (o164z P) .nil .nil) (.node (o228z P) .nil .nil))) (.node (o52c P) (.node (sX X 84) (.node (o148z P) .nil .nil) (.node (o212z P) .nil .nil)) (.node (o116z P) (.node (o180z P) .nil .nil) (.node (o244z P) .nil .nil)))) (.node (o28b P) (.node (o44c P) (.node (X.x 76) (.node (o140z P) (.node (o268z P) .nil .nil) .nil) (.node (o204z P) .nil .nil)) (.node (o108z P) (.node (o172z P) .nil .nil) (.node (o236z P) .nil .nil))) (.node (o60c P) (.node (X.x 92) (.node (o156z P) .nil .nil) (.node (o220z P) .nil .nil)) (.node (o124z P) (.node (o188z P) .nil .nil) (.node (o252z P) .nil .nil)))))) (.node (boot_o_6 P) (.node (boot_o_10 P) (.node (o18e P) (.node (o34c P) (.node (o66c P) (.node (o130z P) (.node (o258z P) .nil .nil) .nil) (.node (o194z P) .nil .nil)) (.node (X.x 98) (.node (o162z P) .nil .nil) (.node (o226z P) .nil .nil))) (.node (o50c P) (.node (X.x 82) (.node (o146z P) .nil .nil) (.node (o210z P) .nil .nil)) (.node (o114z P) (.node (o178z P) .nil .nil) (.node (o242z P) .nil .nil)))) (.node (o26e P) (.node (o42c P) (.node (o74d3a1 P) (.node (o138z P) (.node (o266z P) .nil .nil) .nil) (.node (o202z P) .nil .nil)) (.node (X.x 106) (.node (o170z P) .nil .nil) (.node (o234z P) .nil .nil))) (.node (o58c P) (.node (sX X 90) (.node (o154z P) .nil .nil) (.node (o218z P) .nil .nil)) (.node (o122z P) (.node (o186z P) .nil .nil) (.node (o250z P) .nil .nil))))) (.node (o14e P) (.node (o22e P) (.node (o38c P) (.node (o70d3a1 P) (.node (o134z P) (.node (o262z P) .nil .nil) .nil) (.node (o198z P) .nil .nil)) (.node (X.x 102) (.node (o166z P) .nil .nil) (.node (o230z P) .nil .nil))) (.node (o54c P) (.node (X.x 86) (.node (o150z P) .nil .nil) (.node (o214z P) .nil .nil)) (.node (o118z P) (.node (o182z P) .nil .nil) (.node (o246z P) .nil .nil)))) (.node (o30b P) (.node (o46c P) (.node (X.x 78) (.node (o142z P) (.node (o270z P) .nil .nil) .nil) (.node (o206z P) .nil .nil)) (.node (o110z P) (.node (o174z P) .nil .nil) (.node (o238z P) .nil .nil))) (.node (o62c P) (.node (sX X 94) (.node (o158z P) .nil .nil) (.node (o222z P) .nil .nil)) (.node (o126z P) (.node (o190z P) .nil .nil) (.node (o254z P) .nil .nil))))))))
noncomputable def sM2 (P : Params) (X : XX) (os : OsState) : SharedT := ⟨tM2 P X, 272, {}, #[.finished], {}, 972, os⟩
theorem pc3a : ∀ w : World, ∀ (X : XX) (os : OsState) (q : Pos), evS w (fun _ => false) L3a q (s108z w.params X os) = .done (.ok .next) (sM1 w.params X os) :=
  byRow2 "special-get-raises" (P := fun w => ∀ (X : XX) (os : OsState) (q : Pos), evS w (fun _ => false) L3a q (s108z w.params X os) = .done (.ok .next) (sM1 w.params X os)) (fun w X os q => by kernel_rfl) (fun w X os q => by kernel_rfl)
theorem pc3b : ∀ w : World, ∀ (X : XX) (os : OsState) (q : Pos), evS w (fun _ => false) L3b q (sM1 w.params X os) = .done (.ok .next) (sM2 w.params X os) :=
  byRow2 "special-get-raises" (P := fun w => ∀ (X : XX) (os : OsState) (q : Pos), evS w (fun _ => false) L3b q (sM1 w.params X os) = .done (.ok .next) (sM2 w.params X os))
    (byRow2 "comprehension-iter-twice" (P := fun w => (fun w => ∀ (X : XX) (os : OsState) (q : Pos), evS w (fun _ => false) L3b q (sM1 w.params X os) = .done (.ok .next) (sM2 w.params X os)) (w.withFollow "special-get-raises" false)) (fun w X os q => by kernel_rfl) (fun w X os q => by kernel_rfl))
    (byRow2 "comprehension-iter-twice" (P := fun w => (fun w => ∀ (X : XX) (os : OsState) (q : Pos), evS w (fun _ => false) L3b q (sM1 w.params X os) = .done (.ok .next) (sM2 w.params X os)) (w.withFollow "special-get-raises" true)) (fun w X os q => by kernel_rfl) (fun w X os q => by kernel_rfl))
theorem pc3c : ∀ w : World, ∀ (X : XX) (os : OsState) (q : Pos), evS w (fun _ => false) L3c q (sM2 w.params X os) = .done (.ok .next) (s350 w.params X os) := fun w X os q => by kernel_rfl
theorem body_split : behindTheImports pw = L1 ++ ([stA 4] ++ ([stA 5] ++ ([stA 6] ++ ([stA 7] ++ ([stA 8] ++ (L2 ++ ([stA 11] ++ L3))))))) := by kernel_rfl
end Mine
end
section
-- Pre
open PySem PySem.W PySem.Calls PySem.Spec PyProof.Rows
set_option Elab.async false
set_option maxRecDepth 100000
set_option linter.all false
namespace Mine
local macro_rules | `(tactic| omega) => `(tactic| lia)

noncomputable def AllL (fx nx : List (Addr × Obj)) : Prop := ∀ p ∈ nx, p.2.cls = .type "list" ∨ p ∈ fx

structure Halt (P : Prop) : Prop where
  h : P
theorem halt_in {P : Prop} (h : Halt P) : P := h.h

section
variable {prog : Program} {w : World} {A : Around} {E : Value → Shared → Prop} {s : Shared} {env : Env} {h₀ : Heap} {x : Str} {body : List Stmt} {Q : Flow → Shared → Prop}

/-- a loop's turn ends: the state c' stands -/
noncomputable def KEnd {σ : Type} (fx : List (Addr × Obj)) (h₀ : Heap) (L : Addr) (Led : σ → List (Addr × Obj)) (ps : σ → List (Str × Value)) (x : Str) (stored : List Str) (m₀ : Str → Option Value) (P : σ → Prop) (own : List (Addr × Obj)) (s₁ s₂ : Shared) : Prop :=
  ∃ (c : σ) (h' : Heap) (tk : Nat) (m' : Str → Option Value) (news' : List (Addr × Obj)), s₂ = { s₁ with heap := h', toks := tk } ∧ Fr h₀ L h' m' ∧ News h₀ L h' news' ∧ (∀ p ∈ Led c, p ∈ news') ∧ (∀ p ∈ own, p ∈ news') ∧ AllL fx (Led c) ∧
    (∀ p ∈ ps c, m' p.1 = some p.2) ∧ (∀ z, z ≠ x → (∀ p ∈ ps c, z ≠ p.1) → stored.contains z = false → m' z = m₀ z) ∧ P c
noncomputable def KPost {σ : Type} (fx : List (Addr × Obj)) (h₀ : Heap) (L : Addr) (Led : σ → List (Addr × Obj)) (ps : σ → List (Str × Value)) (x : Str) (stored : List Str) (m₀ : Str → Option Value) (P : σ → Prop) (own : List (Addr × Obj)) (s₁ : Shared) (Q : Flow → Shared → Prop) (f : Flow) (s₂ : Shared) : Prop :=
  match f with
  | .ret v => Q (.ret v) s₂
  | .brk => Q .next s₂
  | _ => KEnd fx h₀ L Led ps x stored m₀ P own s₁ s₂

theorem loopJ {σ : Type} {I : Addr} {fp : List Addr} {n : Nat} {Pv : Nat → Value → Prop} {St : Nat → Heap → Prop} {m₀ : Str → Option Value} (Led : σ → List (Addr × Obj)) (ps : σ → List (Str × Value)) (stored : List Str) (P : Nat → σ → Prop) (c₀ : σ) (fx : List (Addr × Obj)) (hfI : ∀ p ∈ fx, p.1 ≠ I) (hN0 : ∀ p ∈ Led c₀, p.1 ≠ I)
    (W : Walks prog w A I fp [I] n Pv St) (hLf : env.locals ∉ fp) (hI : h₀.get? I = none) (hit : ∀ i h, St i h → ∃ o, h.get? I = some o ∧ o.cls ≠ .type "list") (hIf : I ∈ fp) (hst : St 0 s.heap)
    (F : Fr h₀ env.locals s.heap m₀) (N : News h₀ env.locals s.heap (Led c₀)) (hal : AllL fx (Led c₀)) (hk : ∀ p ∈ ps c₀, m₀ p.1 = some p.2) (hp : P 0 c₀)
    (turn : ∀ i v (c : σ) (u : Str → Option Value) h tk own, i < n → Pv i v → P i c → AllL fx (Led c) → (∀ b ∈ Led c, b.1 ≠ I) → (∀ p ∈ own, p.1 ∈ fp) →
      Fr h₀ env.locals h (fun y => if y = x then some v else kstB (fun z => if stored.contains z then u z else m₀ z) (ps c) y) → News h₀ env.locals h (Led c ++ own) →
      wpAny (model prog w) A (execs body env) (KPost fx h₀ env.locals Led ps x stored m₀ (P (i + 1)) own { s with heap := h, toks := tk } Q) E { s with heap := h, toks := tk })
    (done : ∀ (c : σ) (u : Str → Option Value) h tk, P n c → AllL fx (Led c) → Fr h₀ env.locals h (fun y => if y = x then u y else kstB (fun z => if stored.contains z then u z else m₀ z) (ps c) y) → News h₀ env.locals h (Led c) → Q .next { s with heap := h, toks := tk }) :
    LoopAtV prog w A h₀ env x body Q E (.ref I) s := by
  obtain ⟨oi, hoi, hci⟩ := hit 0 _ hst
  have off : ∀ {h : Heap} {nx own : List (Addr × Obj)} {i : Nat}, (∃ o, (I, o) ∈ own ∧ o.cls ≠ .type "list") → News h₀ env.locals h (own ++ nx) → AllL fx nx → ∀ p ∈ nx, p.1 ∉ [I] := by
    intro h nx own i ⟨o, ho, hc⟩ N' al p hp hm
    have e1 := (N' (I, o) (List.mem_append_left _ ho)).1
    have e2 := (N' p (List.mem_append_right _ hp)).1
    have e3 := List.mem_singleton.mp hm
    rw [e3] at e2
    rw [e1] at e2
    have : p.2 = o := (Option.some.inj e2).symm
    rcases al p hp with h1 | h1
    · exact hc (this ▸ h1)
    · exact hfI p h1 e3
  let J : Nat → (Str → Option Value) → List (Addr × Obj) → Prop := fun i m nx => ∃ c : σ, nx = Led c ∧ P i c ∧ AllL fx (Led c) ∧ (∀ p ∈ ps c, m p.1 = some p.2) ∧ (∀ z, z ≠ x → (∀ p ∈ ps c, z ≠ p.1) → stored.contains z = false → m z = m₀ z)
  refine ⟨I, fp, [I], n, Pv, St, m₀, Led c₀, J, rfl, W, hLf, ?_, ?_, hst, F, N, ⟨c₀, rfl, hp, hal, hk, fun _ _ _ _ => rfl⟩, ?_, ?_⟩
  · intro b hb
    rw [List.mem_singleton.mp hb]; exact hI
  · intro p hp' hm
    exact hN0 p hp' (List.mem_singleton.mp hm)
  · rintro i v m₁ news₁ s₁ own ⟨hh', tk', rfl⟩ hin hP ⟨c, rfl, hPc, hal', h1, h2⟩ hoff hown hownat hall hst' F₁ N₁
    have N₂ : News h₀ env.locals hh' (Led c ++ own) := fun p hp => N₁ p ((List.mem_append.mp hp).elim (fun h => List.mem_append.mpr (.inr h)) fun h => List.mem_append.mpr (.inl h))
    have hIo : ∃ o, (I, o) ∈ own ∧ o.cls ≠ .type "list" := by
      obtain ⟨o, ho, hc⟩ := hit _ _ hst'
      exact ⟨o, hall I hIf hI o ho, hc⟩
    refine wpAny_mono (turn i v c m₁ hh' tk' own hin hP hPc hal' (fun b hb e => hoff b hb (List.mem_singleton.mpr e)) hown (kst_fr h1 h2 F₁) N₂) (fun f s₂ p => ?_) fun _ _ e => e
    have fin : KEnd fx h₀ env.locals Led ps x stored m₀ (P (i + 1)) own { s with heap := hh', toks := tk' } s₂ → LoopStepU h₀ env.locals [I] own (J (i + 1)) { s with heap := hh', toks := tk' } .next s₂ := by
      rintro ⟨c', h', tk, m', news', e, F', N', hn, ho, hal2, hk', hr', hp'⟩
      have N3 : News h₀ env.locals h' (own ++ Led c') := fun p hp => N' p ((List.mem_append.mp hp).elim (ho p) (hn p))
      exact ⟨rfl, h', tk, m', Led c', e, F', N3, off (i := i) hIo N3 hal2, c', rfl, hp', hal2, hk', hr'⟩
    cases f with
    | ret v => exact .ret p
    | brk => exact .brk p
    | next => exact .next (fin p)
    | cont => exact .cont (fin p)
  · rintro h' tk m' news' F' N' _ ⟨c, rfl, hPc, hal', h1, h2⟩
    exact done c m' h' tk hPc hal' (kst_frOut h1 h2 F') N'

theorem ks_list {σ : Type} {l : Addr} {vs : Array Value} {m₀ : Str → Option Value} (Led : σ → List (Addr × Obj)) (ps : σ → List (Str × Value)) (stored : List Str) (P : Nat → σ → Prop) (c₀ : σ) (fx : List (Addr × Obj)) (hfx : ∀ p ∈ fx, p ∈ Led c₀)
    (hh : A.handled = none) (hls : s.heap.IsList l vs) (hLl : l ≠ env.locals) (F : Fr h₀ env.locals s.heap m₀) (N : News h₀ env.locals s.heap (Led c₀)) (hal : AllL fx (Led c₀)) (hk : ∀ p ∈ ps c₀, m₀ p.1 = some p.2) (hp : P 0 c₀)
    (turn : ∀ i v (c : σ) (u : Str → Option Value) h tk own, i < vs.size → vs[i]? = some v → P i c → AllL fx (Led c) → (∀ p ∈ own, p.1 ≠ l → ∀ b ∈ Led c, b.1 ≠ p.1) →
      Fr h₀ env.locals h (fun y => if y = x then some v else kstB (fun z => if stored.contains z then u z else m₀ z) (ps c) y) → News h₀ env.locals h (Led c ++ own) →
      wpAny (model prog w) A (execs body env) (KPost fx h₀ env.locals Led ps x stored m₀ (P (i + 1)) own { s with heap := h, toks := tk } Q) E { s with heap := h, toks := tk })
    (done : ∀ (c : σ) (u : Str → Option Value) h tk, P vs.size c → AllL fx (Led c) → Fr h₀ env.locals h (fun y => if y = x then u y else kstB (fun z => if stored.contains z then u z else m₀ z) (ps c) y) → News h₀ env.locals h (Led c) → Q .next { s with heap := h, toks := tk }) :
    wpAny (model prog w) A (pyIter (.ref l)) (fun it s₂ => LoopAtV prog w A h₀ env x body Q E it s₂) E s := by
  obtain ⟨ol, hol, _⟩ := id hls
  have hne : l ≠ s.heap.objs.size := Nat.ne_of_lt (Heap.lt_size hol)
  refine wpAny_pyIter_list hls ?_
  have W := Walks.list (prog := prog) (w := w) hh s.heap.objs.size l hne vs
  refine loopJ (s := { s with heap := s.heap.push { cls := .type "list_iterator", data := .fields #[.ref l, .int 0 0] } }) Led ps stored P c₀ fx (fun p hp => Nat.ne_of_lt (Heap.lt_size (N p (hfx p hp)).1)) (fun p hp => Nat.ne_of_lt (Heap.lt_size (N p hp).1)) W ?_ (next_is_new F) ?_ (.head _) ⟨⟨_, Heap.get?_push_size _ rfl, rfl, rfl⟩, hls.at fun o e => Heap.get?_push_of_some _ e⟩ (F.push _)
    (fun p hp => ⟨Heap.get?_push_of_some _ (N p hp).1, (N p hp).2⟩) hal hk hp (fun i v c u h tk own hi hv hP hal' hI ho F' N' => turn i v c u h tk own hi hv hP hal' (fun p hp hl b hb e => by rcases List.mem_cons.mp (ho p hp) with h1 | h1; exact hI b hb (e.trans h1); exact hl (List.mem_singleton.mp h1)) F' N') done
  · intro hm
    rcases List.mem_cons.mp hm with e | hm
    · exact absurd F.ns.lt (e ▸ Nat.lt_irrefl _)
    · exact hLl (List.mem_singleton.mp hm).symm
  · rintro i h ⟨⟨o, ho, hc, _⟩, _⟩
    exact ⟨o, ho, by rw [hc]; exact fun e => by injection e with e; exact absurd e (by decide)⟩

theorem ks_range {σ : Type} {r : Addr} {a₀ b₀ st : Int} {t₀ u₀ v₀ : Tok} {n : Nat} {m₀ : Str → Option Value} (Led : σ → List (Addr × Obj)) (ps : σ → List (Str × Value)) (stored : List Str) (P : Nat → σ → Prop) (c₀ : σ) (fx : List (Addr × Obj)) (hfx : ∀ p ∈ fx, p ∈ Led c₀)
    (hh : A.handled = none) (hr : IsRange s.heap r a₀ b₀ st t₀ u₀ v₀) (hsmall : Builtin.Range.small a₀ b₀ st = true) (hn : Builtin.Range.rangeSize a₀ b₀ st = (n : Int)) (F : Fr h₀ env.locals s.heap m₀) (N : News h₀ env.locals s.heap (Led c₀)) (hal : AllL fx (Led c₀)) (hk : ∀ p ∈ ps c₀, m₀ p.1 = some p.2) (hp : P 0 c₀)
    (turn : ∀ (i : Nat) t (c : σ) (u : Str → Option Value) h tk own, i < n → P i c → AllL fx (Led c) → (∀ p ∈ own, ∀ b ∈ Led c, b.1 ≠ p.1) →
      Fr h₀ env.locals h (fun y => if y = x then some (.int (a₀ + i * st) t) else kstB (fun z => if stored.contains z then u z else m₀ z) (ps c) y) → News h₀ env.locals h (Led c ++ own) →
      wpAny (model prog w) A (execs body env) (KPost fx h₀ env.locals Led ps x stored m₀ (P (i + 1)) own { s with heap := h, toks := tk } Q) E { s with heap := h, toks := tk })
    (done : ∀ (c : σ) (u : Str → Option Value) h tk, P n c → AllL fx (Led c) → Fr h₀ env.locals h (fun y => if y = x then u y else kstB (fun z => if stored.contains z then u z else m₀ z) (ps c) y) → News h₀ env.locals h (Led c) → Q .next { s with heap := h, toks := tk }) :
    wpAny (model prog w) A (pyIter (.ref r)) (fun it s₂ => LoopAtV prog w A h₀ env x body Q E it s₂) E s := by
  refine wpAny_pyIter_range hr hsmall ?_
  have W := Walks.range (prog := prog) (w := w) hh s.heap.objs.size a₀ st n
  refine loopJ (s := { s with heap := s.heap.push { cls := .type "range_iterator", data := .fields #[rawInt a₀, rawInt (Builtin.Range.rangeSize a₀ b₀ st), rawInt st] } }) Led ps stored P c₀ fx (fun p hp => Nat.ne_of_lt (Heap.lt_size (N p (hfx p hp)).1)) (fun p hp => Nat.ne_of_lt (Heap.lt_size (N p hp).1)) W ?_ (next_is_new F) ?_ (.head _) ?_ (F.push _)
    (fun p hp => ⟨Heap.get?_push_of_some _ (N p hp).1, (N p hp).2⟩) hal hk hp (fun i v c u h tk own hi ⟨t, e⟩ hP hal' hI ho F' N' => by subst e; exact turn i t c u h tk own hi hP hal' (fun p hp b hb e => hI b hb (e.trans (List.mem_singleton.mp (ho p hp)))) F' N') done
  · intro hm
    exact absurd F.ns.lt ((List.mem_singleton.mp hm) ▸ Nat.lt_irrefl _)
  · rintro i h hst
    exact ⟨_, hst, fun e => by injection e with e; exact absurd e (by decide)⟩
  · show IsRangeIter _ _ _ _ _
    rw [hn]
    simpa using Heap.get?_push_size _ rfl

theorem kend {σ : Type} {fx : List (Addr × Obj)} {L : Addr} {Led : σ → List (Addr × Obj)} {ps : σ → List (Str × Value)} {stored : List Str} {m₀ : Str → Option Value} {P : σ → Prop} {own : List (Addr × Obj)} {s₁ : Shared} {h' : Heap} {tk : Nat} {m' : Str → Option Value} {news' : List (Addr × Obj)} (c : σ)
    (F : Fr h₀ L h' m') (N : News h₀ L h' news') (hn : ∀ p ∈ Led c, p ∈ news') (ho : ∀ p ∈ own, p ∈ news') (ha : AllL fx (Led c)) (hk : ∀ p ∈ ps c, m' p.1 = some p.2) (hr : ∀ z, z ≠ x → (∀ p ∈ ps c, z ≠ p.1) → stored.contains z = false → m' z = m₀ z) (hp : P c) :
    KEnd fx h₀ L Led ps x stored m₀ P own s₁ { s₁ with heap := h', toks := tk } := ⟨c, h', tk, m', news', rfl, F, N, hn, ho, ha, hk, hr, hp⟩

theorem AllL.fx {fx : List (Addr × Obj)} : AllL fx fx := fun p hp => .inr hp
theorem AllL.cons {fx nx : List (Addr × Obj)} {a : Addr} {its : Array Value} {n : Nat} (h : AllL fx nx) : AllL fx ((a, listOf its n) :: nx) := fun p hp => by
  rcases List.mem_cons.mp hp with rfl | hp
  · exact .inl rfl
  · exact h p hp
end

noncomputable def num4 (l : List Int) : Int := l.foldl (fun a v => a * 64 + v) 0
noncomputable def oct3 (n : Int) : List Int := [n / 65536, n / 256 % 256, n % 256]
noncomputable def octPre (ns : List Int) (i : Nat) : List Int := (List.range i).flatMap fun j => oct3 (num4 ((ns.drop (4 * j)).take 4))
theorem num4_next {l : List Int} {j : Nat} {x : Int} (h : l[j]? = some x) : num4 (l.take (j + 1)) = num4 (l.take j) * 64 + x := by
  rw [List.take_add_one, h]
  unfold num4
  rw [List.foldl_append]
  rfl
theorem oct_len (ns : List Int) (i : Nat) : (octPre ns i).length = 3 * i := by
  unfold octPre
  induction i with
  | zero => rfl
  | succ i ih => rw [List.range_succ, List.flatMap_append, List.length_append, ih]; simp [oct3]; omega
theorem num4_bd : ∀ (l : List Int) (a : Int) (k : Nat), (∀ v ∈ l, 0 ≤ v ∧ v < 64) → 0 ≤ a → a < 64 ^ k → 0 ≤ l.foldl (fun a v => a * 64 + v) a ∧ l.foldl (fun a v => a * 64 + v) a < 64 ^ (k + l.length)
  | [], a, k, _, h0, h1 => ⟨h0, by simpa using h1⟩
  | v :: l, a, k, h, h0, h1 => by
    have hv := h v (.head _)
    have h64 : (64 : Int) ^ (k + 1) = 64 ^ k * 64 := Int.pow_succ ..
    have := num4_bd l (a * 64 + v) (k + 1) (fun x hx => h x (.tail _ hx)) (by omega) (by rw [h64]; omega)
    rw [List.foldl_cons, List.length_cons, show k + (l.length + 1) = k + 1 + l.length from by omega]
    exact this
theorem oct_in {ns : List Int} (h : ∀ v ∈ ns, 0 ≤ v ∧ v < 64) (i : Nat) : W.KBa.In (octPre ns i) := by
  intro n hn
  unfold octPre at hn
  obtain ⟨j, _, hn⟩ := List.mem_flatMap.mp hn
  have hb := num4_bd ((ns.drop (4 * j)).take 4) 0 0 (fun v hv => h v (List.mem_of_mem_drop (List.mem_of_mem_take hv))) (by decide) (by decide)
  have hl : ((ns.drop (4 * j)).take 4).length ≤ 4 := List.length_take_le ..
  have hp : ∀ m : Nat, m ≤ 4 → (64 : Int) ^ (0 + m) ≤ 16777216
    | 0, _ => by decide
    | 1, _ => by decide
    | 2, _ => by decide
    | 3, _ => by decide
    | 4, _ => by decide
    | m + 5, h => absurd h (by omega)
  have hp := hp _ hl
  unfold num4 at hn
  generalize (64 : Int) ^ (0 + ((ns.drop (4 * j)).take 4).length) = y at hb hp
  generalize ((ns.drop (4 * j)).take 4).foldl (fun a v => a * 64 + v) 0 = x at hb hn
  simp only [oct3, List.mem_cons, List.not_mem_nil, or_false] at hn
  have := hb.2
  rcases hn with rfl | rfl | rfl <;> omega
theorem allLt_mem {d : Nat} {l : List (Addr × Obj)} (h : AllLt d l) : ∀ p ∈ l, p.1 < d := by
  induction l with
  | nil => intro p hp; cases hp
  | cons q r ih =>
    intro p hp
    rcases List.mem_cons.mp hp with rfl | hp
    · exact h.1
    · exact ih h.2 p hp
theorem room_ext {its its2 : Array Value} (h : its.size + its2.size ≤ 10000) : ¬(!its.isEmpty && Builtin.List.listTooLong (its.size + its2.size)) = true := by
  have : Builtin.List.listTooLong (its.size + its2.size) = false := by
    unfold Builtin.List.listTooLong
    exact decide_eq_false (by rw [sizeLine_eq]; omega)
  rw [this, Bool.and_false]
  exact Bool.false_ne_true
theorem cnt4 (n : Nat) : Builtin.Range.rangeSize 0 (n : Int) 4 = (((n + 3) / 4 : Nat) : Int) := by
  unfold Builtin.Range.rangeSize
  rw [if_pos (by decide)]
  split <;> omega
theorem fits_long {i : Int} (h0 : -100000 ≤ i) (h1 : i ≤ 100000) : Builtin.Range.rangeFitsLong i = true := by
  unfold Builtin.Range.rangeFitsLong
  simp only [Bool.and_eq_true, decide_eq_true_eq]
  omega
theorem small4 {n : Nat} (h : n < 1000) : Builtin.Range.small 0 (n : Int) 4 = true := by
  unfold Builtin.Range.small
  rw [cnt4, fits_long (by decide) (by decide), fits_long (by omega) (by omega), fits_long (by decide) (by decide), fits_long (i := (((n + 3) / 4 : Nat) : Int)) (by omega) (by omega), if_pos (by decide), fits_long (by omega) (by omega)]
  simp
theorem sl4 (ns : List Int) (i : Nat) : List.take (min (0 + (i : Int) * 4 + 4).toNat ns.length - (0 + (i : Int) * 4).toNat) (List.drop (0 + (i : Int) * 4).toNat ns) = (ns.drop (4 * i)).take 4 := by
  have e : (0 + (i : Int) * 4).toNat = 4 * i := by omega
  have e2 : (0 + (i : Int) * 4 + 4).toNat = 4 * i + 4 := by omega
  rw [e, e2]
  apply List.take_eq_take_iff.mpr
  rw [List.length_drop, ← Nat.sub_min_sub_right, Nat.add_sub_cancel_left, Nat.min_assoc, Nat.min_self]
theorem int_at {vs : List Value} {ns : List Int} {j : Nat} {v : Value} (hi : IntsAre vs ns) (hv : vs.toArray[j]? = some v) : ∃ x t, v = .int x t ∧ ns[j]? = some x := by
  have hv' : vs[j]? = some v := by simpa using hv
  have hj : j < ns.length := by rw [← hi.length]; exact (List.getElem?_eq_some_iff.mp hv').1
  obtain ⟨t, hx⟩ := hi.get j ns[j] (by simp [hj])
  rw [hx] at hv'
  exact ⟨ns[j], t, (Option.some.inj hv').symm, by simp [hj]⟩
end Mine
end
section
-- Loop6
open PySem PySem.W PySem.Calls PySem.Spec PyProof.Rows
set_option Elab.async false
set_option maxRecDepth 100000
set_option linter.all false
namespace Mine
section
variable {prog : Program} {w : World} {A : Around} {E : Value → Shared → Prop} {s : Shared} {env : Env} {h₀ : Heap} {x : Str} {body : List Stmt} {Q : Flow → Shared → Prop}
noncomputable abbrev rangeIt (a b c : Int) : Obj := { cls := .type "range_iterator", data := .fields #[rawInt a, rawInt b, rawInt c] }
/-- none of the ledger is an iterator of a range -/
noncomputable def AllR (nx : List (Addr × Obj)) : Prop := ∀ p ∈ nx, ∀ a b c, p.2 ≠ rangeIt a b c
theorem AllR.cons {p : Addr × Obj} {l : List (Addr × Obj)} (h1 : ∀ a b c, p.2 ≠ rangeIt a b c) (h2 : AllR l) : AllR (p :: l) := fun q hq => by
  rcases List.mem_cons.mp hq with rfl | hq
  · exact h1
  · exact h2 q hq
theorem AllR.append {l r : List (Addr × Obj)} (h1 : AllR l) (h2 : AllR r) : AllR (l ++ r) := fun q hq => (List.mem_append.mp hq).elim (h1 q) (h2 q)
noncomputable def REnd {σ : Type} (h₀ : Heap) (L : Addr) (Led : σ → List (Addr × Obj)) (ps : σ → List (Str × Value)) (x : Str) (stored : List Str) (m₀ : Str → Option Value) (P : σ → Prop) (own : List (Addr × Obj)) (s₁ s₂ : Shared) : Prop :=
  ∃ (c : σ) (h' : Heap) (tk : Nat) (m' : Str → Option Value) (news' : List (Addr × Obj)), s₂ = { s₁ with heap := h', toks := tk } ∧ Fr h₀ L h' m' ∧ News h₀ L h' news' ∧ (∀ p ∈ Led c, p ∈ news') ∧ (∀ p ∈ own, p ∈ news') ∧ AllR (Led c) ∧
    (∀ p ∈ ps c, m' p.1 = some p.2) ∧ (∀ z, z ≠ x → (∀ p ∈ ps c, z ≠ p.1) → stored.contains z = false → m' z = m₀ z) ∧ P c
noncomputable def RPost {σ : Type} (h₀ : Heap) (L : Addr) (Led : σ → List (Addr × Obj)) (ps : σ → List (Str × Value)) (x : Str) (stored : List Str) (m₀ : Str → Option Value) (P : σ → Prop) (own : List (Addr × Obj)) (s₁ : Shared) (Q : Flow → Shared → Prop) (f : Flow) (s₂ : Shared) : Prop :=
  match f with
  | .ret v => Q (.ret v) s₂
  | .brk => Q .next s₂
  | _ => REnd h₀ L Led ps x stored m₀ P own s₁ s₂
theorem rend {σ : Type} {L : Addr} {Led : σ → List (Addr × Obj)} {ps : σ → List (Str × Value)} {stored : List Str} {m₀ : Str → Option Value} {P : σ → Prop} {own : List (Addr × Obj)} {s₁ : Shared} {h' : Heap} {tk : Nat} {m' : Str → Option Value} {news' : List (Addr × Obj)} (c : σ)
    (F : Fr h₀ L h' m') (N : News h₀ L h' news') (hn : ∀ p ∈ Led c, p ∈ news') (ho : ∀ p ∈ own, p ∈ news') (ha : AllR (Led c)) (hk : ∀ p ∈ ps c, m' p.1 = some p.2) (hr : ∀ z, z ≠ x → (∀ p ∈ ps c, z ≠ p.1) → stored.contains z = false → m' z = m₀ z) (hp : P c) :
    REnd h₀ L Led ps x stored m₀ P own s₁ { s₁ with heap := h', toks := tk } := ⟨c, h', tk, m', news', rfl, F, N, hn, ho, ha, hk, hr, hp⟩
/-- `for x in range(..)` where the ledger may hold what is no list -/
theorem ks_rangeR {σ : Type} {r : Addr} {a₀ b₀ st : Int} {t₀ u₀ v₀ : Tok} {n : Nat} {m₀ : Str → Option Value} (Led : σ → List (Addr × Obj)) (ps : σ → List (Str × Value)) (stored : List Str) (P : Nat → σ → Prop) (c₀ : σ)
    (hh : A.handled = none) (hr : IsRange s.heap r a₀ b₀ st t₀ u₀ v₀) (hsmall : Builtin.Range.small a₀ b₀ st = true) (hn : Builtin.Range.rangeSize a₀ b₀ st = (n : Int)) (F : Fr h₀ env.locals s.heap m₀) (N : News h₀ env.locals s.heap (Led c₀)) (hal : AllR (Led c₀)) (hk : ∀ p ∈ ps c₀, m₀ p.1 = some p.2) (hp : P 0 c₀)
    (turn : ∀ (i : Nat) t (c : σ) (u : Str → Option Value) h tk own, i < n → P i c → AllR (Led c) → (∀ p ∈ own, ∀ b ∈ Led c, b.1 ≠ p.1) →
      Fr h₀ env.locals h (fun y => if y = x then some (.int (a₀ + i * st) t) else kstB (fun z => if stored.contains z then u z else m₀ z) (ps c) y) → News h₀ env.locals h (Led c ++ own) →
      wpAny (model prog w) A (execs body env) (RPost h₀ env.locals Led ps x stored m₀ (P (i + 1)) own { s with heap := h, toks := tk } Q) E { s with heap := h, toks := tk })
    (done : ∀ (c : σ) (u : Str → Option Value) h tk, P n c → AllR (Led c) → Fr h₀ env.locals h (fun y => if y = x then u y else kstB (fun z => if stored.contains z then u z else m₀ z) (ps c) y) → News h₀ env.locals h (Led c) → Q .next { s with heap := h, toks := tk }) :
    wpAny (model prog w) A (pyIter (.ref r)) (fun it s₂ => LoopAtV prog w A h₀ env x body Q E it s₂) E s := by
  refine wpAny_pyIter_range hr hsmall ?_
  have W := Walks.range (prog := prog) (w := w) hh s.heap.objs.size a₀ st n
  have hI : h₀.get? s.heap.objs.size = none := next_is_new F
  have hN0 : ∀ p ∈ Led c₀, p.1 ≠ s.heap.objs.size := fun p hp => Nat.ne_of_lt (Heap.lt_size (N p hp).1)
  have hLI : env.locals ∉ [s.heap.objs.size] := fun hm => absurd F.ns.lt ((List.mem_singleton.mp hm) ▸ Nat.lt_irrefl _)
  have off : ∀ {i : Nat} {h : Heap} {nx own : List (Addr × Obj)}, IsRangeIter h s.heap.objs.size (a₀ + (i : Nat) * st) ((n : Int) - (i : Nat)) st → News h₀ env.locals h (own ++ nx) → AllR nx → ∀ p ∈ nx, p.1 ∉ [s.heap.objs.size] := by
    intro i h nx own hst N' al p hp hm
    have e1 : h.get? s.heap.objs.size = some _ := hst
    have e2 := (N' p (List.mem_append_right _ hp)).1
    rw [List.mem_singleton.mp hm, e1] at e2
    exact al p hp _ _ _ (Option.some.inj e2).symm
  let J : Nat → (Str → Option Value) → List (Addr × Obj) → Prop := fun i m nx => ∃ c : σ, nx = Led c ∧ P i c ∧ AllR (Led c) ∧ (∀ p ∈ ps c, m p.1 = some p.2) ∧ (∀ z, z ≠ x → (∀ p ∈ ps c, z ≠ p.1) → stored.contains z = false → m z = m₀ z)
  refine ⟨_, _, [s.heap.objs.size], n, _, _, m₀, Led c₀, J, rfl, W, hLI, ?_, ?_, ?_, F.push _, fun p hp => ⟨Heap.get?_push_of_some _ (N p hp).1, (N p hp).2⟩, ⟨c₀, rfl, hp, hal, hk, fun _ _ _ _ => rfl⟩, ?_, ?_⟩
  · intro b hb
    rw [List.mem_singleton.mp hb]; exact hI
  · intro p hp' hm
    exact hN0 p hp' (List.mem_singleton.mp hm)
  · show IsRangeIter _ _ _ _ _
    rw [hn]
    simpa using Heap.get?_push_size _ rfl
  · rintro i v m₁ news₁ s₁ own ⟨hh', tk', rfl⟩ hin ⟨t, e⟩ ⟨c, rfl, hPc, hal', h1, h2⟩ hoff hown hownat hall hst' F₁ N₁
    subst e
    have N₂ : News h₀ env.locals hh' (Led c ++ own) := fun p hp => N₁ p ((List.mem_append.mp hp).elim (fun h => List.mem_append.mpr (.inr h)) fun h => List.mem_append.mpr (.inl h))
    have hIo : ∃ a b c, (s.heap.objs.size, rangeIt a b c) ∈ own := ⟨_, _, _, hall _ (.head _) hI _ hst'⟩
    refine wpAny_mono (turn i t c m₁ hh' tk' own hin hPc hal' (fun p hp b hb e => hoff b hb (e ▸ hown p hp)) (kst_fr h1 h2 F₁) N₂) (fun f s₂ p => ?_) fun _ _ e => e
    have fin : REnd h₀ env.locals Led ps x stored m₀ (P (i + 1)) own { s with heap := hh', toks := tk' } s₂ → LoopStepU h₀ env.locals [s.heap.objs.size] own (J (i + 1)) { s with heap := hh', toks := tk' } .next s₂ := by
      rintro ⟨c', h', tk, m', news', e, F', N', hn, ho, hal2, hk', hr', hp'⟩
      have N3 : News h₀ env.locals h' (own ++ Led c') := fun p hp => N' p ((List.mem_append.mp hp).elim (ho p) (hn p))
      refine ⟨rfl, h', tk, m', Led c', e, F', N3, ?_, c', rfl, hp', hal2, hk', hr'⟩
      intro p hp hm
      obtain ⟨a, b, d, hIo⟩ := hIo
      have e1 := (N3 _ (List.mem_append_left _ hIo)).1
      have e2 := (N3 p (List.mem_append_right _ hp)).1
      rw [List.mem_singleton.mp hm, e1] at e2
      exact hal2 p hp _ _ _ (Option.some.inj e2).symm
    cases f with
    | ret v => exact .ret p
    | brk => exact .brk p
    | next => exact .next (fin p)
    | cont => exact .cont (fin p)
  · rintro h' tk m' news' F' N' _ ⟨c, rfl, hPc, hal', h1, h2⟩
    exact done c m' h' tk hPc hal' (kst_frOut h1 h2 F') N'
end
end Mine
end
section
-- Pre2
open PySem PySem.W PySem.Calls PySem.Spec PyProof.Rows
set_option Elab.async false
set_option maxRecDepth 100000
set_option linter.all false
namespace Mine
section
variable {prog : Program} {w : World} {A : Around} {E : Value → Shared → Prop} {s : Shared} {env : Env} {h₀ : Heap} {x : Str} {body : List Stmt} {Q : Flow → Shared → Prop}
theorem ks_bytes {σ : Type} {b : Array UInt8} {tb : Tok} {m₀ : Str → Option Value} (Led : σ → List (Addr × Obj)) (ps : σ → List (Str × Value)) (stored : List Str) (P : Nat → σ → Prop) (c₀ : σ) (fx : List (Addr × Obj)) (hfx : ∀ p ∈ fx, p ∈ Led c₀)
    (hh : A.handled = none) (F : Fr h₀ env.locals s.heap m₀) (N : News h₀ env.locals s.heap (Led c₀)) (hal : AllL fx (Led c₀)) (hk : ∀ p ∈ ps c₀, m₀ p.1 = some p.2) (hp : P 0 c₀)
    (turn : ∀ i k t (c : σ) (u : Str → Option Value) h tk own, (W.KBw.bInts b)[i]? = some k → 0 ≤ k → k < 256 → P i c → AllL fx (Led c) → (∀ p ∈ own, ∀ b ∈ Led c, b.1 ≠ p.1) →
      Fr h₀ env.locals h (fun y => if y = x then some (.int k t) else kstB (fun z => if stored.contains z then u z else m₀ z) (ps c) y) → News h₀ env.locals h (Led c ++ own) →
      wpAny (model prog w) A (execs body env) (KPost fx h₀ env.locals Led ps x stored m₀ (P (i + 1)) own { s with heap := h, toks := tk } Q) E { s with heap := h, toks := tk })
    (done : ∀ (c : σ) (u : Str → Option Value) h tk, P b.size c → AllL fx (Led c) → Fr h₀ env.locals h (fun y => if y = x then u y else kstB (fun z => if stored.contains z then u z else m₀ z) (ps c) y) → News h₀ env.locals h (Led c) → Q .next { s with heap := h, toks := tk }) :
    wpAny (model prog w) A (pyIter (.bytes b tb)) (fun it s₂ => LoopAtV prog w A h₀ env x body Q E it s₂) E s := by
  refine W.KBw.pyIter_bytes ?_
  have Wk := PySem.W.KBw.walks (prog := prog) (w := w) hh s.heap.objs.size b tb
  refine loopJ (s := { s with heap := s.heap.push { cls := .type "bytes_iterator", data := .fields #[.bytes b tb, .int 0 0] } }) Led ps stored P c₀ fx (fun p hp => Nat.ne_of_lt (Heap.lt_size (N p (hfx p hp)).1)) (fun p hp => Nat.ne_of_lt (Heap.lt_size (N p hp).1)) Wk ?_ (next_is_new F) ?_ (.head _) ⟨_, Heap.get?_push_size _ rfl, rfl, rfl⟩ (F.push _)
    (fun p hp => ⟨Heap.get?_push_of_some _ (N p hp).1, (N p hp).2⟩) hal hk hp (fun i v c u h tk own hi ⟨cc, t, hc, e⟩ hP hal' hI ho F' N' => by
      subst e
      have e := W.KBw.ints_get hc
      have hb := W.KBw.ints_in (b := b) (List.mem_of_getElem? e)
      exact turn i _ t c u h tk own e hb.1 hb.2 hP hal' (fun p hp b hb e => hI b hb (e.trans (List.mem_singleton.mp (ho p hp)))) F' N') done
  · intro hm
    exact absurd F.ns.lt ((List.mem_singleton.mp hm) ▸ Nat.lt_irrefl _)
  · rintro i h ⟨o, ho, hc, _⟩
    exact ⟨o, ho, by rw [hc]; exact fun e => by injection e with e; exact absurd e (by decide)⟩
end
end Mine
end
section
-- Bits
open PySem PySem.W PySem.Calls PySem.Spec PyProof.Rows
set_option Elab.async false
set_option maxRecDepth 100000
set_option linter.all false
namespace Mine
local macro_rules | `(tactic| omega) => `(tactic| lia)
theorem bnot_bnot (x : Int) : Builtin.bitNot (Builtin.bitNot x) = x := by
  rw [W.kbt_not, W.kbt_not]; omega
theorem bor_nat {x y : Int} (hx : 0 ≤ x) (hy : 0 ≤ y) : Builtin.bitOr x y = ((x.toNat ||| y.toNat : Nat) : Int) := by
  unfold Builtin.bitOr Builtin.bitAnd
  have h1 : decide (0 ≤ Builtin.bitNot x) = false := decide_eq_false (by rw [W.kbt_not]; omega)
  have h2 : decide (0 ≤ Builtin.bitNot y) = false := decide_eq_false (by rw [W.kbt_not]; omega)
  rw [h1, h2]
  dsimp only
  rw [bnot_bnot, bnot_bnot, bnot_bnot]
theorem bor_shift {a b : Int} (k : Nat) (ha : 0 ≤ a) (hb0 : 0 ≤ b) (hb : b < 2 ^ k) : Builtin.bitOr (a * 2 ^ k) b = a * 2 ^ k + b := by
  obtain ⟨n, rfl⟩ := Int.eq_ofNat_of_zero_le ha
  obtain ⟨m, rfl⟩ := Int.eq_ofNat_of_zero_le hb0
  have e : ((n : Int) * 2 ^ k) = ((2 ^ k * n : Nat) : Int) := by push_cast; rw [Int.mul_comm]
  have hm : m < 2 ^ k := by exact_mod_cast hb
  rw [e, bor_nat (Int.natCast_nonneg _) (Int.natCast_nonneg _), Int.toNat_natCast, Int.toNat_natCast, ← Nat.two_pow_add_eq_or_of_lt hm]
  push_cast
  rfl
theorem room {n : Nat} (h : n ≤ 10000) : n ≤ sizeLine := by rw [sizeLine_eq]; omega
theorem off_head {lo : Addr} {news own : List (Addr × Obj)} {o : Obj} (h1 : ∀ p ∈ news, p.1 < lo) (h2 : ∀ p ∈ own, ∀ b ∈ (lo, o) :: news, b.1 ≠ p.1) : ∀ p ∈ news ++ own, p.1 ≠ lo := fun p hp => by
  rcases List.mem_append.mp hp with hp | hp
  · exact Nat.ne_of_lt (h1 p hp)
  · exact fun e => h2 p hp _ (.head _) e.symm
end Mine
end
section
-- BTrans
open PySem PySem.W PySem.Calls PySem.Spec PyProof.Rows
set_option Elab.async false
set_option maxRecDepth 100000
set_option linter.all false
namespace Mine
theorem slot_bytes_translate : Slot "bytes" "translate" "bytes.translate" :=
  .of (owner := "bytes") (n := "translate") (by rw [typeLookup_type, builtinLookup_eq_fast]; kernel_rfl) (by decide +kernel) (by decide +kernel) (by decide +kernel)
    (by first | exact .inl (by decide +kernel) | exact .inr (by decide +kernel)) (by rw [isSubtype_type]; kernel_rfl)
theorem type_bytes_translate : typeOf (.builtin "bytes.translate") = pure (.type "method_descriptor") := by show builtinType _ = _; rw [builtinType_eq_fast]; kernel_rfl
theorem entry_bytes_translate : entryFor table "bytes.translate" = some Builtin.«bytes.translate» := by first | exact entryFor_of_fast (by kernel_rfl) | exact entryFor_of_tree (by kernel_rfl)
theorem args_bytes_translate (a b : Value) : argsOk "bytes.translate" ⟨[a, b], []⟩ := by unfold argsOk; kernel_rfl
theorem entry_bytes_maketrans : entryFor table "bytes.maketrans" = some Builtin.«bytes.maketrans» := by first | exact entryFor_of_fast (by kernel_rfl) | exact entryFor_of_tree (by kernel_rfl)
theorem plain_bytes_maketrans : plainId "bytes.maketrans" = true := by decide +kernel
theorem check_bytes_maketrans (a b : Value) : checkBuiltinCall "bytes.maketrans" ⟨[a, b], []⟩ = pure () := by kernel_rfl
noncomputable def mkTab (a b : Array UInt8) : Array UInt8 := (a.toList.zip b.toList).foldl (fun t (f, x) => t.setIfInBounds f.toNat x) ((Array.range 256).map (·.toUInt8))
theorem tab_size (l : List (UInt8 × UInt8)) : ∀ t : Array UInt8, (l.foldl (fun t (f, x) => t.setIfInBounds f.toNat x) t).size = t.size := by
  induction l with
  | nil => intro t; rfl
  | cons p l ih => intro t; rw [List.foldl_cons, ih]; simp
theorem mkTab_size (a b : Array UInt8) : (mkTab a b).size = 256 := by unfold mkTab; rw [tab_size]; simp
theorem tab_id (c : UInt8) : ((Array.range 256).map (·.toUInt8)).getD c.toNat c = c := by
  have h := c.toNat_lt
  simp [Array.getD, h]
theorem tab_set (t : Array UInt8) (f x c : UInt8) (h : t.size = 256) : (t.setIfInBounds f.toNat x).getD c.toNat c = if c = f then x else t.getD c.toNat c := by
  have h1 := c.toNat_lt
  have h2 := f.toNat_lt
  have e : (c.toNat = f.toNat) ↔ c = f := ⟨fun e => UInt8.toNat_inj.mp e, fun e => e ▸ rfl⟩
  simp only [Array.getD, Array.size_setIfInBounds, h]
  rw [dif_pos h1, dif_pos h1]
  rw [Array.getInternal_eq_getElem, Array.getInternal_eq_getElem, Array.getElem_setIfInBounds]
  by_cases hc : c = f
  · rw [if_pos hc, if_pos (e.mpr hc).symm]
  · rw [if_neg hc, if_neg fun q => hc (e.mp q.symm)]
theorem tab_two (f0 f1 x0 x1 c : UInt8) : (mkTab #[f0, f1] #[x0, x1]).getD c.toNat c = if c = f1 then x1 else if c = f0 then x0 else c := by
  show (((((Array.range 256).map (·.toUInt8)).setIfInBounds f0.toNat x0).setIfInBounds f1.toNat x1)).getD c.toNat c = _
  rw [tab_set _ _ _ _ (by simp), tab_set _ _ _ _ (by simp), tab_id]
section
variable {prog : Program} {w : World} {M : Model} {A : Around} {E : Value → Shared → Prop} {s : Shared} {a b t : Array UInt8} {ta tb tt : Tok} {Q : Value → Shared → Prop}
theorem method_translate {pl : Sem Bool} {Q : Value × List Value → Shared → Prop} (h : Q (.builtin "bytes.translate", [.bytes b tb]) s) : wpAny M A (getMethod (.bytes b tb) "translate" pl) Q E s := by
  with_reducible exact W.KBd.method_of (.bytes b tb) (typeIs_bytes _ _ _) slot_bytes_translate type_bytes_translate W.KBd.noRef h
theorem call_maketrans (hs : a.size = b.size) (h : ∀ t' k, Q (.bytes (mkTab a b) t') { s with toks := k }) : wpAny (model prog w) A (call (.builtin "bytes.maketrans") [.bytes a ta, .bytes b tb]) Q E s := by
  refine wpAny_call (codeAny_call_builtin plain_bytes_maketrans entry_bytes_maketrans ?_)
  refine wpAny_of_eq (check_bytes_maketrans _ _) ?_
  unfold Builtin.«bytes.maketrans» Builtin.Bytes.maketransM
  refine wpAny_bind (wpAny_of_eq (a := ()) (by kernel_rfl) ?_)
  refine wpAny_bind (wpAny_of_eq (a := ()) (by kernel_rfl) ?_)
  refine wpAny_bind (wpAny_of_eq W.KBd.like_eq ?_)
  refine wpAny_bind (wpAny_of_eq W.KBd.like_eq ?_)
  refine bm_if_false (by simp [hs]) ?_
  refine wpAny_bind (wpAny_mkBytes ?_ (by show (mkTab a b).size ≤ sizeLine; rw [mkTab_size]; decide))
  exact wpAny_pure (h _ _)
theorem call_translate (ht : t.size = 256) (hz : b.size ≤ 10000) (h : ∀ t' k, Q (.bytes (b.map fun c => t.getD c.toNat c) t') { s with toks := k }) : wpAny (model prog w) A (call (.builtin "bytes.translate") [.bytes b tb, .bytes t tt]) Q E s := by
  refine wpAny_call_entry slot_bytes_translate (typeIs_bytes _ _ _) entry_bytes_translate ?_ (args_bytes_translate _ _)
  unfold Builtin.«bytes.translate» Builtin.Bytes.translateM
  show wpAny _ _ (Builtin.Bytes.bytesLike _ (.bytes t tt) >>= _) _ _ s
  refine wpAny_bind (wpAny_of_eq W.KBd.like_eq ?_)
  refine bm_if_false (by simp [ht]) ?_
  refine wpAny_bind (wpAny_pure ?_)
  refine wpAny_bind (wpAny_pure ?_)
  refine wpAny_bind (wpAny_of_eq (a := b) rfl ?_)
  have e : (b.filter (!(#[] : Array UInt8).contains ·)) = b := by
    apply Array.toList_inj.mp
    simp
  rw [e]
  show wpAny _ _ (if (b.map (fun c => t.getD c.toNat c) == b) = true then _ else _) _ _ _
  split
  · rename_i eq
    have eq' : b.map (fun c => t.getD c.toNat c) = b := eq_of_beq eq
    rw [eq'] at h
    refine wpAny_bind (wpAny_rule ?_)
    refine wpAny_bind (wpAny_of_eq (a := .bytes b tb) (by kernel_rfl) ?_)
    exact wpAny_pure ⟨_, rfl, h _ _⟩
  · show wpAny _ _ (mkBytes _ >>= _) _ _ _
    refine wpAny_bind (wpAny_mkBytes ?_ (by rw [Array.size_map]; exact room hz))
    exact wpAny_pure ⟨_, rfl, h _ _⟩
end
end Mine
end
section
-- IAdd
open PySem PySem.W PySem.Calls PySem.Spec PyProof.Rows
set_option Elab.async false
set_option maxRecDepth 100000
set_option linter.all false
namespace Mine
section
variable {prog : Program} {w : World} {A : Around} {E : Value → Shared → Prop} {s : Shared} {h₀ : Heap} {L : Addr} {m : Str → Option Value} {news news' : List (Addr × Obj)} {D b : Addr} {its its2 : Array Value} {n n2 : Nat} {l : List Value}
theorem list_iadd_road {a b : Addr} {Q : Value → Shared → Prop} (ha : s.TypeIs (.ref a) "list") (hb : s.TypeIs (.ref b) "list")
    (hc : wpAny (model prog w) A (call (.builtin "list.__iadd__") [.ref a, .ref b]) Q E s) : wpAny (model prog w) A (inplaceOp .Add (.ref a) (.ref b)) Q E s := by
  unfold inplaceOp
  refine wpAny_holding ?_
  have hlk : typeLookup (.type "list") (dunderI "add") = pure (some (.builtin "list.__iadd__")) := PySem.F.slot_list_iadd.lookup
  have hss : isSeqSlot (some (.builtin "list.__iadd__")) = true := by decide +kernel
  have hfi : fillsInplaceSlot (.type "list") "add" (Operator.Add == .Add) = pure false := by
    unfold fillsInplaceSlot
    show (typeLookup (.type "list") (dunderI "add") >>= fun fi => pure (fi.isSome && !isSeqSlot fi)) = pure false
    rw [hlk]
    rw [pure_bind, hss]; rfl
  refine wpAny_bind (PySem.wpAny_typeOf ha (wpAny_bind (wpAny_of_eq hfi ?_)))
  show wpAny (model prog w) A (if false = true then _ else _) Q E s
  rw [if_neg Bool.false_ne_true]
  refine wpAny_bind (wpAny_binaryOp1_none (nm := "add") ha hb noFill_list_add ?_)
  refine wpAny_bind (wpAny_of_eq (PySem.seqSlot_of hlk hss) ?_)
  exact wpAny_bind (wpAny_rule hc)
theorem upd_same {d : Addr} {o : Obj} {l l' : List (Addr × Obj)} (u : Upd d o o l l') : l' = l := by
  obtain ⟨p, q, rfl, rfl, _⟩ := u.split; rfl
/-- either of the two: the list that is put behind may be empty -/
theorem list_iaddG {Q : Value → Shared → Prop} {its its2 : List Value} {news' : Nat → List (Addr × Obj)} (F : Fr h₀ L s.heap m) (N : News h₀ L s.heap news) (hb : s.heap.get? b = some (listOf its2.toArray n2))
    (U : ∀ n', Upd D (listOf its.toArray n) (listOf (its ++ its2).toArray n') news (news' n')) (hz2 : its.length + its2.length ≤ 10000)
    (h : ∀ n' h' tk, Fr h₀ L h' m → News h₀ L h' (news' n') → Q (.ref D) { s with heap := h', toks := tk }) : wpAny (model prog w) A (inplaceOp .Add (.ref D) (.ref b)) Q E s := by
  cases its2 with
  | nil =>
    have u := U n
    rw [List.append_nil] at u
    have e := upd_same u
    obtain ⟨pre, post, rfl, _, a, c⟩ := u.split
    have z := N (D, listOf its.toArray n) (List.mem_append.mpr (.inr (.head _)))
    refine list_iadd_road ⟨_, z.1, rfl⟩ ⟨_, hb, rfl⟩ ?_
    have hz : its.toArray.size ≤ 10000 := hz2
    exact call_meets PySem.F.slot_list_iadd ⟨_, z.1, rfl⟩ PySem.F.entry_list_iadd (PySem.F.args_list_iadd_2 _ _) (PySem.AutoSeq1.list___iadd___list_list_0 D its.toArray n b #[] n2 (by simp [Builtin.List.listTooLong]; intro _; exact room hz) (room hz) (Nat.le_succ_of_le (room hz))) ⟨z.1, hb, h n _ s.toks (F.change (Heap.SameBut.update ..) z.2.1 z.2.2) (e ▸ kl_turn0 _ N a c (by simp) rfl)⟩
  | cons v r =>
    obtain ⟨pre, post, rfl, e, a, c⟩ := (U (n + 1)).split
    have z := N (D, listOf its.toArray n) (List.mem_append.mpr (.inr (.head _)))
    refine list_iadd_road ⟨_, z.1, rfl⟩ ⟨_, hb, rfl⟩ ?_
    have hz : its.toArray.size + (v :: r).toArray.size ≤ 10000 := hz2
    refine call_meets PySem.F.slot_list_iadd ⟨_, z.1, rfl⟩ PySem.F.entry_list_iadd (PySem.F.args_list_iadd_2 _ _) (PySem.AutoSeq1.list___iadd___list_list_0 D its.toArray n b (v :: r).toArray n2 (by simp [Builtin.List.listTooLong]; intro _; exact room hz) (room (by omega)) (Nat.le_succ_of_le (room hz))) ⟨z.1, hb, h (n + 1) _ s.toks (F.change (Heap.SameBut.update ..) z.2.1 z.2.2) (e ▸ kl_turn _ N a c ?_ ?_)⟩
    · simp
    · simp
theorem item3 {value slice : PySem.Expr} {l : Addr} {v0 v1 v2 : Value} {kd : Int} {u : Tok} {Q : Value → Shared → Prop} (hl : s.heap.IsList l #[v0, v1, v2]) (hk : kd = 0 ∨ kd = 1 ∨ kd = 2) (h : ∀ v, (kd = 0 ∧ v = v0) ∨ (kd = 1 ∧ v = v1) ∨ (kd = 2 ∧ v = v2) → Q v s)
    (hs : subscripted slice false (.ref l) (.int kd u) = operate [.ref l, .int kd u] (getItem (.ref l) (.int kd u)) := by with_unfolding_all rfl) :
    wpAny (model prog w) A (subscriptTail value slice (.ref l) (.int kd u)) Q E s := by
  rcases hk with rfl | rfl | rfl
  · exact tail_any hl.typeIs slot_list_getitem.lookup (wpAny_getItem_list hl (by decide) (by decide) (x := v0) rfl (h v0 (.inl ⟨rfl, rfl⟩))) hs
  · exact tail_any hl.typeIs slot_list_getitem.lookup (wpAny_getItem_list hl (by decide) (by decide) (x := v1) rfl (h v1 (.inr (.inl ⟨rfl, rfl⟩)))) hs
  · exact tail_any hl.typeIs slot_list_getitem.lookup (wpAny_getItem_list hl (by decide) (by decide) (x := v2) rfl (h v2 (.inr (.inr ⟨rfl, rfl⟩)))) hs
end
end Mine
end
section
-- Norm
open PySem PySem.W PySem.Calls PySem.Spec PyProof.Rows
set_option Elab.async false
set_option maxRecDepth 100000
set_option linter.all false
namespace Mine
theorem norm_s {M : Model} {A : Around} {α : Type} {t : Sem α} {Q : α → Shared → Prop} {E : Value → Shared → Prop} (s : Shared) {h : Heap} {tk : Nat} (H : ∀ tk', wpAny M A t Q E { s with heap := h, toks := tk' }) : wpAny M A t Q E { s with heap := h, toks := tk } := H tk
theorem ne_of_allLt {d : Addr} {l : List (Addr × Obj)} (h : AllLt d l) : ∀ p ∈ l, p.1 ≠ d := fun p hp => Nat.ne_of_lt (allLt_mem h p hp)
end Mine
end
section
-- Pairs
open PySem PySem.W PySem.Calls PySem.Spec PyProof.Rows PySem.SeqAt
set_option Elab.async false
set_option maxRecDepth 100000
set_option linter.all false
namespace Mine
local macro_rules | `(tactic| omega) => `(tactic| lia)
noncomputable abbrev pairO (v n : Int) (t u : Tok) (k : Nat) : Obj := listOf #[.int v t, .int n u] k
inductive PairsAre : List (Addr × Obj) → List (Int × Int) → Prop
  | nil : PairsAre [] []
  | cons {rl rs} (a : Addr) (v n : Int) (t u : Tok) (k : Nat) : PairsAre rl rs → PairsAre ((a, pairO v n t u k) :: rl) ((v, n) :: rs)
noncomputable def refsOf (rl : List (Addr × Obj)) : List Value := rl.map fun p => .ref p.1
theorem PairsAre.length {rl rs} (h : PairsAre rl rs) : rl.length = rs.length := by
  induction h with
  | nil => rfl
  | cons _ _ _ _ _ _ _ ih => exact congrArg Nat.succ ih
theorem PairsAre.append {rl rs rl' rs'} (h : PairsAre rl rs) (h' : PairsAre rl' rs') : PairsAre (rl ++ rl') (rs ++ rs') := by
  induction h with
  | nil => exact h'
  | cons a v n t u k _ ih => exact .cons a v n t u k ih
theorem PairsAre.reverse {rl rs} (h : PairsAre rl rs) : PairsAre rl.reverse rs.reverse := by
  induction h with
  | nil => exact .nil
  | cons a v n t u k _ ih =>
    rw [List.reverse_cons, List.reverse_cons]
    exact ih.append (.cons a v n t u k .nil)
theorem PairsAre.get {rl rs} (h : PairsAre rl rs) : ∀ {i : Nat} {x : Value}, (refsOf rl)[i]? = some x → ∃ a v n t u k, x = .ref a ∧ rs[i]? = some (v, n) ∧ (a, pairO v n t u k) ∈ rl := by
  induction h with
  | nil => exact fun e => nomatch e
  | cons a v n t u k _ ih => exact @fun i x => match i with
    | 0 => fun e => ⟨a, v, n, t, u, k, (Option.some.inj e).symm, rfl, .head _⟩
    | i + 1 => fun e => (ih (i := i) e).elim fun a h => h.elim fun v h => h.elim fun n h => h.elim fun t h => h.elim fun u h => h.elim fun k h => ⟨a, v, n, t, u, k, h.1, h.2.1, .tail _ h.2.2⟩
theorem AllL.pairs {fx nx : List (Addr × Obj)} (h : AllL fx nx) {rl rs} (r : PairsAre rl rs) : AllL fx (rl ++ nx) := by
  induction r with
  | nil => exact h
  | cons _ _ _ _ _ _ _ ih => exact AllL.cons ih
/-- the pairs lie above the list of them, each above the elder -/
inductive Above (R : Addr) (T : List (Addr × Obj)) : List (Addr × Obj) → Prop
  | nil : Above R T []
  | cons {rl a o} : Above R T rl → R < a → (∀ p ∈ rl ++ T, p.1 < a) → Above R T ((a, o) :: rl)
theorem Above.ne {R : Addr} {T : List (Addr × Obj)} {rl} (h : Above R T rl) (ht : ∀ p ∈ T, p.1 ≠ R) : ∀ p ∈ rl ++ T, p.1 ≠ R := by
  induction h with
  | nil => exact ht
  | cons _ hl _ ih => exact fun p hp => (List.mem_cons.mp hp).elim (fun e => e ▸ Nat.ne_of_gt hl) (ih p)
noncomputable def runsStep (rs : List (Int × Int)) (v : Int) : List (Int × Int) := match rs with
  | (u, n) :: r => if u = v then (u, n + 1) :: r else (v, 1) :: (u, n) :: r
  | [] => [(v, 1)]
noncomputable def runsF (ns : List Int) : List (Int × Int) := (ns.foldl runsStep []).reverse
theorem runs_len (l : List Int) : ∀ rs, (l.foldl runsStep rs).length ≤ rs.length + l.length := by
  induction l with
  | nil => intro rs; exact Nat.le_refl _
  | cons x l ih =>
    intro rs
    rw [List.foldl_cons, List.length_cons]
    refine Nat.le_trans (ih _) ?_
    have : (runsStep rs x).length ≤ rs.length + 1 := by
      unfold runsStep
      split
      · split <;> simp
      · simp
    omega
/-- the data of a list of pairs -/
noncomputable def pairD (p : Int × Int) : PyData := .list [.int p.1, .int p.2]
theorem PairsAre.reads {h₀ h : Heap} {L : Addr} {all : List (Addr × Obj)} (N : News h₀ L h all) {rl rs} (r : PairsAre rl rs) : (∀ p ∈ rl, p ∈ all) → ∃ as, ReadsAll h (refsOf rl) (rs.map pairD) as := by
  induction r with
  | nil => exact fun _ => ⟨_, .nil⟩
  | cons a v n t u k _ ih => exact fun hs => (ih fun p hp => hs p (.tail _ hp)).elim fun as ha => ⟨_, .cons (.list (N _ (hs _ (.head _))).1 rfl rfl (.cons (.int v t) (.cons (.int n u) .nil))) ha⟩
theorem pairs_lay : ∀ rs : List (Int × Int), PyData.canLayAll0 (rs.map pairD) = true
  | [] => by simp [PyData.canLayAll0]
  | p :: r => by simp [PyData.canLayAll0, PyData.canLay0, pairD, pairs_lay r]
theorem pairs_depth : ∀ rs : List (Int × Int), PyData.depthAll (rs.map pairD) ≤ 3
  | [] => by simp [PyData.depthAll]
  | p :: r => by
    have := pairs_depth r
    simp only [List.map_cons, PyData.depthAll, PyData.depth, pairD]
    omega
theorem pairs_shaped (rs : List (Int × Int)) : shaped (.list (rs.map pairD)) = true := by
  have h1 := pairs_depth rs
  have h2 : PyData.depth (.list (rs.map pairD)) ≤ 64 := by simp only [PyData.depth]; omega
  show (PyData.canLay0 (.list (rs.map pairD)) && decide (PyData.depth (.list (rs.map pairD)) ≤ 64)) = true
  rw [Bool.and_eq_true]
  exact ⟨by simp only [PyData.canLay0]; exact pairs_lay rs, decide_eq_true h2⟩
section
variable {prog : Program} {w : World} {A : Around} {E : Value → Shared → Prop} {s : Shared}
theorem ne_nil_pairs {a b : Addr} {vs : List Value} {p : Int × Int} {rs : List (Int × Int)} {as : List Addr} {Q : Value → Shared → Prop} (hl : s.heap.IsList a vs.toArray) (hr : ReadsAll s.heap vs ((p :: rs).map pairD) as) (hl' : s.heap.IsList b #[]) (hu : A.units + 64 < cLine)
    (h : Q (.bool true) s) : wpAny (model prog w) A (compareOp .NotEq (.ref a) (.ref b)) Q E s := by
  obtain ⟨o, ho, hc, n, hd⟩ := hl
  obtain ⟨o', ho', hc', n', hd'⟩ := hl'
  refine ne_dataH_same (da := .list ((p :: rs).map pairD)) (db := .list []) (.list ho hc hd (by simpa using hr)) (.list ho' hc' hd' (by exact .nil)) (pairs_shaped _) (by decide +kernel) hu (by simp [noMix, noMixAll]) ?_
  simpa [PySem.Spec.same, PySem.Spec.sameAll] using h
theorem item_last {value slice : PySem.Expr} {l : Addr} {vs : List Value} {u : Tok} {v : Value} {Q : Value → Shared → Prop} (hl : s.heap.IsList l (vs ++ [v]).toArray) (h : Q v s)
    (hs : subscripted slice false (.ref l) (.int (-1) u) = operate [.ref l, .int (-1) u] (getItem (.ref l) (.int (-1) u)) := by with_unfolding_all rfl) :
    wpAny (model prog w) A (subscriptTail value slice (.ref l) (.int (-1) u)) Q E s := by
  refine tail_any hl.typeIs slot_list_getitem.lookup (wpAny_getItem_list_neg hl (by decide) (by rw [List.size_toArray, List.length_append]; show -((vs.length + 1 : Nat) : Int) ≤ -1; omega) (by decide) ?_ h) hs
  rw [List.size_toArray, List.length_append]
  have : ((-1 : Int) + ((vs.length + [v].length : Nat) : Int)).toNat = vs.length := by show ((-1 : Int) + ((vs.length + 1 : Nat) : Int)).toNat = vs.length; omega
  rw [this]
  simp
end
end Mine
end
section
-- Sets1
set_option maxRecDepth 100000
set_option Elab.async false
namespace Mine
open PySem PySem.W

noncomputable def sOf : Value → Str
  | .str x _ => x
  | _ => default
noncomputable def SetL (w : World) (es : Array (Int × Value)) (l : List Str) : Prop :=
  (∀ e ∈ es.toList, ∃ x tk, e = (hashStr w x, Value.str x tk)) ∧ (es.toList.map fun e => sOf e.2).Perm l
noncomputable def SetAt (w : World) (h : Heap) (a : Addr) (l : List Str) : Prop :=
  ∃ es ep t, h.get? a = some (setO es ep t) ∧ SetL w es l ∧ t.fits es.size = true

/-- every object stands -/
noncomputable def Al (h : Heap) : Prop := ∀ i, i < h.objs.size → ∃ o, h.get? i = some o
theorem Al.push {h : Heap} (A : Al h) {o : Obj} (ho : o.isFreed = false) : Al (h.push o) := fun i hi => by
  rw [Heap.size_push] at hi
  rcases Nat.lt_or_eq_of_le (Nat.le_of_lt_succ hi) with hi | rfl
  · obtain ⟨o', e⟩ := A i hi; exact ⟨o', Heap.get?_push_of_some _ e⟩
  · exact ⟨o, Heap.get?_push_size _ ho⟩
theorem Al.same {h h' : Heap} {a : Addr} (A : Al h) (hs : Heap.SameBut a h h') (ha : ∃ o, h'.get? a = some o) : Al h' := fun i hi => by
  rcases Nat.decEq i a with hia | rfl
  · rw [hs.1] at hi
    obtain ⟨o', e⟩ := A i hi; exact ⟨o', (hs.2 i hia).trans e⟩
  · exact ha
theorem Al.grown {h h' : Heap} (A : Al h) (hz : h'.objs.size = h.objs.size + 1) (hk : ∀ i o, h.get? i = some o → h'.get? i = some o) (hn : ∃ o, h'.get? h.objs.size = some o) : Al h' := fun i hi => by
  rw [hz] at hi
  rcases Nat.lt_or_eq_of_le (Nat.le_of_lt_succ hi) with hi | rfl
  · obtain ⟨o', e⟩ := A i hi; exact ⟨o', hk i o' e⟩
  · exact hn

section
variable {prog : Program} {w : World} {A : Around} {E : Value → Shared → Prop} {s : Shared} {es : Array (Int × Value)} {l : List Str} {x : Str} {tk : Tok} {a : Addr}

theorem SetL.elems (h : SetL w es l) : ElemsOf (strKind prog w) es.toList := fun e he => by
  obtain ⟨y, t, rfl⟩ := h.1 e he
  exact ⟨⟨y, strKind_is prog w y t, rfl⟩, rfl⟩
theorem SetL.size (h : SetL w es l) : es.size = l.length := by
  have := h.2.length_eq
  rw [List.length_map, Array.length_toList] at this
  exact this
theorem SetL.perm {es' : Array (Int × Value)} (h : SetL w es l) (p : es'.toList.Perm es.toList) : SetL w es' l :=
  ⟨fun e he => h.1 e (p.mem_iff.mp he), (p.map _).trans h.2⟩
theorem SetL.push {es' : Array (Int × Value)} (h : SetL w es l) (p : es'.toList.Perm (es.push (hashStr w x, Value.str x tk)).toList) : SetL w es' (x :: l) := by
  rw [Array.toList_push] at p
  refine ⟨fun e he => ?_, (p.map _).trans ?_⟩
  · rcases List.mem_append.mp (p.mem_iff.mp he) with he | he
    · exact h.1 e he
    · rw [List.mem_singleton] at he; exact ⟨x, tk, he⟩
  · rw [List.map_append]
    exact (List.perm_append_comm.trans (List.Perm.cons _ h.2))
theorem SetL.is_iff (h : SetL w es l) {e : Int × Value} (he : e ∈ es.toList) (y : Str) : (strKind prog w).is y e.2 = true ↔ y = sOf e.2 := by
  obtain ⟨z, t, rfl⟩ := h.1 e he
  have e1 : (strKind prog w).is y (Value.str z t) = Value.isStrOf y (Value.str z t) := rfl
  have e2 : sOf (Value.str z t) = z := rfl
  dsimp only
  rw [e1, e2, Value.isStrOf, beq_iff_eq]
  exact eq_comm
theorem SetL.mem (h : SetL w es l) {e : Int × Value} (he : e ∈ es.toList) : sOf e.2 ∈ l := h.2.mem_iff.mp (List.mem_map_of_mem he)
theorem SetL.find_none (h : SetL w es l) (hx : x ∉ l) : es.toList.findIdx? (fun e => (strKind prog w).is x e.2) = none := by
  rw [List.findIdx?_eq_none_iff]
  intro e he
  cases hq : (strKind prog w).is x e.2 with
  | false => rfl
  | true => exact absurd ((h.is_iff he x).mp hq ▸ h.mem he) hx

theorem get_put {h : Heap} {es : Array (Int × Value)} {ep : Nat} {t : SetTable} (ho : h.get? a = some (setO es ep t)) (es' : Array (Int × Value)) (t' : SetTable) :
    (h.update a (Obj.putSet es' t')).get? a = some (setO es' (ep + 1) t') := by
  have := Heap.get?_update_self (Obj.putSet es' t') ho (by rfl)
  exact this

theorem addTail {g : Bool → Sem Unit} (hg : ∀ (b : Bool) (s₁ : Shared) (Q' : Unit → Shared → Prop), Q' () s₁ → wpAny (model prog w) A (g b) Q' E s₁)
    {ep : Nat} {t : SetTable} (ho : s.heap.get? a = some (setO es ep t)) {es1 : Array (Int × Value)} {t2 : SetTable} (hel : SetL w es1 l) (hb : l.length < 4096) (hf : t2.fits es1.size = true)
    {wasDummy : Bool} {R : Option Bool → Shared → Prop} (h : ∀ h', Heap.SameBut a s.heap h' → SetAt w h' a l → R (some true) { s with heap := h' }) :
    wpAny (model prog w) A (do
        storeSet a es1 t2
        if (!wasDummy && t2.tooFull) = true then do
            g (relayAll t2 es1 (SetTable.grown es1.size)).2.2
            storeSet a (relayAll t2 es1 (SetTable.grown es1.size)).1 (relayAll t2 es1 (SetTable.grown es1.size)).2.1
            pure (some true)
          else pure (some true)) R E s := by
  have hb1 : es1.size < scanBound := by rw [hel.size]; exact hb
  refine wpAny_bind (wpAny_storeSet_of ho rfl ?_ (fits_of_scanBound hb1))
  have ho1 := get_put ho es1 t2
  have hsb1 := Heap.SameBut.update s.heap a (Obj.putSet es1 t2)
  split
  · have hp := relayAll_perm t2 es1 (SetTable.grown es1.size)
    have hfr := relayAll_fits t2 es1 (SetTable.grown es1.size)
    generalize hRl : relayAll t2 es1 (SetTable.grown es1.size) = Rl at hp hfr ⊢
    obtain ⟨es2, t3, gave2⟩ := Rl
    dsimp only at hp hfr ⊢
    have hel2 := hel.perm hp
    have hb2 : es2.size < scanBound := by rw [hel2.size]; exact hb
    refine wpAny_bind (hg _ _ _ ?_)
    refine wpAny_bind (wpAny_storeSet_of ho1 rfl ?_ (fits_of_scanBound hb2))
    exact wpAny_pure (h _ (hsb1.trans (Heap.SameBut.update _ a _)) ⟨_, _, _, get_put ho1 es2 t3, hel2, hfr⟩)
  · exact wpAny_pure (h _ hsb1 ⟨_, _, _, ho1, hel, hf⟩)

theorem byScan_str (h : SetL w es l) (hb : l.length < 4096) : byScan (.str x tk) es = true :=
  byScan_of (prog := default) (w := w) (knd := strKind default w) rfl (by rw [h.size]; exact hb) h.elems

theorem add_new {Q : Bool → Shared → Prop} (hS : SetAt w s.heap a l) (hx : x ∉ l) (hl : l.length + 1 < 4096)
    (h : ∀ h', Heap.SameBut a s.heap h' → SetAt w h' a (x :: l) → Q true { s with heap := h' }) :
    wpAny (model prog w) A (setAddHashed a (.str x tk) (hashStr w x)) Q E s := by
  obtain ⟨es, ep, t, ho, hel, hf⟩ := hS
  unfold setAddHashed setAddHashedIn
  refine wpAny_holding (wpAny_bind (wpAny_setState_of ho rfl hf ?_))
  dsimp only
  rw [byScan_str hel (by omega)]
  simp only [↓reduceIte]
  unfold setAddByScan
  refine wpAny_bind ?_
  refine wpAny_bind (wpAny_rule ?_)
  refine wpAny_bind (wpAny_setScan_of (knd := strKind prog w) (strKind_is prog w x tk) ho rfl hf hel.elems ?_)
  rw [hel.find_none hx]
  dsimp only
  have hgw : ∀ (b : Bool) {s₁ : Shared} {Q' : Unit → Shared → Prop}, Q' () s₁ → wpAny (model prog w) A (match b with | true => rule "set.scan.the-table-gave-way" | false => pure ()) Q' E s₁ :=
    fun b s₁ Q' hq => by cases b <;> first | exact wpAny_pure hq | exact wpAny_rule hq
  have hperm := layNew_perm t es (hashStr w x) (.str x tk)
  have hfits := layNew_fits t es (hashStr w x) (.str x tk)
  generalize hL : layNew t es (hashStr w x) (.str x tk) = L at hperm hfits ⊢
  obtain ⟨es1, t1, wasDummy, gave⟩ := L
  dsimp only at hperm hfits ⊢
  have hel1 := hel.push hperm
  refine wpAny_bind (hgw _ ?_)
  have hb1 : (x :: l).length < 4096 := by rw [List.length_cons]; exact hl
  split
  · refine wpAny_bind ?_
    rw [hashByValue_scannable 8 rfl]
    refine wpAny_pure ?_
    refine addTail ?_ ho hel1 hb1 ?_ ?_
    · intro b s₁ Q' hq; cases b <;> first | exact wpAny_pure hq | exact wpAny_rule hq
    · split
      · exact hfits
      · exact SetTable.fits_plain_off hfits
    · intro h' hsb hS'; dsimp only; exact wpAny_pure (h h' hsb hS')
  · refine wpAny_bind (wpAny_pure ?_)
    simp only [↓reduceIte]
    refine addTail ?_ ho hel1 hb1 hfits ?_
    · intro b s₁ Q' hq; cases b <;> first | exact wpAny_pure hq | exact wpAny_rule hq
    · intro h' hsb hS'; dsimp only; exact wpAny_pure (h h' hsb hS')
end
end Mine
end
section
-- Sets2
set_option maxRecDepth 100000
set_option Elab.async false
namespace Mine
local macro_rules | `(tactic| omega) => `(tactic| lia)
open PySem PySem.W

section
variable {prog : Program} {w : World} {A : Around} {E : Value → Shared → Prop} {s : Shared} {l : List Str} {x : Str} {t : Tok} {a b : Addr}

theorem stop_two {hp : Heap} {o : Obj → Obj} {p q : Obj} : (((hp.update a o).push p).push q).objs.size = hp.objs.size + 2 := by
  rw [Heap.size_push, Heap.size_push, Heap.size_update]

theorem end_str {i : Nat} {Q : Option Value → Shared → Prop} (hh : A.handled = none)
    (hit : s.heap.IsStrIter b "str_ascii_iterator" x t i) (hx : x.cps[i]? = none)
    (hQ : ∀ h', h'.objs.size = s.heap.objs.size + 2 → Heap.ExtBut b s.heap h' → (Al s.heap → Al h') → Q none { s with heap := h' }) : wpAny (model prog w) A (pyNext (.ref b)) Q E s := by
  obtain ⟨o, ho, hc, hd⟩ := id hit
  unfold pyNext
  refine wpAny_bind (wpAny_attempt (wpAny_callSpecial?_slot (name := Str.ofString "__next__") hit.typeIs F.slot_str_ascii_iterator_next
    (wpAny_call_entry F.slot_str_ascii_iterator_next hit.typeIs F.entry_str_ascii_iterator_next ?_ (F.args_str_ascii_iterator_next_1 _))))
  show wpAny _ _ (field (.ref b) 0 >>= _) _ _ s
  refine wpAny_bind (wpAny_field ho hd (x := .str x t) rfl ?_)
  show wpAny _ _ (field (.ref b) 1 >>= _) _ _ s
  refine wpAny_bind (wpAny_field ho hd (x := .int i 0) rfl ?_)
  simp only [Int.toNat_natCast, hx]
  refine wpAny_bind (wpAny_rule (wpAny_bind (wpAny_setField ho hd (by simp) (wpAny_bind (wpAny_letGo ?_)))))
  show wpAny _ _ (newExc (.type "StopIteration") [] >>= _) _ _ _
  refine wpAny_bind ?_
  simp only [newExc, newTuple]
  refine wpAny_bind (wpAny_newObj_type ?_ (by size_fits))
  refine wpAny_bind (m := firstArgMember _ _) (wpAny_of_eq (a := Value.none) (by first | rfl | (simp only [firstArgMember]; rfl)) ?_)
  refine wpAny_newObj_type ?_ (by size_fits)
  simp only [raiseNew]
  refine wpAny_bind (wpAny_handled ?_)
  rw [show A.in1.handled = none from hh]
  refine wpAny_bind (wpAny_pure (wpAny_throw ?_))
  refine wpAny_bind (wpAny_isInstance (T := "StopIteration") (b := true) ⟨_, Heap.get?_push_size _ rfl, rfl⟩ isSubtype_stop ?_)
  refine wpAny_pure (hQ _ stop_two (((Heap.SameBut.update ..).extBut.push _).push _) fun A => Al.push (Al.push (A.same (Heap.SameBut.update ..) ⟨_, Heap.get?_update_self _ ho ?_⟩) (by rfl)) (by rfl))
  obtain ⟨c, dd, da, sl⟩ := o
  dsimp only at hd
  subst hd
  rfl

noncomputable def one (c : Nat) : Str := ⟨#[c]⟩
noncomputable def grownL (cs : List Nat) (l : List Str) : List Str := (cs.map one).reverse ++ l
theorem grownL_cons (c : Nat) (cs : List Nat) (l : List Str) : grownL (c :: cs) l = grownL cs (one c :: l) := by simp [grownL]

theorem SetAt.keeps {h h' : Heap} (S : SetAt w h a l) (hk : ∀ o, h.get? a = some o → h'.get? a = some o) : SetAt w h' a l :=
  let ⟨es, ep, t, ho, r⟩ := S; ⟨es, ep, t, hk _ ho, r⟩

theorem loop_str {R : Result → Shared → Prop} (hh : A.handled = none) (hab : a ≠ b) : ∀ (cs : List Nat) (i : Nat) (l : List Str) (s : Shared),
    x.cps.toList.drop i = cs → s.heap.IsStrIter b "str_ascii_iterator" x t i → SetAt w s.heap a l → (grownL cs l).Nodup → (grownL cs l).length < 4000 →
    (∀ h', h'.objs.size = s.heap.objs.size + 2 → (∀ i o, i ≠ a → i ≠ b → s.heap.get? i = some o → h'.get? i = some o) → SetAt w h' a (grownL cs l) → (Al s.heap → Al h') →
      R (.ok (.ret .none)) { s with heap := h', toks := s.toks + 2 * cs.length }) →
    codeAny (model prog w) A (.builtin "set.update.loop" ⟨[.ref a, .ref b], []⟩) R s
  | [], i, l, s, hcs, hit, hS, _, _, hR => by
    refine codeAny_builtin PyProof.Rows.F.entry_set_update_loop ?_
    rw [Around.under_plainId PyProof.Rows.F.plain_set_update_loop _]
    show wpAny _ A.in1 (pyNext (.ref b) >>= _) _ _ s
    have hx : x.cps[i]? = none := by
      rw [← Array.getElem?_toList, List.getElem?_eq_none_iff]
      have := congrArg List.length hcs
      rw [List.length_drop, List.length_nil] at this
      omega
    refine wpAny_bind (end_str (by exact hh) hit hx fun h' hz he hA => ?_)
    show wpAny _ A.in1 (ret Value.none) _ _ _
    exact wpAny_pure (hR h' hz (fun i o _ hb e => he i o hb e) (hS.keeps fun o e => he a o hab e) hA)
  | c :: cs, i, l, s, hcs, hit, hS, hnd, hlen, hR => by
    refine codeAny_builtin PyProof.Rows.F.entry_set_update_loop ?_
    rw [Around.under_plainId PyProof.Rows.F.plain_set_update_loop _]
    show wpAny _ A.in1 (pyNext (.ref b) >>= _) _ _ s
    have hx : x.cps[i]? = some c := by
      rw [← Array.getElem?_toList]
      have := congrArg (fun l => l[0]?) hcs
      simpa using this
    have hrest : x.cps.toList.drop (i + 1) = cs := by
      have := congrArg List.tail hcs
      rw [List.tail_drop] at this
      simpa using this
    refine wpAny_bind (wpAny_pyNext_ascii_item hit hx fun h₁ hit₁ hs₁ => ?_)
    show wpAny _ A.in1 (holding [Value.str ⟨#[c]⟩ s.toks] (setAdd a (.str ⟨#[c]⟩ s.toks)) >>= _) _ _ _
    refine wpAny_bind (wpAny_holding ?_)
    unfold setAdd
    refine wpAny_holding ?_
    refine wpAny_bind (wpAny_pyHash_str ?_)
    rw [grownL_cons] at hnd hlen
    have hS₁ : SetAt w h₁ a l := hS.keeps fun o e => (hs₁.2 a hab).trans e
    have hx1 : one c ∉ l := by
      have := (List.nodup_append.mp hnd).2.1
      exact (List.nodup_cons.mp this).1
    have hl1 : l.length + 1 < 4096 := by
      have : (grownL cs (one c :: l)).length = cs.length + (l.length + 1) := by simp [grownL]
      omega
    refine add_new (s := { s with heap := h₁, toks := s.toks + 1 + 1 }) hS₁ hx1 hl1 fun h₂ hs₂ hS₂ => ?_
    refine wpAny_pure ⟨plainId_quiet PyProof.Rows.F.plain_set_update_loop _, loop_str hh hab cs (i + 1) (one c :: l) _ hrest ?_ hS₂ hnd hlen fun h' hz hk hS' hA => ?_⟩
    · exact hit₁.extBut hs₂.extBut (Ne.symm hab)
    · have hz' : h'.objs.size = s.heap.objs.size + 2 := by
        rw [hz]
        show h₂.objs.size + 2 = _
        rw [hs₂.1]
        show h₁.objs.size + 2 = _
        rw [hs₁.1]
      have := hR h' hz' (fun i o ha hb e => hk i o ha hb ((hs₂.2 i ha).trans ((hs₁.2 i hb).trans e))) (by rw [grownL_cons]; exact hS') (fun A => hA ((A.same hs₁ (let ⟨o, ho, _⟩ := hit₁; ⟨o, ho⟩)).same hs₂ (let ⟨_, _, _, ho, _⟩ := hS₂; ⟨_, ho⟩)))
      have e : s.toks + 2 * (c :: cs).length = s.toks + 1 + 1 + 2 * cs.length := by rw [List.length_cons]; omega
      rw [e] at this
      exact this
end
end Mine
end
section
-- Sets3
set_option maxRecDepth 100000
set_option Elab.async false
namespace Mine
local macro_rules | `(tactic| omega) => `(tactic| lia)
open PySem PySem.W

section
variable {prog : Program} {w : World} {A : Around} {E : Value → Shared → Prop} {s : Shared}

theorem end_range {it : Addr} {x left step : Int} {Q : Option Value → Shared → Prop} (hh : A.handled = none) (hit : IsRangeIter s.heap it x left step) (hleft : left ≤ 0)
    (hQ : ∀ h', h'.objs.size = s.heap.objs.size + 2 → Heap.ExtBut it s.heap h' → (Al s.heap → Al h') → Q none { s with heap := h' }) : wpAny (model prog w) A (pyNext (.ref it)) Q E s := by
  have hT : s.TypeIs (.ref it) "range_iterator" := ⟨_, hit, rfl⟩
  unfold pyNext
  refine wpAny_bind (wpAny_attempt (wpAny_callSpecial?_slot (name := Str.ofString "__next__") hT F.slot_range_iterator_next
    (wpAny_call_entry F.slot_range_iterator_next hT F.entry_range_iterator_next ?_ (F.args_range_iterator_next_1 _))))
  show wpAny _ _ (field (.ref it) 0 >>= _) _ _ s
  refine wpAny_bind (wpAny_field hit rfl (x := rawInt x) rfl ?_)
  show wpAny _ _ (field (.ref it) 1 >>= _) _ _ s
  refine wpAny_bind (wpAny_field hit rfl (x := rawInt left) rfl ?_)
  show wpAny _ _ (field (.ref it) 2 >>= _) _ _ s
  refine wpAny_bind (wpAny_field hit rfl (x := rawInt step) rfl ?_)
  show wpAny _ _ (if left ≤ 0 then _ else _) _ _ s
  rw [if_pos hleft]
  refine wpAny_bind (wpAny_rule ?_)
  refine wpAny_bind ?_
  show wpAny _ _ (newExc (.type "StopIteration") [] >>= _) _ _ _
  refine wpAny_bind ?_
  simp only [newExc, newTuple]
  refine wpAny_bind (wpAny_newObj_type ?_ (by size_fits))
  refine wpAny_bind (m := firstArgMember _ _) (wpAny_of_eq (a := Value.none) (by first | rfl | (simp only [firstArgMember]; rfl)) ?_)
  refine wpAny_newObj_type ?_ (by size_fits)
  simp only [raiseNew]
  refine wpAny_bind (wpAny_handled ?_)
  rw [show A.in1.handled = none from hh]
  refine wpAny_bind (wpAny_pure (wpAny_throw ?_))
  refine wpAny_bind (wpAny_isInstance (T := "StopIteration") (b := true) ⟨_, Heap.get?_push_size _ rfl, rfl⟩ isSubtype_stop ?_)
  exact wpAny_pure (hQ _ (by simp) (fun b o _ e => Heap.get?_push_of_some _ (Heap.get?_push_of_some _ e)) fun A => (A.push (by rfl)).push (by rfl))

noncomputable def gElt : Expr := .Call (.Name (Str.ofString "chr") ⟨12, 24, 12, 27⟩) [.Name (Str.ofString "i") ⟨12, 28, 12, 29⟩] [] ⟨12, 24, 12, 30⟩
noncomputable def gIter : Expr := .Call (.Name (Str.ofString "range") ⟨12, 40, 12, 45⟩) [.Constant (.int 32) 0 ⟨12, 46, 12, 48⟩] [] ⟨12, 40, 12, 49⟩
noncomputable def gExp : Expr := .GeneratorExp gElt [⟨.Name (Str.ofString "i") ⟨12, 35, 12, 36⟩, gIter, [], 0⟩] genS ⟨12, 23, 12, 50⟩
theorem genE_eq : genE = gExp := by kernel_rfl

noncomputable def GSt (j : Nat) (h : Heap) : Prop :=
  IsRangeIter h 69 (j : Int) (32 - (j : Int)) 1 ∧ (∃ m, h.Ns 73 m) ∧ (∃ mg, h.Ns mainGlobals mg ∧ mg (Str.ofString "chr") = none) ∧
    (∃ mb, h.Ns builtinsNs mb ∧ mb (Str.ofString "chr") = some (.builtin "chr"))
noncomputable def GEx (s₀ s : Shared) (c z : Nat) : Prop :=
  ∃ h', s = { s₀ with heap := h', toks := s₀.toks + c } ∧ h'.objs.size = s₀.heap.objs.size + z ∧ (∀ i o, i ≠ 69 → i ≠ 73 → s₀.heap.get? i = some o → h'.get? i = some o) ∧ (Al s₀.heap → Al h')
noncomputable def GY : Protocol := fun n s₀ v s kap =>
  (∃ tk, v = .str (one (31 - n)) tk) ∧ GEx s₀ s 3 0 ∧ GSt (32 - n) s.heap ∧ ∀ s'', GSt (32 - n) s''.heap → kap (.send .none) s''
noncomputable def GEnd (n : Nat) (s₀ s : Shared) : Prop := n = 0 ∧ GEx s₀ s 0 2
noncomputable def GR : GenEnd := fun n s₀ r s => r = .ok .next ∧ GEnd n s₀ s

theorem eval_elt {j : Nat} {tk : Tok} {m : Str → Option Value} {Q : Value → Shared → Prop} (hj : j ≤ 32) (hn : s.heap.Ns 73 m) (hi : m (Str.ofString "i") = some (.int j tk))
    (hg : ∃ mg, s.heap.Ns mainGlobals mg ∧ mg (Str.ofString "chr") = none) (hb : ∃ mb, s.heap.Ns builtinsNs mb ∧ mb (Str.ofString "chr") = some (.builtin "chr"))
    (h : Q (.str (one j) s.toks) { s with toks := s.toks + 1 }) : wpAny (model prog w) A (eval gElt cenv) Q E s := by
  obtain ⟨mg, hg, hmiss⟩ := hg
  obtain ⟨mb, hb, hv⟩ := hb
  refine Call_name1 (by rfl) (Calls.Name_function_global (by kernel_rfl) (by kernel_rfl) (Calls.loadGlobal_builtin hg hmiss hb hv ?_) (by decide +kernel))
  refine callWith_builtin1 ?_
  refine wpAny_Name (wpAny_loadName_local (by kernel_rfl) (by kernel_rfl) hn hi ?_) (by decide +kernel)
  exact PyProof.Rows.chr_of_range (by omega) (by omega) h

theorem gen_loop (hh : A.handled = none) : ∀ (k j : Nat) (s : Shared), j + k = 32 → GSt j s.heap →
    Seg (model prog w) A GR GY k s (.compLoop gExp 0 (.ref 69) .none cenv) ((model prog w).den (.compLoop gExp 0 (.ref 69) .none cenv)) [] s
  | 0, j, s, hjk, ⟨hr, _, _, _⟩ => by
    show Seg _ A _ _ _ s _ ((compTurn gExp 0 (.ref 69) .none cenv).onRaise (leaving cenv)) [] s
    unfold gExp
    rw [compTurn_gen, Sem.onRaise_eq_wrap]
    refine seg_bind_wrap (wpAny_standAt ?_)
    refine seg_bind_wrap (end_range (by exact hh) hr (by omega) fun h' hz he hA => ?_)
    exact seg_end (.ok .next) ⟨rfl, rfl, h', rfl, hz, fun i o h69 _ e => he i o h69 e, hA⟩
  | k + 1, j, s, hjk, ⟨hr, ⟨m, hn⟩, ⟨mg, hg, hmiss⟩, ⟨mb, hb, hv⟩⟩ => by
    show Seg _ A _ _ _ s _ ((compTurn gExp 0 (.ref 69) .none cenv).onRaise (leaving cenv)) [] s
    unfold gExp
    rw [compTurn_gen, Sem.onRaise_eq_wrap]
    refine seg_bind_wrap (wpAny_standAt ?_)
    refine seg_bind_wrap (wpAny_pyNext_range_item hr (by omega) fun h₁ hr₁ hs₁ => ?_)
    refine seg_bind_wrap (wpAny_of_eq (rfl : letOwnedTupleGo (.Name _ _) (.ref 69) _ = pure ()) ?_)
    have hn₁ : h₁.Ns 73 m := hn.extBut hs₁.extBut (by decide)
    have hg₁ : h₁.Ns mainGlobals mg := hg.extBut hs₁.extBut (by decide)
    have hb₁ : h₁.Ns builtinsNs mb := hb.extBut hs₁.extBut (by decide)
    refine seg_bind_wrap (wpAny_assign_Name (wpAny_storeName_local (by kernel_rfl) hn₁ (fun h₂ hn₂ hs₂ => ?_) (by kernel_rfl)))
    have hg₂ : h₂.Ns mainGlobals mg := hg₁.extBut hs₂.extBut (by decide)
    have hb₂ : h₂.Ns builtinsNs mb := hb₁.extBut hs₂.extBut (by decide)
    refine seg_bind_wrap (wpAny_pure ?_)
    simp only [if_true]
    have hy : ∀ v, yieldOut cenv v = yieldValue v := fun v => by
      have : cenv.scope.isCoroutine = false := by kernel_rfl
      simp only [yieldOut, this, Bool.false_eq_true, if_false]
    simp only [hy]
    rw [Sem.bind_eq_wrap', Sem.bind_eq_wrap', Sem.wrap_wrap, Sem.wrap_wrap]
    have hj31 : 31 - k = j := by omega
    have hj32 : 32 - k = j + 1 := by omega
    have hst : GSt (32 - k) h₂ := by
      rw [hj32]
      refine ⟨?_, ⟨_, hn₂⟩, ⟨mg, hg₂, hmiss⟩, ⟨mb, hb₂, hv⟩⟩
      have e1 : ((j + 1 : Nat) : Int) = (j : Int) + 1 := by omega
      have e2 : (32 - ((j + 1 : Nat) : Int)) = 32 - (j : Int) - 1 := by omega
      rw [e2, e1]
      exact (hs₂.2 69 (by decide)).trans hr₁
    refine seg_wrap (eval_elt (j := j) (tk := s.toks) (by omega) hn₂ (by simp) ⟨mg, hg₂, hmiss⟩ ⟨mb, hb₂, hv⟩ ?_)
    refine seg_at (seg_yield rfl rfl rfl ⟨⟨_, by rw [hj31]⟩, ⟨h₂, rfl, (hs₂.1.trans hs₁.1), fun i o h69 h73 e => (hs₂.2 i h73).trans ((hs₁.2 i h69).trans e), fun A => (A.same hs₁ ⟨_, hr₁⟩).same hs₂ (let ⟨_, _, _, ho, _⟩ := hn₂; ⟨_, ho⟩)⟩, hst, fun s'' hs'' => ?_⟩)
    exact seg_again rfl (gen_loop hh k (j + 1) s'' (by omega) (by rw [← hj32]; exact hs''))

theorem gen_start (hh : A.handled = none) (hs : GSt 0 s.heap) :
    Seg (model prog w) A GR GY 32 s (.compStart gExp 0 (.ref 69) .none cenv) ((model prog w).den (.compStart gExp 0 (.ref 69) .none cenv)) [] s := by
  have loop := gen_loop (prog := prog) (w := w) hh 32 0 s rfl hs
  show Seg _ A _ _ _ s _ ((compStart gExp 0 (.ref 69) .none cenv).onRaise (leaving cenv)) [] s
  unfold compStart
  rw [Sem.onRaise_eq_wrap]
  show Seg _ A _ _ _ s _ ((ask >>= _).wrap _ _ _ _) [] s
  refine seg_bind_wrap (wpAny_askSetting ?_)
  split
  · exact seg_again rfl loop
  · refine seg_bind_wrap (wpAny_rule ?_)
    show Seg _ A _ _ _ s _ ((standAt gIter.pos >>= _).wrap _ _ _ _) [] s
    exact seg_bind_wrap (wpAny_standAt (seg_bind_wrap (wpAny_pyIter_rangeiter hs.1 (seg_again rfl loop))))
end
end Mine
end
section
-- Sets4
set_option maxRecDepth 100000
set_option Elab.async false
namespace Mine
local macro_rules | `(tactic| omega) => `(tactic| lia)
open PySem PySem.W

section
variable {prog : Program} {w : World} {A : Around} {E : Value → Shared → Prop} {s : Shared}

theorem next_gen {a : Addr} {n : Nat} {gs : GenState} {Q : Option Value → Shared → Prop} (hh : A.handled = none)
    (hl : s.heap.NoLimit) (hroom : A.depth < recursionLimit) (hg : s.heap.IsGen a 0) (hgs : s.gens[0]? = some gs)
    (hgo : gs.Goes (model prog w) A.in1 GR GY n (.send .none) (s.setGen 0 .running))
    (hY : ∀ v s₁ gs', GY (n - 1) (s.setGen 0 .running) v s₁ (fun r' s'' => match n with
        | 0 => False
        | m + 1 => gs'.Goes (model prog w) A.in1 GR GY m r' s'') → Q (some v) (s₁.setGen 0 gs'))
    (hP : ∀ s₁, GEnd n (s.setGen 0 .running) s₁ → ∀ h', h'.objs.size = s₁.heap.objs.size + 2 → (∀ b o, s₁.heap.get? b = some o → h'.get? b = some o) → (Al s₁.heap → Al h') → Q none { s₁.setGen 0 .finished with heap := h' }) :
    wpAny (model prog w) A (pyNext (.ref a)) Q E s := by
  unfold pyNext
  refine wpAny_bind (wpAny_attempt (wpAny_callSpecial?_slot (name := Str.ofString "__next__") hg.typeIs slot_gen_next
    (wpAny_call_entry slot_gen_next hg.typeIs entry_gen_next ?_ (args_gen_next _))))
  show wpAny _ A.in1 (Builtin.Generator.genWake (.ref a) (.send .none)) _ _ s
  unfold Builtin.Generator.genWake
  refine wpAny_bind (wpAny_holding (wpAny_genNumber hg (wpAny_bind (wpAny_genState hgs ?_))))
  cases gs with
  | running => exact hgo.elim
  | finished => exact hgo.elim
  | _ =>
    refine wpAny_bind (wpAny_roomToWake hl hroom ?_)
    show wpAny _ A.in1 (.resume 0 (.send .none) [] _) _ _ s
    refine wpAny_resume hgs hgo (fun x s₁ hx => ?_) (fun v s₁ gs' hv => ?_)
    · obtain ⟨rfl, hp⟩ := hx
      show wpAny _ A.in1 (newExc (.type "StopIteration") [] >>= _) _ _ _
      refine wpAny_bind ?_
      simp only [newExc, newTuple]
      refine wpAny_bind (wpAny_newObj_type ?_ (by size_fits))
      refine wpAny_bind (m := firstArgMember _ _) (wpAny_of_eq (a := Value.none) (by first | rfl | (simp only [firstArgMember]; rfl)) ?_)
      refine wpAny_newObj_type ?_ (by size_fits)
      simp only [raiseNew]
      refine wpAny_bind (wpAny_bind (wpAny_handled ?_))
      first | rw [show A.in1.handled = none from hh] | rw [hh]
      refine wpAny_throw ?_
      refine wpAny_bind (wpAny_isInstance (T := "StopIteration") (b := true) ⟨_, Heap.get?_push_size _ rfl, rfl⟩ isSubtype_stop ?_)
      exact wpAny_pure (hP s₁ hp _ (by rw [Heap.size_push, Heap.size_push]; rfl) (fun b o hb => Heap.get?_push_of_some _ (Heap.get?_push_of_some _ hb)) fun A => (A.push (by rfl)).push (by rfl))
    · exact wpAny_pure ⟨v, rfl, wpAny_pure (hY v s₁ gs' hv)⟩

theorem SetAt.same {h h' : Heap} {a b : Addr} {l : List Str} (S : SetAt w h a l) (hk : ∀ i o, i ≠ b → h.get? i = some o → h'.get? i = some o) (hab : a ≠ b) : SetAt w h' a l :=
  S.keeps fun o e => hk a o hab e

noncomputable def chrs (j k : Nat) : List Nat := List.range' j k

theorem loop_gen {R : Result → Shared → Prop} (hh : A.handled = none) (hroom : A.depth < recursionLimit) : ∀ (k j : Nat) (l : List Str) (s : Shared) (gs : GenState),
    j + k = 32 → s.gens = #[gs] → (∀ s'' : Shared, GSt j s''.heap → gs.Goes (model prog w) A.in1.in1 GR GY k (.send .none) s'') → GSt j s.heap → s.heap.IsGen 74 0 → s.heap.NoLimit → SetAt w s.heap 75 l →
    (grownL (chrs j k) l).Nodup → (grownL (chrs j k) l).length < 4000 →
    (∀ h', h'.objs.size = s.heap.objs.size + 4 → (∀ i o, i ≠ 75 → i ≠ 69 → i ≠ 73 → s.heap.get? i = some o → h'.get? i = some o) → SetAt w h' 75 (grownL (chrs j k) l) → (Al s.heap → Al h') →
      R (.ok (.ret .none)) { s with heap := h', gens := #[.finished], toks := s.toks + 4 * k }) →
    codeAny (model prog w) A (.builtin "set.update.loop" ⟨[.ref 75, .ref 74], []⟩) R s
  | 0, j, l, s, gs, hjk, hgs, hgo, hst, hG, hl, hS, _, _, hR => by
    refine codeAny_builtin PyProof.Rows.F.entry_set_update_loop ?_
    rw [Around.under_plainId PyProof.Rows.F.plain_set_update_loop _]
    show wpAny _ A.in1 (pyNext (.ref 74) >>= _) _ _ s
    refine wpAny_bind (next_gen (A := A.in1) (by exact hh) hl hroom hG (by rw [hgs]; rfl) (hgo _ hst) (fun v s₁ gs' hv => ?_) fun s₁ hp h' hz hk hA => ?_)
    · exact (hv.2.2.2 s₁ hv.2.2.1).elim
    · refine Classical.byContradiction fun k9 => ?_
      obtain ⟨_, h₁, rfl, hz₁, hk₁, hA₁⟩ := hp
      refine k9 ?_
      show wpAny _ A.in1 (ret Value.none) _ _ _
      have := hR h' (by rw [hz]; show h₁.objs.size + 2 = _; rw [hz₁]; rfl) (fun i o _ h69 h73 e => hk i o (hk₁ i o h69 h73 e)) (hS.keeps fun o e => hk 75 o (hk₁ 75 o (by decide) (by decide) e)) (fun A => hA (hA₁ A))
      refine wpAny_pure ?_
      have eg : (Shared.setGen { (s.setGen 0 .running) with heap := h₁, toks := (s.setGen 0 .running).toks + 0 } 0 .finished).gens = #[.finished] := by
        show ((s.gens.setIfInBounds 0 .running).setIfInBounds 0 .finished) = _
        rw [hgs]; rfl
      have := this
      rw [← eg] at this
      exact this
  | k + 1, j, l, s, gs, hjk, hgs, hgo, hst, hG, hl, hS, hnd, hlen, hR => by
    refine codeAny_builtin PyProof.Rows.F.entry_set_update_loop ?_
    rw [Around.under_plainId PyProof.Rows.F.plain_set_update_loop _]
    show wpAny _ A.in1 (pyNext (.ref 74) >>= _) _ _ s
    refine wpAny_bind (next_gen (A := A.in1) (by exact hh) hl hroom hG (by rw [hgs]; rfl) (hgo _ hst) (fun v s₁ gs' hv => ?_) fun s₁ hp => absurd hp.1 (Nat.succ_ne_zero k))
    refine Classical.byContradiction fun k9 => ?_
    obtain ⟨⟨tk, rfl⟩, ⟨h₁, rfl, hz₁, hk₁, hA₁⟩, hst₁, hkap⟩ := hv
    refine k9 ?_
    have ec : (31 - (k + 1 - 1)) = j := by omega
    have ec2 : (32 - (k + 1 - 1)) = j + 1 := by omega
    rw [ec]
    rw [ec2] at hst₁ hkap
    show wpAny _ A.in1 (holding [Value.str (one j) tk] (setAdd 75 (.str (one j) tk)) >>= _) _ _ _
    refine wpAny_bind (wpAny_holding ?_)
    unfold setAdd
    refine wpAny_holding ?_
    refine wpAny_bind (wpAny_pyHash_str ?_)
    have ecs : chrs j (k + 1) = j :: chrs (j + 1) k := rfl
    rw [ecs, grownL_cons] at hnd hlen
    have hS₁ : SetAt w h₁ 75 l := hS.keeps fun o e => hk₁ 75 o (by decide) (by decide) e
    have hx1 : one j ∉ l := by
      have := (List.nodup_append.mp hnd).2.1
      exact (List.nodup_cons.mp this).1
    have hl1 : l.length + 1 < 4096 := by
      have : (grownL (chrs (j + 1) k) (one j :: l)).length = k + (l.length + 1) := by simp [grownL, chrs]
      omega
    let s₂ : Shared := Shared.setGen { (s.setGen 0 .running) with heap := h₁, toks := (s.setGen 0 .running).toks + 3 } 0 gs'
    have eg : s₂.gens = #[gs'] := by
      show ((s.gens.setIfInBounds 0 .running).setIfInBounds 0 gs') = _
      rw [hgs]; rfl
    refine add_new (s := { s₂ with toks := s₂.toks + 1 }) hS₁ hx1 hl1 fun h₂ hs₂ hS₂ => ?_
    have hk₂ : ∀ i o, i ≠ 75 → h₁.get? i = some o → h₂.get? i = some o := fun i o hi e => (hs₂.2 i hi).trans e
    refine wpAny_pure ⟨plainId_quiet PyProof.Rows.F.plain_set_update_loop _, loop_gen hh hroom k (j + 1) (one j :: l) _ gs' (by omega) eg (fun s'' h'' => hkap s'' h'') ?_ ?_ ?_ hS₂ hnd hlen fun h' hz hk hS' hA => ?_⟩
    · refine Classical.byContradiction fun k9 => ?_
      obtain ⟨a1, ⟨m, a2⟩, ⟨mg, a3, a3'⟩, ⟨mb, a4, a4'⟩⟩ := hst₁
      refine k9 ?_
      exact ⟨hk₂ 69 _ (by decide) a1, ⟨m, a2.at' fun o e => hk₂ 73 o (by decide) e⟩, ⟨mg, a3.at' fun o e => hk₂ mainGlobals o (by decide) e, a3'⟩, ⟨mb, a4.at' fun o e => hk₂ builtinsNs o (by decide) e, a4'⟩⟩
    · refine Classical.byContradiction fun k9 => ?_
      obtain ⟨o, nm, qn, ho, r⟩ := hG
      refine k9 ?_
      exact ⟨o, nm, qn, hk₂ 74 o (by decide) (hk₁ 74 o (by decide) (by decide) ho), r⟩
    · refine Classical.byContradiction fun k9 => ?_
      obtain ⟨mc, hns, hnn⟩ := hl
      refine k9 ?_
      exact ⟨mc, hns.at' fun o e => hk₂ cStatics o (by decide) (hk₁ cStatics o (by decide) (by decide) e), hnn⟩
    · have hz' : h'.objs.size = s.heap.objs.size + 4 := by
        rw [hz]
        show h₂.objs.size + 4 = _
        rw [hs₂.1]
        show h₁.objs.size + 4 = _
        rw [hz₁]; rfl
      have := hR h' hz' (fun i o h75 h69 h73 e => hk i o h75 h69 h73 (hk₂ i o h75 (hk₁ i o h69 h73 e))) (by rw [ecs, grownL_cons]; exact hS') (fun A => hA ((hA₁ A).same hs₂ (let ⟨_, _, _, ho, _⟩ := hS₂; ⟨_, ho⟩)))
      have e : s.toks + 4 * (k + 1) = s.toks + 3 + 1 + 4 * k := by omega
      rw [e] at this
      exact this
end
end Mine
end
section
-- Lay
set_option maxRecDepth 100000
set_option Elab.async false
namespace Mine
local macro_rules | `(tactic| omega) => `(tactic| lia)
open PySem PySem.W

noncomputable def lp (m i : Nat) : Nat := (i * 5 + 1) % (m + 1)
noncomputable def itr (m : Nat) : Nat → Nat → Nat
  | 0, i => i
  | k + 1, i => itr m k (lp m i)
theorem itr_add (m a b i : Nat) : itr m (a + b) i = itr m b (itr m a i) := by
  induction a generalizing i with
  | zero => rw [Nat.zero_add]; rfl
  | succ a ih => rw [Nat.succ_add]; exact ih _
theorem itr_mul {m c : Nat} (h : itr m c 0 = 0) : ∀ n, itr m (c * n) 0 = 0
  | 0 => rfl
  | n + 1 => by rw [Nat.mul_succ, itr_add, itr_mul h n, h]
noncomputable def Cyc (m : Nat) : Prop := itr m (m + 1) 0 = 0 ∧ ∀ i < m + 1, ∃ a < m + 1, itr m a 0 = i
theorem cyc7 : Cyc 7 := by
  refine ⟨by decide +kernel, ?_⟩
  decide +kernel
theorem cyc127 : Cyc 127 := by
  refine ⟨by decide +kernel, ?_⟩
  have : (List.range 128).all (fun i => (List.range 128).any fun a => itr 127 a 0 == i) = true := by decide +kernel
  intro i hi
  have h1 := List.all_eq_true.mp this i (List.mem_range.mpr hi)
  obtain ⟨a, ha, e⟩ := List.any_eq_true.mp h1
  exact ⟨a, List.mem_range.mp ha, beq_iff_eq.mp e⟩
theorem Cyc.reach {m : Nat} (C : Cyc m) {i j : Nat} (hi : i < m + 1) (hj : j < m + 1) : ∃ k < m + 1, itr m k i = j := by
  obtain ⟨a, ha, rfl⟩ := C.2 i hi
  obtain ⟨b, hb, rfl⟩ := C.2 j hj
  by_cases hab : a ≤ b
  · exact ⟨b - a, by omega, by rw [← itr_add]; congr 1; omega⟩
  · refine ⟨m + 1 + b - a, by omega, ?_⟩
    rw [← itr_add]
    have : a + (m + 1 + b - a) = (m + 1) + b := by omega
    rw [this, itr_add, C.1]

noncomputable abbrev fr := SetTable.layClean.free

theorem fr_zero (ow : Array (Option Nat)) (m i p : Nat) : fr m ow 0 i p = none := by simp [fr, SetTable.layClean.free]
theorem fr_succ (ow : Array (Option Nat)) (m f i p : Nat) : fr m ow (f + 1) i p = (match (List.range (SetTable.runEnd m i + 1 - i)).find? fun k => (ow.getD (i + k) (some 0)).isNone with
      | some k => some (i + k)
      | none => fr m ow f ((i * 5 + 1 + p / 32) % (m + 1)) (p / 32)) := by
  simp only [fr, SetTable.layClean.free, SetTable.leap]
  rfl
noncomputable def pos (m : Nat) : Nat → Nat → Nat → Nat
  | 0, i, _ => i
  | n + 1, i, p => pos m n ((i * 5 + 1 + p / 32) % (m + 1)) (p / 32)
theorem pos_lt {m n i p : Nat} (hi : i < m + 1) : pos m n i p < m + 1 := by
  induction n generalizing i p with
  | zero => exact hi
  | succ n ih => exact ih (Nat.mod_lt _ (by omega))
theorem pos_zero {m n i : Nat} : pos m n i 0 = itr m n i := by
  induction n generalizing i with
  | zero => rfl
  | succ n ih => show pos m n ((i * 5 + 1 + 0) % (m + 1)) (0 / 32) = _; exact ih
theorem pos_add {m a b i p : Nat} : pos m (a + b) i p = pos m b (pos m a i p) (p / 32 ^ a) := by
  induction a generalizing i p with
  | zero => rw [Nat.zero_add, Nat.pow_zero, Nat.div_one]; rfl
  | succ a ih =>
    rw [Nat.succ_add]
    show pos m (a + b) _ _ = pos m b (pos m a _ _) _
    rw [ih, Nat.div_div_eq_div_mul, Nat.pow_succ, Nat.mul_comm 32]
theorem pos_reach {m i p j : Nat} (C : Cyc m) (hi : i < m + 1) (hp : p < 2 ^ 64) (hj : j < m + 1) : ∃ n < SetTable.turns m, pos m n i p = j := by
  obtain ⟨k, hk, e⟩ := C.reach (pos_lt (n := 13) (p := p) hi) hj
  refine ⟨13 + k, by simp only [SetTable.turns]; omega, ?_⟩
  rw [pos_add, show p / 32 ^ 13 = 0 from Nat.div_eq_of_lt (by omega), pos_zero, e]

theorem runEnd_ge (m i : Nat) : i ≤ SetTable.runEnd m i := by unfold SetTable.runEnd; split <;> omega
theorem runEnd_le {m i : Nat} (h : i < m + 1) : SetTable.runEnd m i < m + 1 := by unfold SetTable.runEnd; split <;> omega
theorem fr_none {ow : Array (Option Nat)} {m : Nat} : ∀ (f i p : Nat), fr m ow f i p = none → ∀ n < f, (ow.getD (pos m n i p) (some 0)).isNone = false
  | 0, _, _, _, n, hn => by omega
  | f + 1, i, p, h, n, hn => by
    rw [fr_succ] at h
    split at h
    · cases h
    · rename_i hf
      cases n with
      | zero =>
        rw [List.find?_eq_none] at hf
        have := hf 0 (List.mem_range.mpr (by have := runEnd_ge m i; omega))
        rw [Nat.add_zero] at this
        exact Bool.eq_false_iff.mpr this
      | succ n => exact fr_none f _ _ h n (by omega)
theorem fr_some {ow : Array (Option Nat)} {m : Nat} : ∀ (f i p j : Nat), i < m + 1 → fr m ow f i p = some j → j < m + 1 ∧ ow.getD j (some 0) = none
  | 0, i, p, j, _, h => by rw [fr_zero] at h; cases h
  | f + 1, i, p, j, hi, h => by
    rw [fr_succ] at h
    split at h
    · rename_i k hf
      cases h
      have h1 := List.find?_some hf
      have h2 := List.mem_range.mp (List.mem_of_find?_eq_some hf)
      have := runEnd_le hi
      exact ⟨by omega, Option.isNone_iff_eq_none.mp h1⟩
    · exact fr_some f _ _ j (Nat.mod_lt _ (by omega)) h

structure OwI (m : Nat) (ow : Array (Option Nat)) (k : Nat) : Prop where
  size : ow.size = m + 1
  perm : (ow.toList.filterMap id).Perm (List.range k)

theorem exists_none {l : List (Option Nat)} (h : (l.filterMap id).length < l.length) : ∃ j : Nat, l[j]? = some none := by
  induction l with
  | nil => simp at h
  | cons a l ih =>
    cases a with
    | none => exact ⟨0, rfl⟩
    | some a =>
      simp only [List.filterMap_cons, id_eq, List.length_cons] at h
      obtain ⟨j, hj⟩ := ih (by omega)
      exact ⟨j + 1, by simpa using hj⟩
theorem set_perm : ∀ (l : List (Option Nat)) (j k : Nat), l[j]? = some none → ((l.set j (some k)).filterMap id).Perm (k :: l.filterMap id)
  | [], j, k, h => by simp at h
  | a :: l, 0, k, h => by
    simp at h; subst h
    simp
  | a :: l, j + 1, k, h => by
    have := set_perm l j k (by simpa using h)
    cases a with
    | none => simpa using this
    | some a =>
      simp only [List.set_cons_succ, List.filterMap_cons, id_eq]
      exact (List.Perm.cons a this).trans (List.Perm.swap ..)

noncomputable abbrev stp (m : Nat) (acc : Option (Array (Option Nat) × Nat)) (h : Int) : Option (Array (Option Nat) × Nat) := do
    let (owner, k) ← acc
    let j ← fr m owner (SetTable.turns m) (SetTable.bits h % (m + 1)) (SetTable.bits h)
    pure (owner.setIfInBounds j (some k), k + 1)
theorem stp_some {m k : Nat} {ow : Array (Option Nat)} (C : Cyc m) (I : OwI m ow k) (hk : k < m + 1) (h : Int) : ∃ ow', stp m (some (ow, k)) h = some (ow', k + 1) ∧ OwI m ow' (k + 1) := by
  have hb : SetTable.bits h < 2 ^ 64 := by
    have h1 := Int.emod_lt_of_pos h (show (0 : Int) < 2 ^ 64 by decide)
    have h2 := Int.emod_nonneg h (show (2 ^ 64 : Int) ≠ 0 by decide)
    unfold SetTable.bits; omega
  have hi : SetTable.bits h % (m + 1) < m + 1 := Nat.mod_lt _ (by omega)
  cases hf : fr m ow (SetTable.turns m) (SetTable.bits h % (m + 1)) (SetTable.bits h) with
  | none =>
    exfalso
    obtain ⟨j, hj⟩ := exists_none (l := ow.toList) (by rw [I.perm.length_eq, List.length_range, Array.length_toList, I.size]; exact hk)
    have hjl : j < m + 1 := by
      have := (List.getElem?_eq_some_iff.mp hj).1
      rw [Array.length_toList, I.size] at this; exact this
    obtain ⟨n, hn, e⟩ := pos_reach C hi hb hjl
    have := fr_none _ _ _ hf n hn
    rw [e] at this
    rw [Array.getElem?_toList] at hj
    simp [Array.getD_eq_getD_getElem?, hj] at this
  | some j =>
    obtain ⟨hj, hn⟩ := fr_some _ _ _ _ hi hf
    have hnone : ow.toList[j]? = some none := by
      rw [Array.getElem?_toList]
      rw [Array.getD_eq_getD_getElem?] at hn
      have hjs : j < ow.size := by rw [I.size]; exact hj
      rw [Array.getElem?_eq_getElem hjs] at hn ⊢
      simpa using hn
    refine ⟨ow.setIfInBounds j (some k), ?_, ?_, ?_⟩
    · simp only [stp, Option.bind_eq_bind, Option.bind_some, hf]
      rfl
    · rw [Array.size_setIfInBounds, I.size]
    · rw [Array.toList_setIfInBounds]
      refine (set_perm _ _ k hnone).trans ?_
      rw [List.range_succ]
      exact (List.Perm.cons k I.perm).trans (List.perm_append_comm (l₁ := [k]))
theorem fold_some {m : Nat} (C : Cyc m) : ∀ (hs : List Int) (ow : Array (Option Nat)) (k : Nat), OwI m ow k → k + hs.length ≤ m + 1 → ∃ ow', hs.foldl (stp m) (some (ow, k)) = some (ow', k + hs.length) ∧ OwI m ow' (k + hs.length)
  | [], ow, k, I, _ => ⟨ow, rfl, I⟩
  | h :: hs, ow, k, I, hl => by
    rw [List.length_cons] at hl
    obtain ⟨ow', e, I'⟩ := stp_some C I (by omega) h
    obtain ⟨ow2, e2, I2⟩ := fold_some C hs ow' (k + 1) I' (by omega)
    refine ⟨ow2, ?_, ?_⟩
    · rw [List.foldl_cons, e, e2, List.length_cons]; congr 2; omega
    · rw [List.length_cons, show k + (hs.length + 1) = k + 1 + hs.length by omega]; exact I2

theorem layClean_some {m : Nat} (C : Cyc m) (hs : Array Int) (hl : hs.size ≤ m + 1) : ∃ ow, SetTable.layClean m hs = some ow ∧ OwI m ow hs.size := by
  have I0 : OwI m (Array.replicate (m + 1) none) 0 := ⟨by simp, by simp⟩
  obtain ⟨ow, e, I⟩ := fold_some C hs.toList _ 0 I0 (by rw [Array.length_toList]; omega)
  refine ⟨ow, ?_, by simpa using I⟩
  unfold SetTable.layClean
  rw [← Array.foldl_toList]
  have e' : hs.toList.foldl (stp m) (some (Array.replicate (m + 1) none, 0)) = some (ow, 0 + hs.toList.length) := e
  have : (hs.toList.foldl (stp m) (some (Array.replicate (m + 1) none, 0))).map (·.1) = some ow := by rw [e']; rfl
  exact this

theorem live_eq (ow : Array (Option Nat)) {m : Nat} (hm : ow.size = m + 1) : ((List.range (m + 1)).filterMap fun j => (ow.getD j none).map (j, ·)).map (·.2) = ow.toList.filterMap id := by
  rw [List.map_filterMap]
  have : (fun j => Option.map (fun x : Nat × Nat => x.2) ((ow.getD j none).map (j, ·))) = fun j => ow.getD j none := by
    funext j; cases ow.getD j none <;> rfl
  rw [this, ← hm, ← Array.length_toList]
  have h2 : (fun j => ow.getD j none) = fun j => (ow.toList[j]?).bind id := by
    funext j
    rw [Array.getD_eq_getD_getElem?, Array.getElem?_toList]
    cases ow[j]? <;> rfl
  rw [h2, ← List.filterMap_filterMap, List.filterMap_getElem?_range_length]

theorem laid_some {m : Nat} (C : Cyc m) (fi mo : Nat) (led plain : Bool) {α : Type} (es : Array α) (hs : Array Int) (he : hs.size = es.size) (hl : hs.size ≤ m) :
    ∃ t order, SetTable.laid m fi mo led plain hs = some (t, order) ∧ (order.filterMap (es[·]?)).toList.Perm es.toList ∧ t.fits es.size = true ∧ t.mask = m ∧ t.dummies = #[] := by
  obtain ⟨ow, e, I⟩ := layClean_some C hs (by omega)
  have hlv := live_eq ow I.size
  unfold SetTable.laid
  rw [e]
  simp only [Option.bind_eq_bind, Option.bind_some]
  refine ⟨_, _, rfl, ?_, ?_, rfl, rfl⟩
  · rw [Array.toList_filterMap, hlv]
    refine (I.perm.filterMap _).trans ?_
    rw [he, filterMap_getElem?_range]
  · have : ((List.range (m + 1)).filterMap fun j => (ow.getD j none).map (j, ·)).length = es.size := by
      rw [← List.length_map (f := (·.2)), hlv, I.perm.length_eq, List.length_range, he]
    simp only [SetTable.fits, SetTable.fill, List.size_toArray, List.length_map, this, beq_self_eq_true, Bool.true_and, decide_eq_true_eq]
    show es.size + 0 ≤ m
    omega
end Mine
end
section
-- Sets5
set_option maxRecDepth 100000
set_option Elab.async false
namespace Mine
local macro_rules | `(tactic| omega) => `(tactic| lia)
open PySem PySem.W

theorem pick_go {α : Type} (next : Nat → Nat) : ∀ (n k : Nat) (left : List α) (out : Array α), left.length = n → (pickOrder.go next n k left out).toList.Perm (out.toList ++ left)
  | 0, k, left, out, h => by
    rw [List.length_eq_zero_iff.mp h, List.append_nil]; exact .refl _
  | n + 1, k, left, out, h => by
    have hi : next k % left.length < left.length := Nat.mod_lt _ (by omega)
    unfold pickOrder.go
    rw [List.getElem?_eq_getElem hi]
    dsimp only
    refine (pick_go next n _ _ _ (by rw [List.length_eraseIdx_of_lt hi]; omega)).trans ?_
    rw [Array.toList_push, List.append_assoc]
    refine List.Perm.append_left _ ?_
    have e := List.take_append_drop (next k % left.length) left
    rw [← List.getElem_cons_drop hi] at e
    rw [List.eraseIdx_eq_take_drop_succ]
    refine List.Perm.trans ?_ (List.Perm.of_eq e)
    rw [List.singleton_append]
    exact List.perm_middle.symm
theorem pick_perm {α : Type} (next : Nat → Nat) (xs : Array α) : (pickOrder next xs).toList.Perm xs.toList :=
  pick_go next _ _ _ _ (by rw [Array.length_toList])

section
variable {prog : Program} {w : World} {A : Around} {E : Value → Shared → Prop} {s : Shared} {l : List Str} {a : Addr} {es : Array (Int × Value)} {ep : Nat} {t : SetTable}

theorem setWalk_ok {Q : Array (Int × Value) → Shared → Prop} (ho : s.heap.get? a = some (setO es ep t)) (hf : t.fits es.size = true)
    (hq : w.params.followText "set-order" = true ∨ (t.led = true ∧ t.plain = true) ∨ es.size ≤ 1) (h : ∀ es', es'.toList.Perm es.toList → Q es' s) : wpAny (model prog w) A (setWalk a) Q E s := by
  unfold setWalk setsByText
  refine wpAny_bind (wpAny_setState_of ho rfl hf ?_)
  dsimp only
  refine wpAny_bind (wpAny_bind (wpAny_askSetting (wpAny_pure ?_)))
  show wpAny _ _ (if (w.params.followText "set-order") = true then _ else _) _ _ _
  by_cases hb : w.params.followText "set-order" = true
  · rw [if_pos hb]
    exact wpAny_bind (wpAny_askSetting (wpAny_pure (h _ (pick_perm ..))))
  · rw [if_neg hb]
    have hq' := hq.resolve_left hb
    show wpAny _ _ (if (!t.plain && decide (es.size > 1)) = true then _ else _) _ _ _
    rw [if_neg (by rcases hq' with ⟨_, h2⟩ | h2
                   · rw [h2]; simp
                   · simp; intro; omega)]
    show wpAny _ _ ((if (!t.led && decide (es.size > 1)) = true then _ else _) >>= _) _ _ _
    rw [if_neg (by rcases hq' with ⟨h1, _⟩ | h2
                   · rw [h1]; simp
                   · simp; intro; omega)]
    exact wpAny_bind (wpAny_pure (wpAny_pure (h _ (.refl _))))

theorem walk_one {Q : Array (Int × Value) → Shared → Prop} {others : List Addr} {f : Option Addr} (ho : s.heap.get? a = some (setO es ep t)) (hf : t.fits es.size = true)
    (hq : es.size ≤ 1) (h : ∀ es', es'.toList.Perm es.toList → Q es' s) : wpAny (model prog w) A (setWalkUnseen a others f) Q E s := by
  unfold setWalkUnseen setsByText
  refine wpAny_bind (wpAny_setState_of ho rfl hf ?_)
  dsimp only
  refine wpAny_bind (wpAny_bind (wpAny_askSetting (wpAny_pure ?_)))
  dsimp only
  rw [if_pos (by simp [hq])]
  exact setWalk_ok ho hf (.inr (.inr hq)) h

theorem SetL.val (h : SetL w es l) {e : Int × Value} (he : e ∈ es.toList) : ∃ y tk, e.2 = Value.str y tk := by
  obtain ⟨y, tk, rfl⟩ := h.1 e he; exact ⟨y, tk, rfl⟩

theorem quiet_ok : ∀ (sets : List Addr) {Q : Bool → Shared → Prop}, (∀ b ∈ sets, ∃ l, SetAt w s.heap b l) → Q true s → wpAny (model prog w) A (setsQuiet sets) Q E s := by
  intro sets Q hs hQ
  unfold setsQuiet
  refine wpAny_bind (wpAny_mono (wpAny_forIn_list _ (fun rest r s' => s' = s ∧ r = (none, PUnit.unit) ∧ ∀ b ∈ rest, ∃ l, SetAt w s.heap b l) (fun r s' => s' = s ∧ r = (none, PUnit.unit)) (fun b rest r s' hI => ?_) (fun r s' hI => ⟨hI.1, hI.2.1⟩) _ _ ⟨rfl, rfl, hs⟩) (fun r s' hr => ?_) fun _ _ h => h)
  · refine Classical.byContradiction fun k9 => ?_
    obtain ⟨rfl, rfl, hb⟩ := hI
    obtain ⟨l, es, ep, t, ho, hel, hf⟩ := hb b (.head _)
    refine k9 ?_
    refine wpAny_bind (wpAny_setEntries_of ho rfl hf ?_)
    refine wpAny_bind (wpAny_mono (wpAny_forIn_array' _ (fun rest r s'' => s'' = s' ∧ r = (none, PUnit.unit) ∧ ∀ e ∈ rest, ∃ y tk, e.2 = Value.str y tk) (fun r s'' => s'' = s' ∧ r = (none, PUnit.unit)) (fun e rest r s'' hI => ?_) (fun r s'' hI => ⟨hI.1, hI.2.1⟩) _ _ ⟨rfl, rfl, fun e he => hel.val he⟩) (fun r s'' hr => ?_) fun _ _ h => h)
    · refine Classical.byContradiction fun k9 => ?_
      obtain ⟨rfl, rfl, he⟩ := hI
      obtain ⟨y, tk, e2⟩ := he e (.head _)
      obtain ⟨h1, x⟩ := e
      refine k9 ?_
      dsimp only at e2
      subst e2
      exact wpAny_pure ⟨rfl, rfl, fun e he' => he e (.tail _ he')⟩
    · obtain ⟨rfl, rfl⟩ := hr
      exact wpAny_pure ⟨rfl, rfl, fun b' hb' => hb b' (.tail _ hb')⟩
  · obtain ⟨rfl, rfl⟩ := hr
    exact wpAny_pure hQ

theorem walk_two {Q : Array (Int × Value) → Shared → Prop} {b : Addr} {l' : List Str} (ho : s.heap.get? a = some (setO es ep t)) (hf : t.fits es.size = true) (hel : SetL w es l) (hb : SetAt w s.heap b l')
    (h : ∀ es', es'.toList.Perm es.toList → Q es' s) : wpAny (model prog w) A (setWalkUnseen a [b] none) Q E s := by
  unfold setWalkUnseen setsByText
  refine wpAny_bind (wpAny_setState_of ho rfl hf ?_)
  dsimp only
  refine wpAny_bind (wpAny_bind (wpAny_askSetting (wpAny_pure ?_)))
  dsimp only
  split
  · rename_i hc
    refine setWalk_ok ho hf ?_ h
    have hc' := hc
    simp [or_assoc] at hc'
    exact hc'
  · refine wpAny_bind (quiet_ok (w := w) [a, b] (fun c hc => ?_) ?_)
    · rcases List.mem_cons.mp hc with rfl | hc
      · exact ⟨l, es, ep, t, ho, hel, hf⟩
      · rw [List.mem_singleton] at hc; subst hc; exact ⟨l', hb⟩
    · simp only [Bool.not_true, Bool.false_eq_true, if_false]
      exact wpAny_bind (wpAny_rule (wpAny_pure (h es (.refl _))))

noncomputable def SetX (w : World) (h : Heap) (a : Addr) (l : List Str) (m : Nat) : Prop :=
  ∃ es ep t, h.get? a = some (setO es ep t) ∧ SetL w es l ∧ t.fits es.size = true ∧ t.mask = m ∧ t.dummies = #[]
theorem SetX.at {h : Heap} {m : Nat} (S : SetX w h a l m) : SetAt w h a l := let ⟨es, ep, t, h1, h2, h3, _⟩ := S; ⟨es, ep, t, h1, h2, h3⟩

noncomputable def maskFor (n : Nat) : Nat := if n * 5 ≥ 21 then SetTable.sizeAbove (n * 2) - 1 else 7

theorem new_ok {Q : Value → Shared → Prop} (h : Q (.ref s.heap.objs.size) { s with heap := s.heap.push (setO #[] 0 (.fresh 0 0 (!(w.params.followText "set-order")))) }) :
    wpAny (model prog w) A (newSet (.type "frozenset")) Q E s := by
  unfold newSet setsByText
  refine wpAny_bind (wpAny_bind (wpAny_askSetting (wpAny_pure ?_)))
  dsimp only
  simp only [newObj]
  exact wpAny_bind (wpAny_alloc (wpAny_pure h))

theorem relay_ok {m wanted : Nat} {Q : Unit → Shared → Prop} (C : Cyc m) (hm : SetTable.sizeAbove wanted - 1 = m) (hw : SetTable.sizeAbove wanted ≤ sizeLine) (ho : s.heap.get? a = some (setO es ep t)) (hf : t.fits es.size = true)
    (hn : es.size ≤ m) (hn' : es.size < scanBound) (h : ∀ es' t', es'.toList.Perm es.toList → t'.fits es'.size = true → t'.mask = m → t'.dummies = #[] → Q () { s with heap := s.heap.update a (Obj.putSet es' t') }) :
    wpAny (model prog w) A (setRelay a wanted) Q E s := by
  unfold setRelay
  refine wpAny_bind (wpAny_setState_of ho rfl hf ?_)
  dsimp only
  rw [if_neg (Nat.not_lt.mpr hw)]
  refine Classical.byContradiction fun k9 => ?_
  obtain ⟨t', order, e, hp, hft, hmk, hdm⟩ := laid_some C t.finger (t.movedTo m) t.led t.plain es (es.map (·.1)) (by rw [Array.size_map]) (by rw [Array.size_map]; exact hn)
  refine k9 ?_
  have e' : t.relaid (es.map (·.1)) wanted = some (t', order) := by unfold SetTable.relaid; rw [hm]; exact e
  rw [e']
  have hsz : (order.filterMap (es[·]?)).size = es.size := by rw [← Array.length_toList, hp.length_eq, Array.length_toList]
  refine wpAny_bind (wpAny_of_eq (a := (order.filterMap (es[·]?), t')) ?_ ?_)
  · show (if ((order.filterMap (es[·]?)).size != es.size) = true then _ else _) = _
    rw [if_neg (by rw [hsz]; simp)]
  · exact wpAny_storeSet_of ho rfl (h _ _ hp (by rw [hsz]; exact hft) hmk hdm) (by rw [hsz]; exact fits_of_scanBound hn')

theorem room_ok {n : Nat} {Q : Unit → Shared → Prop} (ho : s.heap.get? a = some (setO #[] ep (.fresh 0 0 t.led))) (C : Cyc (maskFor n)) (hn : n < 1000)
    (h : ∀ h' ep' t', Heap.SameBut a s.heap h' → h'.get? a = some (setO #[] ep' t') → t'.fits 0 = true → t'.mask = maskFor n → t'.dummies = #[] → Q () { s with heap := h' }) :
    wpAny (model prog w) A (setRoomFor a n) Q E s := by
  unfold setRoomFor
  refine wpAny_bind (wpAny_setState_of ho rfl (by rfl) ?_)
  dsimp only
  have e : (SetTable.fresh 0 0 t.led).roomFor n = if n * 5 ≥ 21 then some (n * 2) else none := by
    simp only [SetTable.roomFor, SetTable.fresh, SetTable.fill, Array.size_empty, Nat.zero_add, Nat.add_zero]
    try rfl
  rw [e]
  by_cases hc : n * 5 ≥ 21
  · rw [if_pos hc]
    dsimp only
    have hmk : maskFor n = SetTable.sizeAbove (n * 2) - 1 := if_pos hc
    have hsz : SetTable.sizeAbove (n * 2) ≤ sizeLine := by
      have : ∀ n < 1000, SetTable.sizeAbove (n * 2) ≤ 2048 := by decide +kernel
      have := this n hn
      rw [sizeLine_eq]; omega
    refine relay_ok C hmk.symm hsz ho (by rfl) (by simp) (by decide) fun es' t' hp hft hm hd => ?_
    have hes : es' = #[] := by
      have := hp.length_eq
      rw [Array.length_toList] at this
      exact Array.eq_empty_of_size_eq_zero this
    subst hes
    exact h _ _ t' (Heap.SameBut.update ..) (get_put ho _ _) hft hm hd
  · rw [if_neg hc]
    have hmk : maskFor n = 7 := if_neg hc
    exact wpAny_pure (h s.heap _ _ (Heap.SameBut.refl ..) ho (by rfl) hmk.symm rfl)

theorem copy_ok {Q : Value → Shared → Prop} (hS : SetAt w s.heap a l) (hl : 0 < l.length) (hl' : l.length < 1000) (C : Cyc (maskFor l.length)) (hlm : l.length ≤ maskFor l.length)
    (h : ∀ h', h'.objs.size = s.heap.objs.size + 1 → (∀ i o, s.heap.get? i = some o → h'.get? i = some o) → SetX w h' s.heap.objs.size l (maskFor l.length) → Q (.ref s.heap.objs.size) { s with heap := h' }) :
    wpAny (model prog w) A (Builtin.Frozenset.copyOf a) Q E s := by
  refine Classical.byContradiction fun k9 => ?_
  obtain ⟨es, ep, t, ho, hel, hf⟩ := hS
  refine k9 ?_
  have hsz := hel.size
  unfold Builtin.Frozenset.copyOf Builtin.Frozenset.baseOf Builtin.Frozenset.addrOf
  refine wpAny_bind (wpAny_bind (wpAny_isInstance (T := "frozenset") (b := false) ⟨_, ho, rfl⟩ (by rw [isSubtype_type]; kernel_rfl) (wpAny_pure ?_)))
  refine wpAny_bind (new_ok ?_)
  refine wpAny_bind (wpAny_pure ?_)
  have hne : (s.heap.objs.size == a) = false := by
    exact beq_eq_false_iff_ne.mpr (Nat.ne_of_gt (Heap.lt_size ho))
  unfold setMerge
  rw [hne]
  simp only [Bool.false_eq_true, if_false]
  have ho1 : (s.heap.push (setO #[] 0 (.fresh 0 0 (!(w.params.followText "set-order"))))).get? a = some (setO es ep t) := Heap.get?_push_of_some _ ho
  refine wpAny_bind (wpAny_bind (wpAny_setState_of ho1 rfl hf ?_))
  dsimp only
  rw [if_neg (by rw [Array.isEmpty_iff_size_eq_zero, hsz]; omega)]
  refine wpAny_bind (room_ok (t := .fresh 0 0 (!(w.params.followText "set-order"))) (Heap.get?_push_size _ rfl) (by rw [hsz]; exact C) (by rw [hsz]; exact hl') fun h1 ep1 t1 hs1 hg1 hf1 hm1 hd1 => ?_)
  have ho2 : h1.get? a = some (setO es ep t) := (hs1.2 a (Nat.ne_of_lt (Heap.lt_size ho))).trans ho1
  refine wpAny_bind (wpAny_setState_of hg1 rfl hf1 ?_)
  dsimp only
  have fin : ∀ es' t', es'.toList.Perm es.toList → t'.fits es'.size = true → t'.mask = maskFor l.length → t'.dummies = #[] → Q (.ref s.heap.objs.size) { s with heap := h1.update s.heap.objs.size (Obj.putSet es' t') } := by
    intro es' t' hp hft hm hd
    have hsu := Heap.SameBut.update h1 s.heap.objs.size (Obj.putSet es' t')
    refine h _ ?_ (fun i o e => ?_) ⟨es', _, t', get_put hg1 _ _, hel.perm hp, hft, hm, hd⟩
    · rw [hsu.1, hs1.1, Heap.size_push]
    · have hi := Heap.lt_size e
      exact (hsu.2 i (Nat.ne_of_lt hi)).trans ((hs1.2 i (Nat.ne_of_lt hi)).trans (Heap.get?_push_of_some _ e))
  have hfill : t1.fill = 0 := by
    simp only [SetTable.fits, Bool.and_eq_true, beq_iff_eq] at hf1
    simp only [SetTable.fill, hd1, Array.size_empty, Nat.add_zero]
    exact hf1.1
  have hroad : t1.road t = if t1.mask == t.mask && t.dummies.isEmpty then .slotForSlot else .clean := by
    unfold SetTable.road
    rw [hfill]; rfl
  rw [hroad]
  rw [hsz] at hm1
  by_cases hc : (t1.mask == t.mask && t.dummies.isEmpty) = true
  · rw [if_pos hc]
    dsimp only
    rw [Bool.and_eq_true, beq_iff_eq, Array.isEmpty_iff] at hc
    refine wpAny_storeSet_of hg1 rfl ?_ (by rw [hsz]; exact fits_of_scanBound (Nat.lt_trans hl' (by decide)))
    refine wpAny_pure (fin es _ (.refl _) ?_ ?_ ?_)
    · exact hf
    · show t.mask = _
      rw [← hc.1, hm1]
    · exact hc.2
  · rw [if_neg hc]
    dsimp only
    refine Classical.byContradiction fun k9 => ?_
    obtain ⟨t', order, e, hp, hft, hmk, hdm⟩ := laid_some C t1.finger t1.moves (t1.led && t.led) (t1.plain && t.plain) es (es.map (·.1)) (by rw [Array.size_map]) (by rw [Array.size_map, hsz]; exact hlm)
    refine k9 ?_
    rw [hm1, e]
    have hsz' : (order.filterMap (es[·]?)).size = es.size := by rw [← Array.length_toList, hp.length_eq, Array.length_toList]
    refine wpAny_bind (wpAny_of_eq (a := (order.filterMap (es[·]?), t')) ?_ ?_)
    · show (if ((order.filterMap (es[·]?)).size != es.size) = true then _ else _) = _
      rw [if_neg (by rw [hsz']; simp)]
    · refine wpAny_storeSet_of hg1 rfl ?_ (by rw [hsz', hsz]; exact fits_of_scanBound (Nat.lt_trans hl' (by decide)))
      exact wpAny_pure (fin _ _ hp (by rw [hsz']; exact hft) hmk hdm)
end
end Mine
end
section
-- Sets6
set_option maxRecDepth 100000
set_option Elab.async false
namespace Mine
local macro_rules | `(tactic| omega) => `(tactic| lia)
open PySem PySem.W

theorem entry_or : entryFor table "frozenset.__or__" = some Builtin.«frozenset.__or__» := entryFor_of_tree (by kernel_rfl)
theorem entry_sub : entryFor table "frozenset.__sub__" = some Builtin.«frozenset.__sub__» := entryFor_of_tree (by kernel_rfl)
theorem plain_or : plainId "frozenset.__or__" = true := by decide +kernel
theorem plain_sub : plainId "frozenset.__sub__" = true := by decide +kernel
theorem sub_fz : isSubtype (.type "frozenset") (.type "set") = pure false := by rw [isSubtype_type]; kernel_rfl
theorem sub_fz' : isSubtype (.type "frozenset") (.type "frozenset") = pure true := by rw [isSubtype_type]; kernel_rfl

section
variable {prog : Program} {w : World} {A : Around} {E : Value → Shared → Prop} {s : Shared} {l : List Str} {x : Str} {a b : Addr}

theorem SetAt.any {Q : Bool → Shared → Prop} (S : SetAt w s.heap a l) (h : Q true s) : wpAny (model prog w) A (Builtin.Frozenset.isAnySet (.ref a)) Q E s := by
  refine Classical.byContradiction fun k9 => ?_
  obtain ⟨es, ep, t, ho, _⟩ := S
  refine k9 ?_
  unfold Builtin.Frozenset.isAnySet
  refine wpAny_bind (wpAny_isInstance (T := "frozenset") (b := false) ⟨_, ho, rfl⟩ sub_fz ?_)
  exact wpAny_isInstance (T := "frozenset") (b := true) ⟨_, ho, rfl⟩ sub_fz' h

theorem one_perm {es : Array (Int × Value)} {es' : Array (Int × Value)} (hel : SetL w es [x]) (hp : es'.toList.Perm es.toList) : ∃ tk, es'.toList = [(hashStr w x, Value.str x tk)] := by
  have h' := hel.perm hp
  have hs := h'.size
  have : es'.toList.length = 1 := by rw [Array.length_toList, hs]; rfl
  obtain ⟨e, he⟩ := List.length_eq_one_iff.mp this
  refine Classical.byContradiction fun k9 => ?_
  obtain ⟨y, tk, rfl⟩ := h'.1 e (by rw [he]; exact .head _)
  refine k9 ?_
  have := h'.2
  rw [he] at this
  have e2 : y = x := by simpa [sOf] using this
  subst e2
  exact ⟨tk, he⟩

theorem or_body {R : Result → Shared → Prop} (hS : SetAt w s.heap a l) (hb : SetAt w s.heap b [x]) (hab : a ≠ b) (hx : x ∉ l) (hl : 0 < l.length) (hl' : l.length < 1000) (C : Cyc (maskFor l.length)) (hlm : (l.length + 1) * 5 < maskFor l.length * 3)
    (h : ∀ h', h'.objs.size = s.heap.objs.size + 1 → (∀ i o, s.heap.get? i = some o → h'.get? i = some o) → SetAt w h' s.heap.objs.size (x :: l) → R (.ok (.ret (.ref s.heap.objs.size))) { s with heap := h' }) :
    codeAny (model prog w) A (.builtin "frozenset.__or__" ⟨[.ref a, .ref b], []⟩) R s := by
  refine codeAny_builtin entry_or ?_
  rw [Around.under_plainId plain_or _]
  show wpAny _ A.in1 ((Builtin.Frozenset.isAnySet (.ref a) >>= _) >>= _) _ _ s
  refine wpAny_bind (wpAny_bind (hS.any ?_))
  refine hb.any ?_
  show wpAny _ A.in1 (Builtin.Frozenset.addrOf (.ref a) >>= _) _ _ s
  refine wpAny_bind (wpAny_pure ?_)
  show wpAny _ A.in1 ((Builtin.Frozenset.copyOf a >>= _) >>= _) _ _ s
  refine wpAny_bind (wpAny_bind (copy_ok hS hl hl' C (by omega) fun h1 hz1 hk1 hS1 => ?_))
  have hne : (Value.ref b != Value.ref a) = true := by
    show (!(Value.ref b == Value.ref a)) = true
    have : (Value.ref b == Value.ref a) = false := by
      cases hq : (Value.ref b == Value.ref a) with
      | false => rfl
      | true => have := eq_of_beq hq; injection this with this; exact absurd this.symm hab
    rw [this]; rfl
  show wpAny _ A.in1 (if (Value.ref b != Value.ref a) = true then _ else _) _ _ _
  rw [if_pos hne]
  have hb1 : SetAt w h1 b [x] := hb.keeps fun o e => hk1 b o e
  refine wpAny_bind (wpAny_pure ?_)
  refine wpAny_bind (wpAny_holding ?_)
  unfold Builtin.Frozenset.updateFrom
  refine wpAny_bind (hb1.any ?_)
  simp only [if_true]
  unfold Builtin.Frozenset.merge
  refine wpAny_bind (wpAny_pure ?_)
  refine Classical.byContradiction fun k9 => ?_
  obtain ⟨es2, ep2, t2, ho2, hel2, hf2⟩ := id hb1
  refine k9 ?_
  refine wpAny_bind (wpAny_setEpoch_of ho2 rfl hf2 ?_)
  have hlt := Heap.lt_size (a := b) (hb.choose_spec.choose_spec.choose_spec.1)
  have hnb : (s.heap.objs.size == b) = false := beq_eq_false_iff_ne.mpr (Nat.ne_of_gt hlt)
  unfold setMerge
  rw [hnb]
  simp only [Bool.false_eq_true, if_false]
  refine wpAny_bind (wpAny_setState_of ho2 rfl hf2 ?_)
  have hz2 : es2.size = 1 := hel2.size
  dsimp only
  rw [if_neg (by rw [Array.isEmpty_iff_size_eq_zero, hz2]; omega)]
  refine Classical.byContradiction fun k9 => ?_
  obtain ⟨es1, ep1, t1, ho1, hel1, hf1, hm1, hd1⟩ := id hS1
  refine k9 ?_
  unfold setRoomFor
  refine wpAny_bind (wpAny_bind (wpAny_setState_of ho1 rfl hf1 ?_))
  dsimp only
  have hfill : t1.fill = l.length := by
    simp only [SetTable.fits, Bool.and_eq_true, beq_iff_eq] at hf1
    simp only [SetTable.fill, hd1, Array.size_empty, Nat.add_zero]
    rw [hf1.1, hel1.size]
  have hroom : t1.roomFor es2.size = none := by
    unfold SetTable.roomFor
    rw [hfill, hm1, hz2, if_neg (by omega)]
  rw [hroom]
  refine wpAny_pure ?_
  refine wpAny_bind (wpAny_setState_of ho1 rfl hf1 ?_)
  dsimp only
  have hroad : t1.road t2 = .oneByOne := by
    unfold SetTable.road
    rw [hfill, if_pos (by rw [bne_iff_ne]; omega)]
  rw [hroad]
  dsimp only
  refine wpAny_bind (walk_one ho2 hf2 (by omega) fun es' hp => ?_)
  obtain ⟨tk, he'⟩ := one_perm hel2 hp
  rw [← Array.forIn_toList, he', List.forIn_cons]
  refine wpAny_bind (wpAny_bind ?_)
  dsimp only
  refine wpAny_bind (wpAny_holding (add_new hS1.at hx (by omega) fun h3 hs3 hS3 => ?_))
  have hb3 : h3.get? b = some (setO es2 ep2 t2) := (hs3.2 b (Nat.ne_of_lt hlt)).trans ho2
  refine wpAny_bind ?_
  unfold Builtin.Frozenset.unchanged
  refine wpAny_bind (wpAny_setEpoch_of hb3 rfl hf2 ?_)
  simp only [bne_self_eq_false, Bool.false_eq_true, if_false]
  refine wpAny_pure ?_
  refine wpAny_bind (wpAny_setState_of hb3 rfl hf2 ?_)
  dsimp only
  simp only [bne_self_eq_false, Bool.false_eq_true, if_false]
  refine wpAny_pure ?_
  dsimp only
  rw [List.forIn_nil]
  refine wpAny_pure (wpAny_pure (wpAny_pure ?_))
  exact wpAny_pure (h h3 (hs3.1.trans hz1) (fun i o e => (hs3.2 i (Nat.ne_of_lt (Heap.lt_size e))).trans (hk1 i o e)) hS3)

noncomputable def SetD (w : World) (h : Heap) (a : Addr) (l : List Str) (m d : Nat) : Prop :=
  ∃ es ep t, h.get? a = some (setO es ep t) ∧ SetL w es l ∧ t.fits es.size = true ∧ t.mask = m ∧ t.dummies.size ≤ d
theorem SetD.at {h : Heap} {m d : Nat} (S : SetD w h a l m d) : SetAt w h a l := let ⟨es, ep, t, h1, h2, h3, _⟩ := S; ⟨es, ep, t, h1, h2, h3⟩
theorem SetX.d {h : Heap} {m : Nat} (S : SetX w h a l m) : SetD w h a l m 0 := let ⟨es, ep, t, h1, h2, h3, h4, h5⟩ := S; ⟨es, ep, t, h1, h2, h3, h4, by rw [h5]; exact Nat.le_refl 0⟩

theorem erase_list {α : Type} (xs : Array α) (i : Nat) : (SetTable.eraseAt xs i).toList = xs.toList.take i ++ xs.toList.drop (i + 1) := by
  unfold SetTable.eraseAt
  rw [Array.toList_append, Array.toList_extract, Array.toList_extract]
  have h : List.take (xs.size - (i + 1)) (List.drop (i + 1) xs.toList) = List.drop (i + 1) xs.toList := List.take_of_length_le (by rw [List.length_drop, Array.length_toList]; exact Nat.le_refl _)
  simp [h]
theorem erase_size {α : Type} {xs : Array α} {i : Nat} (h : i < xs.size) : (SetTable.eraseAt xs i).size + 1 = xs.size := by
  rw [← Array.length_toList, erase_list, List.length_append, List.length_take, List.length_drop, Array.length_toList]; omega
theorem insert_size {α : Type} (xs : Array α) (i : Nat) (x : α) : (SetTable.insertAt xs i x).size = xs.size + 1 := by
  rw [← Array.length_toList, (SetTable.insertAt_perm xs i x).length_eq]; simp

theorem discard {m d : Nat} {tk : Tok} {Q : Bool → Shared → Prop} (hS : SetD w s.heap a l m d) (hx : x ∈ l) (hl : l.length < 4096)
    (h : ∀ h', Heap.SameBut a s.heap h' → SetD w h' a (l.erase x) m (d + 1) → Q true { s with heap := h' }) :
    wpAny (model prog w) A (setDiscardHashed a (.str x tk) (hashStr w x)) Q E s := by
  refine Classical.byContradiction fun k9 => ?_
  obtain ⟨es, ep, t, ho, hel, hf, hm, hd⟩ := hS
  refine k9 ?_
  unfold setDiscardHashed setFind setFindIn
  refine wpAny_bind (wpAny_bind (wpAny_setState_of ho rfl hf ?_))
  dsimp only
  rw [byScan_str hel hl]
  simp only [↓reduceIte]
  refine wpAny_bind (wpAny_rule ?_)
  refine wpAny_bind (wpAny_setScan_of (knd := strKind prog w) (strKind_is prog w x tk) ho rfl hf hel.elems ?_)
  have hex : ∃ e ∈ es.toList, (strKind prog w).is x e.2 = true := by
    refine Classical.byContradiction fun k9 => ?_
    obtain ⟨e, he, hs⟩ := List.mem_map.mp (hel.2.mem_iff.mpr hx)
    refine k9 ?_
    exact ⟨e, he, (hel.is_iff he x).mpr hs.symm⟩
  cases hr : es.toList.findIdx? (fun e => (strKind prog w).is x e.2) with
  | none =>
    refine Classical.byContradiction fun k9 => ?_
    obtain ⟨e, he, hp⟩ := hex
    refine k9 ?_
    have := List.findIdx?_eq_none_iff.mp hr e he
    rw [hp] at this; cases this
  | some i =>
    refine Classical.byContradiction fun k9 => ?_
    obtain ⟨hi, hpi, _⟩ := List.findIdx?_eq_some_iff_getElem.mp hr
    refine k9 ?_
    dsimp only
    refine wpAny_pure ?_
    dsimp only
    rw [Nat.zero_add]
    refine wpAny_bind (wpAny_setState_of ho rfl hf ?_)
    dsimp only
    rw [Array.length_toList] at hi
    have hes := erase_size hi
    have hxe : x = sOf es.toList[i].2 := (hel.is_iff (List.getElem_mem _) x).mp hpi
    have hsz := hel.size
    refine wpAny_bind (wpAny_storeSet_of ho rfl ?_ (fits_of_scanBound (by show _ < 4096; omega)))
    refine wpAny_bind (wpAny_point (wpAny_pure ?_))
    have hfit := hf
    simp only [SetTable.fits, SetTable.fill, Bool.and_eq_true, beq_iff_eq] at hfit
    have hpl : i < t.place.size := by rw [hfit.1]; exact hi
    have hdrop : t.drop i = { t with place := SetTable.eraseAt t.place i, dummies := SetTable.insertAt t.dummies (SetTable.below t.dummies t.place[i]) t.place[i] } := by
      unfold SetTable.drop
      rw [Array.getElem?_eq_getElem hpl]
    have hps := erase_size hpl
    refine h _ (Heap.SameBut.update ..) ⟨_, _, _, get_put ho _ _, ⟨fun e he => ?_, ?_⟩, ?_, ?_, ?_⟩
    · rw [erase_list] at he
      exact hel.1 e ((List.mem_append.mp he).elim (fun h => List.mem_of_mem_take h) fun h => List.mem_of_mem_drop h)
    · rw [erase_list, List.map_append]
      have e := List.take_append_drop i es.toList
      rw [← List.getElem_cons_drop (by rw [Array.length_toList]; exact hi)] at e
      have hp : (x :: ((es.toList.take i).map (fun e => sOf e.2) ++ (es.toList.drop (i + 1)).map fun e => sOf e.2)).Perm l := by
        refine List.Perm.trans ?_ hel.2
        conv => rhs; rw [← e]
        rw [List.map_append, List.map_cons, ← hxe]
        exact List.perm_middle.symm
      have := hp.erase x
      rw [List.erase_cons_head] at this
      exact this
    · rw [hdrop]
      simp only [SetTable.fits, SetTable.fill, insert_size, Bool.and_eq_true, beq_iff_eq, decide_eq_true_eq]
      have hq := of_decide_eq_true hfit.2
      omega
    · rw [hdrop]; exact hm
    · rw [hdrop]
      show (SetTable.insertAt _ _ _).size ≤ d + 1
      rw [insert_size]; omega

noncomputable def minus (l : List Str) : List Str → List Str
  | [] => l
  | x :: r => minus (l.erase x) r

theorem minus_perm {xs ys : List Str} (p : xs.Perm ys) : ∀ l, minus l xs = minus l ys := by
  induction p with
  | nil => intro l; rfl
  | cons x _ ih => intro l; exact ih _
  | swap x y r => intro l; show minus ((l.erase y).erase x) r = minus ((l.erase x).erase y) r; rw [List.erase_comm]
  | trans _ _ h1 h2 => intro l; exact (h1 l).trans (h2 l)

theorem sub_loop {m : Nat} {id : String} {ep2 : Nat} {es2 : Array (Int × Value)} {t2 : SetTable} {r : Addr} (hrb : b ≠ r) (hf2 : t2.fits es2.size = true) : ∀ (es : List (Int × Value)) (xs : List Str) (d : Nat) (l : List Str) (s : Shared) (Q : PUnit → Shared → Prop),
    es.map (fun e => sOf e.2) = xs → (∀ e ∈ es, ∃ y tk, e = (hashStr w y, Value.str y tk)) → xs.Nodup → (∀ x ∈ xs, x ∈ l) → l.length < 4096 → SetD w s.heap r l m d → s.heap.get? b = some (setO es2 ep2 t2) →
    (∀ h', Heap.SameBut r s.heap h' → SetD w h' r (minus l xs) m (d + xs.length) → Q ⟨⟩ { s with heap := h' }) →
    wpAny (model prog w) A (forIn es PUnit.unit fun (x : Int × Value) (_ : PUnit) => (do
      let _ ← holding [x.2] (setDiscardHashed r x.2 x.1)
      Builtin.Frozenset.unchanged id b ep2
      pure (ForInStep.yield PUnit.unit))) Q E s
  | [], xs, d, l, s, Q, hxs, _, _, _, _, hS, _, h => by
    subst hxs
    rw [List.forIn_nil]
    exact wpAny_pure (h s.heap (.refl ..) hS)
  | e :: es, xs, d, l, s, Q, hxs, hel, hnd, hmem, hl, hS, ho2, h => by
    subst hxs
    refine Classical.byContradiction fun k9 => ?_
    obtain ⟨y, tk, rfl⟩ := hel e (.head _)
    refine k9 ?_
    have hnd' := List.nodup_cons.mp hnd
    rw [List.forIn_cons]
    refine wpAny_bind ?_
    refine wpAny_bind (wpAny_holding (discard hS (hmem y (.head _)) hl fun h1 hs1 hS1 => ?_))
    have ho2' : h1.get? b = some (setO es2 ep2 t2) := (hs1.2 b hrb).trans ho2
    unfold Builtin.Frozenset.unchanged
    refine wpAny_bind (wpAny_bind (wpAny_setEpoch_of ho2' rfl hf2 ?_))
    simp only [bne_self_eq_false, Bool.false_eq_true, if_false]
    refine wpAny_pure (wpAny_pure ?_)
    dsimp only
    refine sub_loop hrb hf2 es _ (d + 1) (l.erase y) _ Q rfl (fun e he => hel e (.tail _ he)) hnd'.2 (fun z hz => ?_) ?_ hS1 ho2' fun h2 hs2 hS2 => ?_
    · refine (List.mem_erase_of_ne ?_).mpr (hmem z (.tail _ hz))
      intro e; subst e; exact hnd'.1 hz
    · exact Nat.lt_of_le_of_lt (List.erase_sublist.length_le) hl
    · refine h h2 (hs1.trans hs2) ?_
      have e : d + (((hashStr w y, Value.str y tk) :: es).map fun e => sOf e.2).length = d + 1 + (es.map fun e => sOf e.2).length := by simp; omega
      rw [e]
      exact hS2

theorem sub_body {xs : List Str} {R : Result → Shared → Prop} (hS : SetAt w s.heap a l) (hb : SetAt w s.heap b xs) (hnd : xs.Nodup) (hmem : ∀ x ∈ xs, x ∈ l) (hl : 0 < l.length) (hl' : l.length < 1000) (C : Cyc (maskFor l.length)) (hlm : l.length ≤ maskFor l.length)
    (hq : xs.length < l.length / 4) (hdm : xs.length ≤ maskFor l.length / 4)
    (h : ∀ h', h'.objs.size = s.heap.objs.size + 1 → (∀ i o, s.heap.get? i = some o → h'.get? i = some o) → SetAt w h' s.heap.objs.size (minus l xs) → R (.ok (.ret (.ref s.heap.objs.size))) { s with heap := h' }) :
    codeAny (model prog w) A (.builtin "frozenset.__sub__" ⟨[.ref a, .ref b], []⟩) R s := by
  refine codeAny_builtin entry_sub ?_
  rw [Around.under_plainId plain_sub _]
  show wpAny _ A.in1 ((Builtin.Frozenset.isAnySet (.ref a) >>= _) >>= _) _ _ s
  refine wpAny_bind (wpAny_bind (hS.any ?_))
  refine hb.any ?_
  show wpAny _ A.in1 (Builtin.Frozenset.addrOf (.ref a) >>= _) _ _ s
  refine wpAny_bind (wpAny_pure ?_)
  refine wpAny_bind ?_
  unfold Builtin.Frozenset.difference
  refine wpAny_bind (hb.any ?_)
  simp only [Bool.not_true, Bool.false_eq_true, if_false, if_true, Bool.false_and]
  refine wpAny_bind (wpAny_pure ?_)
  refine Classical.byContradiction fun k9 => ?_
  obtain ⟨es2, ep2, t2, ho2, hel2, hf2⟩ := id hb
  refine k9 ?_
  have hz2 := hel2.size
  unfold Builtin.Frozenset.sizeOf
  refine wpAny_bind (wpAny_bind (wpAny_setEntries_of ho2 rfl hf2 (wpAny_pure ?_)))
  refine Classical.byContradiction fun k9 => ?_
  obtain ⟨es, ep, t, ho, hel, hf⟩ := id hS
  refine k9 ?_
  have hz := hel.size
  refine wpAny_bind (wpAny_bind (wpAny_setEntries_of ho rfl hf (wpAny_pure ?_)))
  rw [if_pos (by rw [hz, hz2]; exact hq)]
  refine wpAny_bind (wpAny_rule ?_)
  refine wpAny_bind (copy_ok hS hl hl' C hlm fun h1 hz1 hk1 hS1 => ?_)
  have hb1 : SetAt w h1 b xs := hb.keeps fun o e => hk1 b o e
  refine wpAny_bind (wpAny_pure ?_)
  have hlt := Heap.lt_size ho2
  have hrb : b ≠ s.heap.objs.size := Nat.ne_of_lt hlt
  refine wpAny_bind (wpAny_holding ?_)
  unfold Builtin.Frozenset.differenceUpdate
  have hne : (Value.ref b == Value.ref s.heap.objs.size) = false := by
    cases hq : (Value.ref b == Value.ref s.heap.objs.size) with
    | false => rfl
    | true => have := eq_of_beq hq; injection this with this; exact absurd this hrb
  rw [hne]
  simp only [Bool.false_eq_true, if_false]
  refine wpAny_bind (hb1.any ?_)
  simp only [if_true]
  refine wpAny_bind (wpAny_pure ?_)
  unfold Builtin.Frozenset.sizeOf
  have ho21 := hk1 b _ ho2
  refine Classical.byContradiction fun k9 => ?_
  obtain ⟨es1, ep1, t1, ho1, hel1, hf1, hm1, hd1⟩ := id hS1
  refine k9 ?_
  have hz1' := hel1.size
  refine wpAny_bind (wpAny_bind (wpAny_setEntries_of ho21 rfl hf2 (wpAny_pure ?_)))
  refine wpAny_bind (wpAny_bind (wpAny_setEntries_of ho1 rfl hf1 (wpAny_pure ?_)))
  rw [if_neg (by omega)]
  refine wpAny_bind (wpAny_setEpoch_of ho21 rfl hf2 ?_)
  refine wpAny_bind (wpAny_holding ?_)
  refine wpAny_bind (walk_two ho21 hf2 hel2 hS1.at fun es' hp => ?_)
  have hel' := hel2.perm hp
  rw [← Array.forIn_toList]
  have hperm := hel'.2
  refine wpAny_bind (sub_loop hrb hf2 es'.toList _ 0 l _ _ rfl hel'.1 (hperm.nodup_iff.mpr hnd) (fun x hx => hmem x (hperm.mem_iff.mp hx)) (by omega) hS1.d ho21 fun h3 hs3 hS3 => ?_)
  rw [minus_perm hperm] at hS3
  have hlen := hperm.length_eq
  refine Classical.byContradiction fun k9 => ?_
  obtain ⟨es3, ep3, t3, ho3, hel3, hf3, hm3, hd3⟩ := id hS3
  refine k9 ?_
  unfold setTidy
  refine wpAny_pure ?_
  refine wpAny_bind (wpAny_setState_of ho3 rfl hf3 ?_)
  dsimp only
  have htm : t3.tooManyDummies = false := by
    unfold SetTable.tooManyDummies
    rw [hm3]
    exact decide_eq_false (by omega)
  rw [htm]
  simp only [Bool.false_eq_true, if_false]
  refine wpAny_pure (wpAny_pure (wpAny_pure ?_))
  exact h h3 (hs3.1.trans hz1) (fun i o e => (hs3.2 i (Nat.ne_of_lt (Heap.lt_size e))).trans (hk1 i o e)) hS3.at
end
end Mine
end
section
-- Head1
set_option maxRecDepth 100000
set_option Elab.async false
set_option linter.all false
namespace Mine
open PySem PySem.W

theorem push_life (h : Heap) (o : Obj) : (h.push o).life = h.life := by cases h; rfl
theorem runs_life {M : Model} {Γ : Ctx} {p : Pos} {t : Sem Fin} {fs : List Frame} {s s' : Shared} {e : End} (h : Runs M Γ p t fs s e s') : s'.heap.life = s.heap.life := by
  induction h <;> (try simp only [Shared.setGen, update_lifeW, push_life] at *) <;> (first | assumption | rfl | (simp_all))

noncomputable def A0 : Around := { handled := none, depth := 400, frames := none, guards := none, units := 50 }
theorem okCtx_below {Γ : Ctx} (h : okCtx Γ = true) : Γ.Below A0 := by
  unfold okCtx at h
  rw [Bool.and_eq_true, Bool.and_eq_true] at h
  exact ⟨Option.isNone_iff_eq_none.mp h.1.1, Nat.le_of_ble_eq_true h.1.2, fun l hl => absurd (show (none : Option (List Env)) = some l from hl) (by simp), fun g hg => absurd (show (none : Option (List Code)) = some g from hg) (by simp), Nat.le_of_ble_eq_true h.2⟩

theorem ask_holds {M : Model} {R : Result → Shared → Prop} {a : Ans} {c : Code} {S : SharedT} (hv : a.view = some (c, true, S))
    (h : codeAny M A0 c (fun r s => s.heap.life = S.abs.heap.life → ∃ S', s = S'.abs ∧ (a.cont r S').holds M R) S.abs) : a.holds M R := by
  cases a with
  | done r S => cases hv
  | fail => cases hv
  | ask Γ p S₁ k =>
    have hv' : (Γ.code, okCtx Γ, S₁) = (c, true, S) := Option.some.inj hv
    injection hv' with h1 h2
    injection h2 with h2 h3
    subst h3
    obtain ⟨r, s', hr, hk⟩ := h Γ p h1 (okCtx_below h2)
    obtain ⟨S', rfl, hh⟩ := hk (runs_life hr)
    exact ⟨r, S', hr, hh⟩

noncomputable def Pc (w : World) (l : List Stmt) (s : Shared) (Q : Shared → Prop) : Prop := ∀ q, Sem.wp (model pw w) ctxB (execs l env0) (fun f _ s' => f = .next ∧ Q s') (fun _ _ _ => False) q s

theorem Pc.append_at {w : World} {l2 : List Stmt} {Q1 Q : Shared → Prop} (h2 : ∀ s', Q1 s' → Pc w l2 s' Q) : ∀ (l1 : List Stmt) (q : Pos) (s : Shared), Sem.wp (model pw w) ctxB (execs l1 env0) (fun f _ s' => f = .next ∧ Q1 s') (fun _ _ _ => False) q s →
    Sem.wp (model pw w) ctxB (execs (l1 ++ l2) env0) (fun f _ s' => f = .next ∧ Q s') (fun _ _ _ => False) q s
  | [], q, s, h => h2 s h.2 q
  | st :: r, q, s, h => by
    rw [execs_cons, Sem.wp_bind'] at h
    rw [List.cons_append, execs_cons, Sem.wp_bind']
    refine Sem.wp_mono _ _ _ (fun f p' s' hf => ?_) (fun e p' s' hf => hf) q s h
    cases f with
    | next => exact Pc.append_at h2 r p' s' hf
    | _ => exact absurd hf.1 (by simp)
theorem Pc.append {w : World} {l1 l2 : List Stmt} {s : Shared} {Q1 Q : Shared → Prop} (h1 : Pc w l1 s Q1) (h2 : ∀ s', Q1 s' → Pc w l2 s' Q) : Pc w (l1 ++ l2) s Q :=
  fun q => Pc.append_at h2 l1 q s (h1 q)
theorem Pc.mono {w : World} {l : List Stmt} {s : Shared} {Q Q' : Shared → Prop} (h : Pc w l s Q) (hq : ∀ s', Q s' → Q' s') : Pc w l s Q' := fun q =>
  Sem.wp_mono _ _ _ (fun f p' s' hf => ⟨hf.1, hq s' hf.2⟩) (fun e p' s' hf => hf) q s (h q)

noncomputable def Rn (Q : Shared → Prop) : Result → Shared → Prop := fun r s => r = .ok .next ∧ Q s
structure HA (w : World) (Q : Shared → Prop) (a : Ans) : Prop where
  h : a.holds (model pw w) (Rn Q)
theorem Pc.of_ev {w : World} {isAsk : Code → Bool} {l : List Stmt} {S : SharedT} {Q : Shared → Prop} (h : ∀ q, HA w Q (evS w isAsk l q S)) : Pc w l S.abs Q := fun q => by
  have h1 := (h q).h
  unfold evS at h1
  rw [← execsF_eq] at h1
  have e : fden = (model pw w).den := fden_eq.symm
  rw [e] at h1
  have h2 := wp_of_evC (M := model pw w) (R := Rn Q) h1
  rw [show ((execs l env0).bind fun f => Sem.pure (Fin.done f)) = (execs l env0 >>= fun f => Sem.pure (Fin.done f)) from rfl, Sem.wp_bind'] at h2
  refine Sem.wp_mono _ _ _ (fun f p' s' hf => ?_) (fun e p' s' hf => ?_) q _ h2
  · have hf' : Except.ok f = Except.ok Flow.next ∧ Q s' := hf
    exact ⟨by injection hf'.1, hf'.2⟩
  · have hf' : Except.error e = Except.ok Flow.next ∧ Q s' := hf
    cases hf'.1
theorem done_holds {w : World} {a : Ans} {S : SharedT} {Q : Shared → Prop} (e : a = .done (.ok .next) S) (h : Q S.abs) : HA w Q a := by rw [e]; exact ⟨⟨rfl, h⟩⟩
end Mine
end
section
-- Head2
set_option maxRecDepth 100000
set_option Elab.async false
set_option linter.all false
namespace Mine
local macro_rules | `(tactic| omega) => `(tactic| lia)
open PySem PySem.W

noncomputable def upd (g : Nat → Obj) : List Nat → Heap → Heap
  | [], h => h
  | c :: cs, h => upd g cs (h.update c fun _ => g c)
noncomputable def psh (g : Nat → Obj) : Nat → Heap → Heap
  | 0, h => h
  | k + 1, h => psh g k (h.push (g h.objs.size))
noncomputable def updT (g : Nat → Obj) : List Nat → BT → BT
  | [], t => t
  | c :: cs, t => updT g cs (t.set c fun _ => g c)
noncomputable def pshT (g : Nat → Obj) : Nat → Nat → BT → BT
  | 0, _, t => t
  | k + 1, n, t => pshT g k (n + 1) (t.ins n (g n))
noncomputable def chkP (g : Nat → Obj) : Nat → Nat → BT → Bool
  | 0, _, _ => true
  | k + 1, n, t => match ((t.ins n (g n)).get n).isSome with
    | true => chkP g k (n + 1) (t.ins n (g n))
    | false => false
noncomputable def chkT (g : Nat → Obj) : List Nat → Nat → Nat → BT → Bool
  | [], k, n, t => chkP g k n t
  | c :: cs, k, n, t => match (t.get c).isSome with
    | true => chkT g cs k n (t.set c fun _ => g c)
    | false => false
theorem chkP_ok {g : Nat → Obj} {life : Life} : ∀ (k n : Nat) (t : BT), chkP g k n t = true → absHeap (pshT g k n t) (n + k) life = psh g k (absHeap t n life)
  | 0, n, t, h => rfl
  | k + 1, n, t, h => by
    unfold chkP at h
    cases hg : ((t.ins n (g n)).get n).isSome with
    | false => rw [hg] at h; cases h
    | true =>
      rw [hg] at h
      have := chkP_ok (life := life) k (n + 1) _ h
      show absHeap (pshT g k (n + 1) (t.ins n (g n))) (n + (k + 1)) life = psh g k ((absHeap t n life).push (g (absHeap t n life).objs.size))
      rw [absHeap_size, ← absHeap_ins hg]
      have e : n + (k + 1) = n + 1 + k := by omega
      rw [e]
      exact this
theorem chkT_ok {g : Nat → Obj} {life : Life} : ∀ (cs : List Nat) (k n : Nat) (t : BT), chkT g cs k n t = true → absHeap (pshT g k n (updT g cs t)) (n + k) life = psh g k (upd g cs (absHeap t n life))
  | [], k, n, t, h => chkP_ok k n t h
  | c :: cs, k, n, t, h => by
    unfold chkT at h
    cases hg : t.get c with
    | none => rw [hg] at h; cases h
    | some o =>
      rw [hg] at h
      have := chkT_ok (life := life) cs k n _ h
      show absHeap (pshT g k n (updT g cs (t.set c fun _ => g c))) (n + k) life = psh g k (upd g cs ((absHeap t n life).update c fun _ => g c))
      rw [this, absHeap_set hg]

theorem objs_of_get {h : Heap} {i : Nat} {o : Obj} (e : h.get? i = some o) : h.objs[i]? = some o := (Heap.get?_some_iff.mp e).1
theorem upd_size (g : Nat → Obj) : ∀ (cs : List Nat) (h : Heap), (upd g cs h).objs.size = h.objs.size
  | [], h => rfl
  | c :: cs, h => by show (upd g cs _).objs.size = _; rw [upd_size, Heap.size_update]
theorem upd_at (g : Nat → Obj) : ∀ (cs : List Nat) (h : Heap) (i : Nat), i < h.objs.size → (upd g cs h).objs[i]? = if i ∈ cs then some (g i) else h.objs[i]?
  | [], h, i, _ => by simp [upd]
  | c :: cs, h, i, hi => by
    show (upd g cs (h.update c fun _ => g c)).objs[i]? = _
    rw [upd_at g cs _ i (by rw [Heap.size_update]; exact hi)]
    by_cases hc : i ∈ cs
    · rw [if_pos hc, if_pos (List.mem_cons_of_mem _ hc)]
    · rw [if_neg hc]
      have hu : (h.update c fun _ => g c).objs[i]? = if c = i then h.objs[i]?.map (fun _ => g c) else h.objs[i]? := by
        cases h; simp [Heap.update, Array.getElem?_modify]
      rw [hu]
      by_cases he : c = i
      · subst he
        rw [if_pos rfl, if_pos (List.mem_cons_self), Array.getElem?_eq_getElem hi]
        rfl
      · rw [if_neg he, if_neg]
        intro hm
        rcases List.mem_cons.mp hm with e | e
        · exact he e.symm
        · exact hc e
theorem psh_size (g : Nat → Obj) : ∀ (k : Nat) (h : Heap), (psh g k h).objs.size = h.objs.size + k
  | 0, h => rfl
  | k + 1, h => by show (psh g k _).objs.size = _; rw [psh_size, Heap.size_push]; omega
theorem psh_at (g : Nat → Obj) : ∀ (k : Nat) (h : Heap) (i : Nat), i < h.objs.size + k → (psh g k h).objs[i]? = if i < h.objs.size then h.objs[i]? else some (g i)
  | 0, h, i, hi => by rw [if_pos (by omega)]; rfl
  | k + 1, h, i, hi => by
    show (psh g k (h.push _)).objs[i]? = _
    rw [psh_at g k _ i (by rw [Heap.size_push]; omega), Heap.size_push]
    have hp : (h.push (g h.objs.size)).objs[i]? = if i = h.objs.size then some (g h.objs.size) else h.objs[i]? := by
      cases h; simp [Heap.push, Array.getElem?_push]
    rw [hp]
    by_cases h1 : i < h.objs.size
    · rw [if_pos (by omega), if_neg (by omega), if_pos h1]
    · rw [if_neg h1]
      by_cases h2 : i = h.objs.size
      · rw [if_pos (by omega), if_pos h2, h2]
      · rw [if_neg (by omega)]
theorem upd_life (g : Nat → Obj) : ∀ (cs : List Nat) (h : Heap), (upd g cs h).life = h.life
  | [], h => rfl
  | c :: cs, h => by show (upd g cs _).life = _; rw [upd_life, update_lifeW]
theorem psh_life (g : Nat → Obj) : ∀ (k : Nat) (h : Heap), (psh g k h).life = h.life
  | 0, h => rfl
  | k + 1, h => by show (psh g k _).life = _; rw [psh_life, push_life]

noncomputable def obAt (h : Heap) (i : Nat) : Obj := h.objs[i]?.getD default
theorem heap_form {h h' : Heap} {g : Nat → Obj} {cs : List Nat} {k : Nat} (A : Al h) (hz : h'.objs.size = h.objs.size + k) (hl : h'.life = h.life) (hk : ∀ i o, i ∉ cs → h.get? i = some o → h'.get? i = some o)
    (hg : ∀ i, i ∈ cs ∨ h.objs.size ≤ i → i < h'.objs.size → g i = obAt h' i) : h' = psh g k (upd g cs h) := by
  have hs : (psh g k (upd g cs h)).objs = h'.objs := by
    apply Array.ext_getElem?
    intro i
    by_cases hi : i < h.objs.size + k
    · have hi' : i < h'.objs.size := by rw [hz]; exact hi
      have he : h'.objs[i]? = some (obAt h' i) := by
        unfold obAt; rw [Array.getElem?_eq_getElem hi']; rfl
      rw [psh_at g k _ i (by rw [upd_size]; exact hi), upd_size]
      by_cases h1 : i < h.objs.size
      · rw [if_pos h1, upd_at g cs h i h1]
        by_cases hc : i ∈ cs
        · rw [if_pos hc, hg i (.inl hc) hi', he]
        · rw [if_neg hc]
          obtain ⟨o, e⟩ := A i h1
          rw [objs_of_get e, objs_of_get (hk i o hc e)]
      · rw [if_neg h1, hg i (.inr (Nat.le_of_not_lt h1)) hi', he]
    · rw [Array.getElem?_eq_none (by rw [psh_size, upd_size]; omega), Array.getElem?_eq_none (by rw [hz]; omega)]
  have hlf : (psh g k (upd g cs h)).life = h'.life := by rw [psh_life, upd_life, hl]
  generalize psh g k (upd g cs h) = x at hs hlf
  cases x; cases h'; simp only at hs hlf; subst hs; subst hlf; rfl

noncomputable def dtS (o : Obj) : Array (Int × Value) × Nat × SetTable := match o.data with
  | .set es ep t => (es, ep, t)
  | _ => (#[], 0, .fresh 0 0 false)
noncomputable def XX.over (X : XX) (lo : List Nat) (h : Heap) : XX :=
  ⟨fun i => match lo.contains i with | true => obAt h i | false => X.x i, fun i => match lo.contains i with | true => (dtS (obAt h i)).1 | false => X.es i,
   fun i => match lo.contains i with | true => (dtS (obAt h i)).2.1 | false => X.ep i, fun i => match lo.contains i with | true => (dtS (obAt h i)).2.2 | false => X.tb i⟩
noncomputable def setAds : List Nat := [75, 80, 84, 85, 89, 90, 94, 95, 99, 103, 104]
noncomputable def gX (X : XX) (i : Nat) : Obj := match setAds.contains i with | true => sX X i | false => X.x i
theorem gX_over {X : XX} {lo : List Nat} {h : Heap} {i : Nat} (hi : lo.contains i = true) (hs : setAds.contains i = true → ∃ es ep t, obAt h i = setO es ep t) : gX (X.over lo h) i = obAt h i := by
  unfold gX
  cases hq : setAds.contains i with
  | true =>
    refine Classical.byContradiction fun k9 => ?_
    obtain ⟨es, ep, t, e⟩ := hs hq
    refine k9 ?_
    show setO _ _ _ = _
    simp only [XX.over, hi]
    rw [e]
    rfl
  | false =>
    simp only [XX.over, hi]

theorem obAt_get {h : Heap} {i : Nat} {o : Obj} (e : h.get? i = some o) : obAt h i = o := by
  unfold obAt; rw [objs_of_get e]; rfl

/-- one ask -/
theorem ask_step {w : World} {Q : Shared → Prop} {A : XX → Ans} {c : Code} {S : SharedT} {sb : XX → SharedT} {r0 : Result} {X : XX} {cs lo : List Nat} {k n : Nat} {gens : Array GenState} {toks : Nat}
    (hv : (A X).view = some (c, true, S)) (hA : ∀ h', A (X.over lo h') = A X) (hal : Al S.abs.heap) (hn : S.n = n) (hlo : lo = cs ++ List.range' n k)
    (hc : ∀ h', chkT (gX (X.over lo h')) cs k n S.tree = true) (hsb : ∀ h', sb (X.over lo h') = ⟨pshT (gX (X.over lo h')) k n (updT (gX (X.over lo h')) cs S.tree), n + k, S.life, gens, S.drawn, toks, S.os⟩)
    {F : Heap → Prop}
    (h : codeAny (model pw w) A0 c (fun r s => r = r0 ∧ ∃ h', s = { S.abs with heap := h', gens := gens, toks := toks } ∧ h'.objs.size = S.abs.heap.objs.size + k ∧
      (∀ i o, i ∉ cs → S.abs.heap.get? i = some o → h'.get? i = some o) ∧ (Al S.abs.heap → Al h') ∧ (∀ i, setAds.contains i = true → lo.contains i = true → ∃ es ep t, h'.get? i = some (setO es ep t)) ∧ F h') S.abs)
    (next : ∀ X', (∀ i, lo.contains i = false → X'.x i = X.x i ∧ X'.es i = X.es i ∧ X'.ep i = X.ep i ∧ X'.tb i = X.tb i) → Al (sb X').abs.heap → F (sb X').abs.heap → HA w Q ((A X').cont r0 (sb X'))) : HA w Q (A X) := by
  refine ⟨ask_holds hv fun Γ p hΓ hB => ?_⟩
  refine Classical.byContradiction fun k9 => ?_
  obtain ⟨r, s', hr, hr0, h', hs', hz, hk, hA', hset, hF⟩ := h Γ p hΓ hB
  refine k9 ?_
  refine ⟨r, s', hr, fun hlife => ⟨sb (X.over lo h'), ?_⟩⟩
  subst hn
  have hz' : h'.objs.size = S.n + k := by rw [hz, abs_size]
  have hh : absHeap (pshT (gX (X.over lo h')) k S.n (updT (gX (X.over lo h')) cs S.tree)) (S.n + k) S.life = h' := by
    rw [chkT_ok cs k S.n S.tree (hc h')]
    refine (heap_form hal hz ?_ hk fun i hi hlt => ?_).symm
    · rw [hs'] at hlife; exact hlife
    · have hin : lo.contains i = true := by
        rw [hlo, List.contains_iff_mem, List.mem_append]
        rcases hi with hi | hi
        · exact .inl hi
        · have h1 : S.n ≤ i := by rw [← abs_size S]; exact hi
          exact .inr (List.mem_range'_1.mpr ⟨h1, by rw [hz'] at hlt; exact hlt⟩)
      exact gX_over hin fun hq => let ⟨es, ep, t, e⟩ := hset i hq hin; ⟨es, ep, t, obAt_get e⟩
  have hab : (sb (X.over lo h')).abs = s' := by
    rw [hsb h', hs']
    unfold SharedT.abs
    dsimp only
    rw [hh]
  refine ⟨hab.symm, ?_⟩
  rw [hr0, ← hA h']
  have hhp : (sb (X.over lo h')).abs.heap = h' := by rw [hab, hs']
  refine (next (X.over lo h') (fun i hi => ?_) (by rw [hhp]; exact hA' hal) (by rw [hhp]; exact hF)).h
  unfold XX.over
  dsimp only
  rw [hi]
  exact ⟨rfl, rfl, rfl, rfl⟩
end Mine
end
section
-- Head3
set_option maxRecDepth 100000
set_option Elab.async false
set_option linter.all false
namespace Mine
open PySem PySem.W

theorem al_set {t : BT} {n : Nat} {life : Life} {a : Nat} {o : Obj} (A : Al (absHeap t n life)) (hg : (t.get a).isSome = true) (ho : o.isFreed = false) : Al (absHeap (t.set a fun _ => o) n life) := by
  obtain ⟨o', e⟩ := Option.isSome_iff_exists.mp hg
  rw [absHeap_set e]
  intro i hi
  rw [Heap.size_update] at hi
  rcases Nat.decEq i a with hia | rfl
  · obtain ⟨o2, e2⟩ := A i hi
    exact ⟨o2, (Heap.get?_update_ne _ _ _ _ hia).trans e2⟩
  · obtain ⟨o2, e2⟩ := A i hi
    exact ⟨o, Heap.get?_update_self (fun _ => o) e2 ho⟩
theorem al_ins {t : BT} {n : Nat} {life : Life} {o : Obj} (A : Al (absHeap t n life)) (hg : ((t.ins n o).get n).isSome = true) (ho : o.isFreed = false) : Al (absHeap (t.ins n o) (n + 1) life) := by
  rw [absHeap_ins hg]
  exact A.push ho
theorem al_two {S S' : SharedT} {o1 o2 : Obj} (A : Al S.abs.heap) (e : S'.abs.heap = absHeap ((S.tree.ins S.n o1).ins (S.n + 1) o2) (S.n + 1 + 1) S.life) (h1 : ((S.tree.ins S.n o1).get S.n).isSome = true) (h2 : (((S.tree.ins S.n o1).ins (S.n + 1) o2).get (S.n + 1)).isSome = true)
    (f1 : o1.isFreed = false) (f2 : o2.isFreed = false) : Al S'.abs.heap := by
  rw [e]
  exact al_ins (al_ins A h1 f1) h2 f2
theorem al_put {S S' : SharedT} {a : Nat} {o : Obj} (A : Al S.abs.heap) (e : S'.abs.heap = absHeap (S.tree.set a fun _ => o) S.n S.life) (hg : (S.tree.get a).isSome = true) (ho : o.isFreed = false) : Al S'.abs.heap := by
  rw [e]
  exact al_set A hg ho
noncomputable def aliveT (t : BT) : Nat → Bool
  | 0 => true
  | n + 1 => match t.get n with
    | some o => match o.isFreed with
      | true => false
      | false => aliveT t n
    | none => false
theorem al_of {t : BT} {life : Life} : ∀ (n : Nat), aliveT t n = true → ∀ m, n ≤ m → ∀ i, i < n → ∃ o, (absHeap t m life).get? i = some o
  | 0, _, m, _, i, hi => absurd hi (Nat.not_lt_zero i)
  | n + 1, h, m, hm, i, hi => by
    unfold aliveT at h
    cases hg : t.get n with
    | none => rw [hg] at h; cases h
    | some o =>
      rw [hg] at h
      dsimp only at h
      cases hf : o.isFreed with
      | true => rw [hf] at h; cases h
      | false =>
        rw [hf] at h
        rcases Nat.lt_or_eq_of_le (Nat.le_of_lt_succ hi) with hi | rfl
        · exact al_of n h m (Nat.le_of_succ_le hm) i hi
        · refine ⟨o, Heap.get?_some_iff.mpr ⟨?_, hf⟩⟩
          rw [absHeap_at, if_pos (show i < m from hm), hg]
          rfl
theorem al_tree {t : BT} {n : Nat} {life : Life} (h : aliveT t n = true) : Al (absHeap t n life) := fun i hi => by
  rw [absHeap_size] at hi
  exact al_of n h n (Nat.le_refl n) i hi

/-- the set at an address, as X says it -/
noncomputable def XS (w : World) (X : XX) (a : Nat) (l : List Str) : Prop := SetL w (X.es a) l ∧ (X.tb a).fits (X.es a).size = true
theorem XS.at {w : World} {X : XX} {a : Nat} {l : List Str} {S : SharedT} (h : XS w X a l) (ha : a < S.n) (hg : S.tree.get a = some (sX X a)) : SetAt w S.abs.heap a l :=
  ⟨_, _, _, (abs_get ha hg).trans rfl, h.1, h.2⟩
theorem SetAt.x {w : World} {X : XX} {a : Nat} {l : List Str} {S : SharedT} (h : SetAt w S.abs.heap a l) (ha : a < S.n) (hg : S.tree.get a = some (sX X a)) : XS w X a l := by
  obtain ⟨es, ep, t, ho, hel, hf⟩ := h
  have e : S.abs.heap.get? a = some (sX X a) := (abs_get ha hg).trans rfl
  rw [ho] at e
  have e' : setO es ep t = sX X a := Option.some.inj e
  unfold sX setO at e'
  injection e' with _ _ e3 _
  injection e3 with e4 e5 e6
  exact ⟨by rw [← e4]; exact hel, by rw [← e4, ← e6]; exact hf⟩
theorem XS.over {w : World} {X X' : XX} {a : Nat} {l : List Str} (h : XS w X a l) (e : X'.x a = X.x a ∧ X'.es a = X.es a ∧ X'.ep a = X.ep a ∧ X'.tb a = X.tb a) : XS w X' a l := by
  unfold XS
  rw [e.2.1, e.2.2.2]
  exact h
theorem SetAt.alive {w : World} {h : Heap} {a : Nat} {l : List Str} (S : SetAt w h a l) : ∃ es ep t, h.get? a = some (setO es ep t) := let ⟨es, ep, t, ho, _⟩ := S; ⟨es, ep, t, ho⟩

theorem new_at {w : World} {S : SharedT} {a : Nat} (ha : a < S.n) (hg : S.tree.get a = some (newS w.params)) : SetAt w S.abs.heap a [] :=
  ⟨#[], 0, _, (abs_get ha hg).trans rfl, ⟨fun e he => by simp at he, .refl _⟩, rfl⟩

theorem only_of {lo : List Nat} {a i : Nat} (h : (lo.all fun i => !setAds.contains i || i == a) = true) (h1 : setAds.contains i = true) (h2 : lo.contains i = true) : i = a := by
  have := List.all_eq_true.mp h i (List.contains_iff_mem.mp h2)
  rw [h1] at this
  simpa using this

/-- a set filled from a str -/
theorem fill_ask {w : World} {S : SharedT} {a b : Nat} {x : Str} {tk : Tok} {lo : List Nat} (ha : a < S.n) (hg : S.tree.get a = some (newS w.params)) (hb : b < S.n)
    (hgb : S.tree.get b = some ⟨.type "str_ascii_iterator", none, .fields #[.str x tk, .int 0 0], #[]⟩) (hab : a ≠ b) (hnd : (grownL x.cps.toList []).Nodup) (hlen : (grownL x.cps.toList []).length < 4000)
    (hset : (lo.all fun i => !setAds.contains i || i == a) = true) :
    codeAny (model pw w) A0 (.builtin "set.update.loop" ⟨[.ref a, .ref b], []⟩) (fun r s => r = none_ ∧ ∃ h', s = { S.abs with heap := h', gens := S.gens, toks := S.toks + 2 * x.cps.toList.length } ∧ h'.objs.size = S.abs.heap.objs.size + 2 ∧
      (∀ i o, i ∉ [a, b] → S.abs.heap.get? i = some o → h'.get? i = some o) ∧ (Al S.abs.heap → Al h') ∧ (∀ i, setAds.contains i = true → lo.contains i = true → ∃ es ep t, h'.get? i = some (setO es ep t)) ∧ SetAt w h' a (grownL x.cps.toList [])) S.abs := by
  refine loop_str rfl hab x.cps.toList 0 [] S.abs (by rfl) ⟨_, (abs_get hb hgb).trans rfl, rfl, rfl⟩ (new_at ha hg) hnd hlen fun h' hz hk hS hA => ?_
  refine ⟨rfl, h', rfl, hz, fun i o hi e => hk i o (fun q => hi (q ▸ .head _)) (fun q => hi (q ▸ .tail _ (.head _))) e, hA, fun i h1 h2 => ?_, hS⟩
  rw [only_of hset h1 h2]
  exact hS.alive

theorem or_ask {w : World} {S : SharedT} {a b n : Nat} {l : List Str} {x : Str} {lo : List Nat} (hS : SetAt w S.abs.heap a l) (hb : SetAt w S.abs.heap b [x]) (hn : S.n = n) (hab : a ≠ b) (hx : x ∉ l) (hl : 0 < l.length) (hl' : l.length < 1000) (C : Cyc (maskFor l.length)) (hlm : (l.length + 1) * 5 < maskFor l.length * 3)
    (hset : (lo.all fun i => !setAds.contains i || i == n) = true) :
    codeAny (model pw w) A0 (.builtin "frozenset.__or__" ⟨[.ref a, .ref b], []⟩) (fun r s => r = refR n ∧ ∃ h', s = { S.abs with heap := h', gens := S.gens, toks := S.toks } ∧ h'.objs.size = S.abs.heap.objs.size + 1 ∧
      (∀ i o, i ∉ ([] : List Nat) → S.abs.heap.get? i = some o → h'.get? i = some o) ∧ (Al S.abs.heap → Al h') ∧ (∀ i, setAds.contains i = true → lo.contains i = true → ∃ es ep t, h'.get? i = some (setO es ep t)) ∧ SetAt w h' n (x :: l)) S.abs := by
  have hz0 : S.abs.heap.objs.size = n := (abs_size S).trans hn
  refine or_body hS hb hab hx hl hl' C hlm fun h' hz hk hN => ?_
  rw [hz0] at hN ⊢
  refine ⟨rfl, h', rfl, by rw [hz, hz0], fun i o _ e => hk i o e, fun A => A.grown hz hk (by rw [hz0]; obtain ⟨es, ep, t, ho, _⟩ := hN; exact ⟨_, ho⟩), fun i h1 h2 => ?_, hN⟩
  rw [only_of hset h1 h2]
  exact hN.alive

theorem sub_ask {w : World} {S : SharedT} {a b n : Nat} {l xs : List Str} {lo : List Nat} (hS : SetAt w S.abs.heap a l) (hb : SetAt w S.abs.heap b xs) (hn : S.n = n) (hnd : xs.Nodup) (hmem : ∀ x ∈ xs, x ∈ l) (hl : 0 < l.length) (hl' : l.length < 1000) (C : Cyc (maskFor l.length)) (hlm : l.length ≤ maskFor l.length)
    (hq : xs.length < l.length / 4) (hdm : xs.length ≤ maskFor l.length / 4)
    (hset : (lo.all fun i => !setAds.contains i || i == n) = true) :
    codeAny (model pw w) A0 (.builtin "frozenset.__sub__" ⟨[.ref a, .ref b], []⟩) (fun r s => r = refR n ∧ ∃ h', s = { S.abs with heap := h', gens := S.gens, toks := S.toks } ∧ h'.objs.size = S.abs.heap.objs.size + 1 ∧
      (∀ i o, i ∉ ([] : List Nat) → S.abs.heap.get? i = some o → h'.get? i = some o) ∧ (Al S.abs.heap → Al h') ∧ (∀ i, setAds.contains i = true → lo.contains i = true → ∃ es ep t, h'.get? i = some (setO es ep t)) ∧ SetAt w h' n (minus l xs)) S.abs := by
  have hz0 : S.abs.heap.objs.size = n := (abs_size S).trans hn
  refine sub_body hS hb hnd hmem hl hl' C hlm hq hdm fun h' hz hk hN => ?_
  rw [hz0] at hN ⊢
  refine ⟨rfl, h', rfl, by rw [hz, hz0], fun i o _ e => hk i o e, fun A => A.grown hz hk (by rw [hz0]; obtain ⟨es, ep, t, ho, _⟩ := hN; exact ⟨_, ho⟩), fun i h1 h2 => ?_, hN⟩
  rw [only_of hset h1 h2]
  exact hN.alive
end Mine
end
section
-- Head5
set_option maxRecDepth 100000
set_option Elab.async false
set_option linter.all false
namespace Mine
open PySem PySem.W

noncomputable def L75 : List Str := grownL (chrs 0 32) []
noncomputable def L84 : List Str := one 127 :: L75

theorem ad75 {i : Nat} (h1 : setAds.contains i = true) (h2 : ([69, 73, 75, 76, 77, 78, 79] : List Nat).contains i = true) : i = 75 := by
  have h : (setAds.all fun i => !([69, 73, 75, 76, 77, 78, 79] : List Nat).contains i || i == 75) = true := by decide +kernel
  have h3 := List.all_eq_true.mp h i (by simpa using h1)
  rw [h2] at h3
  exact beq_iff_eq.mp h3
theorem gen_ask {w : World} {X : XX} {os : OsState} :
    codeAny (model pw w) A0 (.builtin "set.update.loop" ⟨[.ref 75, .ref 74], []⟩) (fun r s => r = none_ ∧ ∃ h', s = { (s3a1 w.params X os).abs with heap := h', gens := #[.finished], toks := 470 } ∧ h'.objs.size = (s3a1 w.params X os).abs.heap.objs.size + 4 ∧
      (∀ i o, i ∉ [69, 73, 75] → (s3a1 w.params X os).abs.heap.get? i = some o → h'.get? i = some o) ∧ (Al (s3a1 w.params X os).abs.heap → Al h') ∧ (∀ i, setAds.contains i = true → [69, 73, 75, 76, 77, 78, 79].contains i = true → ∃ es ep t, h'.get? i = some (setO es ep t)) ∧ SetAt w h' 75 L75) (s3a1 w.params X os).abs := by
  have g69 : (s3a1 w.params X os).tree.get 69 = some (o69d3a1 w.params) := by kernel_rfl
  have g74 : (s3a1 w.params X os).tree.get 74 = some (o74d3a1 w.params) := by kernel_rfl
  have n73 : (s3a1 w.params X os).abs.heap.isNs 73 = true := by kernel_rfl
  have n3 : (s3a1 w.params X os).abs.heap.isNs mainGlobals = true := by kernel_rfl
  have nb : (s3a1 w.params X os).abs.heap.isNs builtinsNs = true := by kernel_rfl
  have nc : (s3a1 w.params X os).abs.heap.isNs cStatics = true := by kernel_rfl
  have m3 : (s3a1 w.params X os).abs.heap.nsMap mainGlobals (Str.ofString "chr") = none := by kernel_rfl
  have mb : (s3a1 w.params X os).abs.heap.nsMap builtinsNs (Str.ofString "chr") = some (.builtin "chr") := by kernel_rfl
  have mc : (s3a1 w.params X os).abs.heap.nsMap cStatics "sys.recursionlimit" = none := by kernel_rfl
  have hst : ∀ s'' : Shared, GSt 0 s''.heap → GenState.Goes (model pw w) A0.in1.in1 GR GY 32 (.fresh genC) (.send .none) s'' := fun s'' h'' => by
    have e : genC = .compStart gExp 0 (.ref 69) .none cenv := by rw [← genE_eq]; rfl
    rw [e]
    exact ⟨rfl, gen_start rfl h''⟩
  refine loop_gen rfl (by decide) 32 0 [] (s3a1 w.params X os).abs (.fresh genC) rfl rfl hst ?_ ?_ ⟨_, .of_isNs nc, mc⟩ (new_at (Nat.le_of_ble_eq_true rfl) (by kernel_rfl)) (by decide +kernel) (by decide +kernel) fun h' hz hk hS hA => ?_
  · refine ⟨?_, ⟨_, .of_isNs n73⟩, ⟨_, .of_isNs n3, m3⟩, ⟨_, .of_isNs nb, mb⟩⟩
    exact (abs_get (Nat.le_of_ble_eq_true rfl) g69).trans rfl
  · exact ⟨_, _, _, (abs_get (Nat.le_of_ble_eq_true rfl) g74).trans rfl, rfl, rfl, rfl⟩
  · refine ⟨rfl, h', rfl, hz, fun i o hi e => hk i o (fun q => hi (by simp [q])) (fun q => hi (by simp [q])) (fun q => hi (by simp [q])) e, hA, fun i h1 h2 => ?_, hS⟩
    have : i = 75 := ad75 h1 h2
    rw [this]
    exact hS.alive

theorem stg3 (w : World) (X : XX) (os : OsState) : Pc w [stA 4] (s68 w.params X os).abs (fun s => ∃ X', s = (s85 w.params X' os).abs ∧ Al (s85 w.params X' os).abs.heap ∧ XS w X' 84 L84) := by
  refine Pc.of_ev (isAsk := isAskS) fun q => ?_
  have al1 : Al (s3a1 w.params X os).abs.heap := al_tree (by kernel_rfl)
  refine ask_step (A := fun X => evS w isAskS [stA 4] q (s68 w.params X os)) (sb := fun X => s3b1 w.params X os) (lo := [69, 73, 75, 76, 77, 78, 79]) (X := X) (st3_1 w X os q) (fun h' => by kernel_rfl) al1 rfl rfl (fun h' => by kernel_rfl) (fun h' => by kernel_rfl) gen_ask ?_
  intro X1 hX1 al2 F1
  have x75 : XS w X1 75 L75 := F1.x (Nat.le_of_ble_eq_true rfl) (by kernel_rfl)
  have al3 : Al (s3a2 w.params X1 os).abs.heap := al_two (S := s3b1 w.params X1 os) (o1 := newS w.params) (o2 := o81d3a2 w.params) al2 (by kernel_rfl) (by kernel_rfl) (by kernel_rfl) (by kernel_rfl) (by kernel_rfl)
  refine ask_step (A := fun X => (evS w isAskS [stA 4] q (s68 w.params X os)).cont none_ (s3b1 w.params X os)) (sb := fun X => s3b2 w.params X os) (lo := [80, 81, 82, 83]) (X := X1) (st3_2 w X1 os q) (fun h' => by kernel_rfl) al3 rfl rfl (fun h' => by kernel_rfl) (fun h' => by kernel_rfl)
    (fill_ask (x := one 127) (tk := 471) (Nat.le_of_ble_eq_true rfl) (by kernel_rfl) (Nat.le_of_ble_eq_true rfl) (by kernel_rfl) (by decide) (by decide +kernel) (by decide +kernel) (by decide +kernel)) ?_
  intro X2 hX2 al4 F2
  have x75' : XS w X2 75 L75 := x75.over (hX2 75 rfl)
  have x80 : XS w X2 80 [one 127] := F2.x (Nat.le_of_ble_eq_true rfl) (by kernel_rfl)
  refine ask_step (A := fun X => ((evS w isAskS [stA 4] q (s68 w.params X os)).cont none_ (s3b1 w.params X os)).cont none_ (s3b2 w.params X os)) (sb := fun X => s3b3 w.params X os) (lo := [84]) (X := X2) (st3_3 w X2 os q) (fun h' => by kernel_rfl) al4 rfl rfl (fun h' => by kernel_rfl) (fun h' => by kernel_rfl)
    (or_ask (n := 84) (x75'.at (Nat.le_of_ble_eq_true rfl) (by kernel_rfl)) (x80.at (Nat.le_of_ble_eq_true rfl) (by kernel_rfl)) rfl (by decide) (by decide +kernel) (by decide +kernel) (by decide +kernel) cyc127 (by decide +kernel) (by decide +kernel)) ?_
  intro X3 hX3 al5 F3
  refine done_holds (st3_end w X3 os q) ⟨X3, rfl, al_put (S := s3b3 w.params X3 os) (a := 3) (o := o3d3 w.params) al5 (by kernel_rfl) (by kernel_rfl) (by kernel_rfl), F3.x (Nat.le_of_ble_eq_true rfl) (by kernel_rfl)⟩
noncomputable def q910 : Str := ⟨#[9, 10]⟩
noncomputable def q329 : Str := ⟨#[32, 9]⟩
noncomputable def L89 : List Str := minus L84 (grownL (one 9).cps.toList [])
noncomputable def L94 : List Str := minus L84 (grownL q910.cps.toList [])
noncomputable def L103 : List Str := one 10 :: grownL q329.cps.toList []
theorem stg4 (w : World) (X : XX) (os : OsState) (al0 : Al (s85 w.params X os).abs.heap) (x84 : XS w X 84 L84) : Pc w [stA 5] (s85 w.params X os).abs (fun s => ∃ X', s = (s90 w.params X' os).abs ∧ Al (s90 w.params X' os).abs.heap ∧ XS w X' 84 L84 ∧ XS w X' 85 (grownL ((one 9)).cps.toList []) ∧ XS w X' 89 L89) := by
  refine Pc.of_ev (isAsk := isAskS) fun q => ?_
  have al1 : Al (s4a1 w.params X os).abs.heap := al_two (S := s85 w.params X os) (o1 := newS w.params) (o2 := o86d4a1 w.params) al0 (by kernel_rfl) (by kernel_rfl) (by kernel_rfl) (by kernel_rfl) (by kernel_rfl)
  refine ask_step (A := fun X => evS w isAskS [stA 5] q (s85 w.params X os)) (sb := fun X => s4b1 w.params X os) (lo := [85, 86, 87, 88]) (X := X) (st4_1 w X os q) (fun h' => by kernel_rfl) al1 rfl rfl (fun h' => by kernel_rfl) (fun h' => by kernel_rfl)
    (fill_ask (x := (one 9)) (tk := 475) (Nat.le_of_ble_eq_true rfl) (by kernel_rfl) (Nat.le_of_ble_eq_true rfl) (by kernel_rfl) (by decide) (by decide +kernel) (by decide +kernel) (by decide +kernel)) ?_
  intro X1 hX1 al2 F1
  have y85 : XS w X1 85 (grownL ((one 9)).cps.toList []) := F1.x (Nat.le_of_ble_eq_true rfl) (by kernel_rfl)
  have y84 : XS w X1 84 L84 := x84.over (hX1 84 rfl)
  refine ask_step (A := fun X => (evS w isAskS [stA 5] q (s85 w.params X os)).cont none_ (s4b1 w.params X os)) (sb := fun X => s4b2 w.params X os) (lo := [89]) (X := X1) (st4_2 w X1 os q) (fun h' => by kernel_rfl) al2 rfl rfl (fun h' => by kernel_rfl) (fun h' => by kernel_rfl)
    (sub_ask (n := 89) (y84.at (Nat.le_of_ble_eq_true rfl) (by kernel_rfl)) (y85.at (Nat.le_of_ble_eq_true rfl) (by kernel_rfl)) rfl (by decide +kernel) (by decide +kernel) (by decide +kernel) (by decide +kernel) cyc127 (by decide +kernel) (by decide +kernel) (by decide +kernel) (by decide +kernel)) ?_
  intro X2 hX2 al3 F2
  have z89 : XS w X2 89 L89 := F2.x (Nat.le_of_ble_eq_true rfl) (by kernel_rfl)
  have z84 : XS w X2 84 L84 := y84.over (hX2 84 rfl)
  have z85 : XS w X2 85 (grownL ((one 9)).cps.toList []) := y85.over (hX2 85 rfl)
  exact done_holds (st4_end w X2 os q) ⟨X2, rfl, al_put (S := s4b2 w.params X2 os) (a := 3) (o := o3d4 w.params) al3 (by kernel_rfl) (by kernel_rfl) (by kernel_rfl), z84, z85, z89⟩

theorem stg5 (w : World) (X : XX) (os : OsState) (al0 : Al (s90 w.params X os).abs.heap) (x84 : XS w X 84 L84) (x89 : XS w X 89 L89) : Pc w [stA 6] (s90 w.params X os).abs (fun s => ∃ X', s = (s95 w.params X' os).abs ∧ Al (s95 w.params X' os).abs.heap ∧ XS w X' 84 L84 ∧ XS w X' 89 L89 ∧ XS w X' 90 (grownL (q910).cps.toList []) ∧ XS w X' 94 L94) := by
  refine Pc.of_ev (isAsk := isAskS) fun q => ?_
  have al1 : Al (s5a1 w.params X os).abs.heap := al_two (S := s90 w.params X os) (o1 := newS w.params) (o2 := o91d5a1 w.params) al0 (by kernel_rfl) (by kernel_rfl) (by kernel_rfl) (by kernel_rfl) (by kernel_rfl)
  refine ask_step (A := fun X => evS w isAskS [stA 6] q (s90 w.params X os)) (sb := fun X => s5b1 w.params X os) (lo := [90, 91, 92, 93]) (X := X) (st5_1 w X os q) (fun h' => by kernel_rfl) al1 rfl rfl (fun h' => by kernel_rfl) (fun h' => by kernel_rfl)
    (fill_ask (x := q910) (tk := 479) (Nat.le_of_ble_eq_true rfl) (by kernel_rfl) (Nat.le_of_ble_eq_true rfl) (by kernel_rfl) (by decide) (by decide +kernel) (by decide +kernel) (by decide +kernel)) ?_
  intro X1 hX1 al2 F1
  have y90 : XS w X1 90 (grownL (q910).cps.toList []) := F1.x (Nat.le_of_ble_eq_true rfl) (by kernel_rfl)
  have y84 : XS w X1 84 L84 := x84.over (hX1 84 rfl)
  have y89 : XS w X1 89 L89 := x89.over (hX1 89 rfl)
  refine ask_step (A := fun X => (evS w isAskS [stA 6] q (s90 w.params X os)).cont none_ (s5b1 w.params X os)) (sb := fun X => s5b2 w.params X os) (lo := [94]) (X := X1) (st5_2 w X1 os q) (fun h' => by kernel_rfl) al2 rfl rfl (fun h' => by kernel_rfl) (fun h' => by kernel_rfl)
    (sub_ask (n := 94) (y84.at (Nat.le_of_ble_eq_true rfl) (by kernel_rfl)) (y90.at (Nat.le_of_ble_eq_true rfl) (by kernel_rfl)) rfl (by decide +kernel) (by decide +kernel) (by decide +kernel) (by decide +kernel) cyc127 (by decide +kernel) (by decide +kernel) (by decide +kernel) (by decide +kernel)) ?_
  intro X2 hX2 al3 F2
  have z94 : XS w X2 94 L94 := F2.x (Nat.le_of_ble_eq_true rfl) (by kernel_rfl)
  have z84 : XS w X2 84 L84 := y84.over (hX2 84 rfl)
  have z89 : XS w X2 89 L89 := y89.over (hX2 89 rfl)
  have z90 : XS w X2 90 (grownL (q910).cps.toList []) := y90.over (hX2 90 rfl)
  exact done_holds (st5_end w X2 os q) ⟨X2, rfl, al_put (S := s5b2 w.params X2 os) (a := 3) (o := o3d5 w.params) al3 (by kernel_rfl) (by kernel_rfl) (by kernel_rfl), z84, z89, z90, z94⟩

theorem stg6 (w : World) (X : XX) (os : OsState) (al0 : Al (s95 w.params X os).abs.heap) (x89 : XS w X 89 L89) : Pc w [stA 7] (s95 w.params X os).abs (fun s => ∃ X', s = (s99 w.params X' os).abs ∧ Al (s99 w.params X' os).abs.heap ∧ XS w X' 89 L89 ∧ XS w X' 95 (grownL (q329).cps.toList [])) := by
  refine Pc.of_ev (isAsk := isAskS) fun q => ?_
  have al1 : Al (s6a1 w.params X os).abs.heap := al_two (S := s95 w.params X os) (o1 := newS w.params) (o2 := o96d6a1 w.params) al0 (by kernel_rfl) (by kernel_rfl) (by kernel_rfl) (by kernel_rfl) (by kernel_rfl)
  refine ask_step (A := fun X => evS w isAskS [stA 7] q (s95 w.params X os)) (sb := fun X => s6b1 w.params X os) (lo := [95, 96, 97, 98]) (X := X) (st6_1 w X os q) (fun h' => by kernel_rfl) al1 rfl rfl (fun h' => by kernel_rfl) (fun h' => by kernel_rfl)
    (fill_ask (x := q329) (tk := 485) (Nat.le_of_ble_eq_true rfl) (by kernel_rfl) (Nat.le_of_ble_eq_true rfl) (by kernel_rfl) (by decide) (by decide +kernel) (by decide +kernel) (by decide +kernel)) ?_
  intro X1 hX1 al2 F1
  have y95 : XS w X1 95 (grownL (q329).cps.toList []) := F1.x (Nat.le_of_ble_eq_true rfl) (by kernel_rfl)
  have y89 : XS w X1 89 L89 := x89.over (hX1 89 rfl)
  exact done_holds (st6_end w X1 os q) ⟨X1, rfl, al_put (S := s6b1 w.params X1 os) (a := 3) (o := o3d6 w.params) al2 (by kernel_rfl) (by kernel_rfl) (by kernel_rfl), y89, y95⟩

theorem stg7 (w : World) (X : XX) (os : OsState) (al0 : Al (s99 w.params X os).abs.heap) (x89 : XS w X 89 L89) (x95 : XS w X 95 (grownL q329.cps.toList [])) : Pc w [stA 8] (s99 w.params X os).abs (fun s => ∃ X', s = (s104 w.params X' os).abs ∧ Al (s104 w.params X' os).abs.heap ∧ XS w X' 89 L89 ∧ XS w X' 95 (grownL q329.cps.toList []) ∧ XS w X' 99 (grownL ((one 10)).cps.toList []) ∧ XS w X' 103 L103) := by
  refine Pc.of_ev (isAsk := isAskS) fun q => ?_
  have al1 : Al (s7a1 w.params X os).abs.heap := al_two (S := s99 w.params X os) (o1 := newS w.params) (o2 := o100d7a1 w.params) al0 (by kernel_rfl) (by kernel_rfl) (by kernel_rfl) (by kernel_rfl) (by kernel_rfl)
  refine ask_step (A := fun X => evS w isAskS [stA 8] q (s99 w.params X os)) (sb := fun X => s7b1 w.params X os) (lo := [99, 100, 101, 102]) (X := X) (st7_1 w X os q) (fun h' => by kernel_rfl) al1 rfl rfl (fun h' => by kernel_rfl) (fun h' => by kernel_rfl)
    (fill_ask (x := (one 10)) (tk := 491) (Nat.le_of_ble_eq_true rfl) (by kernel_rfl) (Nat.le_of_ble_eq_true rfl) (by kernel_rfl) (by decide) (by decide +kernel) (by decide +kernel) (by decide +kernel)) ?_
  intro X1 hX1 al2 F1
  have y99 : XS w X1 99 (grownL ((one 10)).cps.toList []) := F1.x (Nat.le_of_ble_eq_true rfl) (by kernel_rfl)
  have y89 : XS w X1 89 L89 := x89.over (hX1 89 rfl)
  have y95 : XS w X1 95 (grownL q329.cps.toList []) := x95.over (hX1 95 rfl)
  refine ask_step (A := fun X => (evS w isAskS [stA 8] q (s99 w.params X os)).cont none_ (s7b1 w.params X os)) (sb := fun X => s7b2 w.params X os) (lo := [103]) (X := X1) (st7_2 w X1 os q) (fun h' => by kernel_rfl) al2 rfl rfl (fun h' => by kernel_rfl) (fun h' => by kernel_rfl)
    (or_ask (n := 103) (y95.at (Nat.le_of_ble_eq_true rfl) (by kernel_rfl)) (y99.at (Nat.le_of_ble_eq_true rfl) (by kernel_rfl)) rfl (by decide) (by decide +kernel) (by decide +kernel) (by decide +kernel) cyc7 (by decide +kernel) (by decide +kernel)) ?_
  intro X2 hX2 al3 F2
  have z103 : XS w X2 103 L103 := F2.x (Nat.le_of_ble_eq_true rfl) (by kernel_rfl)
  have z89 : XS w X2 89 L89 := y89.over (hX2 89 rfl)
  have z95 : XS w X2 95 (grownL q329.cps.toList []) := y95.over (hX2 95 rfl)
  have z99 : XS w X2 99 (grownL ((one 10)).cps.toList []) := y99.over (hX2 99 rfl)
  exact done_holds (st7_end w X2 os q) ⟨X2, rfl, al_put (S := s7b2 w.params X2 os) (a := 3) (o := o3d7 w.params) al3 (by kernel_rfl) (by kernel_rfl) (by kernel_rfl), z89, z95, z99, z103⟩

noncomputable def qhex : Str := .ofString "0123456789abcdefABCDEF"
theorem stg10 (w : World) (X : XX) (os : OsState) (al0 : Al (s104w w.params X os).abs.heap) (x89 : XS w X 89 L89) : Pc w [stA 11] (s104w w.params X os).abs (fun s => ∃ X', s = (s108z w.params X' os).abs ∧ XS w X' 89 L89 ∧ XS w X' 104 (grownL (qhex).cps.toList [])) := by
  refine Pc.of_ev (isAsk := isAskS) fun q => ?_
  have al1 : Al (s10a1 w.params X os).abs.heap := al_two (S := s104w w.params X os) (o1 := newS w.params) (o2 := o105d10a1 w.params) al0 (by kernel_rfl) (by kernel_rfl) (by kernel_rfl) (by kernel_rfl) (by kernel_rfl)
  refine ask_step (A := fun X => evS w isAskS [stA 11] q (s104w w.params X os)) (sb := fun X => s10b1 w.params X os) (lo := [104, 105, 106, 107]) (X := X) (st10_1 w X os q) (fun h' => by kernel_rfl) al1 rfl rfl (fun h' => by kernel_rfl) (fun h' => by kernel_rfl)
    (fill_ask (x := qhex) (tk := 500) (Nat.le_of_ble_eq_true rfl) (by kernel_rfl) (Nat.le_of_ble_eq_true rfl) (by kernel_rfl) (by decide) (by decide +kernel) (by decide +kernel) (by decide +kernel)) ?_
  intro X1 hX1 al2 F1
  have y104 : XS w X1 104 (grownL (qhex).cps.toList []) := F1.x (Nat.le_of_ble_eq_true rfl) (by kernel_rfl)
  have y89 : XS w X1 89 L89 := x89.over (hX1 89 rfl)
  exact done_holds (st10_end w X1 os q) ⟨X1, rfl, y89, y104⟩

theorem stg1 (w : World) (X : XX) (os : OsState) : Pc w L1 (s32 w.params X os).abs (fun s => s = (s68 w.params X os).abs) :=
  Pc.of_ev (isAsk := fun _ => false) fun q => done_holds (pc1 w X os q) rfl
theorem stg2 (w : World) (X : XX) (os : OsState) (al : Al (s104 w.params X os).abs.heap) : Pc w L2 (s104 w.params X os).abs (fun s => s = (s104w w.params X os).abs ∧ Al (s104w w.params X os).abs.heap) :=
  Pc.of_ev (isAsk := fun _ => false) fun q => done_holds (pc2 w X os q) ⟨rfl, al_put (S := s104 w.params X os) (a := 3) (o := o3w w.params) al (by kernel_rfl) (by kernel_rfl) (by kernel_rfl)⟩
theorem stg11 (w : World) (X : XX) (os : OsState) : Pc w L3 (s108z w.params X os).abs (fun s => s = (s350 w.params X os).abs) :=
  (Pc.of_ev (isAsk := fun _ => false) fun q => done_holds (Q := fun s => s = (sM1 w.params X os).abs) (pc3a w X os q) rfl).append fun s e => e ▸
    (Pc.of_ev (isAsk := fun _ => false) fun q => done_holds (Q := fun s => s = (sM2 w.params X os).abs) (pc3b w X os q) rfl).append fun s e => e ▸
      Pc.of_ev (isAsk := fun _ => false) fun q => done_holds (pc3c w X os q) rfl

theorem body_pc (w : World) (X : XX) (os : OsState) : Pc w (behindTheImports pw) (s32 w.params X os).abs (fun s => ∃ X', s = (s350 w.params X' os).abs ∧ XS w X' 89 L89) := by
  rw [body_split]
  refine (stg1 w X os).append fun s e => ?_
  subst e
  refine (stg3 w X os).append fun s e => ?_
  refine Classical.byContradiction fun k9 => ?_
  obtain ⟨X, rfl, al, x84⟩ := e
  refine k9 ?_
  refine (stg4 w X os al x84).append fun s e => ?_
  refine Classical.byContradiction fun k9 => ?_
  obtain ⟨X, rfl, al, x84, _, x89⟩ := e
  refine k9 ?_
  refine (stg5 w X os al x84 x89).append fun s e => ?_
  refine Classical.byContradiction fun k9 => ?_
  obtain ⟨X, rfl, al, _, x89, _, _⟩ := e
  refine k9 ?_
  refine (stg6 w X os al x89).append fun s e => ?_
  refine Classical.byContradiction fun k9 => ?_
  obtain ⟨X, rfl, al, x89, x95⟩ := e
  refine k9 ?_
  refine (stg7 w X os al x89 x95).append fun s e => ?_
  refine Classical.byContradiction fun k9 => ?_
  obtain ⟨X, rfl, al, x89, _, _, _⟩ := e
  refine k9 ?_
  refine (stg2 w X os al).append fun s e => ?_
  obtain ⟨rfl, al⟩ := e
  refine (stg10 w X os al x89).append fun s e => ?_
  refine Classical.byContradiction fun k9 => ?_
  obtain ⟨X, rfl, x89, _⟩ := e
  refine k9 ?_
  exact (stg11 w X os).mono fun s e => ⟨X, e, x89⟩
end Mine
end
section
-- Head6
set_option maxRecDepth 100000
set_option Elab.async false
set_option linter.all false
namespace Mine
open PySem PySem.W

theorem block_start : blockStart (behindTheImports pw) env0 = pure () := by kernel_rfl
noncomputable def TopR (w : World) (os : OsState) : Shared → Prop := fun s => ∃ X, s = (s350 w.params X os).abs ∧ XS w X 89 L89

theorem body_code (w : World) (X : XX) (os : OsState) (p : Pos) : wpCode (model pw w) ctxB (fun r s => r = .ok .next ∧ TopR w os s) p (s32 w.params X os).abs := by
  rw [wpCode_iff_wp]
  show Sem.wp (model pw w) ctxB (blockStart (behindTheImports pw) env0 >>= fun _ => ((execs (behindTheImports pw) env0).onRaise (leaving env0)) >>= fun f => Sem.pure (Fin.done f)) _ _ p _
  rw [block_start]
  simp only [Sem.wp_bind', Sem.wp_onRaise]
  show Sem.wp (model pw w) ctxB (execs (behindTheImports pw) env0) _ _ p _
  refine Sem.wp_mono _ _ _ (fun f p' s' hf => ?_) (fun e p' s' hf => hf.elim) p _ (body_pc w X os p)
  obtain ⟨rfl, h⟩ := hf
  exact ⟨rfl, h⟩

noncomputable def Γ0 : Ctx := ⟨.builtin "claim.caller" {}, none, none, [], none⟩
noncomputable def Ans.view2 : Ans → Option (Ctx × SharedT)
  | .ask Γ _ S _ => some (Γ, S)
  | _ => none
noncomputable def preA (w : World) (X : XX) (os : OsState) : Ans := evC fden pw w.params isAskB 100000 Γ0 (topStub pw).cur default (s28 w.params X os) .done
theorem pre_view : ∀ (w : World) (X : XX) (os : OsState), (preA w X os).view2 = some (ctxB, s32 w.params X os) := fun w X os => by kernel_rfl
theorem pre_cont : ∀ (w : World) (X : XX) (os : OsState) (X' : XX), (preA w X os).cont (.ok .next) (s350 w.params X' os) = .done (.ok (.ret .none)) (s350 w.params X' os) := fun w X os X' => by kernel_rfl

theorem top_wp (w : World) (X : XX) (os : OsState) : Sem.wp (model pw w) Γ0 (topStub pw).cur (Sem.finPost (model pw w) Γ0 fun r s => r = .ok (.ret .none) ∧ TopR w os s) (fun e _ s => (Except.error e : Result) = .ok (.ret .none) ∧ TopR w os s) default (s28 w.params X os).abs := by
  refine wp_of_evC (M := model pw w) (isAsk := isAskB) (n := 100000) (R := fun r s => r = .ok (.ret .none) ∧ TopR w os s) ?_
  have e : fden = (model pw w).den := fden_eq.symm
  have hv := pre_view w X os
  have hc := pre_cont w X os
  unfold preA at hv hc
  rw [e] at hv hc
  show (evC (model pw w).den pw w.params isAskB 100000 Γ0 (topStub pw).cur default (s28 w.params X os) .done).holds _ _
  generalize evC (model pw w).den pw w.params isAskB 100000 Γ0 (topStub pw).cur default (s28 w.params X os) .done = a at hv hc
  cases a with
  | done r S => cases hv
  | fail => cases hv
  | ask Γ p S k =>
    have hv' : (Γ, S) = (ctxB, s32 w.params X os) := Option.some.inj hv
    injection hv' with h1 h2
    subst h1 h2
    obtain ⟨r, s', hr, rfl, X', rfl, hx⟩ := body_code w X os p
    refine ⟨_, _, hr, ?_⟩
    rw [show k (.ok .next) (s350 w.params X' os) = _ from hc X']
    exact ⟨rfl, X', rfl, hx⟩
end Mine
end
section
-- Head7
set_option maxRecDepth 100000
set_option Elab.async false
set_option linter.all false
namespace Mine
open PySem PySem.W

theorem through_of {s s' : Shared} {t : Thread} {p : Program} {w : World} {den : Code → Sem Fin} {f : Flow} (h : step den p w s t = .halt (.done f) s') : through t = true ∧ s' = s := by
  refine ⟨?_, step_halt_same den p w s s' t _ h⟩
  obtain ⟨heap, gens, drawn, toks, os⟩ := s
  obtain ⟨cur, code, pos, stack⟩ := t
  cases cur
  case pure fin =>
    cases fin with
    | again c => exact Step.noConfusion h
    | done f' =>
      cases stack with
      | nil => rfl
      | cons fr rest => cases fr <;> exact Step.noConfusion h
  case raise e =>
    cases stack with
    | nil =>
      replace h : finish (.uncaught e) _ = Step.halt (.done f) s' := h
      unfold finish at h
      split at h <;> cases h
    | cons fr rest => cases fr <;> exact Step.noConfusion h
  all_goals first
    | exact Step.noConfusion h
    | (dsimp only [step, finish] at h; (repeat' split at h) <;> cases h)

theorem sched_through {p : Program} {w : World} {den : Code → Sem Fin} {f : Flow} : ∀ {n : Nat} {s s' : Shared} {t : Thread}, runN den p w n s t = .halted (.done f) s' →
    (∀ k s₁ t₁, runN den p w k s t = .running s₁ t₁ → t₁.calm = true) → s.asleep → ∃ m t₁, schedN den p w m (.single s t) = .running (.single s' t₁) ∧ through t₁ = true
  | 0, _, _, _, h, _, _ => by cases h
  | n + 1, s, s', t, h, hc, hz => by
    have e := sstep_single den p w s t (hc 0 s t rfl) hz
    simp only [runN] at h
    cases hs : step den p w s t with
    | go s₂ t₂ =>
      rw [hs] at h
      dsimp only at h
      obtain ⟨m, t₁, hm, ht⟩ := sched_through h (fun k s₁ t₁ q => hc (k + 1) s₁ t₁ (by simp only [runN, hs]; exact q)) (Shared.asleep_of_life (step_life den p w s s₂ t t₂ hs) hz)
      rw [hs] at e
      rcases e with e | e
      · exact ⟨m + 1, t₁, by simp only [schedN, e, Step.lift]; exact hm, ht⟩
      · cases e
    | halt o₂ s₂ =>
      rw [hs] at h
      cases h
      obtain ⟨ht, rfl⟩ := through_of hs
      exact ⟨0, t, rfl, ht⟩

theorem asleep28 (w : World) (X : XX) (os : OsState) : (s28 w.params X os).abs.asleep := by
  unfold Shared.asleep
  exact ⟨rfl, rfl⟩

theorem top_runs (w : World) (X : XX) (os : OsState) : ∃ X', XS w X' 89 L89 ∧ ∃ m t₁, schedN (denote table) pw w m (.single (s28 w.params X os).abs (topStub pw)) = .running (.single (s350 w.params X' os).abs t₁) ∧ through t₁ = true := by
  have h := top_wp w X os
  have h' : Sem.wp (model pw w) ⟨.builtin "claim.caller" {}, none, none, [], none⟩ (topStub pw).cur (Sem.finPost (model pw w) ⟨.builtin "claim.caller" {}, none, none, [], none⟩ fun r s' => (r = .ok (.ret .none) ∧ TopR w os s') ∧ leftWithCleanup s'.gens = false)
      (fun e _ s' => ((Except.error e : Result) = .ok (.ret .none) ∧ TopR w os s') ∧ leftWithCleanup s'.gens = false) default (s28 w.params X os).abs := by
    refine Sem.wp_mono _ _ _ (fun fin p' s' hf => ?_) (fun e p' s' hf => ?_) _ _ h
    · cases fin with
      | done f =>
        obtain ⟨h1, X', rfl, h2⟩ := hf
        exact ⟨⟨h1, X', rfl, h2⟩, (by kernel_rfl)⟩
      | again c =>
        refine ⟨hf.1, wpCode_mono (fun r s' hx => ?_) hf.2⟩
        obtain ⟨h1, X', rfl, h2⟩ := hx
        exact ⟨⟨h1, X', rfl, h2⟩, (by kernel_rfl)⟩
    · cases hf.1
  obtain ⟨n, r, s', hn, hr, X', rfl, hx⟩ := (wp_iff_halts (M := model pw w) (R := fun r s' => r = .ok (.ret .none) ∧ TopR w os s') ..).mp h'
  obtain ⟨s₂, hr2, hf, hc⟩ := runNI_real _ _ _ hn (outcomeOf_ends r)
  subst hr
  obtain rfl := Shared.eq_of_forget_eq' hf (by
    intro g hg
    have : g ∈ #[GenState.finished] := hg
    simp at this
    subst this
    rfl)
  exact ⟨X', hx, sched_through (f := .ret .none) hr2 hc (asleep28 w X os)⟩
end Mine
end
section
-- Head8
set_option maxRecDepth 100000
set_option Elab.async false
set_option linter.all false
namespace Mine
open PySem PySem.W

theorem open_ends : ∀ w : World, ((PySem.W.Fast.tw10274390034422433532 PySem.W.Fast.tw14364793385576792824 (opening pw) w 2000 (start (opening pw)).1 (start (opening pw)).2).map fun s => (s.heap, s.gens, s.drawn, s.toks)) = some (hE w.params, #[], {}, 276) := fun w => by kernel_rfl
theorem fence_ok : ∀ (P : Params) (os : OsState), PySem.W.Fast.tw14289696077712309145 pw ⟨hE P, #[], {}, 276, os⟩ = some ⟨hF P, #[], {}, 276, os⟩ := fun P os => by kernel_rfl
theorem abs28 : ∀ (P : Params) (X : XX) (os : OsState), (s28 P X os).abs = ⟨hF P, #[], {}, 276, os⟩ := fun P X os => by kernel_rfl
theorem abs350 : ∀ (P : Params) (X : XX) (os : OsState), (s350 P X os).abs = ⟨h350 P X, #[.finished], {}, 1087, os⟩ := fun P X os => by kernel_rfl

noncomputable def AllP (P : Nat → Prop) : Nat → Prop
  | 0 => True
  | n + 1 => P n ∧ AllP P n
theorem AllP.get {P : Nat → Prop} : ∀ {n : Nat}, AllP P n → ∀ i < n, P i
  | n + 1, ⟨h, r⟩, i, hi => by
    rcases Nat.lt_or_eq_of_le (Nat.le_of_lt_succ hi) with hi | rfl
    · exact r.get i hi
    · exact h
theorem kept_old (P : Params) (X : XX) : AllP (fun b => b = 3 ∨ (h350 P X).get? b = (hF P).get? b) 28 := by
  refine ⟨?_, ?_, ?_, ?_, ?_, ?_, ?_, ?_, ?_, ?_, ?_, ?_, ?_, ?_, ?_, ?_, ?_, ?_, ?_, ?_, ?_, ?_, ?_, ?_, ?_, ?_, ?_, ?_, trivial⟩ <;> first | exact .inl rfl | exact .inr (by kernel_rfl)
theorem old_kept (P : Params) (X : XX) (b : Addr) (o : Obj) (h : (hF P).get? b = some o) (hb : b ≠ mainNs) : (h350 P X).get? b = some o := by
  have hlt : b < 28 := Heap.lt_size h
  rcases (kept_old P X).get b hlt with e | e
  · exact absurd e hb
  · exact e.trans h

theorem opens (w : World) : ∃ os, AfterRun (opening pw) w ⟨hE w.params, #[], {}, 276, os⟩ := by
  have h := open_ends w
  rw [← PySem.W.Fast.te10274390034422433532, ← PySem.W.Fast.te14364793385576792824, ← table_eq_tree] at h
  obtain ⟨s, h1, h2⟩ := Option.map_eq_some_iff.mp h
  obtain ⟨hp, g, d, t, os⟩ := s
  injection h2 with e1 e2
  injection e2 with e2 e3
  injection e3 with e3 e4
  dsimp only at e1 e2 e3 e4
  subst e1 e2 e3 e4
  exact ⟨os, AfterImport.of_importEnds h1⟩
theorem fences (w : World) (os : OsState) : fenceModules? pw ⟨hE w.params, #[], {}, 276, os⟩ = some ⟨hF w.params, #[], {}, 276, os⟩ := by
  rw [PySem.W.Fast.te14289696077712309145]
  exact fence_ok w.params os

theorem facts350 : ∀ (P : Params) (X : XX) (os : OsState), (staticsOk (importedModules pw.main.body) (hF P) (h350 P X) && namesBound pw (h350 P X) && gensDone ⟨h350 P X, #[.finished], {}, 1087, os⟩ && laidKept (hF P) (h350 P X)) = true := fun P X os => by kernel_rfl
end Mine
end
section
-- Head9
set_option maxRecDepth 100000
set_option Elab.async false
set_option linter.all false
namespace Mine
open PySem PySem.W

noncomputable def qw : Program := view pw [0,1,2,4,5,6,7,8,9,10,11,13,15,16,17,18,20,21,22,23,24,26,27,29,30,31,32,33,34,40,42,43,45,47,48,49,50,51,52,53,54,55,56]
noncomputable def looseN : List Str := ["_WallAttr", "ASCII_CTRL", "ILLEGAL_BASIC_STR_CHARS", "ILLEGAL_MULTILINE_BASIC_STR_CHARS", "TOML_WS", "TOML_WS_AND_NEWLINE", "hexdigits", "HEXDIGIT_CHARS", "MappingProxyType", "BASIC_STR_ESCAPE_REPLACEMENTS", "parse_basic_str_escape", "bytes_types", "a2b_base64", "b2a_base64", "b64encode", "b64decode", "_twin_re_1", "_special_chars_map"]
noncomputable def Xtw : Shared → Bool := fun s => xlAt qw [] s && recOk [] s
theorem seen350 : ∀ (P : Params) (X : XX) (os : OsState), PySem.W.Fast.tw4187177175401517315 qw looseN (importedModules pw.main.body) Xtw false ⟨h350 P X, #[.finished], {}, 1087, os⟩ = openGood qw looseN := fun P X os => by kernel_rfl
end Mine
end
section
-- Head10
set_option maxRecDepth 100000
set_option Elab.async false
set_option linter.all false
namespace Mine
open PySem PySem.W PySem.Calls PyProof.Rows

noncomputable abbrev Stands (p q : Program) (loose : List Str) (XP : (Str → Option Value) → Heap → Prop) (YP : World → Heap → Prop) : Prop :=
  ∀ w, (∃ s, AfterRun (opening p) w s) ∧ ∀ s, AfterRun (opening p) w s → ∃ s₀, fenceModules? p s = some s₀ ∧ s₀.gens = #[] ∧ ∃ s₁, TopRan p w s₀ s₁ ∧ s₁.asleep ∧ leftWithCleanup s₁.gens = false ∧ s₁.heap.isNs mainGlobals = true ∧
    Ground q loose [] XP w s₁ (s₁.heap.nsMap mainGlobals) (s₁.heap.nsMap builtinsNs) s₁.heap ∧ YP w s₁.heap

theorem holds_mine {r : OpenRow} {q : Program} {loose : List Str} {XP : (Str → Option Value) → Heap → Prop} {YP : World → Heap → Prop} {d : DefRec} {kwd : List (Str × Expr)} (st : Stands r.prog q loose XP YP)
    (hYk : ∀ w h h', YP w h → (∀ b o, h.get? b = some o → h'.get? b = some o) → YP w h') (hXk : ∀ mg h h', XP mg h → (∀ b o, h.get? b = some o → h'.get? b = some o) → XP mg h')
    (hdef : defOf q r.name = some (d, kwd)) (hp : r.prog.theDef r.name = some (d.params, d.body, d.scope)) (hk : kwWritten? d.params.kwonlyargs d.params.kw_defaults = some kwd) (hrec : r.records = [])
    (k1 : r.wellSaid = true) (ok : (opensWell r.prog && (frees r.toRowW && r.within.isEmpty)) = true) (hb : r.prog.bare) (hw : r.toRowW.promised)
    (call : WalkN q loose XP YP r.toRowW d kwd fun f vs => PySem.call f vs) : r.Holds := by
  obtain ⟨o1, k5⟩ := Bool.and_eq_true_iff.mp ok
  obtain ⟨k5, k6⟩ := Bool.and_eq_true_iff.mp k5
  refine Classical.byContradiction fun k9 => ?_
  obtain ⟨hsame, hu, ha, hap, hm⟩ := frees_parts k5
  refine k9 ?_
  have hnil : ∀ h : Heap, RecFacts r.records h := fun h => recFacts_nil hrec
  refine ⟨k1, hw, ⟨hb, o1, by show r.makers.map _ = []; rw [hm]; rfl⟩, hw.witness, fun w => ⟨(st w).1, fun s' hs' => ?_⟩⟩
  refine Classical.byContradiction fun k9 => ?_
  obtain ⟨s₀, hf, hg0, s, hT, hz, hgens, hg, G0, y⟩ := (st w).2 s' hs'
  refine k9 ?_
  refine ⟨s₀, hf, hg0, s, hT, fun n hn => ?_, (hnil s.heap).1, (hnil s.heap).2.1, ?_⟩
  · obtain rfl : n = r.name := by split at hn <;> simp_all
    exact pinned_of_view hg G0 hdef hp hk
  have G : Ground q loose r.records XP w s _ _ s.heap := (hnil s.heap).ground G0
  refine ClaimW.callFrom_of_specN (c := r.claim) hz hgens fun args hpre hlay ord hord => ?_
  refine Classical.byContradiction fun k9 => ?_
  obtain ⟨⟨vs, s₁⟩, hlaid⟩ := Option.isSome_iff_exists.mp (layAllW_isSome (P := w.params) (ord := ord) G.has args r.args s (pre_splitW hpre).1)
  refine k9 ?_
  have keeps := layAllW_keeps _ _ _ hlaid
  have hal := layAllW_rest _ _ _ hlaid
  refine Classical.byContradiction fun k9 => ?_
  obtain ⟨as, hrd, hin, hold⟩ := reads_layAllW hord _ _ _ hlaid hlay s₁.heap (fun _ _ e => e)
  refine k9 ?_
  have G₁ := G.keeps hXk keeps
  refine Classical.byContradiction fun k9 => ?_
  obtain ⟨a, o, pm, cd, doc, dV, kV, h1, h2, h3, h4, h5⟩ := G₁.fn hdef
  refine k9 ?_
  have hi := ident_freeW hu ha hap
  have hwi : r.claim.within = [] := List.isEmpty_iff.mp k6
  have hmg := defOf_name hdef ▸ h1
  have h := call w s { s₁ with gens := #[] } _ _ G₁ (hYk _ _ _ y keeps) a o pm cd doc dV kV h2 h3 h4 h5 hmg rfl args vs as hpre hlay hrd (well_layAllW hord args s _ hlaid _ fun _ _ e => e)
    (fun a ha => beq_eq_false_iff_ne.mpr fun e => by have := (hin.2.2 a ha).1; subst e; exact absurd G.low (Nat.not_lt.mpr this))
  have kp : ∀ {r' : Result} {s' : Shared}, GoodW r.claim (classAt s.heap) (ExcName.means s.heap) args { s₁ with gens := #[] } r' s' →
      (r.claim.Ends s args vs s₁ r' s' ∧ s'.os = s.os ∧ s'.gens = #[] ∧ (r.writes = true → namesKept r.claim.prog r.keeps s.heap s'.heap ∧ ∀ x ∈ r.claim.records, ∀ a, classAt s.heap x.1 = some a → recordClass s'.heap a x.1 (x.2.map (·.1)) = true)) := fun g => by
    have z := g.endsN (c := r.claim) hsame hwi hi hrd hold hal.2.2.1
    exact ⟨z.1, z.2.1, z.2.2, fun q => ⟨namesKept_of hT hg r.keeps keeps fun b o e => .inl (g.2.1 b o e), fun x hx => by rw [show r.claim.records = [] from hrec] at hx; cases hx⟩⟩
  refine ⟨vs, s₁, hlaid, ?_⟩
  refine wpAny_bind (wpAny_nsGet G₁.T.g ?_)
  rw [h1]
  exact wpAny_bind (wpAny_mono h (fun v s' g => wpAny_pure ⟨_, rfl, kp g⟩) fun e s' g => kp g)
end Mine
end
section
-- Head11
set_option maxRecDepth 100000
set_option Elab.async false
set_option linter.all false
namespace Mine
open PySem PySem.W PySem.Calls PyProof.Rows

noncomputable def YPw (w : World) (h : Heap) : Prop := InK KK w h ∧ SetAt w h 89 L89
theorem YPw.keeps (w : World) (h h' : Heap) (y : YPw w h) (k : ∀ b o, h.get? b = some o → h'.get? b = some o) : YPw w h' := ⟨InK.keeps w h h' y.1 k, y.2.keeps fun o e => k 89 o e⟩
theorem kAs_eq : ∀ P, kAs = (KK P).map (·.1) := fun P => by kernel_rfl
theorem kIn350 : ∀ (P : Params) (X : XX), kAs.map (h350 P X).get? = (KK P).map fun p => some p.2 := fun P X => by kernel_rfl
theorem get89 : ∀ (P : Params) (X : XX), (h350 P X).get? 89 = some (sX X 89) := fun P X => by kernel_rfl
theorem chains_ok : chainsOk qw = true := by kernel_rfl
theorem life350 : ∀ (P : Params) (X : XX), (h350 P X).life = {} := fun P X => rfl
theorem lifeF : ∀ (P : Params), (hF P).life = {} := fun P => rfl

theorem stands : Stands pw qw looseN (XL qw []) YPw := fun w => by
  obtain ⟨os, A⟩ := opens w
  refine ⟨⟨_, A⟩, fun s' hs' => ?_⟩
  obtain rfl : s' = _ := AfterImport.unique hs' A
  refine ⟨_, fences w os, rfl, ?_⟩
  refine Classical.byContradiction fun k9 => ?_
  obtain ⟨X, hx, m, t₁, hm, ht⟩ := top_runs w ⟨fun _ => default, fun _ => #[], fun _ => 0, fun _ => .fresh 0 0 false⟩ os
  refine k9 ?_
  rw [abs28, abs350] at hm
  have e : openSeen qw looseN (importedModules pw.main.body) Xtw false ⟨h350 w.params X, #[.finished], {}, 1087, os⟩ = openGood qw looseN := by
    rw [PySem.W.Fast.te4187177175401517315]
    exact seen350 w.params X os
  refine Classical.byContradiction fun k9 => ?_
  obtain ⟨G, g0, g1, g2, g3, g4, g5⟩ := ground_of_open (w := w) (XP := XL qw []) (fun s e => xl_of s (Bool.and_eq_true_iff.mp e).1) chains_ok e
  refine k9 ?_
  have hf := facts350 w.params X os
  simp only [Bool.and_eq_true] at hf
  refine Classical.byContradiction fun k9 => ?_
  obtain ⟨⟨⟨f1, f2⟩, f3⟩, f4⟩ := hf
  refine k9 ?_
  refine ⟨⟨h350 w.params X, #[.finished], {}, 1087, os⟩, ⟨⟨m, t₁, hm, ht⟩, rfl, Shared.rest_eq rfl, fun b o hb hn => old_kept w.params X b o hb fun q => hn (.inl q), g2, statics_of_ok f1, g3, g4, g5, gens_of_done f3, names_of_bound f2, laid_of_kept f4⟩, ⟨rfl, rfl⟩, by kernel_rfl, g1, G, InK.of kAs_eq w ⟨h350 w.params X, #[.finished], {}, 1087, os⟩ (kIn350 w.params X), ?_⟩
  exact ⟨_, _, _, get89 w.params X, hx.1, hx.2⟩
end Mine
end
section
-- Head12
set_option maxRecDepth 100000
set_option Elab.async false
set_option linter.all false
namespace Mine
open PySem PySem.W PySem.Calls PyProof.Rows
/-- the end of a call that may have grown code tables -/
noncomputable def GoodNG (c : ClaimW) (cl : Str → Option Addr) (mean : ExcName → Option Value) (args : List WData) (s₁ : Shared) (res : Result) (s' : Shared) : Prop :=
  ((∃ v d as, res = .ok (.ret v) ∧ (∀ cls, c.raises args cls = false) ∧ ReadsW c.records cl s'.heap v d as ∧ c.post args d args = true ∧
      (c.unshared = true → as.Nodup ∧ ∀ a ∈ as, s₁.heap.get? a = none)) ∨
    (∃ e ob cls, res = .error (.ref e) ∧ s'.heap.get? e = some ob ∧ mean cls = some ob.cls ∧ c.raises args cls = true ∧ s₁.heap.get? e = none)) ∧
  OldK s₁.heap s'.heap ∧ s'.os = s₁.os ∧ s'.gens = #[]
theorem GoodNG.endsN {c : ClaimW} {s₀ s₁ s' : Shared} {args : List WData} {vs : List Value} {as : List Addr} {r : Result} (hsame : c.same = none) (hwi : c.within = []) (hi : ∀ a b, c.ident a b = true)
    (hrd : ReadsAllW c.records (classAt s₀.heap) s₁.heap vs args as) (hold : ∀ a ∈ as, ∃ o, s₁.heap.get? a = some o) (hos₁ : s₁.os = s₀.os)
    (g : GoodNG c (classAt s₀.heap) (ExcName.means s₀.heap) args { s₁ with gens := #[] } r s') : c.Ends s₀ args vs s₁ r s' ∧ s'.os = s₀.os ∧ s'.gens = #[] := by
  refine Classical.byContradiction fun k9 => ?_
  obtain ⟨hcase, hK, hos, hg'⟩ := g
  refine k9 ?_
  refine ⟨?_, hos.trans hos₁, hg'⟩
  rcases hcase with ⟨v, d, bs, rfl, hnr, hrv, hpost, hun⟩ | ⟨e, ob, cls, rfl, he, hcls, hpr, hnew⟩
  · exact .inl ⟨v, rfl, hnr, ⟨d, args, bs, as, hrv, hrd.keepsK fun b o e hc => hK.get_of_cls e hc, hpost, fun hu => ⟨(hun hu).1, (hun hu).2, fun a ha hb' => by
      obtain ⟨o, ho⟩ := hold a hb'
      have := (hun hu).2 a ha
      rw [show s₁.heap.get? a = none from this] at ho; cases ho⟩, fun _ _ => hi _ _⟩, (fun i hi' => by rw [hsame] at hi'; cases hi'), (fun b o hb' _ _ => hK.old b o hb'), fun i hi' => by rw [hwi] at hi'; cases hi'⟩
  · exact .inr ⟨e, ob, cls, rfl, he, hcls, hpr, hnew, fun b o hb' => hK.old b o hb'⟩
/-- as the library's kn_post, with the generators kept at none -/
theorem goodNG_of {M : Model} {A : Around} {cd : Code} {s s₁ : Shared} {cw : ClaimW} {cl : Str → Option Addr} {mean : ExcName → Option Value} {args : List WData} {tabs : List (Addr × Addr)} (hT : TabsAt tabs s₁.heap) (hr : ∀ a x, cw.raises a x = false)
    (h : codeAny M A cd (fun r s' => GoodW cw cl mean args { s₁ with heap := ghostOf s₁.heap tabs } r s' ∧ GrownAll tabs s'.heap) s) : codeAny M A cd (GoodNG cw cl mean args s₁) s :=
  codeAny_mono h fun r s' ⟨⟨hc, hk, hos, hg⟩, hgr⟩ => by
    have keep : ∀ b o, b ∉ tabs.map (·.2) → s₁.heap.get? b = some o → s'.heap.get? b = some o := fun b o hb e => hk b o (ghost_ne e hb)
    have grown : ∀ b o, b ∈ tabs.map (·.2) → s₁.heap.get? b = some o → isCodeTable s₁.heap b ∧ o = tabObj #[] ∧ ∃ ps, s'.heap.get? b = some (tabObj ps) := fun b o hb e => by
      refine Classical.byContradiction fun k9 => ?_
      obtain ⟨q, hq, rfl⟩ := List.mem_map.mp hb
      refine k9 ?_
      have e2 := (hT q hq).2
      rw [e] at e2
      exact ⟨((hT q hq).1.tab (hT q hq).2).isCodeTable, Option.some.inj e2, hgr.get q hq⟩
    refine ⟨?_, ⟨fun b o e => ?_, fun b o e => ?_⟩, hos, hg⟩
    · rcases hc with ⟨v, d, as, r1, r2, r3, r4, r5⟩ | ⟨e, ob, x, _, _, _, r4, _⟩
      · refine .inl ⟨v, d, as, r1, r2, r3, r4, fun q => ⟨(r5 q).1, fun a ha => ?_⟩⟩
        cases q1 : s₁.heap.get? a with
        | none => rfl
        | some o =>
          by_cases hb : a ∈ tabs.map (·.2)
          · refine Classical.byContradiction fun k9 => ?_
            obtain ⟨_, _, ps, hP⟩ := grown a o hb q1
            refine k9 ?_
            exact absurd ha (readsW_apart hP rfl r3)
          · have e3 := (r5 q).2 a ha
            rw [show (ghostOf s₁.heap tabs).get? a = some o from ghost_ne q1 hb] at e3
            cases e3
      · rw [hr] at r4; cases r4
    · by_cases hb : b ∈ tabs.map (·.2)
      · refine Classical.byContradiction fun k9 => ?_
        obtain ⟨ht, rfl, ps, hP⟩ := grown b o hb e
        refine k9 ?_
        exact .inr (.inl ⟨ht, rfl, #[], ps, rfl, by rw [Array.empty_append]; exact hP⟩)
      · exact .inl (keep b o hb e)
    · by_cases hb : b ∈ tabs.map (·.2)
      · refine Classical.byContradiction fun k9 => ?_
        obtain ⟨_, _, ps, hP⟩ := grown b o hb e
        refine k9 ?_
        exact ⟨_, hP⟩
      · exact ⟨o, keep b o hb e⟩
/-- the walk of the law's own call, with code tables free to grow -/
noncomputable abbrev WalkNG (q : Program) (loose : List Str) (XP : (Str → Option Value) → Heap → Prop) (YP : World → Heap → Prop) (r : RowW) (d : DefRec) (kwd : List (Str × Expr)) : Prop :=
  ∀ (w : World) (s₀ s₁ : Shared) (mg mb : Str → Option Value), Ground q loose r.records XP w s₀ mg mb s₁.heap → YP w s₁.heap → ∀ (a : Addr) (o : Obj) (pm cd doc dV kV : Value), s₁.heap.get? a = some o →
    o.data = .func { docDef d.name d.params d.body d.scope pm cd doc with defaults := dV, kwdefaults := kV } → s₁.heap.CodeRec cd d.name → Dflts mg s₁.heap d.params kwd dV kV → mg d.name = some (.ref a) → s₁.gens = #[] →
    ∀ (args : List WData) (vals : List Value) (as : List Addr), r.claim.pre args = true → WData.layableAll args = true → ReadsAllW r.records (classAt s₀.heap) s₁.heap vals args as → WellAll w.params s₁.heap vals args → (∀ a ∈ as, (a == sysModules) = false) →
      wpAny (model r.prog w) callerA (PySem.call (.ref a) vals) (fun v s' => GoodNG r.claim (classAt s₀.heap) (ExcName.means s₀.heap) args s₁ (.ok (.ret v)) s')
        (fun e s' => GoodNG r.claim (classAt s₀.heap) (ExcName.means s₀.heap) args s₁ (.error e) s') s₁
theorem holds_mineG {r : OpenRow} {q : Program} {loose : List Str} {XP : (Str → Option Value) → Heap → Prop} {YP : World → Heap → Prop} {d : DefRec} {kwd : List (Str × Expr)} (st : Stands r.prog q loose XP YP)
    (hYk : ∀ w h h', YP w h → (∀ b o, h.get? b = some o → h'.get? b = some o) → YP w h') (hXk : ∀ mg h h', XP mg h → (∀ b o, h.get? b = some o → h'.get? b = some o) → XP mg h')
    (hdef : defOf q r.name = some (d, kwd)) (hp : r.prog.theDef r.name = some (d.params, d.body, d.scope)) (hk : kwWritten? d.params.kwonlyargs d.params.kw_defaults = some kwd) (hrec : r.records = [])
    (k1 : r.wellSaid = true) (ok : (opensWell r.prog && (frees r.toRowW && r.within.isEmpty)) = true) (hb : r.prog.bare) (hw : r.toRowW.promised)
    (call : WalkNG q loose XP YP r.toRowW d kwd) : r.Holds := by
  obtain ⟨o1, k5⟩ := Bool.and_eq_true_iff.mp ok
  obtain ⟨k5, k6⟩ := Bool.and_eq_true_iff.mp k5
  refine Classical.byContradiction fun k9 => ?_
  obtain ⟨hsame, hu, ha, hap, hm⟩ := frees_parts k5
  refine k9 ?_
  have hnil : ∀ h : Heap, RecFacts r.records h := fun h => recFacts_nil hrec
  refine ⟨k1, hw, ⟨hb, o1, by show r.makers.map _ = []; rw [hm]; rfl⟩, hw.witness, fun w => ⟨(st w).1, fun s' hs' => ?_⟩⟩
  refine Classical.byContradiction fun k9 => ?_
  obtain ⟨s₀, hf, hg0, s, hT, hz, hgens, hg, G0, y⟩ := (st w).2 s' hs'
  refine k9 ?_
  refine ⟨s₀, hf, hg0, s, hT, fun n hn => ?_, (hnil s.heap).1, (hnil s.heap).2.1, ?_⟩
  · obtain rfl : n = r.name := by split at hn <;> simp_all
    exact pinned_of_view hg G0 hdef hp hk
  have G : Ground q loose r.records XP w s _ _ s.heap := (hnil s.heap).ground G0
  refine ClaimW.callFrom_of_specN (c := r.claim) hz hgens fun args hpre hlay ord hord => ?_
  refine Classical.byContradiction fun k9 => ?_
  obtain ⟨⟨vs, s₁⟩, hlaid⟩ := Option.isSome_iff_exists.mp (layAllW_isSome (P := w.params) (ord := ord) G.has args r.args s (pre_splitW hpre).1)
  refine k9 ?_
  have keeps := layAllW_keeps _ _ _ hlaid
  have hal := layAllW_rest _ _ _ hlaid
  refine Classical.byContradiction fun k9 => ?_
  obtain ⟨as, hrd, hin, hold⟩ := reads_layAllW hord _ _ _ hlaid hlay s₁.heap (fun _ _ e => e)
  refine k9 ?_
  have G₁ := G.keeps hXk keeps
  refine Classical.byContradiction fun k9 => ?_
  obtain ⟨a, o, pm, cd, doc, dV, kV, h1, h2, h3, h4, h5⟩ := G₁.fn hdef
  refine k9 ?_
  have hi := ident_freeW hu ha hap
  have hwi : r.claim.within = [] := List.isEmpty_iff.mp k6
  have hmg := defOf_name hdef ▸ h1
  have h := call w s { s₁ with gens := #[] } _ _ G₁ (hYk _ _ _ y keeps) a o pm cd doc dV kV h2 h3 h4 h5 hmg rfl args vs as hpre hlay hrd (well_layAllW hord args s _ hlaid _ fun _ _ e => e)
    (fun a ha => beq_eq_false_iff_ne.mpr fun e => by have := (hin.2.2 a ha).1; subst e; exact absurd G.low (Nat.not_lt.mpr this))
  have kp : ∀ {r' : Result} {s' : Shared}, GoodNG r.claim (classAt s.heap) (ExcName.means s.heap) args { s₁ with gens := #[] } r' s' →
      (r.claim.Ends s args vs s₁ r' s' ∧ s'.os = s.os ∧ s'.gens = #[] ∧ (r.writes = true → namesKept r.claim.prog r.keeps s.heap s'.heap ∧ ∀ x ∈ r.claim.records, ∀ a, classAt s.heap x.1 = some a → recordClass s'.heap a x.1 (x.2.map (·.1)) = true)) := fun g => by
    have z := g.endsN (c := r.claim) hsame hwi hi hrd hold hal.2.2.1
    exact ⟨z.1, z.2.1, z.2.2, fun q => ⟨namesKept_of hT hg r.keeps keeps fun b o e => g.2.1.old b o e, fun x hx => by rw [show r.claim.records = [] from hrec] at hx; cases hx⟩⟩
  refine ⟨vs, s₁, hlaid, ?_⟩
  refine wpAny_bind (wpAny_nsGet G₁.T.g ?_)
  rw [h1]
  exact wpAny_bind (wpAny_mono h (fun v s' g => wpAny_pure ⟨_, rfl, kp g⟩) fun e s' g => kp g)
end Mine
end
section
-- Top0
open PySem PySem.W PySem.Calls PySem.Spec PyProof.Rows
set_option Elab.async false
set_option maxRecDepth 100000
set_option linter.all false
namespace Mine
section
variable {prog : Program} {w : World} {s : Shared} {h₀ : Heap} {news : List (Addr × Obj)} {K : Frag} {p : Program} {loose : List Str} {mean : ExcName → Option Value} {mg mb : Str → Option Value}
    {R : Result → Shared → Prop} {name qual : Str} {params : Arguments} {body : List Stmt} {scope : Scope} {dV kV doc pm cdv ct oc : Value} {an od : Option Addr} {osl : Array (Option Value)} {f : Addr} {args : Args} {binds : List (Str × Value)}
/-- a def of the written part is entered from the claim's caller -/
theorem enter_top (hk₀ : ∀ b o, h₀.get? b = some o → s.heap.get? b = some o) (hsz : h₀.objs.size ≤ s.heap.objs.size) (N : ∀ q ∈ news, s.heap.get? q.1 = some q.2 ∧ h₀.get? q.1 = none) (X₀ : K.In h₀) (T : Top p loose mean mg mb h₀)
    (ho : K.lookup f = some ⟨oc, od, .func (fnOf name qual params body scope dV kV doc pm an cdv ct), osl⟩) (hcd : codeIn K cdv qual = true)
    (hbind : BindsTo s (fnOf name qual params body scope dV kV doc pm an cdv ct) args binds) (hloc : ∀ y ∈ binds, scope.names.lookup y.1 = some .local)
    (h : ∀ L' h₁, Fr h₀ L' h₁ (fun y => binds.reverse.lookup y) → News h₀ L' h₁ news → (∀ q ∈ news, q.1 < L') →
      wpAny (model prog w) (callerA.deeper (envOf qual scope L' f cdv)) (execs body (envOf qual scope L' f cdv))
        (fun fl s' => R (.ok (.ret (match fl with | .ret v => v | _ => .none))) s')
        (fun e s' => wpAny (model prog w) (callerA.deeper (envOf qual scope L' f cdv)) (leaving (envOf qual scope L' f cdv) e) (fun _ s'' => R (.error e) s'') (fun e' s'' => R (.error e') s'') s')
        { s with heap := h₁, toks := s.toks + binds.length })
    (hco : scope.isCoroutine = false) (hgen : scope.isGenerator = false) (hk : scope.kind = .function)
    (hcell : ∀ x ∈ scope.names, x.2 ≠ .cell) : codeAny (model prog w) callerA (.call (.ref f) args) R s := by
  have X : K.In s.heap := X₀.keeps hk₀
  refine codeAny_call_def (fd := fnOf name qual params body scope dV kV doc pm an cdv ct) (body := body) (binds := binds) (by decide +kernel) (X _ _ ho) rfl (T.nolimit.keeps hk₀) (codeRec_of X hcd) rfl hbind hcell hloc (fun h₁ hns hk₁ => ?_) hco hgen hk
  exact h _ h₁ ⟨hns, fun b o e => hk₁ b o (hk₀ b o e), hsz⟩ (fun q hq => ⟨hk₁ _ _ (N q hq).1, Nat.ne_of_lt (Heap.lt_size (N q hq).1), (N q hq).2⟩) (fun q hq => Heap.lt_size (N q hq).1)
/-- the same for a def with cells -/
theorem enter_topC (hk₀ : ∀ b o, h₀.get? b = some o → s.heap.get? b = some o) (hsz : h₀.objs.size ≤ s.heap.objs.size) (N : ∀ q ∈ news, s.heap.get? q.1 = some q.2 ∧ h₀.get? q.1 = none) (X₀ : K.In h₀) (T : Top p loose mean mg mb h₀)
    (ho : K.lookup f = some ⟨oc, od, .func (fnOf name qual params body scope dV kV doc pm an cdv ct), osl⟩) (hcd : codeIn K cdv qual = true)
    (hbind : BindsTo s (fnOf name qual params body scope dV kV doc pm an cdv ct) args binds) (hkind : (binds.all fun y => scope.names.lookup y.1 == some .local || scope.names.lookup y.1 == some .cell) = true)
    (hnd : ((cellsFrom 0 scope.names []).map (·.1)).Nodup)
    (h : ∀ L' h₁ tk cells, Fr h₀ L' h₁ (bindL (envOfC qual scope L' f cdv).kindOf binds fun _ => none) → News h₀ L' h₁ (cells ++ news) →
      CellsAre (bindC (envOfC qual scope L' f cdv).kindOf binds fun _ => none) (cellsFrom (L' + 1) scope.names []) cells → (∀ q ∈ news, q.1 < L') →
      wpAny (model prog w) (callerA.deeper (envOfC qual scope L' f cdv)) (execs body (envOfC qual scope L' f cdv))
        (fun fl s' => R (.ok (.ret (match fl with | .ret v => v | _ => .none))) s')
        (fun e s' => wpAny (model prog w) (callerA.deeper (envOfC qual scope L' f cdv)) (leaving (envOfC qual scope L' f cdv) e) (fun _ s'' => R (.error e) s'') (fun e' s'' => R (.error e') s'') s')
        { s with heap := h₁, toks := tk })
    (hco : scope.isCoroutine = false) (hgen : scope.isGenerator = false) (hk : scope.kind = .function) : codeAny (model prog w) callerA (.call (.ref f) args) R s := by
  have X : K.In s.heap := X₀.keeps hk₀
  refine codeAny_call_function (by decide +kernel) (X _ _ ho) rfl hco hgen rfl (codeRec_of X hcd) (hbind _ _ _ _ ?_)
  refine wpAny_newFunctionEnv_cells hk (kindsX hkind _) fun env' he s' x => ?_
  subst he
  refine ⟨(T.nolimit.keeps hk₀).keeps x.toInCall.keep, codeAny_func ?_⟩
  obtain ⟨h₁, tk, rfl, _⟩ := x.done
  have hk₁ := x.toInCall.keep
  obtain ⟨cells, NC, Y⟩ := Cl.news (h₀ := s.heap) (Nat.le_refl _) fun n c hm => ⟨x.cell n c (lookup_of_mem_nodup (cellsFrom_names scope.names 0 (s.heap.objs.size + 1) [] [] rfl ▸ hnd) hm), x.above n c hm⟩
  refine h s.heap.objs.size h₁ tk cells ⟨x.toInCall.ns, fun b o e => hk₁ b o (hk₀ b o e), hsz⟩ (fun q hq => ?_) Y (fun q hq => Heap.lt_size (N q hq).1)
  rcases List.mem_append.mp hq with hq | hq
  · refine ⟨(NC q hq).1, (NC q hq).2.1, ?_⟩
    cases z : h₀.get? q.1 with
    | none => rfl
    | some o => have := hk₀ _ _ z; rw [(NC q hq).2.2] at this; cases this
  · exact ⟨hk₁ _ _ (N q hq).1, Nat.ne_of_lt (Heap.lt_size (N q hq).1), (N q hq).2⟩
end
end Mine
end
section
-- Turns
open PySem PySem.W PySem.Calls PySem.Spec PyProof.Rows
set_option Elab.async false
set_option maxRecDepth 100000
set_option linter.all false
namespace Mine
section
variable {prog : Program} {w : World} {A : Around} {E : Value → Shared → Prop} {s : Shared} {env : Env} {h₀ : Heap} {x : Str} {body : List Stmt} {target : Expr} {Q : Flow → Shared → Prop}
theorem loopJT {σ : Type} {I : Addr} {fp : List Addr} {n : Nat} {Pv : Nat → Value → Prop} {St : Nat → Heap → Prop} {m₀ : Str → Option Value} (x : Str) (Led : σ → List (Addr × Obj)) (ps : σ → List (Str × Value)) (stored : List Str) (P : Nat → σ → Prop) (c₀ : σ) (fx : List (Addr × Obj)) (hfI : ∀ p ∈ fx, p.1 ≠ I) (hN0 : ∀ p ∈ Led c₀, p.1 ≠ I)
    (W : Walks prog w A I fp [I] n Pv St) (hgo : ∀ i v (s : Shared) (Q : Unit → Shared → Prop) (E : Value → Shared → Prop), St i s.heap → Q () s → wpAny (model prog w) A (letOwnedTupleGo target (.ref I) v) Q E s) (hLf : env.locals ∉ fp) (hI : h₀.get? I = none) (hit : ∀ i h, St i h → ∃ o, h.get? I = some o ∧ o.cls ≠ .type "list") (hIf : I ∈ fp) (hst : St 0 s.heap)
    (F : Fr h₀ env.locals s.heap m₀) (N : News h₀ env.locals s.heap (Led c₀)) (hal : AllL fx (Led c₀)) (hk : ∀ p ∈ ps c₀, m₀ p.1 = some p.2) (hp : P 0 c₀)
    (turn : ∀ i v (c : σ) (u : Str → Option Value) h tk own, i < n → Pv i v → P i c → AllL fx (Led c) → (∀ b ∈ Led c, b.1 ≠ I) → (∀ p ∈ own, p.1 ∈ fp) →
      Fr h₀ env.locals h (fun y => if y = x then u y else kstB (fun z => if stored.contains z then u z else m₀ z) (ps c) y) → News h₀ env.locals h (Led c ++ own) →
      wpAny (model prog w) A (assign target env v) (fun _ s₃ => wpAny (model prog w) A (execs body env) (KPost fx h₀ env.locals Led ps x stored m₀ (P (i + 1)) own { s with heap := h, toks := tk } Q) E s₃) E { s with heap := h, toks := tk })
    (done : ∀ (c : σ) (u : Str → Option Value) h tk, P n c → AllL fx (Led c) → Fr h₀ env.locals h (fun y => if y = x then u y else kstB (fun z => if stored.contains z then u z else m₀ z) (ps c) y) → News h₀ env.locals h (Led c) → Q .next { s with heap := h, toks := tk }) :
    TurnsAt prog w A h₀ env target body Q E (.ref I) s := by
  obtain ⟨oi, hoi, hci⟩ := hit 0 _ hst
  have off : ∀ {h : Heap} {nx own : List (Addr × Obj)} {i : Nat}, (∃ o, (I, o) ∈ own ∧ o.cls ≠ .type "list") → News h₀ env.locals h (own ++ nx) → AllL fx nx → ∀ p ∈ nx, p.1 ∉ [I] := by
    intro h nx own i ⟨o, ho, hc⟩ N' al p hp hm
    have e1 := (N' (I, o) (List.mem_append_left _ ho)).1
    have e2 := (N' p (List.mem_append_right _ hp)).1
    have e3 := List.mem_singleton.mp hm
    rw [e3] at e2
    rw [e1] at e2
    have : p.2 = o := (Option.some.inj e2).symm
    rcases al p hp with h1 | h1
    · exact hc (this ▸ h1)
    · exact hfI p h1 e3
  let J : Nat → (Str → Option Value) → List (Addr × Obj) → Prop := fun i m nx => ∃ c : σ, nx = Led c ∧ P i c ∧ AllL fx (Led c) ∧ (∀ p ∈ ps c, m p.1 = some p.2) ∧ (∀ z, z ≠ x → (∀ p ∈ ps c, z ≠ p.1) → stored.contains z = false → m z = m₀ z)
  refine ⟨I, fp, [I], n, _, _, St, m₀, Led c₀, J, rfl, KTurns.ofWalks W hgo, hLf, ?_, ?_, hst, F, N, ⟨c₀, rfl, hp, hal, hk, fun _ _ _ _ => rfl⟩, ?_, ?_⟩
  · intro b hb
    rw [List.mem_singleton.mp hb]; exact hI
  · intro p hp' hm
    exact hN0 p hp' (List.mem_singleton.mp hm)
  · rintro i v m₁ news₁ hh' tk' own hin hP ⟨c, rfl, hPc, hal', h1, h2⟩ hoff hown hownat hall hst' F₁ N₁
    have N₂ : News h₀ env.locals hh' (Led c ++ own) := fun p hp => N₁ p ((List.mem_append.mp hp).elim (fun h => List.mem_append.mpr (.inr h)) fun h => List.mem_append.mpr (.inl h))
    have hIo : ∃ o, (I, o) ∈ own ∧ o.cls ≠ .type "list" := by
      obtain ⟨o, ho, hc⟩ := hit _ _ hst'
      exact ⟨o, hall I hIf hI o ho, hc⟩
    refine wpAny_mono (turn i v c m₁ hh' tk' own hin hP hPc hal' (fun b hb e => hoff b hb (List.mem_singleton.mpr e)) hown (kst_frOut h1 h2 F₁) N₂) (fun _ s₂ p₂ => wpAny_mono p₂ (fun f s₂ p => ?_) fun _ _ e => e) fun _ _ e => e
    have fin : KEnd fx h₀ env.locals Led ps x stored m₀ (P (i + 1)) own { s with heap := hh', toks := tk' } s₂ → LoopStepU h₀ env.locals [I] own (J (i + 1)) { s with heap := hh', toks := tk' } .next s₂ := by
      rintro ⟨c', h', tk, m', news', e, F', N', hn, ho, hal2, hk', hr', hp'⟩
      have N3 : News h₀ env.locals h' (own ++ Led c') := fun p hp => N' p ((List.mem_append.mp hp).elim (ho p) (hn p))
      exact ⟨rfl, h', tk, m', Led c', e, F', N3, off (i := i) hIo N3 hal2, c', rfl, hp', hal2, hk', hr'⟩
    cases f with
    | ret v => exact .ret p
    | brk => exact .brk p
    | next => exact .next (fin p)
    | cont => exact .cont (fin p)
  · rintro h' tk m' news' F' N' _ ⟨c, rfl, hPc, hal', h1, h2⟩
    exact done c m' h' tk hPc hal' (kst_frOut h1 h2 F') N'

theorem ks_listT {σ : Type} {l : Addr} {vs : Array Value} {m₀ : Str → Option Value} (x : Str) (Led : σ → List (Addr × Obj)) (ps : σ → List (Str × Value)) (stored : List Str) (P : Nat → σ → Prop) (c₀ : σ) (fx : List (Addr × Obj)) (hfx : ∀ p ∈ fx, p ∈ Led c₀)
    (hh : A.handled = none) (hls : s.heap.IsList l vs) (hLl : l ≠ env.locals) (F : Fr h₀ env.locals s.heap m₀) (N : News h₀ env.locals s.heap (Led c₀)) (hal : AllL fx (Led c₀)) (hk : ∀ p ∈ ps c₀, m₀ p.1 = some p.2) (hp : P 0 c₀)
    (turn : ∀ i v (c : σ) (u : Str → Option Value) h tk own, i < vs.size → vs[i]? = some v → P i c → AllL fx (Led c) → (∀ p ∈ own, p.1 ≠ l → ∀ b ∈ Led c, b.1 ≠ p.1) →
      Fr h₀ env.locals h (fun y => if y = x then u y else kstB (fun z => if stored.contains z then u z else m₀ z) (ps c) y) → News h₀ env.locals h (Led c ++ own) →
      wpAny (model prog w) A (assign target env v) (fun _ s₃ => wpAny (model prog w) A (execs body env) (KPost fx h₀ env.locals Led ps x stored m₀ (P (i + 1)) own { s with heap := h, toks := tk } Q) E s₃) E { s with heap := h, toks := tk })
    (done : ∀ (c : σ) (u : Str → Option Value) h tk, P vs.size c → AllL fx (Led c) → Fr h₀ env.locals h (fun y => if y = x then u y else kstB (fun z => if stored.contains z then u z else m₀ z) (ps c) y) → News h₀ env.locals h (Led c) → Q .next { s with heap := h, toks := tk }) :
    wpAny (model prog w) A (pyIter (.ref l)) (fun it s₂ => TurnsAt prog w A h₀ env target body Q E it s₂) E s := by
  obtain ⟨ol, hol, _⟩ := id hls
  have hne : l ≠ s.heap.objs.size := Nat.ne_of_lt (Heap.lt_size hol)
  refine wpAny_pyIter_list hls ?_
  have W := Walks.list (prog := prog) (w := w) hh s.heap.objs.size l hne vs
  refine loopJT (s := { s with heap := s.heap.push { cls := .type "list_iterator", data := .fields #[.ref l, .int 0 0] } }) x Led ps stored P c₀ fx (fun p hp => Nat.ne_of_lt (Heap.lt_size (N p (hfx p hp)).1)) (fun p hp => Nat.ne_of_lt (Heap.lt_size (N p hp).1)) W (fun i v s Q E st q => letGo_listiter st.1 q) ?_ (next_is_new F) ?_ (.head _) ⟨⟨_, Heap.get?_push_size _ rfl, rfl, rfl⟩, hls.at fun o e => Heap.get?_push_of_some _ e⟩ (F.push _)
    (fun p hp => ⟨Heap.get?_push_of_some _ (N p hp).1, (N p hp).2⟩) hal hk hp (fun i v c u h tk own hi hv hP hal' hI ho F' N' => turn i v c u h tk own hi hv hP hal' (fun p hp hl b hb e => by rcases List.mem_cons.mp (ho p hp) with h1 | h1; exact hI b hb (e.trans h1); exact hl (List.mem_singleton.mp h1)) F' N') done
  · intro hm
    rcases List.mem_cons.mp hm with e | hm
    · exact absurd F.ns.lt (e ▸ Nat.lt_irrefl _)
    · exact hLl (List.mem_singleton.mp hm).symm
  · rintro i h ⟨⟨o, ho, hc, _⟩, _⟩
    exact ⟨o, ho, by rw [hc]; exact fun e => by injection e with e; exact absurd e (by decide)⟩
end
end Mine
end
section
-- Comps
open PySem PySem.W PySem.Calls PySem.Spec PyProof.Rows
set_option Elab.async false
set_option maxRecDepth 100000
set_option linter.all false
namespace Mine
local macro_rules | `(tactic| omega) => `(tactic| lia)
section
variable {prog : Program} {w : World} {A : Around} {E : Value → Shared → Prop} {s : Shared} {h₀ : Heap} {L : Addr} {m : Str → Option Value} {env : Env} {elt iter : Expr} {x : Str} {px : Pos} {scope : Scope} {cl : List (Str × Addr)} {pos : Pos} {Q : Value → Shared → Prop}
/-- a source of a comprehension: any iterator that walks -/
noncomputable def SrcW (prog : Program) (w : World) (A : Around) (h₀ : Heap) (L : Addr) (m : Str → Option Value) (env : Env) (elt : Expr) (x : Str) (scope : Scope) (cl : List (Str × Addr)) (Q : Value → Shared → Prop) (it : Value) (s₂ : Shared) : Prop :=
  ∃ (I : Addr) (fp : List Addr) (n : Nat) (P : Nat → Value → Prop) (St : Nat → Heap → Prop) (S : List (Addr × Obj) → Prop) (news : List (Addr × Obj)), it = .ref I ∧ Walks prog w A I fp [I] n P St ∧ n ≤ sizeLine ∧ (∀ i h, St i h → ∃ o, h.get? I = some o) ∧
    (∀ i h h' o nw, St i h → h.get? I = some o → h'.get? I = some o → (∀ b o, h₀.get? b = some o → h'.get? b = some o) → News h₀ L h' nw → S nw → St i h') ∧ St 0 s₂.heap ∧ (∀ b ∈ fp, b < s₂.heap.objs.size) ∧
    Fr h₀ L s₂.heap m ∧ News h₀ L s₂.heap news ∧ L ≠ I ∧ h₀.get? I = none ∧ (∀ p ∈ news, p.1 ≠ I) ∧ S news ∧ LCg.CompRest prog w A h₀ L m env elt x scope cl s₂ S P (LCg.FinE h₀ L m s₂ Q) n 0 [] news
theorem ListComp_W (F₀ : Fr h₀ L s.heap m) (hclos : closureFor scope env = pure cl) (hcell : ∀ y ∈ scope.names, y.2 ≠ .cell) (hkind : scope.kind = .function)
    (hnames : ∀ y ∈ scope.names, y.2 = .local → scope.names.lookup y.1 = some .local) (hx : scope.names.lookup x = some .local)
    (h : wpAny (model prog w) A (eval iter env) (fun xv s₁ => wpAny (model prog w) A (pyIter xv) (fun it s₂ => SrcW prog w A h₀ L m env elt x scope cl Q it s₂) E s₁) E s)
    (hs : ∀ x, foldedSetIterable iter env x = pure x := by intro _; rfl) :
    wpAny (model prog w) A (eval (.ListComp elt [⟨.Name x px, iter, [], 0⟩] scope pos) env) Q E s := by
  rw [eval_ListComp]
  refine wpAny_comprehension_free (use := none) rfl hs hclos hkind hnames (wpAny_mono h (fun xv s₁ h₁ => wpAny_mono h₁ (fun it s₂ h₂ => ?_) fun _ _ e => e) fun _ _ e => e)
  refine Classical.byContradiction fun k9 => ?_
  obtain ⟨I, fp, n, P, St, S, news, rfl, W, hsz, hIo, hSt, hst, hfp, F, N, hIL, hI₀, off, hS, R⟩ := h₂
  refine k9 ?_
  refine LCg.block_U W hsz hIo hSt hcell hkind hx hst hfp F N hIL hI₀ off hS R ?_
  intro D C h tk m' ys news' F' N' o1 hn hC₀ hD₀ hCL hDL hCD offC fin
  refine ⟨m', hn, fun h'' hs'' => fin D h'' tk (F'.change hs'' hCL hC₀) (fun p hp => ?_) o1⟩
  refine ⟨hs''.extBut _ _ ?_ (N' p hp).1, (N' p hp).2⟩
  rcases List.mem_cons.mp hp with rfl | hp
  · exact Ne.symm hCD
  · exact offC p hp
inductive All2 {α : Type} (R : α → Value → Prop) : List α → List Value → Prop
  | nil : All2 R [] []
  | cons {a v as vs} : R a v → All2 R as vs → All2 R (a :: as) (v :: vs)
theorem All2.snoc {α : Type} {R : α → Value → Prop} {a : α} {v : Value} (h : R a v) {as vs} (r : All2 R as vs) : All2 R (as ++ [a]) (vs ++ [v]) := by
  induction r with
  | nil => exact .cons h .nil
  | cons h1 _ ih => exact .cons h1 ih
/-- the turns of a comprehension whose elements leave the ledger as it is -/
theorem rest_W {α : Type} {s : Shared} {S : List (Addr × Obj) → Prop} {P : Nat → Value → Prop} {Fin : List Value → List (Addr × Obj) → Prop} {news : List (Addr × Obj)} {n : Nat} {ks : List α} (item res : α → Value → Prop) (hks : ks.length = n) (hP : ∀ i v, i < n → P i v → ∃ k, ks[i]? = some k ∧ item k v)
    (turn : ∀ k v I oI C oC D m₂ ys h tk (E' : Value → Shared → Prop), k ∈ ks → item k v → LCg.NsObj oC m₂ → m₂ x = some v → Fr h₀ L h m → News h₀ L h ((I, oI) :: (C, oC) :: (D, LCg.lst ys) :: news) → LCg.Off3 I C D news → ((@Ne Nat I C) ∧ (@Ne Nat I D) ∧ (@Ne Nat C D)) →
      wpAny (model prog w) A (eval elt (compEnvC scope cl C env)) (LCg.CompEnd h₀ L m { s with heap := h, toks := tk } I oI C oC D (LCg.lst ys) S (fun y news' => news' = news ∧ res k y)) E' { s with heap := h, toks := tk })
    (fin : ∀ ys, All2 res ks ys → Fin ys news) : LCg.CompRest prog w A h₀ L m env elt x scope cl s S P Fin n 0 [] news := by
  have key : ∀ (j i : Nat) (ys : List Value), i + j = n → All2 res (ks.take i) ys → LCg.CompRest prog w A h₀ L m env elt x scope cl s S P Fin j i ys news := by
    intro j
    induction j with
    | zero =>
      intro i ys hi hy
      have e : i = ks.length := by omega
      subst e
      rw [List.take_length] at hy
      exact LCg.CompRest.zero (fin ys hy)
    | succ j ih =>
      intro i ys hi hy
      refine LCg.CompRest.succ ?_
      intro v I oI C oC D m₂ h tk E' hv hC hx F N off ne
      refine Classical.byContradiction fun k9 => ?_
      obtain ⟨k, hk, hv'⟩ := hP i v (by omega) hv
      refine k9 ?_
      refine wpAny_mono (turn k v I oI C oC D m₂ ys h tk E' (List.mem_of_getElem? hk) hv' hC hx F N off ne) (fun y s₂ hq => ?_) fun _ _ e => e
      refine Classical.byContradiction fun k9 => ?_
      obtain ⟨h', tk', nw, e, F', N', off', hS, hn, hy'⟩ := hq
      refine k9 ?_
      rw [hn] at N' off' hS
      refine ⟨h', tk', news, e, F', N', off', hS, ?_⟩
      refine ih (i + 1) _ (by omega) ?_
      rw [List.take_add_one, hk]
      exact hy.snoc hy'
  exact key n 0 [] (by omega) (by simp only [List.take_zero]; exact .nil)
theorem src_bytes {b : Array UInt8} {t : Tok} {news : List (Addr × Obj)} (hh : A.handled = none) (F : Fr h₀ L s.heap m) (N : News h₀ L s.heap news) (hsz : b.size ≤ sizeLine)
    (R : ∀ g, LCg.CompRest prog w A h₀ L m env elt x scope cl { s with heap := g } (fun _ => True) (fun i v => ∃ c u, b[i]? = some c ∧ v = .int (c.toNat : Int) u) (LCg.FinE h₀ L m { s with heap := g } Q) b.size 0 [] news) :
    wpAny (model prog w) A (pyIter (.bytes b t)) (fun it s₂ => SrcW prog w A h₀ L m env elt x scope cl Q it s₂) E s := by
  refine W.KBw.pyIter_bytes ?_
  refine ⟨s.heap.objs.size, _, b.size, _, _, fun _ => True, news, rfl, PySem.W.KBw.walks (prog := prog) (w := w) hh s.heap.objs.size b t, hsz, fun i h st => by obtain ⟨o, e, _⟩ := st; exact ⟨o, e⟩, ?_, ⟨_, Heap.get?_push_size _ rfl, rfl, rfl⟩, fun b hb => ?_,
    F.push _, fun p hp => ⟨Heap.get?_push_of_some _ (N p hp).1, (N p hp).2⟩, Nat.ne_of_lt F.ns.lt, next_is_new F, fun p hp => Nat.ne_of_lt (Heap.lt_size (N p hp).1), trivial, R _⟩
  · intro i h h' o nw st e e' _ _ _
    refine Classical.byContradiction fun k9 => ?_
    obtain ⟨o', q, r⟩ := st
    refine k9 ?_
    rw [e] at q
    cases q
    exact ⟨o, e', r⟩
  · rw [List.mem_singleton.mp hb]
    show s.heap.objs.size < (s.heap.push _).objs.size
    rw [Heap.size_push]; exact Nat.lt_succ_self _
theorem src_list {ax : Addr} {its : Array Value} {k : Nat} {news : List (Addr × Obj)} (hh : A.handled = none) (F : Fr h₀ L s.heap m) (N : News h₀ L s.heap news) (hm : (ax, listOf its k) ∈ news) (hsz : its.size ≤ sizeLine)
    (R : ∀ g, LCg.CompRest prog w A h₀ L m env elt x scope cl { s with heap := g } (LCg.SrcAt h₀ ax its) (fun i v => its[i]? = some v) (LCg.FinE h₀ L m { s with heap := g } Q) its.size 0 [] news) :
    wpAny (model prog w) A (pyIter (.ref ax)) (fun it s₂ => SrcW prog w A h₀ L m env elt x scope cl Q it s₂) E s := by
  have S : LCg.SrcAt h₀ ax its news := .inr ⟨_, hm, rfl, _, rfl⟩
  have hl := S.list F.keep N
  have hlt : ax < s.heap.objs.size := by obtain ⟨_, e, _⟩ := hl; exact Heap.lt_size e
  refine wpAny_pyIter_list hl ?_
  have up : ∀ b o, s.heap.get? b = some o → (s.heap.push { cls := .type "list_iterator", data := .fields #[.ref ax, .int 0 0] }).get? b = some o := fun b o e => Heap.get?_push_of_some _ e
  refine ⟨s.heap.objs.size, _, its.size, _, _, LCg.SrcAt h₀ ax its, news, rfl, Walks.list hh s.heap.objs.size ax (Nat.ne_of_lt hlt) its, hsz, fun i h st => by obtain ⟨o, e, _⟩ := st.1; exact ⟨o, e⟩, LCg.list_st, ⟨⟨_, Heap.get?_push_size _ rfl, rfl, rfl⟩, hl.push _⟩, fun b hb => ?_,
    F.keeps up, N.grown up, Nat.ne_of_lt F.ns.lt, next_is_new F, fun p hp => Nat.ne_of_lt (Heap.lt_size (N p hp).1), S, R _⟩
  show b < (s.heap.push _).objs.size
  rw [Heap.size_push]
  rcases List.mem_cons.mp hb with rfl | hb
  · exact Nat.lt_succ_self _
  · rw [List.mem_singleton.mp hb]; exact Nat.lt_succ_of_lt hlt
end
end Mine
end
section
-- Comp2
open PySem PySem.W PySem.Calls PySem.Spec PyProof.Rows PyProof.Rows.LCg
set_option Elab.async false
set_option maxRecDepth 100000
set_option linter.all false
namespace Mine
local macro_rules | `(tactic| omega) => `(tactic| lia)
inductive CpInv (G : List Int → Int × Int → List Int) (rs : List (Int × Int)) (ax : Addr) (its : Array Value) (I D C : Addr) (h₀ : Heap) (L : Addr) (m : Str → Option Value) (news : List (Addr × Obj)) (s : Shared) : Nat → Shared → Prop
  | mk (h' : Heap) (tk i : Nat) (ys : List Value) (m' : Str → Option Value) (hi : i ≤ rs.length) (hyl : ys.length ≤ i) (hya : IntsAre ys ((rs.take i).foldl G [])) (hst : h'.IsListIter I ax i ∧ h'.IsList ax its) (F : Fr h₀ L h' m) (hn : h'.Ns C m') (N : News h₀ L h' ((D, lst ys) :: news)) :
    CpInv G rs ax its I D C h₀ L m news s (rs.length + 1 - i) { s with heap := h', toks := tk }
section
variable {prog : Program} {w : World} {A : Around} {E : Value → Shared → Prop} {s : Shared} {h₀ : Heap} {L : Addr} {m : Str → Option Value} {env : Env}
/-- the end of a turn of a comprehension that leaves the ledger as it is -/
noncomputable def EndC (h₀ : Heap) (L : Addr) (m : Str → Option Value) (s : Shared) (led : List (Addr × Obj)) (res : Value → Prop) (y : Value) (s' : Shared) : Prop :=
  ∃ h' tk', s' = { s with heap := h', toks := tk' } ∧ Fr h₀ L h' m ∧ News h₀ L h' led ∧ res y
theorem EndC.intro {led all : List (Addr × Obj)} {res : Value → Prop} {y : Value} {h' : Heap} {tk' : Nat} (F : Fr h₀ L h' m) (N : News h₀ L h' all) (sub : ∀ p ∈ led, p ∈ all) (r : res y) : EndC h₀ L m s led res y { s with heap := h', toks := tk' } :=
  ⟨h', tk', rfl, F, fun p hp => N p (sub p hp), r⟩
/-- `[elt for a, b in runs if c]` over a list of pairs of the ledger, to a list of ints -/
theorem comp_pairs {elt c iter : Expr} {a b : Str} {pa pb tp : Pos} {kk : Nat} {scope : Scope} {cl : List (Str × Addr)} {pos : Pos} {Q : Value → Shared → Prop} {ax : Addr} {kR : Nat} {rl : List (Addr × Obj)} {rs : List (Int × Int)} {news : List (Addr × Obj)} (G : List Int → Int × Int → List Int)
    (hh : A.handled = none) (F : Fr h₀ L s.heap m) (N : News h₀ L s.heap news) (hP : PairsAre rl rs) (hR : (ax, listOf (refsOf rl).toArray kR) ∈ news) (hrl : ∀ p ∈ rl, p ∈ news) (hsz : rs.length ≤ sizeLine)
    (hclos : closureFor scope env = pure cl) (hcell : ∀ y ∈ scope.names, y.2 ≠ .cell) (hkind : scope.kind = .function)
    (hnames : ∀ y ∈ scope.names, y.2 = .local → scope.names.lookup y.1 = some .local) (hxa : scope.names.lookup a = some .local) (hxb : scope.names.lookup b = some .local) (hab : a ≠ b)
    (hit : ∀ Q' : Value → Shared → Prop, Q' (.ref ax) s → wpAny (model prog w) A (eval iter env) Q' E s)
    (hG : ∀ l p, (G l p).length ≤ l.length + 1)
    (turn : ∀ (p : Int × Int) ta tb I oI C oC D ys l h tk m₂ (E' : Value → Shared → Prop), p ∈ rs → IntsAre ys l → NsObj oC m₂ → m₂ a = some (.int p.1 ta) → m₂ b = some (.int p.2 tb) → Fr h₀ L h m → News h₀ L h ((I, oI) :: (C, oC) :: (D, lst ys) :: news) →
      wpAny (model prog w) A (isTrue c (compEnvC scope cl C env) (eval c (compEnvC scope cl C env))) (fun ok s' => if ok = true then wpAny (model prog w) A (eval elt (compEnvC scope cl C env)) (EndC h₀ L m s ((I, oI) :: (C, oC) :: (D, lst ys) :: news) (fun y => ∃ v t, y = .int v t ∧ G l p = l ++ [v])) E' s'
        else EndC h₀ L m s ((I, oI) :: (C, oC) :: (D, lst ys) :: news) (fun _ => G l p = l) .none s') E' { s with heap := h, toks := tk })
    (fin : ∀ D ys h tk, IntsAre ys (rs.foldl G []) → ys.length ≤ rs.length → Fr h₀ L h m → News h₀ L h ((D, lst ys) :: news) → Q (.ref D) { s with heap := h, toks := tk })
    (hs : ∀ x, foldedSetIterable iter env x = pure x := by intro _; rfl) :
    wpAny (model prog w) A (eval (.ListComp elt [⟨.Tuple [.Name a pa, .Name b pb] kk tp, iter, [c], 0⟩] scope pos) env) Q E s := by
  rw [eval_ListComp]
  refine wpAny_comprehension_free (use := none) rfl hs hclos hkind hnames (hit _ ?_)
  have hlen : (refsOf rl).toArray.size = rs.length := by rw [List.size_toArray, refsOf, List.length_map, hP.length]
  have hl : s.heap.IsList ax (refsOf rl).toArray := ⟨_, (N _ hR).1, rfl, _, rfl⟩
  have hlt : ax < s.heap.objs.size := Heap.lt_size (N _ hR).1
  refine wpAny_pyIter_list hl ?_
  generalize hg : s.heap.push { cls := .type "list_iterator", data := .fields #[.ref ax, .int 0 0] } = g
  have up : ∀ b o, s.heap.get? b = some o → g.get? b = some o := fun b o e => hg ▸ Heap.get?_push_of_some _ e
  have gsz : g.objs.size = s.heap.objs.size + 1 := by rw [← hg, Heap.size_push]
  have W := Walks.list (prog := prog) (w := w) hh s.heap.objs.size ax (Nat.ne_of_lt hlt) (refsOf rl).toArray
  have st₀ : g.IsListIter s.heap.objs.size ax 0 ∧ g.IsList ax (refsOf rl).toArray := ⟨⟨_, hg ▸ Heap.get?_push_size _ rfl, rfl, rfl⟩, ⟨_, up _ _ (N _ hR).1, rfl, _, rfl⟩⟩
  have Fg : Fr h₀ L g m := F.keeps up
  have Ng : News h₀ L g news := N.grown up
  have hIL : L ≠ s.heap.objs.size := Nat.ne_of_lt F.ns.lt
  have hI₀ : h₀.get? s.heap.objs.size = none := next_is_new F
  have off : ∀ p ∈ news, p.1 < s.heap.objs.size := fun p hp => Heap.lt_size (N p hp).1
  have hLlt : @LT.lt Nat _ L s.heap.objs.size := F.ns.lt
  generalize hI : s.heap.objs.size = I at *
  refine wpAny_newObj_type (wpAny_newFunctionEnv hcell (by intro y hy; simp at hy) (fun h₁ hns₁ hsb₁ => ?_) hkind)
  dsimp only at hns₁ hsb₁ ⊢
  generalize hH2 : g.push { cls := .type "list", dict := none, data := .seq ([] : List Value).toArray } = H2 at hns₁ hsb₁ ⊢
  have hC : H2.objs.size = g.objs.size + 1 := by rw [← hH2, Heap.size_push]
  have old : ∀ b o, g.get? b = some o → h₁.get? b = some o := fun b o e => hsb₁.extBut b o (by have h1 := Heap.lt_size e; show b ≠ H2.objs.size; intro z; rw [z, hC] at h1; exact absurd h1 (Nat.not_lt.mpr (Nat.le_succ _))) (Heap.get?_push_of_some _ (hH2 ▸ Heap.get?_push_of_some _ e))
  have hD₁ : h₁.get? g.objs.size = some (lst []) := hsb₁.extBut _ _ (by show g.objs.size ≠ H2.objs.size; rw [hC]; exact Nat.ne_of_lt (Nat.lt_succ_self _)) (Heap.get?_push_of_some _ (hH2 ▸ Heap.get?_push_size _ rfl))
  have fresh₀ : ∀ x, g.objs.size ≤ x → h₀.get? x = none := fun x hx => by
    cases e : h₀.get? x with
    | none => rfl
    | some o' => exact absurd (Heap.lt_size (Fg.keep x o' e)) (Nat.not_lt.mpr hx)
  have hD₀ := fresh₀ g.objs.size (Nat.le_refl _)
  have hC₀ := fresh₀ H2.objs.size (by rw [hC]; exact Nat.le_succ _)
  generalize hDe : g.objs.size = D at *
  generalize hCe : H2.objs.size = C at *
  have hDL : @Ne Nat D L := by omega
  have hCL : @Ne Nat C L := by omega
  have hIC : @Ne Nat I C := by omega
  have hID : @Ne Nat I D := by omega
  have hCD : @Ne Nat C D := by omega
  have nI : ∀ p ∈ news, p.1 ≠ I := fun p hp => Nat.ne_of_lt (off p hp)
  have nC : ∀ p ∈ news, p.1 ≠ C := fun p hp => by have h1 := off p hp; intro z; rw [z] at h1; exact absurd (show @LT.lt Nat _ _ _ from h1) (by omega)
  have nD : ∀ p ∈ news, p.1 ≠ D := fun p hp => by have h1 := off p hp; intro z; rw [z] at h1; exact absurd (show @LT.lt Nat _ _ _ from h1) (by omega)
  have hax : ax < I := hlt
  have loop : ∀ s₃ : Shared, s₃ = { s with heap := h₁, toks := s.toks + ([] : List (Str × Value)).length } →
      codeAny (model prog w) A (.compLoop (.ListComp elt [⟨.Tuple [.Name a pa, .Name b pb] kk tp, iter, [c], 0⟩] scope pos) 0 (.ref I) (.ref D) (compEnvC scope cl C env))
        (compPost (model prog w) A E none Q (.ref D) C) s₃ := by
    rintro s₃ rfl
    refine kct_loop
      (CpInv G rs ax (refsOf rl).toArray I D C h₀ L m news s) ?_ (rs.length + 1)
      (.mk h₁ _ 0 [] _ (Nat.zero_le _) (Nat.le_refl _) .nil (W.frame _ _ _ st₀ fun b _ o e => old b o e) (Fg.keeps old) hns₁ fun p hp => ?_)
    · rintro k s' ⟨h', tk, i, ys, m', hi, hyl, hya, hst', F', hn', N'⟩
      by_cases hlt' : i < rs.length
      · refine W.item i _ _ _ (by rw [hlen]; exact hlt') hst' fun v h₂ tk₂ hPv hst₂ hk₂ => ?_
        refine Classical.byContradiction fun k9 => ?_
        obtain ⟨t, v₁, v₂, t₁, t₂, k₂, rfl, hrs, hmt⟩ := hP.get (i := i) (x := v) (by simpa using hPv)
        refine k9 ?_
        have N₂ : News h₀ L h₂ ((D, lst ys) :: news) := news_but N' hk₂ fun p hp => by
          rcases List.mem_cons.mp hp with rfl | hp
          · exact Ne.symm hID
          · exact nI p hp
        have ht : h₂.IsList t #[.int v₁ t₁, .int v₂ t₂] := ⟨_, (N₂ _ (List.mem_cons_of_mem _ (hrl _ hmt))).1, rfl, _, rfl⟩
        refine wpAny_letOwnedTupleGo_listiter hst₂.1 ?_
        rw [assign_Tuple]
        refine wpAny_bind (wpAny_standAt ?_)
        unfold unpack
        refine wpAny_bind (wpAny_holding (kun_itemsOf (items := #[.int v₁ t₁, .int v₂ t₂]) hh ht fun h₅ he => ?_))
        have he' : ∀ b o, h₂.get? b = some o → h₅.get? b = some o := fun b o e => he b o (Nat.ne_of_lt (Heap.lt_size e)) e
        refine assignInOrder_cons (wpAny_assign_Name (wpAny_storeName_local (lookup_relabel_local hxa) ((hn'.at' fun o e => hk₂ _ o (by simpa using Ne.symm hIC) e).at' fun o e => he' _ o e) (fun h₆ hn₆ hs₆ => ?_) (by simp [compEnvC, relabel, hkind])))
        refine assignInOrder_cons (wpAny_assign_Name (wpAny_storeName_local (lookup_relabel_local hxb) hn₆ (fun h₃ hn₃ hs₃ => ?_) (by simp [compEnvC, relabel, hkind])))
        refine assignInOrder_nil ?_
        have old3 : ∀ b o, b ≠ C → h₂.get? b = some o → h₃.get? b = some o := fun b o hb e => hs₃.extBut b o hb (hs₆.extBut b o hb (he' b o e))
        refine Classical.byContradiction fun k9 => ?_
        obtain ⟨oI, heI, hIi⟩ := hst₂.1
        obtain ⟨oC, heC, hoC⟩ := ns_obj hn₃
        refine k9 ?_
        have F₃ : Fr h₀ L h₃ m := (((fr_but F' hk₂ hIL hI₀).keeps he').change hs₆ hCL hC₀).change hs₃ hCL hC₀
        have N₃ : News h₀ L h₃ ((I, oI) :: (C, oC) :: (D, lst ys) :: news) := fun p hp => by
          rcases List.mem_cons.mp hp with rfl | hp
          · exact ⟨old3 _ _ hIC heI, Ne.symm hIL, hI₀⟩
          rcases List.mem_cons.mp hp with rfl | hp
          · exact ⟨heC, hCL, hC₀⟩
          have z := N₂ p hp
          refine ⟨old3 _ _ ?_ z.1, z.2⟩
          rcases List.mem_cons.mp hp with rfl | hp
          · exact Ne.symm hCD
          · exact nC p hp
        have hit' : ∀ (h₄ : Heap), News h₀ L h₄ ((I, oI) :: (C, oC) :: (D, lst ys) :: news) → h₄.IsListIter I ax (i + 1) ∧ h₄.IsList ax (refsOf rl).toArray := fun h₄ N₄ =>
          ⟨⟨oI, (N₄ _ (.head _)).1, hIi⟩, ⟨_, (N₄ _ (.tail _ (.tail _ (.tail _ hR)))).1, rfl, _, rfl⟩⟩
        refine wpAny_mono (turn (v₁, v₂) t₁ t₂ I oI C oC D ys _ h₃ _ _ _ (List.mem_of_getElem? hrs) hya hoC (by simp [hab]) (by simp) F₃ N₃) (fun ok s₄ h₄ => ?_) fun _ _ e => e
        have hfold : (rs.take (i + 1)).foldl G [] = G ((rs.take i).foldl G []) (v₁, v₂) := by rw [List.take_add_one, hrs]; simp
        cases ok with
        | true =>
          simp only [if_true] at h₄ ⊢
          refine wpAny_mono h₄ (fun y s₅ h₅ => ?_) fun _ _ e => e
          refine Classical.byContradiction fun k9 => ?_
          obtain ⟨h₄, tk₄, rfl, F₄, N₄, v, t, rfl, hgv⟩ := h₅
          refine k9 ?_
          have zD := (N₄ (D, lst ys) (.tail _ (.tail _ (.head _)))).1
          refine append_at (hsz := by show ys.toArray.size ≤ sizeLine; rw [List.size_toArray]; omega) zD fun h₅ hs₅ hD₅ => ?_
          refine ⟨rs.length + 1 - (i + 1), by omega, .mk h₅ tk₄ (i + 1) (ys ++ [.int v t]) _ hlt' (by rw [List.length_append, List.length_singleton]; omega) ?_ (W.frame _ _ _ (hit' h₄ N₄) fun b hb o e => hs₅.extBut b o (fun q => ?_) e) (F₄.change hs₅ hDL hD₀)
            ((hoC.ns (N₄ _ (.tail _ (.head _))).1).sameBut hs₅ hCD) fun p hp => ?_⟩
          · rw [hfold, hgv]; exact hya.append (.cons v t .nil)
          · rw [q] at hb
            rcases List.mem_cons.mp hb with z | hb
            · exact hID z.symm
            · have z := List.mem_singleton.mp hb
              rw [← z] at hax
              exact absurd (show @LT.lt Nat _ _ _ from hax) (by omega)
          · rcases List.mem_cons.mp hp with rfl | hp
            · exact ⟨hD₅.trans (congrArg some (lst_snoc ys _)), hDL, hD₀⟩
            · exact ⟨hs₅.extBut _ _ (nD p hp) (N₄ p (.tail _ (.tail _ (.tail _ hp)))).1, (N₄ p (.tail _ (.tail _ (.tail _ hp)))).2⟩
        | false =>
          simp only [Bool.false_eq_true, if_false] at h₄ ⊢
          refine Classical.byContradiction fun k9 => ?_
          obtain ⟨h₄, tk₄, rfl, F₄, N₄, hgv⟩ := h₄
          refine k9 ?_
          refine ⟨rs.length + 1 - (i + 1), by omega, .mk h₄ tk₄ (i + 1) ys _ hlt' (by omega) ?_ (hit' h₄ N₄) F₄ (hoC.ns (N₄ _ (.tail _ (.head _))).1) fun p hp => N₄ p (.tail _ (.tail _ hp))⟩
          rw [hfold, hgv]; exact hya
      · obtain rfl : i = rs.length := Nat.le_antisymm hi (Nat.not_lt.mp hlt')
        rw [List.take_length] at hya
        rw [← hlen] at hst'
        refine W.done _ _ _ hst' fun h₂ tk₂ hk₂ => ?_
        have F₂ := fr_but F' hk₂ hIL hI₀
        have N₂ : News h₀ L h₂ ((D, lst ys) :: news) := news_but N' hk₂ fun p hp => by
          rcases List.mem_cons.mp hp with rfl | hp
          · exact Ne.symm hID
          · exact nI p hp
        refine ⟨m', hn'.at' fun o e => hk₂ _ o (by simpa using Ne.symm hIC) e, fun h'' hs'' => fin D ys h'' _ hya hyl (F₂.change hs'' hCL hC₀) fun p hp => ?_⟩
        refine ⟨hs''.extBut _ _ ?_ (N₂ p hp).1, (N₂ p hp).2⟩
        rcases List.mem_cons.mp hp with rfl | hp
        · exact Ne.symm hCD
        · exact nC p hp
    · rcases List.mem_cons.mp hp with rfl | hp
      · exact ⟨hD₁, hDL, hD₀⟩
      · exact ⟨old _ _ (Ng p hp).1, (Ng p hp).2⟩
  exact codeAny_compStart_list (loop _ rfl) (W.self 0 _ _ _ (W.frame _ _ _ st₀ fun b _ o e => old b o e) (loop _ rfl))
end
end Mine
end
section
-- Comp3
open PySem PySem.W PySem.Calls PySem.Spec PyProof.Rows PyProof.Rows.LCg
set_option Elab.async false
set_option maxRecDepth 100000
set_option linter.all false
namespace Mine
local macro_rules | `(tactic| omega) => `(tactic| lia)
section
variable {prog : Program} {w : World} {A : Around} {E : Value → Shared → Prop} {s : Shared} {h₀ : Heap} {m : Str → Option Value} {env : Env}
/-- the turns of a comprehension over range(n) whose name is a cell -/
noncomputable def SrcCell (prog : Program) (w : World) (A : Around) (h₀ : Heap) (L : Addr) (m : Str → Option Value) (env : Env) (elt : Expr) (x y : Str) (scope : Scope) (cl : List (Str × Addr)) (Q : Flow → Shared → Prop) (it : Value) (s₂ : Shared) : Prop :=
  ∃ (I : Addr) (n : Nat) (res : Nat → Value → Prop) (news : List (Addr × Obj)), it = .ref I ∧ A.handled = none ∧ IsRangeIter s₂.heap I 0 (n : Int) 1 ∧ n ≤ sizeLine ∧ Fr h₀ L s₂.heap m ∧ News h₀ L s₂.heap news ∧ L ≠ I ∧ h₀.get? I = none ∧ (∀ p ∈ news, p.1 ≠ I) ∧
    (∀ (i : Nat) ti I oI C oC c oc D ys h tk (E' : Value → Shared → Prop), i < n → ys.length = i → oc.data = .cell (some (.int (i : Int) ti)) → NsObj oC (fun _ => none) → Fr h₀ L h m → News h₀ L h ((c, oc) :: (I, oI) :: (C, oC) :: (D, lst ys) :: news) →
      wpAny (model prog w) A (eval elt (compEnvC scope ((x, c) :: cl) C env)) (EndC h₀ L m s₂ ((c, oc) :: (I, oI) :: (C, oC) :: (D, lst ys) :: news) (res i)) E' { s₂ with heap := h, toks := tk }) ∧
    (∀ D ys h tk, ys.length = n → (∀ j, j < n → ∃ v, ys[j]? = some v ∧ res j v) → Fr h₀ L h (fun z => if z = y then some (.ref D) else m z) → News h₀ L h ((D, lst ys) :: news) → Q .next { s₂ with heap := h, toks := tk })
theorem src_cell {r : Addr} {L : Addr} {elt : Expr} {x y : Str} {scope : Scope} {cl : List (Str × Addr)} {Q : Flow → Shared → Prop} {n : Nat} {t u v : Tok} {news : List (Addr × Obj)} (res : Nat → Value → Prop)
    (hh : A.handled = none) (F : Fr h₀ L s.heap m) (N : News h₀ L s.heap news) (hr : IsRange s.heap r 0 (n : Int) 1 t u v) (hsm : Builtin.Range.small 0 (n : Int) 1 = true) (hn : Builtin.Range.rangeSize 0 (n : Int) 1 = ((n : Nat) : Int)) (hsz : n ≤ sizeLine)
    (turn : ∀ g, ∀ (i : Nat) ti I oI C oC c oc D ys h tk (E' : Value → Shared → Prop), i < n → ys.length = i → oc.data = .cell (some (.int (i : Int) ti)) → NsObj oC (fun _ => none) → Fr h₀ L h m → News h₀ L h ((c, oc) :: (I, oI) :: (C, oC) :: (D, lst ys) :: news) →
      wpAny (model prog w) A (eval elt (compEnvC scope ((x, c) :: cl) C env)) (EndC h₀ L m { s with heap := g } ((c, oc) :: (I, oI) :: (C, oC) :: (D, lst ys) :: news) (res i)) E' { s with heap := h, toks := tk })
    (fin : ∀ D ys h tk, ys.length = n → (∀ j, j < n → ∃ v, ys[j]? = some v ∧ res j v) → Fr h₀ L h (fun z => if z = y then some (.ref D) else m z) → News h₀ L h ((D, lst ys) :: news) → Q .next { s with heap := h, toks := tk }) :
    wpAny (model prog w) A (pyIter (.ref r)) (fun it s₂ => SrcCell prog w A h₀ L m env elt x y scope cl Q it s₂) E s := by
  refine wpAny_pyIter_range hr hsm ?_
  refine ⟨_, n, res, news, rfl, hh, by show IsRangeIter _ _ _ _ _; rw [hn]; exact Heap.get?_push_size _ rfl, hsz, F.push _, fun p hp => ⟨Heap.get?_push_of_some _ (N p hp).1, (N p hp).2⟩, Nat.ne_of_lt F.ns.lt, next_is_new F, fun p hp => Nat.ne_of_lt (Heap.lt_size (N p hp).1), turn _, fin⟩
inductive CcInv (n : Nat) (res : Nat → Value → Prop) (I C c D : Addr) (h₀ : Heap) (L : Addr) (m : Str → Option Value) (news : List (Addr × Obj)) (s₂ : Shared) : Nat → Shared → Prop
  | mk (h' : Heap) (tk i : Nat) (ys : List Value) (v : Option Value) (hi : i ≤ n) (hyl : ys.length = i) (hyr : ∀ j, j < i → ∃ v, ys[j]? = some v ∧ res j v) (hst : IsRangeIter h' I (0 + (i : Nat) * 1) ((n : Int) - (i : Nat)) 1) (F : Fr h₀ L h' m) (hn : h'.Ns C (fun _ => none)) (hc : h'.IsCell c v) (N : News h₀ L h' ((D, lst ys) :: news)) :
    CcInv n res I C c D h₀ L m news s₂ (n + 1 - i) { s₂ with heap := h', toks := tk }
theorem assign_comp_cell {elt iter : Expr} {x y : Str} {px py : Pos} {scope : Scope} {cl : List (Str × Addr)} {pos spos : Pos} {Q : Flow → Shared → Prop} {L : Addr} (_F : Fr h₀ L s.heap m) (hLe : env.locals = L)
    (hsw : swapsWith (.ListComp elt [⟨.Name x px, iter, [], 0⟩] scope pos) (some (.Name y py)) spos.line env = pure true)
    (hclos : closureFor scope env = pure cl) (hlay : ∀ n, cellsFrom n scope.names cl = (x, n) :: cl) (hpush : ∀ h : Heap, pushCells h scope.names = h.push { cls := .type "cell", data := .cell none }) (hkind : scope.kind = .function)
    (hnames : ∀ z ∈ scope.names, z.2 = .local → scope.names.lookup z.1 = some .local) (hxc : (relabel scope env).names.lookup x = some .cell)
    (hy : env.kindOf y = some .local) (hp : (env.scope.kind == .class || (env.scope.kind == .module && env.locals != env.globals)) = false)
    (h : wpAny (model prog w) A (eval iter env) (fun xv s₁ => wpAny (model prog w) A (pyIter xv) (fun it s₂ => SrcCell prog w A h₀ L m env elt x y scope cl Q it s₂) E s₁) E s)
    (hs : ∀ x, foldedSetIterable iter env x = pure x := by intro _; rfl) :
    wpAny (model prog w) A (exec (.Assign [.Name y py] (.ListComp elt [⟨.Name x px, iter, [], 0⟩] scope pos) spos) env) Q E s := by
  subst hLe
  rw [exec_Assign_Name_used _ _ _ _ hsw]
  refine wpAny_bind (wpAny_standAt (wpAny_bind ?_))
  show wpAny _ A (do let _ ← comprehension (.ListComp elt [⟨.Name x px, iter, [], 0⟩] scope pos) scope env _ (newList []) false (eval iter env) (some (assign (.Name y py) env))) _ _ s
  refine wpAny_bind (wpAny_mono (wpAny_comprehension_free (use := some (assign (.Name y py) env)) (Q := fun _ s' => Q .next s') rfl hs hclos hkind hnames
    (wpAny_mono h (fun xv s₁ h₁ => wpAny_mono h₁ (fun it s₂ h₂ => ?_) fun _ _ e => e) fun _ _ e => e)) (fun _ s' hq => wpAny_pure (wpAny_pure hq)) fun _ _ e => e)
  refine Classical.byContradiction fun k9 => ?_
  obtain ⟨I, n, res, news, rfl, hh, hit, hsz, F, N, hLI, hI₀, nI, turn, fin⟩ := h₂
  refine k9 ?_
  have W := range_walks (prog := prog) (w := w) (I := I) hh 0 n
  refine wpAny_newObj_type ?_
  generalize hg : s₂.heap.push { cls := .type "list", dict := none, data := .seq ([] : List Value).toArray } = g
  have gsz : @Eq Nat g.objs.size (s₂.heap.objs.size + 1) := by rw [← hg, Heap.size_push]
  have up : ∀ b o, s₂.heap.get? b = some o → g.get? b = some o := fun b o e => hg ▸ Heap.get?_push_of_some _ e
  have hD : g.get? s₂.heap.objs.size = some (lst []) := hg ▸ Heap.get?_push_size _ rfl
  simp only [newFunctionEnv, Option.isSome_some, if_true]
  refine wpAny_bind (wpAny_alloc ?_)
  refine wpAny_bind (wpAny_layCells _ (fun name kind cells => by cases hkc : kind == NameKind.cell <;> simp [hkc]) _ _ _ _ ?_)
  rw [hpush]
  refine wpAny_bind (wpAny_pure (wpAny_pure ?_))
  dsimp only
  rw [show (g.push { cls := .type "dict", data := .dict #[] }).objs.size = g.objs.size + 1 from Heap.size_push .., hlay]
  generalize hh1 : (g.push { cls := .type "dict", data := .dict #[] }).push { cls := .type "cell", data := .cell none } = h₁
  have old : ∀ b o, g.get? b = some o → h₁.get? b = some o := fun b o e => hh1 ▸ Heap.get?_push_of_some _ (Heap.get?_push_of_some _ e)
  have hC : h₁.Ns g.objs.size (fun _ => none) := (Heap.Ns.new g (.type "dict")).keeps fun b o e => hh1 ▸ Heap.get?_push_of_some _ e
  have hc : h₁.get? (g.objs.size + 1) = some { cls := .type "cell", data := .cell none } := by
    have e : (g.push { cls := .type "dict", data := .dict #[] }).objs.size = g.objs.size + 1 := Heap.size_push ..
    rw [← hh1, ← e]
    exact Heap.get?_push_size _ rfl
  have fresh₀ : ∀ x, s₂.heap.objs.size ≤ x → h₀.get? x = none := fun x hx => by
    cases e : h₀.get? x with
    | none => rfl
    | some o' => exact absurd (Heap.lt_size (F.keep x o' e)) (Nat.not_lt.mpr hx)
  have hIlt : @LT.lt Nat _ I s₂.heap.objs.size := by have e : s₂.heap.get? I = some _ := hit; exact Heap.lt_size e
  have hLlt : @LT.lt Nat _ env.locals s₂.heap.objs.size := F.ns.lt
  have below : ∀ p ∈ news, @LT.lt Nat _ p.1 s₂.heap.objs.size := fun p hp => Heap.lt_size (N p hp).1
  have hD₀ := fresh₀ s₂.heap.objs.size (Nat.le_refl _)
  have hC₀ := fresh₀ g.objs.size (by show @LE.le Nat _ _ _; omega)
  have hc₀ := fresh₀ (g.objs.size + 1) (by show @LE.le Nat _ _ _; omega)
  have st₀ : IsRangeIter h₁ I (0 + ((0 : Nat) : Int) * 1) ((n : Int) - ((0 : Nat) : Int)) 1 := by
    have e : s₂.heap.get? I = some _ := hit
    have e2 := old _ _ (up _ _ e)
    show h₁.get? I = some _
    rw [e2]; simp
  have F1 : Fr h₀ env.locals h₁ m := F.keeps fun b o e => old _ _ (up _ _ e)
  have N1 : ∀ p ∈ news, h₁.get? p.1 = some p.2 := fun p hp => old _ _ (up _ _ (N p hp).1)
  have D1 := old _ _ hD
  generalize hDe : s₂.heap.objs.size = D at *
  generalize hCe : g.objs.size = C at *
  generalize hce : C + 1 = c at *
  have hDL : @Ne Nat D env.locals := by omega
  have hCL : @Ne Nat C env.locals := by omega
  have hcL : @Ne Nat c env.locals := by omega
  have hIC : @Ne Nat I C := by omega
  have hIc : @Ne Nat I c := by omega
  have hID : @Ne Nat I D := by omega
  have hCD : @Ne Nat C D := by omega
  have hCc : @Ne Nat C c := by omega
  have hcD : @Ne Nat c D := by omega
  have nC : ∀ p ∈ news, p.1 ≠ C := fun p hp => by have h1 := below p hp; intro z; rw [z] at h1; omega
  have nD : ∀ p ∈ news, p.1 ≠ D := fun p hp => by have h1 := below p hp; intro z; rw [z] at h1; omega
  have nc : ∀ p ∈ news, p.1 ≠ c := fun p hp => by have h1 := below p hp; intro z; rw [z] at h1; omega
  have hrk : (relabel scope env).kind = .function := hkind
  have loop : ∀ s₃ : Shared, s₃ = { s₂ with heap := h₁ } →
      codeAny (model prog w) A (.compLoop (.ListComp elt [⟨.Name x px, iter, [], 0⟩] scope pos) 0 (.ref I) (.ref D) (compEnvC scope ((x, c) :: cl) C env))
        (compPost (model prog w) A E (some (assign (.Name y py) env)) (fun _ s' => Q .next s') (.ref D) C) s₃ := by
    rintro s₃ rfl
    refine codeAny_compLoop_tests
      (CcInv n res I C c D h₀ env.locals m news s₂) ?_ (n + 1)
      (.mk h₁ _ 0 [] none (Nat.zero_le _) rfl (fun j hj => absurd hj (Nat.not_lt_zero _)) st₀ F1 hC ⟨_, hc, rfl⟩ fun p hp => ?_)
    · rintro k s' ⟨h', tk, i, ys, v₀, hi, hyl, hyr, hst', F', hn', hcell', N'⟩
      by_cases hlt' : i < n
      · refine W.item i _ _ _ hlt' hst' fun v h₂ tk₂ hPv hst₂ hk₂ => ?_
        obtain ⟨ti, rfl⟩ := hPv
        rw [Int.zero_add]
        have N₂ : News h₀ env.locals h₂ ((D, lst ys) :: news) := news_but N' hk₂ fun p hp => by
          rcases List.mem_cons.mp hp with rfl | hp
          · exact Ne.symm hID
          · exact nI p hp
        have hc₂ : h₂.IsCell c v₀ := by
          refine Classical.byContradiction fun k9 => ?_
          obtain ⟨o, e, hd⟩ := hcell'
          refine k9 ?_
          exact ⟨o, hk₂ _ _ (by simpa using Ne.symm hIc) e, hd⟩
        refine wpAny_assign_Name (wpAny_storeName_cell (c := c) hrk hxc (by simp [compEnvC]) hc₂ fun h₃ hc₃ hs₃ => ?_)
        refine wpAny_tests_nil ?_
        simp only [if_true]
        refine Classical.byContradiction fun k9 => ?_
        obtain ⟨oc, hoc, hocd⟩ := hc₃
        refine k9 ?_
        have n₂ : h₂.Ns C (fun _ => none) := hn'.at' fun o e => hk₂ _ o (by simpa using Ne.symm hIC) e
        refine Classical.byContradiction fun k9 => ?_
        obtain ⟨oC, heC, hoC⟩ := ns_obj (n₂.sameBut hs₃ hCc)
        refine k9 ?_
        have F₃ : Fr h₀ env.locals h₃ m := (fr_but F' hk₂ hLI hI₀).change hs₃ hcL hc₀
        have eI : h₂.get? I = some _ := hst₂
        have eI3 := hs₃.extBut I _ hIc eI
        have N₃ : News h₀ env.locals h₃ ((c, oc) :: (I, _) :: (C, oC) :: (D, lst ys) :: news) := fun p hp => by
          rcases List.mem_cons.mp hp with rfl | hp
          · exact ⟨hoc, hcL, hc₀⟩
          rcases List.mem_cons.mp hp with rfl | hp
          · exact ⟨eI3, Ne.symm hLI, hI₀⟩
          rcases List.mem_cons.mp hp with rfl | hp
          · exact ⟨heC, hCL, hC₀⟩
          have z := N₂ p hp
          refine ⟨hs₃.extBut _ _ ?_ z.1, z.2⟩
          rcases List.mem_cons.mp hp with rfl | hp
          · exact Ne.symm hcD
          · exact nc p hp
        refine wpAny_mono (turn i ti I _ C oC c oc D ys h₃ _ _ hlt' hyl hocd hoC F₃ N₃) (fun y s₄ h₄ => ?_) fun _ _ e => e
        refine Classical.byContradiction fun k9 => ?_
        obtain ⟨h₄, tk₄, rfl, F₄, N₄, hy₄⟩ := h₄
        refine k9 ?_
        have zD := (N₄ (D, lst ys) (.tail _ (.tail _ (.tail _ (.head _))))).1
        refine append_at (hsz := by show ys.toArray.size ≤ sizeLine; rw [List.size_toArray]; omega) zD fun h₅ hs₅ hD₅ => ?_
        have N₄' : ∀ p ∈ news, _ := fun p hp => N₄ p (.tail _ (.tail _ (.tail _ (.tail _ hp))))
        refine ⟨n + 1 - (i + 1), by omega, .mk h₅ tk₄ (i + 1) (ys ++ [y]) (some (.int (i : Int) ti)) hlt' (by rw [List.length_append, List.length_singleton]; omega) (fun j hj => ?_) ?_ (F₄.change hs₅ hDL hD₀)
          ((hoC.ns (N₄ _ (.tail _ (.tail _ (.head _)))).1).sameBut hs₅ hCD) ⟨oc, hs₅.extBut _ _ hcD (N₄ _ (.head _)).1, hocd⟩ fun p hp => ?_⟩
        · by_cases hji : j < i
          · refine Classical.byContradiction fun k9 => ?_
            obtain ⟨v, e, r⟩ := hyr j hji
            refine k9 ?_
            exact ⟨v, by rw [List.getElem?_append_left (by omega)]; exact e, r⟩
          · have e : j = i := by omega
            subst e
            exact ⟨y, by rw [List.getElem?_append_right (by omega), hyl, Nat.sub_self]; rfl, hy₄⟩
        · show h₅.get? I = some _
          exact hs₅.extBut _ _ hID (N₄ _ (.tail _ (.head _))).1
        · rcases List.mem_cons.mp hp with rfl | hp
          · exact ⟨hD₅.trans (congrArg some (lst_snoc ys _)), hDL, hD₀⟩
          · exact ⟨hs₅.extBut _ _ (nD p hp) (N₄' p hp).1, (N₄' p hp).2⟩
      · obtain rfl : i = n := Nat.le_antisymm hi (Nat.not_lt.mp hlt')
        refine W.done _ _ _ hst' fun h₂ tk₂ hk₂ => ?_
        have F₂ := fr_but F' hk₂ hLI hI₀
        have N₂ : News h₀ env.locals h₂ ((D, lst ys) :: news) := news_but N' hk₂ fun p hp => by
          rcases List.mem_cons.mp hp with rfl | hp
          · exact Ne.symm hID
          · exact nI p hp
        show wpAny _ A (assign (.Name y py) env (.ref D)) _ _ _
        refine wpAny_assign_Name (wpAny_storeName_local hy F₂.ns (fun h₃ hn₃ hs₃ => ?_) hp)
        have hL₀ : h₀.get? env.locals = none := Heap.get?_none_of_le F₂.above
        have F₃ : Fr h₀ env.locals h₃ (fun z => if z = y then some (.ref D) else m z) := ⟨hn₃, fun b o e => hs₃.extBut b o (fun q => by rw [q, hL₀] at e; cases e) (F₂.keep b o e), F₂.above⟩
        have n₂ : h₂.Ns C (fun _ => none) := hn'.at' fun o e => hk₂ _ o (by simpa using Ne.symm hIC) e
        refine ⟨_, n₂.sameBut hs₃ hCL, fun h'' hs'' => fin D ys h'' _ hyl hyr (F₃.change hs'' hCL hC₀) fun p hp => ?_⟩
        have z : h₃.get? p.1 = some p.2 := hs₃.extBut _ _ (N₂ p hp).2.1 (N₂ p hp).1
        refine ⟨hs''.extBut _ _ ?_ z, (N₂ p hp).2⟩
        rcases List.mem_cons.mp hp with rfl | hp
        · exact Ne.symm hCD
        · exact nC p hp
    · rcases List.mem_cons.mp hp with rfl | hp
      · exact ⟨D1, hDL, hD₀⟩
      · exact ⟨N1 p hp, (N p hp).2⟩
  exact codeAny_compStart_list (loop _ rfl) (W.self 0 _ _ _ st₀ (loop _ rfl))
end
end Mine
end
section
-- Texts
open PySem PySem.W PySem.Calls PySem.Spec PyProof.Rows
set_option Elab.async false
set_option maxRecDepth 100000
set_option linter.all false
namespace Mine
/-- a text by its signs -/
noncomputable def tx (l : List Nat) : Str := ⟨l.toArray⟩
theorem tx_len (l : List Nat) : (tx l).length = l.length := List.size_toArray ..
theorem tx_app (a b : List Nat) : tx a ++ tx b = tx (a ++ b) := by
  apply congrArg Str.mk
  apply Array.toList_inj.mp
  simp [tx]
theorem tx_join (l : List Nat) : PySem.Txt.join (PySem.Str.ofString "") (l.map fun k => tx [k]) = tx l := by
  show Builtin.Str.glued (PySem.Str.ofString "") _ = _
  rw [StrLaws.glued_eq_join, show PySem.Str.ofString "" = (⟨#[]⟩ : Str) from by decide]
  exact PyProof.Rows.join_ones l
noncomputable def isTx (k : Nat) (v : Value) : Prop := ∃ t, v = .str (tx [k]) t
theorem all2_carried {ks : List Nat} {ys : List Value} (h : All2 isTx ks ys) : CarriedAll ys (ks.map fun k => PyData.str (tx [k])) := by
  induction h with
  | nil => exact .nil
  | cons h _ ih => exact h.elim fun t e => e ▸ .cons (.str _ t) ih
section
variable {prog : Program} {w : World} {A : Around} {E : Value → Shared → Prop} {s : Shared} {t : Tok} {Q : Value → Shared → Prop} {D : Addr} {ys : List Value} {l : List Nat}
theorem join_tx (hl : s.heap.IsList D ys.toArray) (hc : All2 isTx l ys) (hn : l.length ≤ 100000)
    (h : ∀ t' k, Q (.str (tx l) t') { s with toks := k }) :
    wpAny (model prog w) A (call (.builtin "str.join") [.str (PySem.Str.ofString "") t, .ref D]) Q E s := by
  refine PySem.W.KT.join_1 (g := fun k => tx [k]) hl (all2_carried hc) (fun a _ => rfl) (by omega) fun t' k _ => ?_
  rw [tx_join]
  exact h t' k
end
end Mine
namespace Mine
section
variable {prog : Program} {w : World} {A : Around} {E : Value → Shared → Prop} {s : Shared} {t u : Tok} {Q : Value → Shared → Prop}
theorem room_tx {l : List Nat} (h : l.length ≤ 100000) : (tx l).length ≤ sizeLine := by rw [tx_len]; exact room9 h
  where room9 {n : Nat} (h : n ≤ 100000) : n ≤ sizeLine := by rw [sizeLine_eq]; omega
theorem concat_post {a b : List Nat} (hz : a.length + b.length ≤ 100000) (h : ∀ t' k, Q (.str (tx (a ++ b)) t') { s with toks := k }) :
    (if (tx a).length == 0 then Made.val (.str (tx b) u) else if (tx b).length == 0 then Made.val (.str (tx a) t) else Made.str (tx a ++ tx b)).post Q s := by
  split
  · rename_i e
    have : a = [] := List.eq_nil_of_length_eq_zero (by rw [tx_len] at e; exact eq_of_beq e)
    subst this
    exact h u s.toks
  split
  · rename_i e
    have : b = [] := List.eq_nil_of_length_eq_zero (by rw [tx_len] at e; exact eq_of_beq e)
    subst this
    have := h t s.toks
    rw [List.append_nil] at this
    exact this
  · rw [tx_app]
    exact ⟨room_tx (by rw [List.length_append]; exact hz), h s.toks (s.toks + 1)⟩
theorem add_tx {a b : List Nat} (hz : a.length + b.length ≤ 100000) (h : ∀ t' k, Q (.str (tx (a ++ b)) t') { s with toks := k }) :
    wpAny (model prog w) A (binaryOp .Add (.str (tx a) t) (.str (tx b) u)) Q E s := P.add_str (concat_post hz h)
theorem iadd_tx {a b : List Nat} (hz : a.length + b.length ≤ 100000) (h : ∀ t' k, Q (.str (tx (a ++ b)) t') { s with toks := k }) :
    wpAny (model prog w) A (inplaceOp .Add (.str (tx a) t) (.str (tx b) u)) Q E s := P.iadd_str (concat_post hz h)
theorem tx_mulA (f : Nat) : PySem.Txt.mul (PySem.Str.ofString "A") (f : Int) = tx (List.replicate f 65) := by
  unfold PySem.Txt.mul
  rw [show PySem.Str.ofString "A" = (⟨#[65]⟩ : Str) from by decide]
  match f with
  | 0 => rfl
  | 1 => rfl
  | f + 2 =>
    rw [if_neg (by omega), if_neg (by
      rw [Bool.or_eq_true, not_or]
      exact ⟨by intro e; have := eq_of_beq e; omega, by decide⟩)]
    apply congrArg Str.mk
    have key : ∀ (n : Nat) (acc : Array Nat), (List.replicate n #[65]).foldl (· ++ ·) acc = acc ++ (List.replicate n 65).toArray := by
      intro n
      induction n with
      | zero => intro acc; simp
      | succ n ih =>
        intro acc
        rw [List.replicate_succ, List.foldl_cons, ih, List.replicate_succ]
        apply Array.toList_inj.mp
        simp
    rw [show ((f + 2 : Nat) : Int).toNat = f + 2 from rfl, key]
    simp
end
end Mine
namespace Mine
theorem slice_tx {l : List Nat} {i j : Int} (h0 : 0 ≤ i) (h1 : i ≤ j) (h2 : j ≤ l.length) : PySem.Txt.slice (tx l) (some i) (some j) = tx ((l.drop i.toNat).take (j - i).toNat) :=
  eq_of_beq (PyProof.Rows.slice_closesL (x := tx l) h0 h1 (by rw [tx_len]; exact h2))
theorem item_txE {l : List Nat} {k : Int} {c : Nat} (h0 : 0 ≤ k) (hk : l[k.toNat]? = some c) : PySem.Txt.charAt (tx l) k = some c := by
  have hlt : k.toNat < l.length := (List.getElem?_eq_some_iff.mp hk).1
  unfold PySem.Txt.charAt
  rw [seqIndex_of h0 (by rw [tx_len]; omega)]
  show (tx l).cps[k.toNat]? = some c
  simpa [tx] using hk
section
variable {prog : Program} {w : World} {A : Around} {E : Value → Shared → Prop} {s : Shared} {t u : Tok} {Q : Value → Shared → Prop} {value slice : PySem.Expr}
theorem item_tx {l : List Nat} {k : Int} {c : Nat} (h0 : 0 ≤ k) (hk : l[k.toNat]? = some c) (hz : l.length ≤ 100000)
    (h : ∀ t' kk, Q (.str (tx [c]) t') { s with toks := kk })
    (hs : subscripted slice false (.str (tx l) t) (.int k u) = operate [.str (tx l) t, .int k u] (getItem (.str (tx l) t) (.int k u)) := by with_unfolding_all rfl)
    (ht : ∀ r, letTemporaryGo value (.str (tx l) t) r = pure () := by intro _; with_unfolding_all rfl) :
    wpAny (model prog w) A (subscriptTail value slice (.str (tx l) t) (.int k u)) Q E s := by
  have hlt : k.toNat < l.length := (List.getElem?_eq_some_iff.mp hk).1
  have e : PySem.Txt.item (tx l) k = tx [c] := by unfold PySem.Txt.item; rw [item_txE h0 hk]; rfl
  refine item_str (by simp [fitsSsize]; omega) (by omega) (by rw [tx_len]; omega) (fun _ => ?_) hs ht
  rw [e]
  exact h _ _
end
end Mine
end
section
-- BoundApp
open PySem PySem.W PySem.Calls PySem.Spec PyProof.Rows
set_option Elab.async false
set_option maxRecDepth 100000
set_option maxHeartbeats 4000000
set_option linter.all false
namespace Mine
local macro_rules | `(tactic| wp_step) => `(tactic| first | with_reducible (first | refine wpAny_pure ?_ | refine wpAny_bind ?_ | refine wpAny_holding ?_ | refine wpAny_standAt ?_ | refine wpAny_point ?_ | refine wpAny_rule ?_ | refine wpAny_letGo ?_ | refine wpAny_attempt ?_ | refine wpAny_throw ?_ | refine wpAny_of_eq (by assumption) ?_ | refine wpAny_typeOf (by assumption) ?_ | refine wpAny_specialOf_val (by assumption) (by assumption) ?_ | refine wpAny_specialOf (by assumption) (by assumption) ?_ | refine wpAny_isInstance_val (by assumption) (by assumption) ?_ | refine wpAny_isInstance (by assumption) (by assumption) ?_ | refine wpAny_call ?_ | refine wpAny_runValue ?_ | refine wpAny_run ?_) | wp_delta)
noncomputable def boundApp (l : Addr) : Obj := { cls := .type "builtin_function_or_method", data := .fields #[.builtin "list.append", .ref l] }
theorem slot_md_get : Slot "method_descriptor" "__get__" "method_descriptor.__get__" :=
  .of (owner := "method_descriptor") (n := "__get__") (by rw [typeLookup_type, builtinLookup_eq_fast]; kernel_rfl) (by decide +kernel) (by decide +kernel) (by decide +kernel)
    (by first | exact .inl (by decide +kernel) | exact .inr (by decide +kernel)) (by rw [isSubtype_type]; kernel_rfl)
theorem md_set : typeLookup (.type "method_descriptor") "__set__" = pure none := by rw [typeLookup_type, builtinLookup_eq_fast]; kernel_rfl
theorem md_del : typeLookup (.type "method_descriptor") "__delete__" = pure none := by rw [typeLookup_type, builtinLookup_eq_fast]; kernel_rfl
theorem entry_md_get : entryFor table "method_descriptor.__get__" = some Builtin.«method_descriptor.__get__» := by first | exact entryFor_of_fast (by kernel_rfl) | exact entryFor_of_tree (by kernel_rfl)
theorem args_md_get (a b c : Value) : argsOk "method_descriptor.__get__" ⟨[a, b, c], []⟩ := by unfold argsOk; kernel_rfl
theorem list_append_look : typeLookup (.type "list") "append" = pure (some (.builtin "list.append")) := F.slot_list_append.lookup
theorem sub_list_list : isSubtype (.type "list") (.type "list") = pure true := by rw [isSubtype_type]; kernel_rfl
section
variable {prog : Program} {w : World} {A : Around} {E : Value → Shared → Prop}
theorem bound_get {hp : Heap} {g : Array GenState} {d : Drawn} {tk : Nat} {os : OsState} {l : Addr} {o : Obj} {P : Fin → Shared → Prop} (hx : hp.get? l = some o) (hc : o.cls = .type "list")
    (h : P (.done (.ret (.ref hp.objs.size))) ⟨hp.push (boundApp l), g, d, tk, os⟩) :
    wpAny (model prog w) A (Builtin.«method_descriptor.__get__» ⟨[.builtin "list.append", .ref l, .type "list"], []⟩) P E ⟨hp, g, d, tk, os⟩ := by
  have hT : (⟨hp, g, d, tk, os⟩ : Shared).TypeIs (.ref l) "list" := ⟨_, hx, hc⟩
  have f1 := sub_list_list
  unfold Builtin.«method_descriptor.__get__»
  repeat (any_goals (first | assumption | wp_step))
  rw [show (".".intercalate ("list.append".cutAt '.').dropLast) = "list" from by decide +kernel]
  repeat (any_goals (first | assumption | wp_step))
theorem list_getattr {s : Shared} {l : Addr} {xs : Array Value} {k : Nat} {Q : Value → Shared → Prop}
    (hx : s.heap.get? l = some (listOf xs k)) (h : ∀ tk, Q (.ref s.heap.objs.size) { s with heap := s.heap.push (boundApp l), toks := tk }) :
    wpAny (model prog w) A (getAttr (.ref l) "append" true) Q E s := by
  obtain ⟨hp, g, d, tk, os⟩ := s
  have hT : ∀ tk', (⟨hp, g, d, tk', os⟩ : Shared).TypeIs (.ref l) "list" := fun _ => ⟨_, hx, rfl⟩
  have f3 := F.slot_list_getattribute.lookup
  have f4 := F.slot_list_getattribute.bind (.ref l)
  have f5 := list_append_look
  have f6 := slot_md_get.lookup
  have f7 := md_set
  have f8 := md_del
  have f9 := type_list_append
  unfold getAttr getAttrBy
  repeat (any_goals (first | assumption | exact hT _ | ((with_reducible show wpAny _ _ (call (Value.builtin "list.__getattribute__") _ _) _ _ _); refine wpAny_call_entry F.slot_list_getattribute (hT _) am_entry_list_getattribute ?_ (F.args_list_getattribute_2 _ _); unfold Builtin.«object.__getattribute__») | ((with_reducible show wpAny _ _ (call (Value.builtin "method_descriptor.__get__") _ _) _ _ _); refine wpAny_call_entry slot_md_get f9 entry_md_get (bound_get hx rfl ?_) (args_md_get _ _ _)) | wp_step))
  refine ⟨_, rfl, wpAny_pure ⟨_, rfl, ?_⟩⟩
  show wpAny _ _ (handedOut _) _ _ _
  have hb : (hp.push (boundApp l)).get? hp.objs.size = some (boundApp l) := Heap.get?_push_size _ rfl
  unfold handedOut
  repeat (any_goals (first | assumption | wp_step))
  exact h _
end
end Mine
end
section
-- BA2
open PySem PySem.W PySem.Calls PySem.Spec PyProof.Rows
set_option Elab.async false
set_option maxRecDepth 100000
set_option maxHeartbeats 4000000
set_option linter.all false
namespace Mine
local macro_rules | `(tactic| wp_step) => `(tactic| first | with_reducible (first | refine wpAny_pure ?_ | refine wpAny_bind ?_ | refine wpAny_holding ?_ | refine wpAny_standAt ?_ | refine wpAny_point ?_ | refine wpAny_rule ?_ | refine wpAny_letGo ?_ | refine wpAny_attempt ?_ | refine wpAny_throw ?_ | refine wpAny_of_eq (by assumption) ?_ | refine wpAny_typeOf (by assumption) ?_ | refine wpAny_specialOf_val (by assumption) (by assumption) ?_ | refine wpAny_specialOf (by assumption) (by assumption) ?_ | refine wpAny_isInstance_val (by assumption) (by assumption) ?_ | refine wpAny_isInstance (by assumption) (by assumption) ?_ | refine wpAny_call ?_ | refine wpAny_runValue ?_ | refine wpAny_run ?_) | wp_delta)
section
variable {prog : Program} {w : World} {A : Around} {E : Value → Shared → Prop}
theorem if_so {α : Type} {M : Model} {A : Around} {E : Value → Shared → Prop} {s : Shared} {c : Bool} {a b : Sem α} {Q : α → Shared → Prop} (hc : c = true) (h : wpAny M A a Q E s) : wpAny M A (if c = true then a else b) Q E s := by
  subst hc
  exact h
theorem sub_list_mod : isSubtype (.type "list") (.type "module") = pure false := by rw [isSubtype_type]; kernel_rfl
theorem sub_list_type : isSubtype (.type "list") (.type "type") = pure false := by rw [isSubtype_type]; kernel_rfl
theorem varargs_app : Manifest.varargsMethods.contains "list.append" = false := by decide +kernel
theorem check_app {M : Model} {s : Shared} {l : Addr} {v : Value} {xs : Array Value} {k : Nat} {Q : Unit → Shared → Prop} (hx : s.heap.get? l = some (listOf xs k)) (h : Q () s) : wpAny M A (checkBoundCall "list.append" ⟨[.ref l, v], []⟩) Q E s := by
  obtain ⟨hp, g, d, tk, os⟩ := s
  have hT : (⟨hp, g, d, tk, os⟩ : Shared).TypeIs (.ref l) "list" := ⟨_, hx, rfl⟩
  have f1 := sub_list_mod
  have f2 := sub_list_type
  unfold checkBoundCall
  repeat (any_goals (first | assumption | wp_step))
theorem quiet_app {as : Args} : (Code.builtin "list.append" as).quiet = true := Code.quiet_builtin _ (by decide +kernel)
theorem call_app {s : Shared} {x l : Addr} {v : Value} {xs : Array Value} {k : Nat} {Q : Value → Shared → Prop} (ho : s.heap.get? x = some (boundApp l)) (hx : s.heap.get? l = some (listOf xs k)) (hsz : xs.size ≤ sizeLine)
    (h : ∀ h', Heap.SameBut l s.heap h' → h'.get? l = some (listOf (xs.push v) (k + 1)) → Q .none { s with heap := h' }) : wpAny (model prog w) A (call (.ref x) [v]) Q E s := by
  refine wpAny_call (codeAny_of_tree ?_)
  show wpAny _ A.in1 (callAny (.ref x) ⟨[v], []⟩) _ _ s
  simp only [callAny]
  refine wpAny_bind (wpAny_load ho ?_)
  simp only [boundApp, show (Value.type "builtin_function_or_method" == Value.type "method" || Value.type "builtin_function_or_method" == Value.type "builtin_function_or_method" || Value.type "builtin_function_or_method" == Value.type "method-wrapper") = true by decide, if_true]
  refine if_so (by decide) ?_
  refine wpAny_bind (check_app hx ?_)
  refine wpAny_bind (wpAny_pure (wpAny_pure ?_))
  refine ⟨quiet_app, codeAny_builtin F.entry_list_append ?_⟩
  show wpAny _ _ (updateSeq l (·.push v) >>= fun _ => ret .none) _ _ s
  refine wpAny_bind ?_
  refine wpAny_updateSeq hx rfl (wpAny_pure (h _ (Heap.SameBut.update ..) ?_))
  rw [Heap.get?_update_self _ hx (by unfold W.listOf; rw [mapSeq_push]; rfl)]
  unfold W.listOf
  rw [mapSeq_push]
theorem callWith_app {s : Shared} {pos : Pos} {u l : Addr} {first : List Value} {args : List (Bool × Sem Value)} {Q : Value → Shared → Prop} (hplain : args.any (·.1) = false)
    (h : wpAny (model prog w) A (evalArgs (.ref u) true args []) (fun x s₁ => s₁.heap.get? u = some (boundApp l) ∧ wpAny (model prog w) A (call (.ref u) (first ++ x.pos) x.kw) Q E s₁) E s) : wpAny (model prog w) A (callWith pos (.ref u) first args []) Q E s := by
  unfold callWith
  refine wpAny_bind (wpAny_holding (wpAny_mono h (fun x s₁ h₁ => wpAny_bind (wpAny_standAt ?_)) fun _ _ x => x))
  obtain ⟨ho, hcall⟩ := h₁
  simp only [hplain, List.any_nil, Bool.or_false]
  refine wpAny_bind (m := keeperOf (.ref u)) ?_
  unfold keeperOf
  refine wpAny_bind (wpAny_load ho ?_)
  simp only [boundApp, show (Value.type "builtin_function_or_method" != Value.type "method") = true by decide, show (Value.type "builtin_function_or_method" == Value.type "builtin_function_or_method" || Value.type "builtin_function_or_method" == Value.type "method-wrapper") = true by decide, if_true]
  refine wpAny_pure ?_
  exact wpAny_bind (wpAny_mono hcall (fun r s₂ hr => wpAny_bind (wpAny_holding (wpAny_point (wpAny_pure hr)))) fun _ _ x => x)
theorem callWith_app1 {s : Shared} {pos : Pos} {u l : Addr} {first : List Value} {env : Env} {e : PySem.Expr} {rest : List PySem.Expr} {Q : Value → Shared → Prop}
    (h : wpAny (model prog w) A (spliced (backTo pos (starEach (e :: rest) env))) (fun vs s₁ => s₁.heap.get? u = some (boundApp l) ∧ wpAny (model prog w) A (call (.ref u) (first ++ vs)) Q E s₁) E s)
    (he : starEach (e :: rest) env = (false, eval e env) :: starEach rest env := by rfl) (hplain : (backTo pos (starEach rest env)).any (·.1) = false := by rfl) :
    wpAny (model prog w) A (callWith pos (.ref u) first (backTo pos (starEach (e :: rest) env)) []) Q E s := by
  rw [he] at h ⊢
  refine callWith_app (l := l) (by show (false || (backTo pos (starEach rest env)).any (·.1)) = false; rw [hplain]; rfl) ?_
  exact evalArgs_plain h
variable {s : Shared} {h₀ : Heap} {L l x : Addr} {m : Str → Option Value} {news news' : List (Addr × Obj)} {its xs : Array Value} {n k : Nat} {v : Value}
theorem getattr_app_K {Q : Value → Shared → Prop} (F : Fr h₀ L s.heap m) (N : News h₀ L s.heap news) (hm : (l, W.listOf xs k) ∈ news)
    (h : ∀ x h' tk, Fr h₀ L h' m → News h₀ L h' ((x, boundApp l) :: news) → (∀ p ∈ news, p.1 < x) → Q (.ref x) { s with heap := h', toks := tk }) : wpAny (model prog w) A (getAttr (.ref l) "append" true) Q E s :=
  list_getattr (N _ hm).1 fun tk => h _ _ _ (F.push _) (News.push F N _) fun p hp => Heap.lt_size (N p hp).1
theorem call_app_K {Q : Value → Shared → Prop} (F : Fr h₀ L s.heap m) (N : News h₀ L s.heap news) (hb : (x, boundApp l) ∈ news) (U : Upd l (W.listOf its n) (W.listOf (its.push v) (n + 1)) news news') (hsz : its.size ≤ sizeLine)
    (h : ∀ h', Fr h₀ L h' m → News h₀ L h' news' → Q .none { s with heap := h' }) : wpAny (model prog w) A (call (.ref x) [v]) Q E s := by
  have hb1 := (N _ hb).1
  obtain ⟨pre, post, rfl, rfl, a, b⟩ := U.split
  have z := N (l, W.listOf its n) (List.mem_append.mpr (.inr (.head _)))
  exact call_app hb1 z.1 hsz fun h' hs ho' => h h' (F.change hs z.2.1 z.2.2) (news_set N a b hs ho')
end
end Mine
end
section
-- Counts
open PySem PySem.W PySem.Calls PySem.Spec PyProof.Rows PySem.StrLaws
set_option Elab.async false
set_option maxRecDepth 100000
set_option linter.all false
namespace Mine
noncomputable def subAt' (s sub : Str) (i hi : Nat) : Bool := decide (i + sub.length ≤ hi) && Builtin.Str.subAt s sub i
theorem occ_run (s sub : Str) (hi limit : Nat) : ∀ (l : List Nat) (st : Array Nat × Nat), (∀ i ∈ l, subAt' s sub i hi = false) → (forIn l st (occBody s sub hi limit)).run = st
  | [], st, _ => rfl
  | a :: l, st, h => by
    rw [List.forIn_cons]
    unfold occBody
    have ha := h a (List.mem_cons_self ..)
    rw [if_neg (fun c => by
      unfold subAt' at ha
      rw [decide_eq_true c.1.2, c.2] at ha
      cases ha)]
    exact occ_run s sub hi limit l st fun i hi' => h i (List.mem_cons_of_mem _ hi')
theorem occ_nil {S : List Nat} (h : ∀ c ∈ S, c ≠ 10) (lo hi lim : Nat) (hh : hi ≤ S.length) : Builtin.Str.occurrences (tx S) (PySem.Str.ofString "\n") lo hi lim = [] := by
  rw [occ_eq]
  rw [occ_run]
  intro i hi'
  unfold subAt'
  rw [show PySem.Str.ofString "\n" = (⟨#[10]⟩ : Str) from by decide]
  by_cases q : i + 1 ≤ hi
  · have hlt : i < S.length := by omega
    have e : Builtin.Str.subAt (tx S) ⟨#[10]⟩ i = false := by
      unfold Builtin.Str.subAt
      rw [beq_eq_false_iff_ne]
      intro e
      have e2 : ((tx S).cps.extract i (i + (⟨#[10]⟩ : Str).length))[0]? = some 10 := by rw [e]; rfl
      rw [Array.getElem?_extract] at e2
      simp only [tx, List.getElem?_toArray] at e2
      split at e2
      · rw [Nat.add_zero, List.getElem?_eq_getElem hlt] at e2
        exact h _ (List.getElem_mem hlt) (Option.some.inj e2)
      · cases e2
    rw [e, Bool.and_false]
  · have : decide (i + (⟨#[10]⟩ : Str).length ≤ hi) = false := decide_eq_false q
    rw [this, Bool.false_and]
theorem gives_count4 (x y : Str) (i j : Int) (t u v v2 : Tok) : Gives (Builtin.«str.count» ⟨[.str x t, .str y u, .int i v, .int j v2], []⟩) (.int (Builtin.Str.occurrences x y (fromIndex x.length i) (min (fromIndex x.length j) x.length) (x.length + 1)).length) := by
  show Gives (retInt (Builtin.Str.occurrences x y (fromIndex x.length i) (min (fromIndex x.length j) x.length) (x.length + 1)).length) _
  exact .of_eq rfl
section
variable {prog : Program} {w : World} {A : Around} {E : Value → Shared → Prop} {s : Shared} {t u v v2 : Tok} {Q : Value → Shared → Prop} {S : List Nat} {p : Int}
theorem count_tx (hS : ∀ c ∈ S, c ≠ 10) (h : ∀ t' k, Q (.int 0 t') { s with toks := k }) :
    wpAny (model prog w) A (call (.builtin "str.count") [.str (tx S) t, .str (PySem.Str.ofString "\n") u, .int 0 v, .int p v2]) Q E s := by
  refine call_gives F.slot_str_count (typeIs_str _ _ _) F.entry_str_count (F.args_str_count_4 _ _ _ _) (gives_count4 _ _ _ _ _ _ _ _) ?_
  rw [occ_nil hS _ _ _ (by rw [tx_len]; exact Nat.min_le_right _ _)]
  exact h _ _
theorem len_tx (hz : S.length ≤ 100000) (h : ∀ t' k, Q (.int S.length t') { s with toks := k }) : wpAny (model prog w) A (call (.builtin "len") [.str (tx S) t]) Q E s := by
  refine P.len_str (by rw [tx_len]; omega) ?_
  rw [tx_len]
  exact h _ _
end
end Mine
end
section
-- Raise0
open PySem PySem.W PySem.Calls PySem.Spec PyProof.Rows
set_option Elab.async false
set_option maxRecDepth 100000
set_option linter.all false
namespace Mine
local macro_rules | `(tactic| wp_step) => `(tactic| first | with_reducible (first | refine wpAny_pure ?_ | refine wpAny_bind ?_ | refine wpAny_holding ?_ | refine wpAny_standAt ?_ | refine wpAny_point ?_ | refine wpAny_rule ?_ | refine wpAny_letGo ?_ | refine wpAny_attempt ?_ | refine wpAny_throw ?_ | refine wpAny_of_eq (by assumption) ?_ | refine wpAny_typeOf (by assumption) ?_ | refine wpAny_specialOf_val (by assumption) (by assumption) ?_ | refine wpAny_specialOf (by assumption) (by assumption) ?_ | refine wpAny_isInstance_val (by assumption) (by assumption) ?_ | refine wpAny_isInstance (by assumption) (by assumption) ?_ | refine wpAny_call ?_ | refine wpAny_runValue ?_ | refine wpAny_run ?_) | wp_delta)
/-- an exception object as it is made: args tuple t, no traceback, no context -/
noncomputable abbrev excObj (C : Value) (t : Value) : Obj := { cls := C, data := .fields #[t, .none, .none, .none, .bool false, .none] }
theorem entry_unchain : entryFor table "proto.unchain" = some Builtin.«proto.unchain» := by first | exact entryFor_of_fast (by kernel_rfl) | exact entryFor_of_tree (by kernel_rfl)
section
variable {prog : Program} {w : World} {A : Around} {E : Value → Shared → Prop} {s : Shared} {env : Env}
theorem raiseNew_in {α : Type} {e x : Addr} {oe ox : Obj} {vs ws : Array Value} {Q : α → Shared → Prop} (hh : A.handled = some (.ref x)) (hne : x ≠ e)
    (hx : s.heap.get? x = some ox) (hxd : ox.data = .fields ws) (hx2 : ws[2]? = some .none) (he : s.heap.get? e = some oe) (hd : oe.data = .fields vs) (hsz : 2 < vs.size)
    (h : E (.ref e) { s with heap := s.heap.update e (Obj.mapFields (·.setIfInBounds 2 (.ref x))) }) : wpAny (model prog w) A (raiseNew (.ref e) : Sem α) Q E s := by
  unfold raiseNew
  refine wpAny_bind (wpAny_handled ?_)
  rw [hh]
  have hb : ((Value.ref x != Value.ref e) = true) := by
    rw [bne_iff_ne]
    intro q
    exact hne (Value.ref.inj q)
  dsimp only
  rw [if_pos hb]
  refine wpAny_bind (wpAny_holding (wpAny_runValue (codeAny_builtin entry_unchain ?_)))
  unfold Builtin.«proto.unchain»
  refine wpAny_bind (wpAny_field hx hxd hx2 ?_)
  rw [if_pos (show (Value.none == Value.none) = true from rfl)]
  refine wpAny_bind (wpAny_pure ?_)
  refine wpAny_pure ?_
  refine wpAny_bind ?_
  show wpAny _ _ (setField (.ref e) 2 (.ref x)) _ _ _
  exact wpAny_setField he hd hsz (wpAny_throw h)
end
section
variable {prog : Program} {w : World} {A : Around} {E : Value → Shared → Prop} {s : Shared} {env : Env}
variable {nm q : Str} {C N : Addr} {bs bm : List Value} {hdct : Bool} {sn : List Str} {sub : List Value} {ab : Bool} {col : Option Bool} {dd : Option Addr} {k0 k1 k2 k3 k5 : Option Value} {newId : String}
/-- `raise <made> from None` in a handler -/
theorem raiseStmt_none_in {x : Sem Value} {c : Sem Value} {hx : Addr} {ox : Obj} {ws : Array Value} {Q : Flow → Shared → Prop} (hbase : bm.contains (.type "BaseException") = true) (hh : A.handled = some (.ref hx))
    (h : wpAny (model prog w) A x (fun v s₁ => ∃ e t, v = .ref e ∧ s₁.heap.get? C = some (excClassObj nm q C N bs bm hdct sn sub ab col dd k0 k1 k2 k3 k5 newId) ∧
      s₁.heap.get? e = some (excObj (.ref C) t) ∧ wpAny (model prog w) A c (fun cv s₂ => cv = .none ∧ s₂.heap = s₁.heap ∧ s₁.heap.get? hx = some ox ∧ ox.data = .fields ws ∧ ws[2]? = some .none ∧ hx ≠ e ∧ 
        ∀ h', (∀ b o, b ≠ e → s₁.heap.get? b = some o → h'.get? b = some o) → h'.get? e = some { cls := .ref C, data := .fields #[t, .none, .ref hx, .none, .bool true, .none] } → E (.ref e) { s₂ with heap := h' }) E s₁) E s) :
    wpAny (model prog w) A (raiseStmt env (some x) (some c)) Q E s := by
  have hcB : (Value.ref C :: bm).contains (.type "BaseException") = true := by rw [List.contains_cons, hbase, Bool.or_true]
  unfold raiseStmt
  refine wpAny_bind (wpAny_mono h (fun v s₁ h₁ => ?_) fun _ _ x => x)
  refine Classical.byContradiction fun k9 => ?_
  obtain ⟨e, t, rfl, hC, he, h₁⟩ := h₁
  refine k9 ?_
  refine wpAny_bind (wpAny_holding (wpAny_mono h₁ (fun cv s₂ h₂ => ?_) fun _ _ x => x))
  refine Classical.byContradiction fun k9 => ?_
  obtain ⟨rfl, hs, hxo, hxd, hx2, hne, hE⟩ := h₂
  refine k9 ?_
  refine wpAny_bind (wpAny_pure ?_)
  refine Classical.byContradiction fun k9 => ?_
  obtain ⟨hp, g, d, tk, os⟩ := s₂
  refine k9 ?_
  simp only at hs
  subst hs
  unfold excFromValue
  repeat (first | with_reducible refine wpAny_loadPart_at he ?_ | with_reducible refine wpAny_loadPart_at hC ?_ | (with_reducible refine wpAny_isSubtype_exc hC ?_; rw [hcB]) | wp_step)
  have hCe : C ≠ e := fun q => by
    rw [q, he] at hC
    have := Option.some.inj hC
    cases this
  have hC' : ((s₁.heap.update e (Obj.mapFields fun x => x.setIfInBounds 3 Value.none)).update e (Obj.mapFields fun x => x.setIfInBounds 4 (Value.bool true))).get? C = some (excClassObj nm q C N bs bm hdct sn sub ab col dd k0 k1 k2 k3 k5 newId) := by
    rw [Heap.get?_update_other _ _ (Ne.symm hCe), Heap.get?_update_other _ _ (Ne.symm hCe)]
    exact hC
  have he' : ((s₁.heap.update e (Obj.mapFields fun x => x.setIfInBounds 3 Value.none)).update e (Obj.mapFields fun x => x.setIfInBounds 4 (Value.bool true))).get? e = some { cls := .ref C, data := .fields #[t, .none, .none, .none, .bool true, .none] } :=
    Heap.get?_update_self _ (Heap.get?_update_self _ he rfl) rfl
  have hx' : ((s₁.heap.update e (Obj.mapFields fun x => x.setIfInBounds 3 Value.none)).update e (Obj.mapFields fun x => x.setIfInBounds 4 (Value.bool true))).get? hx = some ox := by
    rw [Heap.get?_update_other _ _ (Ne.symm hne), Heap.get?_update_other _ _ (Ne.symm hne)]
    exact hxo
  refine wpAny_loadPart_at hC' ?_
  refine wpAny_pure ?_
  rw [if_pos (show ((Value.type "type") == Value.type "type") = true from by simp)]
  refine wpAny_pure ?_
  dsimp only
  unfold setFlight
  refine wpAny_bind (wpAny_bind (wpAny_field he' rfl rfl ?_))
  rw [if_neg (by simp)]
  refine wpAny_pure ?_
  refine raiseNew_in hh hne hx' hxd hx2 he' rfl (show 2 < 6 by decide) ?_
  refine hE _ (fun b o hb ho => ?_) (Heap.get?_update_self _ he' rfl)
  rw [Heap.get?_update_other _ _ (Ne.symm hb), Heap.get?_update_other _ _ (Ne.symm hb), Heap.get?_update_other _ _ (Ne.symm hb)]
  exact ho
theorem exec_raise_none {ex : Expr} {p1 pos : Pos} {kk : Nat} {hx : Addr} {ox : Obj} {ws : Array Value} {Q : Flow → Shared → Prop} (hbase : bm.contains (.type "BaseException") = true) (hh : A.handled = some (.ref hx))
    (h : wpAny (model prog w) A (eval ex env) (fun v s₁ => ∃ e t, v = .ref e ∧ s₁.heap.get? C = some (excClassObj nm q C N bs bm hdct sn sub ab col dd k0 k1 k2 k3 k5 newId) ∧
      s₁.heap.get? e = some (excObj (.ref C) t) ∧ s₁.heap.get? hx = some ox ∧ ox.data = .fields ws ∧ ws[2]? = some .none ∧ hx ≠ e ∧ 
        ∀ h' tk, (∀ b o, b ≠ e → s₁.heap.get? b = some o → h'.get? b = some o) → h'.get? e = some { cls := .ref C, data := .fields #[t, .none, .ref hx, .none, .bool true, .none] } → E (.ref e) { s₁ with heap := h', toks := tk }) E s) :
    wpAny (model prog w) A (exec (.Raise (some ex) (some (.Constant .none kk p1)) pos) env) Q E s := by
  rw [arm_exec_Raise]
  refine wpAny_bind (wpAny_standAt ?_)
  simp only [evalOpt, Option.map]
  refine raiseStmt_none_in (C := C) (nm := nm) (q := q) (N := N) (bs := bs) (bm := bm) (hdct := hdct) (sn := sn) (sub := sub) (ab := ab) (col := col) (dd := dd) (k0 := k0) (k1 := k1) (k2 := k2) (k3 := k3) (k5 := k5) (newId := newId) (ox := ox) (ws := ws) hbase hh ?_
  refine wpAny_bind (wpAny_mono h (fun v s₁ h₁ => ?_) fun _ _ x => x)
  refine wpAny_bind (wpAny_standAt (wpAny_pure ?_))
  refine Classical.byContradiction fun k9 => ?_
  obtain ⟨e, t, rfl, hC, he, hxo, hxd, hx2, hne, hE⟩ := h₁
  refine k9 ?_
  refine ⟨e, t, rfl, hC, he, ?_⟩
  refine wpAny_bind ?_
  rw [arm_eval_Constant]
  refine wpAny_pure (wpAny_bind (wpAny_standAt (wpAny_pure ⟨rfl, rfl, hxo, hxd, hx2, hne, fun h' k1 k2 => hE h' _ k1 k2⟩)))
end
end Mine
end
section
-- Catch0
open PySem PySem.W PySem.Calls PySem.Spec PyProof.Rows
set_option Elab.async false
set_option maxRecDepth 100000
set_option linter.all false
namespace Mine
section
variable {prog : Program} {w : World} {A₀ A : Around} {E : Value → Shared → Prop} {s s' : Shared} {base g g' G h : Heap} {outer : List Env} {L a e t C : Addr} {m : Str → Option Value} {name : Str} {scope : Scope} {cd : Value} {cls : Value}
  {news : List (Addr × Obj)} {KF : Frag} {p : Program} {loose : List Str} {mean : ExcName → Option Value} {mg mb : Str → Option Value}

/-- a flight told over a turned ground is a flight over the ground before -/
theorem RaisedSN.unturn {l : List Env} (R : RaisedSN base g' l e cls news h) (T : KtsTurn (l.filterMap (·.frame)) g g') : RaisedSN base g l e cls news h := by
  refine Classical.byContradiction fun k9 => ?_
  obtain ⟨B, a0, hB, hBG, hl, hfl⟩ := R
  refine k9 ?_
  refine ⟨B, a0, hB, fun b o q nm => hBG b o (T.other b o q nm) nm, fun q hq => ⟨(hl q hq).1, ?_, (hl q hq).2.2⟩, hfl⟩
  cases z : g.get? q.1 with
  | none => rfl
  | some o =>
    obtain ⟨sl, hs⟩ := T.up z
    have := (hl q hq).2.1
    rw [hs] at this
    cases this
theorem upTo_unturn {fs : List Addr} (U : g'.UpToSlots h) (T : KtsTurn fs g g') : g.UpToSlots h := fun b o e hn => by
  obtain ⟨sl, hs⟩ := T.up e
  obtain ⟨sl2, hs2⟩ := U b _ hs hn
  exact ⟨sl2, hs2⟩

/-- an exception object of the ledger leaves its frame -/
theorem leave_led {fs : Array Value} {t0 : Value} {oe : Obj} {Q : Unit → Shared → Prop} {M : Model} (K : Below A base outer g) (F : Fr g L s'.heap m) (N : News g L s'.heap ((e, oe) :: news)) (hc : oe.cls = cls) (hd : oe.data = .fields fs) (h0 : fs[0]? = some t0) (h1 : fs[1]? = some .none)
    (hne : ∀ q ∈ news, q.1 ≠ e)
    (hQ : ∀ h', RaisedSN base g outer e cls news h' → g.UpToSlots h' → Q () { s' with heap := h' }) (hk : scope.kind = .function := by rfl) :
    wpAny M (A.deeper (envOf name scope L a cd)) (leaving (envOf name scope L a cd) (.ref e)) Q E s' := by
  have K' := K.push (name := name) (a := a) (cd := cd) F hk
  refine Classical.byContradiction fun k9 => ?_
  obtain ⟨he, heL, heg⟩ := N _ (.head _)
  refine k9 ?_
  have ne : ∀ b o, g.get? b = some o → b ≠ e := fun b o q z => by rw [z, heg] at q; cases q
  have hin : ∀ env ∈ (envOf name scope L a cd :: outer), ∀ b, env.frame = some b → b ∈ e :: (envOf name scope L a cd :: outer).filterMap (·.frame) := fun env he b hb => .tail _ (List.mem_filterMap.mpr ⟨env, he, hb⟩)
  have st : base.StaysIn (hideAll s'.heap (e :: (envOf name scope L a cd :: outer).filterMap (·.frame))) := fun b o q => hideAll_get _ (K'.stays b o q) fun hm => by
    rcases List.mem_cons.mp hm with z | hm
    · exact ne b o (K.stays b o q) z
    · rw [(K'.frames.mem hm).1] at q; cases q
  have sg : ∀ b o, g.get? b = some o → b ∉ outer.filterMap (·.frame) → (hideAll s'.heap (e :: (envOf name scope L a cd :: outer).filterMap (·.frame))).get? b = some o := fun b o q nm => hideAll_get _ (F.keep b o q) fun hm => by
    rcases List.mem_cons.mp hm with z | hm
    · exact ne b o q z
    · rcases kts_mem hm with z | z
      · rw [z, kts_self F] at q
        cases q
      · exact nm z
  have hl : ∀ q ∈ news, (hideAll s'.heap (e :: (envOf name scope L a cd :: outer).filterMap (·.frame))).get? q.1 = some q.2 ∧ g.get? q.1 = none ∧ base.get? q.1 = none := fun q hq => by
    have nq := N q (.tail _ hq)
    refine ⟨hideAll_get _ nq.1 fun hm => ?_, nq.2.2, fresh_of_stays K.stays nq.2.2⟩
    rcases List.mem_cons.mp hm with z | hm
    · exact hne q hq z
    refine Classical.byContradiction fun k9 => ?_
    obtain ⟨env, he, hf⟩ := List.mem_filterMap.mp hm
    refine k9 ?_
    rcases List.mem_cons.mp he with rfl | he
    · exact nq.2.1 (Option.some.inj hf).symm
    · refine Classical.byContradiction fun k9 => ?_
      obtain ⟨o, ho, _⟩ := (K.frames.mem (List.mem_filterMap.mpr ⟨env, he, hf⟩)).2
      refine k9 ?_
      rw [nq.2.2] at ho; cases ho
  have hen : (hideAll s'.heap (e :: (envOf name scope L a cd :: outer).filterMap (·.frame))).get? e = none := hideAll_none _ (.head _)
  refine wpAny_leaving_firstW (a0 := t0) K'.stack (funFrames_hide K'.frames hin) rfl he (fun b o hb => of_hideAll _ hb) hen hd h1 h0 fun h' hL => ?_
  refine Classical.byContradiction fun k9 => ?_
  obtain ⟨k1, ⟨_, _, k2⟩, k3, k4⟩ := hL
  refine k9 ?_
  rw [hc] at k3
  exact hQ h' ⟨_, t0, st, sg, hl, k1, hen, k2, k3⟩ ((Heap.UpToSlots.of_keeps F.keep).trans k4)

theorem noteFrame_first {env : Env} {oe : Obj} {vs : Array Value} {Q : Unit → Shared → Prop} {M : Model}
    (hfr : A.frames = some (env :: outer)) (hl : s.heap.FunFrames base (env :: outer)) (hf : env.frame = some L)
    (he : s.heap.get? e = some oe) (hd : oe.data = .fields vs) (h1 : vs[1]? = some .none)
    (hQ : ∀ h' tb otb ts, (∀ b o, b ≠ e → s.heap.get? b = some o → b ∉ (env :: outer).filterMap (·.frame) → h'.get? b = some o) →
      (∀ b o, b ≠ e → s.heap.get? b = some o → ∃ sl, h'.get? b = some { o with slots := sl }) → s.heap.get? tb = none → tb ≠ e →
      h'.get? e = some (oe.mapFields (·.setIfInBounds 1 (.ref tb))) → h'.get? tb = some otb → otb.data = .fields ts → 3 < ts.size → Q () { s with heap := h' }) :
    wpAny M A (noteFrame (.ref e) env) Q E s := by
  have hsz : 1 < vs.size := (Array.getElem?_eq_some_iff.mp h1).1
  have hene : e ∉ (env :: outer).filterMap (·.frame) := fun hm => by
    refine Classical.byContradiction fun k9 => ?_
    obtain ⟨_, o, ho, hnf⟩ := hl.mem hm
    refine k9 ?_
    rw [he] at ho; cases ho
    exact hnf vs hd
  unfold noteFrame
  simp only [hf]
  refine wpAny_bind (wpAny_field he hd h1 ?_)
  rw [if_neg (by decide)]
  refine wpAny_bind (wpAny_frameOf_fun hfr hl hf fun h₁ hs₁ => ?_)
  refine wpAny_bind (wpAny_entryPlaceOf fun pl hpl => ?_)
  unfold EntryCells.newEntry newFields
  refine wpAny_bind (wpAny_newObj_type ?_ (hpl.sizeOk5 _ _ _ _ _))
  have he₁ : h₁.get? e = some oe := (hs₁.2.1 e hene).trans he
  have hTe : h₁.objs.size ≠ e := Nat.ne_of_gt (Heap.lt_size he₁)
  refine wpAny_setField (Heap.get?_push_of_some _ he₁) hd hsz ?_
  refine hQ _ h₁.objs.size _ _ (fun b o hb ho hm => ?_) (fun b o hb ho => ?_) ?_ hTe (Heap.get?_update_self _ (Heap.get?_push_of_some _ he₁) (Obj.isFreed_of_fields (Obj.data_mapFields hd _)))
    ((Heap.get?_update_other _ _ (Ne.symm hTe)).trans (Heap.get?_push_size h₁ rfl)) rfl (by simp only [List.size_toArray, List.length_append, List.length_cons, List.length_nil] <;> omega)
  · rw [Heap.get?_update_other _ _ (Ne.symm hb)]
    exact Heap.get?_push_of_some _ ((hs₁.2.1 b hm).trans ho)
  · obtain ⟨sl, hs⟩ := hs₁.2.2 b o ho
    refine ⟨sl, ?_⟩
    rw [Heap.get?_update_other _ _ (Ne.symm hb)]
    exact Heap.get?_push_of_some _ hs
  · exact Heap.get?_none_of_le (by rw [hs₁.1]; exact Nat.le_refl _)

theorem ground_of {h' : Heap} (K : Below A₀ base outer g) (F : Fr g L h m) (N : News g L h news)
    (h1 : ∀ b o, h.get? b = some o → b ∉ (envOf name scope L a cd :: outer).filterMap (·.frame) → h'.get? b = some o) (h2 : ∀ b o, h.get? b = some o → ∃ sl, h'.get? b = some { o with slots := sl }) :
    ∃ g', KtsTurn (outer.filterMap (·.frame)) g g' ∧ Fr g' L h' m ∧ News g' L h' news ∧ Below A₀ base outer g' := by
  obtain ⟨T, S⟩ := kts_turn_at (h := h') (fs := outer.filterMap (·.frame)) (g := g)
    (fun b hb => by
      refine Classical.byContradiction fun k9 => ?_
      obtain ⟨_, o, ho, _⟩ := K.frames.mem hb
      refine k9 ?_
      exact ⟨o, ho⟩)
    (fun b o e nm => h1 b o (F.keep b o e) (fun hm => by
      rcases kts_mem hm with z | z
      · rw [z, kts_self F] at e
        cases e
      · exact nm z))
    (fun b o e hm => h2 b o (F.keep b o e))
  refine ⟨_, T, ⟨Heap.UpToSlots.ns (fun b o e _ => h2 b o e) F.ns, S, by rw [T.size]; exact F.above⟩, fun q hq => ⟨h1 _ _ (N q hq).1 (fun hm => ?_), (N q hq).2.1, T.none_ _ (N q hq).2.2⟩, ⟨K.stack, fun b o e => T.other b o (K.stays b o e) (fun hm => by
    rw [(K.frames.mem hm).1] at e
    cases e), K.frames.of_keeps fun b o e _ => ?_⟩⟩
  · rcases kts_mem hm with z | z
    · exact (N q hq).2.1 z
    · refine Classical.byContradiction fun k9 => ?_
      obtain ⟨_, o, ho, _⟩ := K.frames.mem z
      refine k9 ?_
      rw [(N q hq).2.2] at ho
      cases ho
  · obtain ⟨sl, hs⟩ := T.up e
    exact ⟨_, hs, rfl⟩

theorem caught_own {X T' : String} {x : Str} {np pos : Pos} {b₀ : Stmt} {suite : List Stmt} {rest : List ExceptHandler} {Q : Flow → Shared → Prop}
    (K : Below A₀ base outer g) (hx : Heap.NewExc h s'.heap e X) (F : Fr g L h m) (N : News g L h news) (XB : KF.In base) (TB : Top p loose mean mg mb base)
    (ex : nsIn KF mainGlobals x = some none) (hv : bootBuiltins x = some (.type T')) (hn' : x ≠ "__name__")
    (hexc : isSubtype (.type T') (.type "BaseException") = pure true) (hnt : isSubtype (.type ((Manifest.find? T').elim "type" fun y => y.metatype)) (.type "tuple") = pure false) (hsub : isSubtype (.type X) (.type T') = pure true)
    (k : ∀ h' g' oe' vs', KtsTurn (outer.filterMap (·.frame)) g g' → Fr g' L h' m → News g' L h' ((e, oe') :: news) → (∀ q ∈ news, q.1 ≠ e) → oe'.data = .fields vs' → vs'[2]? = some .none → Below A₀ base outer g' → KF.In g' → Top p loose mean mg mb g' →
      wpAny (model prog w) ((A₀.deeper (envOf name scope L a cd)).mark (some (.ref e))) (execs (b₀ :: suite) (envOf name scope L a cd)) Q E { s' with heap := h' })
    (hk : scope.kind = .function := by rfl) (hkx : (envOf name scope L a cd).kindOf x = some .globalImplicit := by rfl) (hd : (x == ("__debug__" : Str)) = false := by decide)
    (hE : PassesOwnAt (model prog w) ((A₀.deeper (envOf name scope L a cd)).mark (some (.ref e))) (A₀.deeper (envOf name scope L a cd)) (envOf name scope L a cd) E := by passes_own) :
    wpAny (model prog w) (A₀.deeper (envOf name scope L a cd)) (noteFrame (.ref e) (envOf name scope L a cd))
      (fun _ s₂ => wpAny (model prog w) (A₀.deeper (envOf name scope L a cd)) (setFlight (.ref e) none) (fun _ s₃ =>
        wpAny (model prog w) (A₀.deeper (envOf name scope L a cd)) (handleBy (.ref e) (envOf name scope L a cd) (.ExceptHandler (some (.Name x np)) none (b₀ :: suite) pos :: rest)) Q E s₃) E s₂) E s' := by
  have K' := K.push (name := name) (a := a) (cd := cd) F hk
  refine Classical.byContradiction fun k9 => ?_
  obtain ⟨ob, t, he, hcls, hde⟩ := hx.there
  refine k9 ?_
  have hlt : ∀ b o, h.get? b = some o → b ≠ e := fun b o q z => by rw [z, hx.new] at q; cases q
  refine noteFrame_first K'.stack (K'.frames.of_keeps fun b o hb _ => ⟨o, hx.keeps b o hb, rfl⟩) rfl he hde rfl fun h₁ tb otb ts p1 p2 htn htbe he₁ htb₁ hdt hts => ?_
  have hltb : ∀ b o, h.get? b = some o → b ≠ tb := fun b o q z => by
    have := hx.keeps b o q
    rw [z, htn] at this
    cases this
  have hd₁ : (ob.mapFields (·.setIfInBounds 1 (.ref tb))).data = .fields #[t, .ref tb, .none, .none, .bool false, .none] := by rw [Obj.data_mapFields hde]; rfl
  have hc₁ : (ob.mapFields (·.setIfInBounds 1 (.ref tb))).cls = .type X := (Obj.cls_mapFields _ _).trans hcls
  refine wpAny_setFlight_none (tb := tb) he₁ hd₁ rfl htb₁ hdt hts ?_
  have he₂ := (Heap.get?_update_other h₁ (Obj.mapFields (·.setIfInBounds 3 Value.none)) htbe).trans he₁
  have htb₂ := Heap.get?_update_self (Obj.mapFields (·.setIfInBounds 3 Value.none)) htb₁ (Obj.isFreed_of_fields (Obj.data_mapFields hdt _))
  obtain ⟨g₂, T₂, F₂, N₂, K₂⟩ := ground_of (name := name) (scope := scope) (a := a) (cd := cd) (h' := h₁.update tb (Obj.mapFields (·.setIfInBounds 3 Value.none))) K F N
    (fun b o q nm => (Heap.get?_update_other _ _ (Ne.symm (hltb b o q))).trans (p1 b o (hlt b o q) (hx.keeps b o q) nm))
    (fun b o q => by
      obtain ⟨sl, hs⟩ := p2 b o (hlt b o q) (hx.keeps b o q)
      exact ⟨sl, (Heap.get?_update_other _ _ (Ne.symm (hltb b o q))).trans hs⟩)
  have X₂ : KF.In g₂ := XB.keeps K₂.stays
  have P₂ : Top p loose mean mg mb g₂ := TB.keeps K₂.stays
  refine wpAny_handleBy_builtin (X := X) (T := T') (b := true) hexc hnt hsub (name_B F₂ X₂ (topRead_of P₂) ex hv hn' ⟨rfl, ⟨_, he₂, hc₁⟩, ?_⟩ hk hkx hd)
  rw [if_pos rfl]
  refine wpAny_setFlight_none (tb := tb) he₂ hd₁ rfl htb₂ (Obj.data_mapFields hdt _) (by rw [Array.size_setIfInBounds]; exact hts) ?_
  have he₃ := (Heap.get?_update_other (h₁.update tb (Obj.mapFields (·.setIfInBounds 3 Value.none))) (Obj.mapFields (·.setIfInBounds 3 Value.none)) htbe).trans he₂
  obtain ⟨g₃, T₃, F₃, N₃, K₃⟩ := ground_of (name := name) (scope := scope) (a := a) (cd := cd) (h' := (h₁.update tb (Obj.mapFields (·.setIfInBounds 3 Value.none))).update tb (Obj.mapFields (·.setIfInBounds 3 Value.none))) K F N
    (fun b o q nm => (Heap.get?_update_other _ _ (Ne.symm (hltb b o q))).trans ((Heap.get?_update_other _ _ (Ne.symm (hltb b o q))).trans (p1 b o (hlt b o q) (hx.keeps b o q) nm)))
    (fun b o q => by
      obtain ⟨sl, hs⟩ := p2 b o (hlt b o q) (hx.keeps b o q)
      exact ⟨sl, (Heap.get?_update_other _ _ (Ne.symm (hltb b o q))).trans ((Heap.get?_update_other _ _ (Ne.symm (hltb b o q))).trans hs)⟩)
  have hgn : g₃.get? e = none := T₃.none_ _ (kts_none F.keep hx.new)
  have hLe : e ≠ L := fun z => by
    refine Classical.byContradiction fun k9 => ?_
    obtain ⟨o, es, ep, hL, _⟩ := F.ns
    refine k9 ?_
    exact hlt L o hL z.symm
  refine wpAny_passesOwnAt hE (k _ g₃ _ _ T₃ F₃ (fun q hq => ?_) (fun q hq => hlt _ _ (N q hq).1) hd₁ rfl K₃ (XB.keeps K₃.stays) (TB.keeps K₃.stays))
  rcases List.mem_cons.mp hq with rfl | hq
  · exact ⟨he₃, hLe, hgn⟩
  · exact N₃ q hq

theorem call_exc {x : Str} {bm : List Value} {B newId initId : String} {vs : List Value} {Q : Value → Shared → Prop} {h₀ : Heap} (O : OwnCls x C bm newId mg h₀) (FB : ExcBaseFacts B newId initId bm) (F : Fr h₀ L s.heap m) (N : News h₀ L s.heap news) (hz : vs.length ≤ sizeLine)
    (hQ : ∀ h' e t, Fr h₀ L h' m → News h₀ L h' ((e, excObj (.ref C) (.ref t)) :: news) → (∀ q ∈ news, q.1 ≠ e) → Q (.ref e) { s with heap := h' }) :
    wpAny (model prog w) A (call (.ref C) vs) Q E s := by
  refine Classical.byContradiction fun k9 => ?_
  obtain ⟨tl, N', nm, q, bs, hdct, sn, sub, ab, col, dd, k0, k1, k2, k3, k5, mN, hC, hN, hni, T⟩ := (O.keeps F.keep).obj
  obtain ⟨hp, gg, d, tk, os⟩ := s
  refine k9 ?_
  refine wpAny_call_exc_subT FB T hC hN hni (fun h' e hm => ?_) hz
  refine Classical.byContradiction fun k9 => ?_
  obtain ⟨t, he, htn, ht⟩ := hm.there
  refine k9 ?_
  have hlt : ∀ b o, hp.get? b = some o → b ≠ e := fun b o q z => by rw [z, hm.new] at q; cases q
  refine hQ h' e t ⟨?_, fun b o q => hm.keeps _ _ (F.keep b o q), F.above⟩ (fun q hq => ?_) (fun q hq => hlt _ _ (N q hq).1)
  · refine Classical.byContradiction fun k9 => ?_
    obtain ⟨o, es, ep, hL, r⟩ := F.ns
    refine k9 ?_
    exact ⟨o, es, ep, hm.keeps _ _ hL, r⟩
  · rcases List.mem_cons.mp hq with rfl | hq
    · refine ⟨he, fun z => ?_, kts_none F.keep hm.new⟩
      refine Classical.byContradiction fun k9 => ?_
      obtain ⟨o, es, ep, hL, r⟩ := F.ns
      refine k9 ?_
      exact hlt L o hL z.symm
    · exact ⟨hm.keeps _ _ (N q hq).1, (N q hq).2⟩
theorem raise_none_K {ex : Expr} {p1 pos : Pos} {kk : Nat} {hx : Addr} {ox : Obj} {ws : Array Value} {env : Env} {Q : Flow → Shared → Prop} (X : KF.In g) (hq : ktsIn KF C "BaseException" = true) (hh : A.handled = some (.ref hx)) (hd : ox.data = .fields ws) (h2 : ws[2]? = some .none)
    (h : wpAny (model prog w) A (eval ex env) (fun v s₁ => ∃ e t m₁ rest, v = .ref e ∧ Fr g L s₁.heap m₁ ∧ News g L s₁.heap ((e, excObj (.ref C) t) :: rest) ∧ (hx, ox) ∈ rest ∧ (∀ q ∈ rest, q.1 ≠ e) ∧
        ∀ h' tk, Fr g L h' m₁ → News g L h' ((e, { cls := .ref C, data := .fields #[t, .none, .ref hx, .none, .bool true, .none] }) :: rest) → E (.ref e) { s₁ with heap := h', toks := tk }) E s) :
    wpAny (model prog w) A (exec (.Raise (some ex) (some (.Constant .none kk p1)) pos) env) Q E s := by
  refine Classical.byContradiction fun k9 => ?_
  obtain ⟨nm, qn, NN, bs, bm, hdct, sn, sub, ab, col, dd, k0, k1, k2, k3, k5, newId, hC, hb, _⟩ := kts_cls (C := C) X hq
  refine k9 ?_
  refine exec_raise_none (C := C) (nm := nm) (q := qn) (N := NN) (bs := bs) (bm := bm) (hdct := hdct) (sn := sn) (sub := sub) (ab := ab) (col := col) (dd := dd) (k0 := k0) (k1 := k1) (k2 := k2) (k3 := k3) (k5 := k5) (newId := newId) (ox := ox) (ws := ws) hb hh ?_
  refine wpAny_mono h (fun v s₁ h₁ => ?_) fun _ _ x => x
  refine Classical.byContradiction fun k9 => ?_
  obtain ⟨e, t, m₁, rest, rfl, F, N, hm, hne, hE⟩ := h₁
  refine k9 ?_
  have Ne := N _ (.head _)
  refine ⟨e, t, rfl, F.keep _ _ hC, Ne.1, (N _ (.tail _ hm)).1, hd, h2, hne _ hm, fun h' tk y1 y2 => hE h' tk ⟨?_, fun b o q => y1 b o (fun z => by rw [z, Ne.2.2] at q; cases q) (F.keep b o q), F.above⟩ fun q hq => ?_⟩
  · refine Classical.byContradiction fun k9 => ?_
    obtain ⟨o, es, ep, hL, r⟩ := F.ns
    refine k9 ?_
    exact ⟨o, es, ep, y1 _ _ (Ne.2.1).symm hL, r⟩
  · rcases List.mem_cons.mp hq with rfl | hq
    · exact ⟨y2, Ne.2⟩
    · exact ⟨y1 _ _ (hne q hq) (N q (.tail _ hq)).1, (N q (.tail _ hq)).2⟩
end
/-- the table of the codes that suffixed_err has made: empty, or the one code of coord_repr -/
noncomputable def qnc : Str := Str.ofString "suffixed_err.<locals>.coord_repr"
noncomputable def TabOk (tabs : List (Addr × Obj)) : Prop := tabs = [(168, tabObj #[])] ∨ ∃ c oc vs t, tabs = [(c, oc), (168, tabObj #[rawInt 102, rawInt 4, .ref c])] ∧ c ≠ 168 ∧ oc.data = .fields vs ∧ vs[1]? = some (.str qnc t)
end Mine
end
section
-- Unesc
open PySem PySem.W PySem.Calls PySem.Spec PyProof.Rows
set_option Elab.async false
set_option linter.all false
namespace Mine
local macro_rules | `(tactic| omega) => `(tactic| lia)
/-- what parse_basic_str makes of the signs up to the quote (backslash pairs only; none = refused) -/
noncomputable def unesc : List Nat → Option (List Nat)
  | [] => some []
  | 92 :: 92 :: r => (unesc r).map (92 :: ·)
  | 92 :: _ => none
  | x :: r => (unesc r).map (x :: ·)
theorem unesc_nil : unesc [] = some [] := by unfold unesc; rfl
theorem un_pair (r : List Nat) : unesc (92 :: 92 :: r) = (unesc r).map (92 :: ·) := by rw [unesc]
theorem un_bad {y : Nat} (r : List Nat) (h : y ≠ 92) : unesc (92 :: y :: r) = none := by
  rw [unesc]
  intro r2 e
  exact h (List.cons.inj e).1
theorem un_c {x : Nat} (r : List Nat) (h : x ≠ 92) : unesc (x :: r) = (unesc r).map (x :: ·) := by
  rw [unesc]
  · intro r2 e; exact absurd e h
  · intro e; exact absurd e h
structure PS where
  R : List Nat
  res : List Nat
  st : Int
  p : Int
  t1 : Tok
  t2 : Tok
  t3 : Tok
noncomputable def cur (S : List Nat) (c : PS) : List Nat := c.res ++ (S.drop c.st.toNat).take (c.p - c.st).toNat
structure PSok (S B post : List Nat) (p0 : Int) (bad : Nat → Prop) (c : PS) : Prop where
  st0 : 0 ≤ c.st
  stp : c.st ≤ c.p
  at_ : S.drop c.p.toNat = c.R ++ 34 :: post
  pos : c.p + c.R.length = p0 + B.length
  out : unesc B = (unesc c.R).map (cur S c ++ ·)
  sig : ∀ x ∈ c.R, x = 92 ∨ bad x
  last : c.R.getLast? ≠ some 92
  len : c.res.length ≤ c.st.toNat
section
variable {S B post : List Nat} {p0 : Int} {bad : Nat → Prop} {c : PS}
theorem tn2 {a b : Int} (h0 : 0 ≤ a) (h1 : a ≤ b) : a.toNat + (b - a).toNat = b.toNat :=
  (Int.toNat_add h0 (Int.sub_nonneg_of_le h1)).symm.trans (congrArg Int.toNat (by rw [Int.add_comm, Int.sub_add_cancel]))
theorem tn1 {a : Int} (h0 : 0 ≤ a) (n : Nat) : (a + n).toNat = a.toNat + n := Int.toNat_add h0 (Int.natCast_nonneg n)
theorem PSok.pn (h : PSok S B post p0 bad c) : 0 ≤ c.p := Int.le_trans h.st0 h.stp
theorem PSok.cutE (h : PSok S B post p0 bad c) : S.length - c.p.toNat = c.R.length + (post.length + 1) := by
  have e := congrArg List.length h.at_
  rw [List.length_drop, List.length_append, List.length_cons] at e
  exact e
theorem PSok.lt (h : PSok S B post p0 bad c) : c.p.toNat < S.length := Nat.lt_of_sub_pos (h.cutE ▸ Nat.succ_pos _)
theorem PSok.cut (h : PSok S B post p0 bad c) : c.p.toNat + c.R.length + 1 + post.length = S.length := by
  rw [← Nat.add_sub_of_le (Nat.le_of_lt h.lt), h.cutE, Nat.add_assoc, Nat.add_assoc, Nat.add_comm 1]
theorem PSok.curlen (h : PSok S B post p0 bad c) : (cur S c).length ≤ c.p.toNat := by
  unfold cur
  rw [List.length_append, List.length_take, ← tn2 h.st0 h.stp]
  exact Nat.add_le_add h.len (Nat.min_le_left _ _)
theorem PSok.get (h : PSok S B post p0 bad c) (i : Nat) : S[c.p.toNat + i]? = (c.R ++ 34 :: post)[i]? := by
  rw [← h.at_, List.getElem?_drop]
theorem take_more {l : List Nat} {n : Nat} {x : Nat} (h : l[n]? = some x) : l.take (n + 1) = l.take n ++ [x] := by
  rw [List.take_succ, h]; rfl
theorem PSok.step {x : Nat} {r : List Nat} {t : Tok} (h : PSok S B post p0 bad c) (hR : c.R = x :: r) (hx : x ≠ 92) : PSok S B post p0 bad { c with R := r, p := c.p + 1, t2 := t } where
  st0 := h.st0
  stp := by have := h.stp; show c.st ≤ c.p + 1; omega
  at_ := by
    show S.drop (c.p + (1 : Nat)).toNat = r ++ 34 :: post
    rw [tn1 h.pn, ← List.drop_drop, h.at_, hR]
    rfl
  pos := by have := h.pos; rw [hR, List.length_cons] at this; show c.p + 1 + r.length = _; omega
  out := by
    rw [h.out, hR, un_c r hx, Option.map_map]
    apply congrArg (fun f => Option.map f (unesc r))
    funext o
    show cur S c ++ (x :: o) = cur S { c with R := r, p := c.p + 1, t2 := t } ++ o
    unfold cur
    show c.res ++ (S.drop c.st.toNat).take (c.p - c.st).toNat ++ (x :: o) = c.res ++ (S.drop c.st.toNat).take (c.p + 1 - c.st).toNat ++ o
    rw [show c.p + 1 - c.st = (c.p - c.st) + (1 : Nat) from (by rw [Int.sub_eq_add_neg, Int.sub_eq_add_neg, Int.add_right_comm]; rfl), tn1 (Int.sub_nonneg_of_le h.stp), take_more (x := x) (by
      rw [List.getElem?_drop, tn2 h.st0 h.stp, ← Nat.add_zero c.p.toNat, h.get 0, hR]; rfl)]
    simp
  sig := fun y hy => h.sig y (by rw [hR]; exact .tail _ hy)
  last := by
    have e := h.last
    rw [hR] at e
    show r.getLast? ≠ some 92
    cases r with
    | nil => intro z; cases z
    | cons y r2 => rw [List.getLast?_cons_cons] at e; exact e
  len := h.len
theorem PSok.pair {r : List Nat} {t t' t'' : Tok} (h : PSok S B post p0 bad c) (hR : c.R = 92 :: 92 :: r) : PSok S B post p0 bad { R := r, res := cur S c ++ [92], st := c.p + 2, p := c.p + 2, t1 := t, t2 := t', t3 := t'' } where
  st0 := by have := h.st0; have := h.stp; show 0 ≤ c.p + 2; omega
  stp := Int.le_refl _
  at_ := by
    show S.drop (c.p + (2 : Nat)).toNat = r ++ 34 :: post
    rw [tn1 h.pn, ← List.drop_drop, h.at_, hR]
    rfl
  pos := by have := h.pos; rw [hR, List.length_cons, List.length_cons] at this; show c.p + 2 + r.length = _; omega
  out := by
    rw [h.out, hR, un_pair, Option.map_map]
    apply congrArg (fun f => Option.map f (unesc r))
    funext o
    show cur S c ++ (92 :: o) = cur S c ++ [92] ++ (S.drop (c.p + 2).toNat).take (c.p + 2 - (c.p + 2)).toNat ++ o
    rw [Int.sub_self, Int.toNat_zero]
    simp
  sig := fun y hy => h.sig y (by rw [hR]; exact .tail _ (.tail _ hy))
  last := by
    have e := h.last
    rw [hR] at e
    show r.getLast? ≠ some 92
    cases r with
    | nil => intro z; cases z
    | cons y r2 => rw [List.getLast?_cons_cons, List.getLast?_cons_cons] at e; exact e
  len := by
    show (cur S c ++ [92]).length ≤ (c.p + (2 : Nat)).toNat
    rw [List.length_append, List.length_singleton, tn1 h.pn]
    exact Nat.add_le_add h.curlen (by decide)
end
end Mine
end
section
-- Plain4
open PySem PySem.W
set_option Elab.async false
set_option linter.all false
namespace Mine
local macro_rules | `(tactic| omega) => `(tactic| lia)
theorem un_rep {c : Nat} (hc : c ≠ 92) (r : List Nat) : ∀ n : Nat, unesc (List.replicate n c ++ r) = (unesc r).map (List.replicate n c ++ ·)
  | 0 => by simp
  | n + 1 => by
    rw [List.replicate_succ, List.cons_append, un_c _ hc, un_rep hc r n, Option.map_map]
    rfl
theorem un_even (r : List Nat) : ∀ k : Nat, unesc (List.replicate (2 * k) 92 ++ r) = (unesc r).map (List.replicate k 92 ++ ·)
  | 0 => by simp
  | k + 1 => by
    rw [show 2 * (k + 1) = 2 * k + 1 + 1 from by omega, List.replicate_succ, List.replicate_succ, List.cons_append, List.cons_append, un_pair, un_even r k, Option.map_map, List.replicate_succ]
    rfl
theorem un_odd {y : Nat} (hy : y ≠ 92) (r : List Nat) : ∀ k : Nat, unesc (List.replicate (2 * k + 1) 92 ++ y :: r) = none
  | 0 => by
    show unesc (92 :: y :: r) = none
    exact un_bad r hy
  | k + 1 => by
    rw [show 2 * (k + 1) + 1 = 2 * k + 1 + 1 + 1 from by omega, List.replicate_succ, List.replicate_succ, List.cons_append, List.cons_append, un_pair, un_odd hy r k]
    rfl
noncomputable def seg (p : Nat × Nat) : List Nat := List.replicate p.2 p.1
noncomputable def halfS (p : Nat × Nat) : List Nat := List.replicate (if p.1 = 92 then p.2 / 2 else p.2) p.1
noncomputable def goodS : List (Nat × Nat) → Bool
  | [] => true
  | p :: r => (p.1 != 92 || p.2 % 2 == 0) && goodS r
theorem goodS_cons (p : Nat × Nat) (r : List (Nat × Nat)) : goodS (p :: r) = ((p.1 != 92 || p.2 % 2 == 0) && goodS r) := rfl
noncomputable def adjS : List (Nat × Nat) → Prop
  | p :: q :: r => (p.1 ≠ q.1 ∧ adjS (q :: r))
  | [p] => p.1 ≠ 92
  | [] => True
theorem un_tail : ∀ {t : List Nat}, (∀ x ∈ t, x ≠ 92) → unesc t = some t
  | [], _ => unesc_nil
  | x :: t, h => by rw [un_c t (h x (.head _)), un_tail fun y hy => h y (.tail _ hy)]; rfl
theorem un_segs {tail : List Nat} (ht : ∀ x ∈ tail, x ≠ 92) : ∀ segs : List (Nat × Nat), (∀ p ∈ segs, 1 ≤ p.2) → adjS segs →
    unesc (segs.flatMap seg ++ tail) = if goodS segs = true then some (segs.flatMap halfS ++ tail) else none
  | [], _, _ => by
    rw [show goodS [] = true from rfl, if_pos rfl]
    exact un_tail ht
  | (c, n) :: r, hn, ha => by
    have har : adjS r := by
      cases r with
      | nil => trivial
      | cons q r => exact ha.2
    have ih := un_segs ht r (fun p hp => hn p (.tail _ hp)) har
    rw [List.flatMap_cons, List.append_assoc, List.flatMap_cons]
    by_cases hc : c = 92
    · subst hc
      rcases Nat.mod_two_eq_zero_or_one n with he | ho
      · have e : n = 2 * (n / 2) := by omega
        have hs : seg (92, n) = List.replicate (2 * (n / 2)) 92 := by unfold seg; rw [← e]
        have hh : halfS (92, n) = List.replicate (n / 2) 92 := by unfold halfS; rw [if_pos rfl]
        have hg : goodS ((92, n) :: r) = goodS r := by rw [goodS_cons]; simp [he]
        rw [hs, un_even, ih, hh, hg]
        split
        · simp
        · rfl
      · have hg : goodS ((92, n) :: r) = false := by rw [goodS_cons]; simp [ho]
        rw [hg, if_neg (by decide)]
        have e : n = 2 * (n / 2) + 1 := by omega
        have hs : seg (92, n) = List.replicate (2 * (n / 2) + 1) 92 := by unfold seg; rw [← e]
        rw [hs]
        cases r with
        | nil => exact absurd rfl ha
        | cons q r =>
          obtain ⟨d, k⟩ := q
          have hk : 1 ≤ k := hn (d, k) (.tail _ (.head _))
          have hd : d ≠ 92 := fun z => ha.1 z.symm
          obtain ⟨j, rfl⟩ : ∃ j, k = j + 1 := ⟨k - 1, by omega⟩
          rw [List.flatMap_cons]
          show unesc (List.replicate (2 * (n / 2) + 1) 92 ++ (List.replicate (j + 1) d ++ _ ++ tail)) = none
          rw [List.replicate_succ (n := j), List.cons_append, List.cons_append]
          exact un_odd hd _ _
    · have hs : seg (c, n) = List.replicate n c := rfl
      have hh : halfS (c, n) = List.replicate n c := by unfold halfS; rw [if_neg hc]
      have hg : goodS ((c, n) :: r) = goodS r := by
        rw [goodS_cons, show (c != 92) = true from bne_iff_ne.mpr hc]
        simp
      rw [hs, un_rep hc, ih, hh, hg]
      split
      · simp
      · rfl
end Mine
end
section
-- Whiles
open PySem PySem.W PySem.Calls PySem.Spec PyProof.Rows
set_option Elab.async false
set_option maxRecDepth 100000
set_option linter.all false
namespace Mine
section
variable {prog : Program} {w : World} {A : Around} {E : Value → Shared → Prop} {s : Shared} {env : Env} {h₀ : Heap} {L : Addr} {test : PySem.Expr} {body orelse : List Stmt} {pos : Pos} {Q : Flow → Shared → Prop}
/-- a while's turn ends in the state c' below c -/
noncomputable def WhEnd {σ : Type} (h₀ : Heap) (L : Addr) (Led : σ → List (Addr × Obj)) (ps : σ → List (Str × Value)) (x : Str) (stored : List Str) (m₀ : Str → Option Value) (P : σ → Prop) (μ : σ → Nat) (c : σ) (s s₃ : Shared) : Prop :=
  ∃ (c' : σ) (h' : Heap) (tk : Nat) (m' : Str → Option Value) (news' : List (Addr × Obj)), s₃ = { s with heap := h', toks := tk } ∧ μ c' < μ c ∧ Fr h₀ L h' m' ∧ News h₀ L h' news' ∧ (∀ p ∈ Led c', p ∈ news') ∧
    (∀ p ∈ ps c', m' p.1 = some p.2) ∧ (∀ z, z ≠ x → (∀ p ∈ ps c', z ≠ p.1) → stored.contains z = false → m' z = m₀ z) ∧ P c'
noncomputable def WhPost {σ : Type} (h₀ : Heap) (L : Addr) (Led : σ → List (Addr × Obj)) (ps : σ → List (Str × Value)) (x : Str) (stored : List Str) (m₀ : Str → Option Value) (P : σ → Prop) (μ : σ → Nat) (c : σ) (Q : Flow → Shared → Prop) (s : Shared) (f : Flow) (s₃ : Shared) : Prop :=
  match f with
  | .ret v => Q (.ret v) s₃
  | .brk => Q .next s₃
  | _ => WhEnd h₀ L Led ps x stored m₀ P μ c s s₃
theorem whend {σ : Type} {Led : σ → List (Addr × Obj)} {ps : σ → List (Str × Value)} {x : Str} {stored : List Str} {m₀ : Str → Option Value} {P : σ → Prop} {μ : σ → Nat} {c : σ} {h' : Heap} {tk : Nat} {m' : Str → Option Value} {news' : List (Addr × Obj)} (c' : σ) (hm : μ c' < μ c)
    (F : Fr h₀ L h' m') (N : News h₀ L h' news') (hn : ∀ p ∈ Led c', p ∈ news') (hk : ∀ p ∈ ps c', m' p.1 = some p.2) (hr : ∀ z, z ≠ x → (∀ p ∈ ps c', z ≠ p.1) → stored.contains z = false → m' z = m₀ z) (hp : P c') :
    WhEnd h₀ L Led ps x stored m₀ P μ c s { s with heap := h', toks := tk } := ⟨c', h', tk, m', news', rfl, hm, F, N, hn, hk, hr, hp⟩
theorem ks_while {σ : Type} {m₀ : Str → Option Value} (x : Str) (Led : σ → List (Addr × Obj)) (ps : σ → List (Str × Value)) (stored : List Str) (P : σ → Prop) (μ : σ → Nat) (c₀ : σ)
    (F : Fr h₀ L s.heap m₀) (N : News h₀ L s.heap (Led c₀)) (hk : ∀ p ∈ ps c₀, m₀ p.1 = some p.2) (hp : P c₀)
    (turn : ∀ (c : σ) (u : Str → Option Value) h tk, P c → Fr h₀ L h (fun y => if y = x then u y else kstB (fun z => if stored.contains z then u z else m₀ z) (ps c) y) → News h₀ L h (Led c) →
      wpAny (model prog w) A (isTrue test env (eval test env)) (fun b s₂ => WhlIf b (wpAny (model prog w) A (execs body env) (WhPost h₀ L Led ps x stored m₀ P μ c Q s) E s₂) (wpAny (model prog w) A (execs orelse env) Q E s₂)) E { s with heap := h, toks := tk })
    (hE : PassesOwn (model prog w) A env E := by passes_own) :
    wpAny (model prog w) A (exec (.While test body orelse pos) env) Q E s := by
  have key : ∀ (n : Nat) (c : σ) (h : Heap) (tk : Nat) (m' : Str → Option Value), μ c < n → Fr h₀ L h m' → News h₀ L h (Led c) → (∀ p ∈ ps c, m' p.1 = some p.2) → (∀ z, z ≠ x → (∀ p ∈ ps c, z ≠ p.1) → stored.contains z = false → m' z = m₀ z) → P c →
      WhlRest prog w A E env test body orelse Q n { s with heap := h, toks := tk } := by
    intro n
    induction n with
    | zero => intro c h tk m' hm; exact absurd hm (Nat.not_lt_zero _)
    | succ n ih =>
      intro c h tk m' hm F' N' hk' hr' hp'
      refine whl_turn hE (wpAny_mono (turn c m' h tk hp' (kst_frOut hk' hr' F') N') (fun b s₂ h₂ => ?_) fun _ _ e => e)
      cases b with
      | false => exact h₂
      | true =>
        refine WhlIf.yes rfl (wpAny_mono (show wpAny _ _ _ _ _ _ from h₂) (fun f s₃ h₃ => ?_) fun _ _ e => e)
        have fin : WhEnd h₀ L Led ps x stored m₀ P μ c s s₃ → WhlRest prog w A E env test body orelse Q n s₃ := by
          rintro ⟨c', h', tk', m₂, news', rfl, hlt, F₂, N₂, hn, hk₂, hr₂, hp₂⟩
          exact ih c' h' tk' m₂ (by omega) F₂ (fun p hp => N₂ p (hn p hp)) hk₂ hr₂ hp₂
        cases f with
        | ret v => exact h₃
        | brk => exact h₃
        | next => exact fin h₃
        | cont => exact fin h₃
  exact whl_start (μ c₀ + 1) (key (μ c₀ + 1) c₀ s.heap s.toks m₀ (Nat.lt_succ_self _) F N hk (fun _ _ _ _ => rfl) hp)
end
end Mine
end
section
-- MProxy
open PySem PySem.W PySem.Calls PySem.Spec PyProof.Rows
set_option Elab.async false
set_option maxRecDepth 100000
set_option linter.all false
namespace Mine
theorem slot_mp_getitem : Slot "mappingproxy" "__getitem__" "mappingproxy.__getitem__" :=
  .of (owner := "mappingproxy") (n := "__getitem__") (by rw [typeLookup_type, builtinLookup_eq_fast]; kernel_rfl) (by decide +kernel) (by decide +kernel) (by decide +kernel)
    (by first | exact .inl (by decide +kernel) | exact .inr (by decide +kernel)) (by rw [isSubtype_type]; kernel_rfl)
theorem entry_mp_getitem : entryFor table "mappingproxy.__getitem__" = some Builtin.«mappingproxy.__getitem__» := by first | exact entryFor_of_fast (by kernel_rfl) | exact entryFor_of_tree (by kernel_rfl)
theorem args_mp_getitem (a b : Value) : argsOk "mappingproxy.__getitem__" ⟨[a, b], []⟩ := by unfold argsOk; kernel_rfl
section
variable {prog : Program} {w : World} {A : Around} {E : Value → Shared → Prop} {s : Shared} {K : Frag} {h₀ : Heap} {L a d : Addr} {m : Str → Option Value} {x : Str} {t : Tok} {es : Array DictEntry} {n : Nat} {v : Value} {value slice : PySem.Expr} {Q : Value → Shared → Prop}
theorem mp_get (hm : s.heap.get? a = some { cls := .type "mappingproxy", data := .fields #[.ref d] })
    (h : wpAny (model prog w) A.in1 (getItem (.ref d) (.str x t)) Q E s)
    (hs : subscripted slice false (.ref a) (.str x t) = operate [.ref a, .str x t] (getItem (.ref a) (.str x t)) := by with_unfolding_all rfl) :
    wpAny (model prog w) A (subscriptTail value slice (.ref a) (.str x t)) Q E s := by
  have hT : s.TypeIs (.ref a) "mappingproxy" := ⟨_, hm, rfl⟩
  refine tail_any hT slot_mp_getitem.lookup ?_ hs
  unfold getItem
  try with_reducible refine wpAny_holding ?_
  refine wpAny_bind (wpAny_sequenceKey hT (by decide) ?_)
  refine wpAny_bind (wpAny_callSpecial?_slot (name := Str.ofString "__getitem__") hT slot_mp_getitem
    (wpAny_call_entry slot_mp_getitem hT entry_mp_getitem ?_ (args_mp_getitem _ _)))
  unfold Builtin.«mappingproxy.__getitem__»
  show wpAny _ _ (field (.ref a) 0 >>= _) _ _ s
  refine wpAny_bind (wpAny_field hm rfl (x := .ref d) rfl ?_)
  exact wpAny_bind (wpAny_mono h (fun r s' hr => wpAny_pure ⟨_, rfl, wpAny_pure hr⟩) fun _ _ e => e)
theorem mp_item (F : Fr h₀ L s.heap m) (X₀ : K.In h₀) (h0 : K.lookup a = some { cls := .type "mappingproxy", data := .fields #[.ref d] }) (hl : K.lookup d = some ⟨.type "dict", none, .dict es n, #[]⟩) (hk : KeysLit w.params es.toList) (e : nsIn K d x = some (some v))
    (h : Q v { s with toks := s.toks + 1 })
    (hs : subscripted slice false (.ref a) (.str x t) = operate [.ref a, .str x t] (getItem (.ref a) (.str x t)) := by with_unfolding_all rfl) :
    wpAny (model prog w) A (subscriptTail value slice (.ref a) (.str x t)) Q E s :=
  mp_get ((X₀.keeps F.keep) _ _ h0) (topGetDict_K F X₀ hl hk e h) hs
theorem mp_missing (F : Fr h₀ L s.heap m) (X₀ : K.In h₀) (h0 : K.lookup a = some { cls := .type "mappingproxy", data := .fields #[.ref d] }) (hl : K.lookup d = some ⟨.type "dict", none, .dict es n, #[]⟩) (hk : KeysLit w.params es.toList) (e : nsIn K d x = some none) (lo : (d == sysModules) = false) (hh : A.handled = none)
    (h : ∀ h' e, Heap.NewExc s.heap h' e "KeyError" → E (.ref e) { s with heap := h', toks := s.toks + 1 })
    (hs : subscripted slice false (.ref a) (.str x t) = operate [.ref a, .str x t] (getItem (.ref a) (.str x t)) := by with_unfolding_all rfl) :
    wpAny (model prog w) A (subscriptTail value slice (.ref a) (.str x t)) Q E s :=
  mp_get ((X₀.keeps F.keep) _ _ h0) (wpAny_getItem_missing_of (strKind_is prog w x t) lo hh (mapOf_K (prog := prog) (X₀.keeps F.keep) hl hk) (find_K hl e) h) hs
end
end Mine
end
section
-- StrTr
open PySem PySem.W PySem.Calls PySem.Spec PyProof.Rows
set_option Elab.async false
set_option maxRecDepth 100000
set_option linter.all false
namespace Mine
open PySem.Builtin PySem.Builtin.Str
section
variable {prog : Program} {w : World} {A : Around} {E : Value → Shared → Prop} {s : Shared} {t : Tok} {Q : Value → Shared → Prop} {c d : Nat}
theorem kin_sub : isSubtype (.type "KeyError") (.type "LookupError") = pure true := by rw [isSubtype_type]; kernel_rfl
theorem lookup_keep {f : Int → Option Value} {Q : Mapped → Shared → Prop} (hm : s.heap.MapOf (intKind prog w) d f) (hv : f c = none) (hd : ((d : Addr) == sysModules) = false) (hh : A.handled = none)
    (h : ∀ h' e k, Heap.NewExc s.heap h' e "KeyError" → Q .keep { s with heap := h', toks := k }) : wpAny (model prog w) A (tableLookup (.ref d) c) Q E s := by
  unfold tableLookup
  refine wpAny_bind (wpAny_attempt ?_)
  refine wpAny_bind (wpAny_mkInt ?_)
  refine wpAny_getItem_missing_of (intKind_is _ _ _ _) hd hh (s := ⟨_, _, _, _, _⟩) hm hv (fun h' e hx => ?_)
  dsimp only
  obtain ⟨ob, tt, he, hc, _⟩ := hx.there
  have hb : Looks (model prog w) h' (isInstance (.ref e) (.type "LookupError")) true := (Looks.ld he).andThen (by rw [hc]; exact Looks.of_pure kin_sub)
  refine wpAny_bind (hb.at ?_)
  rw [if_pos rfl]
  refine wpAny_bind (wpAny_rule ?_)
  exact wpAny_pure (h _ _ _ hx)
theorem forIn_one {β : Type} (c : Nat) (b : β) (f : Nat → β → Sem (ForInStep β)) : forIn (tx [c]).cps b f = f c b >>= fun r => match r with | .done b => pure b | .yield b => pure b := by
  show forIn #[c] b f = _
  rw [← Array.forIn_toList]
  simp only [List.forIn_cons, List.forIn_nil]
  congr 1
theorem translate_one {f : Int → Option Value} (hc : c < 128) (hm : s.heap.MapOf (intKind prog w) d f) (hv : f c = none) (hd : ((d : Addr) == sysModules) = false) (hh : A.handled = none)
    (h : ∀ h' e t' k, Heap.NewExc s.heap h' e "KeyError" → Q (.str (tx [c]) t') { s with heap := h', toks := k }) :
    wpAny (model prog w) A («str.translate» ⟨[.str (tx [c]) t, .ref d], []⟩) (fun r s' => ∃ v, r = .done (.ret v) ∧ Q v s') E s := by
  unfold «str.translate»
  refine wpAny_bind (wpAny_of_eq (a := (.str (tx [c]) t, tx [c], .ref d)) rfl ?_)
  dsimp only
  rw [if_neg (by rw [tx_len]; simp), forIn_one, show ((tx [c]).cps.all fun x => decide (x < 128)) = true from by simp [tx, hc]]
  refine wpAny_bind (wpAny_bind ?_)
  rw [if_neg (show ¬ (tooLong 0 = true) from by decide), if_pos rfl]
  dsimp only [List.lookup]
  refine wpAny_bind (lookup_keep hm hv hd hh (fun h' e k hx => ?_))
  dsimp only
  refine wpAny_bind (wpAny_pure ?_)
  dsimp only
  refine wpAny_pure ?_
  dsimp only
  refine wpAny_pure ?_
  dsimp only
  rw [if_neg (show ¬ (tooLong (0 + 1) = true) from by decide), show ({ cps := List.foldl (fun acc (p : Str) => acc ++ p.cps) #[] [({ cps := #[c] } : Str)].reverse } : Str) = tx [c] from by simp [tx]]
  unfold retStr
  refine wpAny_bind (wpAny_mkStr ?_ (room_tx (show 1 ≤ 100000 by decide)))
  exact wpAny_pure ⟨_, rfl, h _ _ _ _ hx⟩
theorem call_str_translate {f : Int → Option Value} (hc : c < 128) (hm : s.heap.MapOf (intKind prog w) d f) (hv : f c = none) (hd : ((d : Addr) == sysModules) = false) (hh : A.handled = none)
    (h : ∀ h' e t' k, Heap.NewExc s.heap h' e "KeyError" → Q (.str (tx [c]) t') { s with heap := h', toks := k }) :
    wpAny (model prog w) A (call (.builtin "str.translate") [.str (tx [c]) t, .ref d]) Q E s := by
  refine wpAny_call_entry F.slot_str_translate (typeIs_str _ _ _) F.entry_str_translate ?_ (F.args_str_translate_2 _ _)
  exact translate_one hc hm hv hd hh h
end
/-- the entries of an int-keyed dict, as a test -/
noncomputable def intKeysB (es : List DictEntry) : Bool := es.all fun e => match e.key with | .int k _ => e.hash == hashInt k | _ => false
theorem intKeys_of {es : Array DictEntry} (h : intKeysB es.toList = true) : PySem.IntKeys es := fun e he => by
  have := List.all_eq_true.mp h e (Array.mem_toList_iff.mpr he)
  cases hk : e.key with
  | int k t => rw [hk] at this; exact ⟨k, t, rfl, eq_of_beq this⟩
  | _ => rw [hk] at this; cases this
section
variable {prog : Program} {w : World} {A : Around} {E : Value → Shared → Prop} {s : Shared} {t : Tok} {Q : Value → Shared → Prop} {c : Nat} {d L : Addr} {K : Frag} {h₀ : Heap} {m : Str → Option Value} {news : List (Addr × Obj)} {es : Array DictEntry} {n : Nat}
theorem news_newExc {h' : Heap} {e : Addr} {X : String} (F : Fr h₀ L s.heap m) (N : News h₀ L s.heap news) (hx : Heap.NewExc s.heap h' e X) : Fr h₀ L h' m ∧ News h₀ L h' news := by
  refine ⟨⟨?_, fun b o q => hx.keeps _ _ (F.keep b o q), F.above⟩, fun p hp => ⟨hx.keeps _ _ (N p hp).1, (N p hp).2⟩⟩
  obtain ⟨o, es, ep, hL, r⟩ := F.ns
  exact ⟨o, es, ep, hx.keeps _ _ hL, r⟩
theorem str_translate_K (F : Fr h₀ L s.heap m) (X₀ : K.In h₀) (N : News h₀ L s.heap news) (hl : K.lookup d = some ⟨.type "dict", none, .dict es n, #[]⟩) (hk : intKeysB es.toList = true) (hf : findBy Value.isInt es (c : Int) = none) (hd : ((d : Addr) == sysModules) = false) (hc : c < 128) (hh : A.handled = none)
    (h : ∀ h' t' k, Fr h₀ L h' m → News h₀ L h' news → Q (.str (tx [c]) t') { s with heap := h', toks := k }) :
    wpAny (model prog w) A (call (.builtin "str.translate") [.str (tx [c]) t, .ref d]) Q E s := by
  have ho := (X₀.keeps F.keep) _ _ hl
  have hm : s.heap.MapOf (intKind prog w) d (findBy Value.isInt es) := Heap.IntMap.mapOf ⟨_, es, n, ho, rfl, rfl, intKeys_of hk, fun _ => rfl⟩ (fun o e => by rw [ho] at e; cases e; exact ⟨rfl, rfl⟩)
  refine call_str_translate hc hm hf hd hh (fun h' e t' k hx => ?_)
  obtain ⟨F', N'⟩ := news_newExc F N hx
  exact h h' t' k F' N'
theorem str_translate_m {pl : Sem Bool} {x : Str} {M : Model} {Q : Value × List Value → Shared → Prop} (h : Q (.builtin "str.translate", [.str x t]) s) : wpAny M A (getMethod (.str x t) "translate" pl) Q E s := by
  have hn : ∀ a, Value.str x t = .ref a → ∃ o, s.heap.get? a = some o ∧ o.dict = none := fun _ e => nomatch e
  with_reducible exact getMethod_builtin (typeIs_str _ _ _) F.plainAttrs_str F.slot_str_translate F.type_str_translate hn h
end
end Mine
end
namespace Mine
section
open PySem PySem.W PySem.Calls PySem.Spec PyProof.Rows
local macro_rules | `(tactic| kst_allIn) => `(tactic| first | exact List.forall_mem_nil _ | (intro p9 h9; kst_mem))
local macro_rules | `(tactic| walk_at "callWith") => `(tactic| ((with_reducible show wpAny _ _ (callWith _ (Value.builtin _) (_ :: _) _ _) _ _ _); first | (with_reducible refine callWith_method0 ?_) | k_dflt (refine callWith_method1 ?_)))
local macro_rules | `(tactic| k_steps) => `(tactic| ((repeat' (first | (k_unfold; (try dsimp only)) | (k_end; kc_close) | walk1 | (dsimp only; walk1) | (leave1; walk_say "STEP leave1"; (try dsimp only)) | fail "no step")); all_goals (try with_reducible refine Hold.mk ?_)))
local macro_rules | `(tactic| walk_at "call ref") => `(tactic| (refine hold_in ?_))
local macro_rules | `(tactic| walk_at "call builtin:len") => `(tactic| ((with_reducible show wpAny _ _ (call _ [Value.str _ _]) _ _ _); refine hold_in ?_))
local macro_rules | `(tactic| size_fits) => `(tactic| (with_unfolding_all exact Nat.le_of_ble_eq_true rfl))
local macro_rules | `(tactic| walk_at "eval Name") => `(tactic| (k_here; (fail_if_success with_reducible show wpAny _ _ (eval (PySem.Expr.Name _ _) (compEnvC _ _ _ _)) _ _ _); k_dflt (first | (refine' nameX_L ?F ?v ?_ ?a ?b; (case F => k_asm); (case a => rfl); (case b => rfl); (case v => rfl); k_whole) | (refine' nameX_K ?F ?X ?T ?e ?_ ?a ?b; (case F => k_asm); (case X => k_asm); (case T => k_asm); (case a => rfl); (case b => rfl); (case e => k_is); k_whole))))
local macro_rules | `(tactic| walk_at "callWith ref") => `(tactic| (k_here; k_dflt (first | (refine' callWith_K ?k1 ?k2 ?_; (case k1 => k_asm); (case k2 => k_is); k_whole) | (refine' callWith_K0 ?k1 ?k2 ?_; (case k1 => k_in); (case k2 => k_is); k_whole))))
local macro_rules | `(tactic| walk_at "eval BinOp") => `(tactic| (k_here; k_dflt (refine' iv_ok (n := 6) ?a ?F ?h ?_; (case a => rfl); (case F => k_asm); (case h => exact rfl); k_whole); intro tI tkI))
local macro_rules | `(tactic| walk_at "isTrue Compare") => `(tactic| (k_here; k_dflt (refine' cmp_ok (n := 6) ?a ?F ?hl ?hr ?hc ?hm ?_; (case a => rfl); (case F => k_asm); (case hl => exact rfl); (case hr => exact rfl); (case hc => exact rfl); (case hm => with_unfolding_all rfl); k_whole); intro tkI))
local macro_rules | `(tactic| walk_at "storeName") => `(tactic| (k_here; k_dflt (refine' storeB ?F ?N ?_ ?a ?b; (case F => k_asm); (case N => k_asm); (case a => rfl); (case b => rfl); k_whole; intro tk1 h1 F' N'; (try k_sweep))))
local macro_rules | `(tactic| walk_at "storeName") => `(tactic| (k_here; (first | (with_reducible show wpAny _ _ (storeName _ _ (Value.bytes _ (Shared.toks _))) _ _ _) | (with_reducible show wpAny _ _ (storeName _ _ (Value.bytes _ (_ + _))) _ _ _)); k_dflt (refine' storeY ?F ?N ?_ ?a ?b; (case F => k_asm); (case N => k_asm); (case a => rfl); (case b => rfl); k_whole; intro t1 tk1 h1 F' N'; (try k_sweep))))
local macro_rules | `(tactic| walk_at "storeName") => `(tactic| (k_here; (first | (with_reducible show wpAny _ _ (storeName _ _ (Value.str _ (Shared.toks _))) _ _ _) | (with_reducible show wpAny _ _ (storeName _ _ (Value.str _ (_ + _))) _ _ _)); k_dflt (refine' storeS ?F ?N ?_ ?a ?b; (case F => k_asm); (case N => k_asm); (case a => rfl); (case b => rfl); k_whole; intro t1 tk1 h1 F' N'; (try k_sweep))))
local macro_rules | `(tactic| walk_at "storeName") => `(tactic| (k_here; (first | (with_reducible show wpAny _ _ (storeName _ _ (Value.int _ (Shared.toks _))) _ _ _) | (with_reducible show wpAny _ _ (storeName _ _ (Value.int _ (_ + _))) _ _ _)); k_dflt (refine' storeI ?F ?N ?_ ?a ?b; (case F => k_asm); (case N => k_asm); (case a => rfl); (case b => rfl); k_whole; intro t1 tk1 h1 F' N'; (try k_sweep))))
local macro_rules | `(tactic| walk_at "pyIter ref") => `(tactic| (refine halt_in ?_))
local macro_rules | `(tactic| walk_at "exec For Name Subscript cons nil") => `(tactic| (k_here; (rename Fr _ _ _ _ => lF'); (with_unfolding_all refine' For_invVF lF' ?k1 ?k2 ?_; (case k1 => exact rfl); (case k2 => exact rfl); k_whole)))
local macro_rules | `(tactic| walk_at "exec For Name Call cons nil") => `(tactic| (k_here; (rename Fr _ _ _ _ => lF'); (with_unfolding_all refine' For_invVF lF' ?k1 ?k2 ?_; (case k1 => exact rfl); (case k2 => exact rfl); k_whole)))
local macro_rules | `(tactic| walk_at "exec For Name Name cons nil") => `(tactic| (k_here; (rename Fr _ _ _ _ => lF'); (with_unfolding_all refine' For_invVF lF' ?k1 ?k2 ?_; (case k1 => exact rfl); (case k2 => exact rfl); k_whole)))
local macro_rules | `(tactic| walk_at "exec For Name BinOp cons nil") => `(tactic| (k_here; (rename Fr _ _ _ _ => lF'); (with_unfolding_all refine' For_invVF lF' ?k1 ?k2 ?_; (case k1 => exact rfl); (case k2 => exact rfl); k_whole)))
local macro_rules | `(tactic| walk_at "execs cons") => `(tactic| ((first | (with_reducible show wpAny _ _ _ _ _ (Shared.mk _ _ _ (_ + _) _)) | (with_reducible show wpAny _ _ _ _ _ (Shared.mk _ _ _ (Shared.toks _) _))); refine norm_s ‹Shared› ?_; intro tkn))
local macro_rules | `(tactic| walk_at "execs nil") => `(tactic| ((first | (with_reducible show wpAny _ _ _ _ _ (Shared.mk _ _ _ (_ + _) _)) | (with_reducible show wpAny _ _ _ _ _ (Shared.mk _ _ _ (Shared.toks _) _))); refine norm_s ‹Shared› ?_; intro tkn))
local macro_rules | `(tactic| walk_at "call type:type") => `(tactic| ((with_reducible show wpAny _ _ (call _ [Value.bytes _ _]) _ _ _); refine call_type_of (Tx := "bytes") rfl (by decide +kernel) ?_))
local macro_rules | `(tactic| walk_at "pyIter bytes") => `(tactic| (refine halt_in ?_))
local macro_rules | `(tactic| k_all) => `(tactic| first | with_reducible assumption | (refine ne_of_allLt ?_; first | with_reducible assumption | exact (And.right (by with_reducible assumption)) | exact (And.right (And.right (by with_reducible assumption))) | exact (And.right (And.right (And.right (by with_reducible assumption)))) | exact (And.right (And.right (And.right (And.right (by with_reducible assumption))))) | exact (And.right (And.right (And.right (And.right (And.right (by with_reducible assumption)))))) | exact (And.right (And.right (And.right (And.right (And.right (And.right (by with_reducible assumption))))))) | exact (And.right (And.right (And.right (And.right (And.right (And.right (And.right (by with_reducible assumption)))))))) | exact (And.right (And.right (And.right (And.right (And.right (And.right (And.right (And.right (by with_reducible assumption))))))))) | exact (And.right (And.right (And.right (And.right (And.right (And.right (And.right (And.right (And.right (by with_reducible assumption)))))))))) | exact (And.right (And.right (And.right (And.right (And.right (And.right (And.right (And.right (And.right (And.right (by with_reducible assumption))))))))))) | exact (And.right (And.right (And.right (And.right (And.right (And.right (And.right (And.right (And.right (And.right (And.right (by with_reducible assumption)))))))))))) | exact (And.right (And.right (And.right (And.right (And.right (And.right (And.right (And.right (And.right (And.right (And.right (And.right (by with_reducible assumption)))))))))))))))
local macro_rules | `(tactic| kst_same) => `(tactic| (intro z h1 h2 h3; (try simp only [List.forall_mem_cons, List.not_mem_nil, false_implies, implies_true, and_true, ne_eq] at h2); (try simp only [List.contains_cons, List.contains_nil, Bool.or_false, Bool.or_eq_false_iff, beq_eq_false_iff_ne, ne_eq] at h3); first | (simp +zetaDelta [bnd, kstB, h1, h2, h3]; done) | (simp +zetaDelta [bnd, kstB, h1, h2, h3]; (repeat' split) <;> simp_all)))
section
-- W_b64v
open PySem PySem.W PySem.Calls PySem.Spec PyProof.Rows
set_option Elab.async false
set_option maxRecDepth 100000
set_option maxHeartbeats 8000000
set_option linter.all false
section
local macro_rules | `(tactic| omega) => `(tactic| lia)
section
local macro_rules | `(tactic| walk_at "isTrue Compare") => `(tactic| (k_here; k_dflt (refine' chain_ok (n := 6) ?a ?F ?hl ?hx ?hr ?h1 ?h2 ?hm ?_; (case a => rfl); (case F => k_asm); (case hl => exact rfl); (case hx => exact rfl); (case hr => exact rfl); (case h1 => exact rfl); (case h2 => exact rfl); (case hm => with_unfolding_all rfl); k_whole); intro tkI))
noncomputable def b64val (c : Int) : Int := if 65 ≤ c ∧ c ≤ 90 then c - 65 else if 97 ≤ c ∧ c ≤ 122 then c - 71 else if 48 ≤ c ∧ c ≤ 57 then c + 4 else if c = 43 then 62 else if c = 47 then 63 else 64
theorem b64_eq (c : Int) : b64val c = if (decide (65 ≤ c) && decide (c ≤ 90)) = true then c - 65 else if (decide (97 ≤ c) && decide (c ≤ 122)) = true then c - 71 else if (decide (48 ≤ c) && decide (c ≤ 57)) = true then c + 4 else if c = 43 then 62 else if c = 47 then 63 else 64 := by
  unfold b64val
  simp only [Bool.and_eq_true, decide_eq_true_eq]
theorem not_t {b : Bool} (h : b = false) : ¬ b = true := by rw [h]; exact Bool.false_ne_true
theorem b64v_ok {q : Program} {w : World} {mean : ExcName → Option Value} {mg mb : Str → Option Value} {loose : List Str} {dp un : Nat} {gd : Option (List Code)} {cn : Str} {cs : Scope} {a : Addr} {ccd : Value} {cl : List (Str × Addr)} {outer : List Env} {A₀ : Around} {base h₀ : Heap} {L : Addr} {m : Str → Option Value} {news : List (Addr × Obj)} {s : Shared}
    {Q E : Value → Shared → Prop} {c : Int} {tk : Tok}
  (B : Below A₀ base outer h₀) (F : Fr h₀ L s.heap m) (X : (Mine.hd.heap_1 w.params).In h₀) (N : News h₀ L s.heap news) (T : Top q loose mean mg mb h₀) (hk : cs.kind = .function)
   (hd : dp + 10 < recursionLimit) (hu : un + 80 < cLine)
  (hret : ∀ t h' tk', Fr h₀ L h' m → News h₀ L h' news → Q (.int (b64val c) t) { s with heap := h', toks := tk' }) :
  wpAny (model (PySem.Challenge.rw_in0277_01.row.toRowW.prog) w) (ktrTop dp un gd cn cs L a ccd cl outer) (call (.ref 229) [.int c tk]) Q E s := by
  revert X
  k_fill
  intro X
  refine wpAny_call ?_
  k_dflt cell_enter
  refine let_A ?_
  intro A0
  k_steps
  all_goals (refine W.cb_retI hret ?_ (by assumption) (by assumption); rw [b64_eq]; repeat (first | exact (if_pos (by assumption)).symm | rw [if_neg (not_t (by assumption))] | rw [if_neg (by assumption)]))

end
end
end
section
-- W_buf
open PySem PySem.W PySem.Calls PySem.Spec PyProof.Rows
set_option Elab.async false
set_option maxRecDepth 100000
set_option maxHeartbeats 8000000
set_option linter.all false
section
section
theorem abuf_ok {q : Program} {w : World} {mean : ExcName → Option Value} {mg mb : Str → Option Value} {loose : List Str} {dp un : Nat} {gd : Option (List Code)} {cn : Str} {cs : Scope} {a : Addr} {ccd : Value} {cl : List (Str × Addr)} {outer : List Env} {A₀ : Around} {base h₀ : Heap} {L : Addr} {m : Str → Option Value} {news : List (Addr × Obj)} {s : Shared}
    {Q E : Value → Shared → Prop} {b : Array UInt8} {tk : Tok}
  (B : Below A₀ base outer h₀) (F : Fr h₀ L s.heap m) (X : (Mine.hd.heap_1 w.params).In h₀) (N : News h₀ L s.heap news) (T : Top q loose mean mg mb h₀) (hk : cs.kind = .function)
   (hd : dp + 10 < recursionLimit) (hu : un + 80 < cLine)
  (hret : ∀ h' tk', Fr h₀ L h' m → News h₀ L h' news → Q (.bytes b tk) { s with heap := h', toks := tk' }) :
  wpAny (model (PySem.Challenge.rw_in0277_01.row.toRowW.prog) w) (ktrTop dp un gd cn cs L a ccd cl outer) (call (.ref 208) [.bytes b tk]) Q E s := by
  revert X
  k_fill
  intro X
  refine wpAny_call ?_
  k_dflt cell_enter
  refine let_A ?_
  intro A0
  k_steps
  exact hret _ _ (by assumption) (by assumption)

theorem bbuf_ok {q : Program} {w : World} {mean : ExcName → Option Value} {mg mb : Str → Option Value} {loose : List Str} {dp un : Nat} {gd : Option (List Code)} {cn : Str} {cs : Scope} {a : Addr} {ccd : Value} {cl : List (Str × Addr)} {outer : List Env} {A₀ : Around} {base h₀ : Heap} {L : Addr} {m : Str → Option Value} {news : List (Addr × Obj)} {s : Shared}
    {Q E : Value → Shared → Prop} {b : Array UInt8} {tk : Tok}
  (B : Below A₀ base outer h₀) (F : Fr h₀ L s.heap m) (X : (Mine.hd.heap_1 w.params).In h₀) (N : News h₀ L s.heap news) (T : Top q loose mean mg mb h₀) (hk : cs.kind = .function)
   (hd : dp + 10 < recursionLimit) (hu : un + 80 < cLine)
  (hret : ∀ h' tk', Fr h₀ L h' m → News h₀ L h' news → Q (.bytes b tk) { s with heap := h', toks := tk' }) :
  wpAny (model (PySem.Challenge.rw_in0277_01.row.toRowW.prog) w) (ktrTop dp un gd cn cs L a ccd cl outer) (call (.ref 215) [.bytes b tk]) Q E s := by
  revert X
  k_fill
  intro X
  refine wpAny_call ?_
  k_dflt cell_enter
  refine let_A ?_
  intro A0
  k_steps
  exact hret _ _ (by assumption) (by assumption)

end
end
end
section
-- W_esc
open PySem PySem.W PySem.Calls PySem.Spec PyProof.Rows
set_option Elab.async false
set_option maxRecDepth 100000
set_option maxHeartbeats 8000000
set_option linter.all false
section
section
theorem escape_ok {q : Program} {w : World} {mean : ExcName → Option Value} {mg mb : Str → Option Value} {loose : List Str} {dp un : Nat} {gd : Option (List Code)} {cn : Str} {cs : Scope} {a : Addr} {ccd : Value} {cl : List (Str × Addr)} {outer : List Env} {A₀ : Around} {base h₀ : Heap} {L : Addr} {m : Str → Option Value} {news : List (Addr × Obj)} {s : Shared}
    {Q E : Value → Shared → Prop} {c : Nat} {tc : Tok}
  (B : Below A₀ base outer h₀) (F : Fr h₀ L s.heap m) (X : (Mine.hd.heap_1 w.params).In h₀) (N : News h₀ L s.heap news) (T : Top q loose mean mg mb h₀) (hk : cs.kind = .function)
  (hc : c = 67 ∨ c = 49 ∨ c = 65) (hd : dp + 40 < recursionLimit) (hu : un + 200 < cLine)
  (hret : ∀ t h' tk', Fr h₀ L h' m → News h₀ L h' news → Q (.str (tx [c]) t) { s with heap := h', toks := tk' }) :
  wpAny (model (PySem.Challenge.rw_in0277_01.row.toRowW.prog) w) (ktrTop dp un gd cn cs L a ccd cl outer) (call (.ref 278) [.str (tx [c]) tc]) Q E s := by
  revert X
  k_fill
  intro X
  refine wpAny_call ?_
  k_dflt (refine' code_def ?k1 ?k2 ?k3 ?k4 ?k5 ?kA ?kF ?kK ?k6 ?k7 ?k8 ?k9 ?kB ?_ ?c2 ?c3 ?c4 ?c5; (case kA => exact rfl); (case kF => exact rfl); (case kK => assumption); (case k1 => k_asm); (case k2 => k_asm); (case k3 => k_asm); (case k4 => k_asm); (case k5 => k_asm); (case k6 => k_is); (case k7 => k_is); (case k8 => ktr_room); (case k9 => exact BindsTo.of_eq rfl); (case c5 => decide); (case kB => exact locs rfl); (case c2 => exact rfl); (case c3 => exact rfl); (case c4 => exact rfl); k_whole; intro g' L' h' FG' F' N' B' X' T'; (try dsimp only); (try k_lift B'); (try k_fold))
  rename Fr _ _ _ _ => F0
  replace F0 : Fr _ _ _ (fun y => List.lookup y [(Str.ofString "pattern", Value.str (tx [c]) tc)]) := F0
  k_steps
  refine str_translate_m ?_
  k_steps
  rename News _ _ _ _ => N5
  rename Fr _ _ _ _ => F5
  rcases hc with rfl | rfl | rfl
  all_goals
    k_dflt (refine' str_translate_K F5 X' N5 ?l ?k ?f ?d (by decide) rfl (fun h7 t7 k7 F7 N7 => ?_); (case l => k_is); (case k => kernel_rfl); (case f => kernel_rfl); (case d => decide))
    k_steps
    rename Fr h₀ L _ m => F8
    rename News h₀ L _ _ => N8
    exact hret _ _ _ F8 N8

end
end
end
section
-- W_letter
open PySem PySem.W PySem.Calls PySem.Spec PyProof.Rows
set_option Elab.async false
set_option maxRecDepth 100000
set_option maxHeartbeats 8000000
set_option linter.all false
section
local macro_rules | `(tactic| omega) => `(tactic| lia)
section
local macro_rules | `(tactic| walk_at "subscriptTail") => `(tactic| ((with_reducible show wpAny _ _ (subscriptTail _ _ (Value.ref _) (Value.int (Int.fmod (Int.fdiv _ 12) 3) _)) _ _ _); refine halt_in ?_))
noncomputable def lensB : List Int := [2, 4, 8, 6, 1, 3]
theorem lens_bd {x : Int} (h0 : 0 ≤ x) (h1 : x < 6) : 1 ≤ ([2, 4, 8, 6, 1, 3] : List Int).getD x.toNat 0 ∧ ([2, 4, 8, 6, 1, 3] : List Int).getD x.toNat 0 ≤ 8 := by
  obtain ⟨n, rfl⟩ := Int.eq_ofNat_of_zero_le h0
  have hn : n < 6 := by omega
  rw [Int.toNat_natCast]
  match n, hn with
  | 0, _ => decide
  | 1, _ => decide
  | 2, _ => decide
  | 3, _ => decide
  | 4, _ => decide
  | 5, _ => decide
  | n + 6, h => omega
theorem mod6 (x : Int) : 0 ≤ x.fmod 6 ∧ x.fmod 6 < 6 := by rw [Int.fmod_eq_emod_of_nonneg _ (by decide)]; omega
theorem mod3 (x : Int) : 0 ≤ x.fmod 3 ∧ x.fmod 3 < 3 := by rw [Int.fmod_eq_emod_of_nonneg _ (by decide)]; omega
theorem flat_rep {α : Type} (n : Nat) (v : α) : (List.replicate n [v]).flatten = List.replicate n v := by
  induction n with
  | zero => rfl
  | succ n ih => rw [List.replicate_succ, List.flatten_cons, ih]; rfl
theorem flat_len {α : Type} (n : Nat) (v : α) : (List.replicate n [v]).flatten.length = n := by simp [List.length_flatten]
noncomputable def lens : List Int := [2, 4, 8, 6, 1, 3]
noncomputable def blk (x : Int) : List Int := List.replicate ((lens.getD ((x / 2) % 6).toNat 0).toNat) (62 + x % 2) ++ ([[2], [53], []] : List (List Int)).getD ((x / 12) % 3).toNat []
theorem blk_len (l : List Int) : (l.flatMap blk).length ≤ 9 * l.length := by
  induction l with
  | nil => exact Nat.le_refl _
  | cons x l ih =>
    rw [List.flatMap_cons, List.length_append, List.length_cons]
    have : (blk x).length ≤ 9 := by
      unfold blk
      rw [List.length_append, List.length_replicate]
      have h1 : (lens.getD ((x / 2) % 6).toNat 0).toNat ≤ 8 := by
        have := lens_bd (x := (x / 2) % 6) (by omega) (by omega)
        unfold lens; omega
      have h2 : (([[2], [53], []] : List (List Int)).getD ((x / 12) % 3).toNat []).length ≤ 1 := by
        have e : ((x / 12) % 3).toNat = 0 ∨ ((x / 12) % 3).toNat = 1 ∨ ((x / 12) % 3).toNat = 2 := by omega
        rcases e with e | e | e <;> rw [e] <;> decide
      omega
    omega
theorem tA_app {α : Type} (a b : List α) : a.toArray ++ b.toArray = (a ++ b).toArray := by simp
theorem blk_eq (x : Int) : blk x = (List.replicate (([2, 4, 8, 6, 1, 3] : List Int).getD ((x.fdiv 2).fmod 6).toNat 0).toNat [62 + x.fmod 2]).flatten ++ ([[2], [53], []] : List (List Int)).getD ((x.fdiv 12).fmod 3).toNat [] := by
  unfold blk lens
  rw [Int.fdiv_eq_ediv_of_nonneg _ (by decide), Int.fdiv_eq_ediv_of_nonneg _ (by decide), Int.fmod_eq_emod_of_nonneg _ (by decide), Int.fmod_eq_emod_of_nonneg _ (by decide), Int.fmod_eq_emod_of_nonneg _ (by decide), flat_rep]
theorem three {k : Int} (h : 0 ≤ k ∧ k < 3) : k = 0 ∨ k = 1 ∨ k = 2 := by omega
theorem nat8 {k : Int} (h : k ≤ 8) : k.toNat ≤ 8 := by omega
theorem let_bd5 (ns : List Int) (i : Nat) : (([2, 3] ++ ns.take 3).take i).length ≤ 5 := by
  rw [List.length_take, List.length_append]
  exact Nat.le_trans (Nat.min_le_right _ _) (Nat.add_le_add_left (List.length_take_le 3 ns) 2)
theorem let_bd (ns : List Int) (i : Nat) : ((([2, 3] ++ ns.take 3).take i).flatMap blk).length ≤ 1000 := Nat.le_trans (blk_len _) (Nat.le_trans (Nat.mul_le_mul_left 9 (let_bd5 ns i)) (by decide))
noncomputable def letterF (ns : List Int) : List Int := ([2, 3] ++ ns.take 3).flatMap blk
theorem letter_ok {q : Program} {w : World} {mean : ExcName → Option Value} {mg mb : Str → Option Value} {loose : List Str} {dp un : Nat} {gd : Option (List Code)} {cn : Str} {cs : Scope} {a : Addr} {ccd : Value} {cl : List (Str × Addr)} {outer : List Env} {A₀ : Around} {base h₀ : Heap} {L : Addr} {m : Str → Option Value} {news : List (Addr × Obj)} {s : Shared}
    {Q E : Value → Shared → Prop} {l k : Nat} {vs : List Value} {ns : List Int}
  (B : Below A₀ base outer h₀) (F : Fr h₀ L s.heap m) (X : (Mine.hd.heap_1 w.params).In h₀) (N : News h₀ L s.heap ((l, listOf vs.toArray k) :: news)) (T : Top q loose mean mg mb h₀) (hk : cs.kind = .function)
  (hi : IntsAre vs ns) (hn : ns.length < 1000) (hd : dp + 20 < recursionLimit) (hu : un + 100 < cLine)
  (hret : ∀ lr rv kk h' tk', IntsAre rv (letterF ns ++ [53]) → Fr h₀ L h' m → News h₀ L h' ((lr, listOf rv.toArray kk) :: (l, listOf vs.toArray k) :: news) → Q (.ref lr) { s with heap := h', toks := tk' }) :
  wpAny (model (PySem.Challenge.rw_in0277_01.row.toRowW.prog) w) (ktrTop dp un gd cn cs L a ccd cl outer) (call (.ref 299) [.ref l]) Q E s := by
  revert X
  k_fill
  intro X
  refine wpAny_call ?_
  k_dflt (refine' code_def ?k1 ?k2 ?k3 ?k4 ?k5 ?kA ?kF ?kK ?k6 ?k7 ?k8 ?k9 ?kB ?_ ?c2 ?c3 ?c4 ?c5; (case kA => exact rfl); (case kF => exact rfl); (case kK => assumption); (case k1 => k_asm); (case k2 => k_asm); (case k3 => k_asm); (case k4 => k_asm); (case k5 => k_asm); (case k6 => k_is); (case k7 => k_is); (case k8 => ktr_room); (case k9 => exact BindsTo.of_eq rfl); (case c5 => decide); (case kB => exact locs rfl); (case c2 => exact rfl); (case c3 => exact rfl); (case c4 => exact rfl); k_whole; intro g' L' h' FG' F' N' B' X' T'; (try dsimp only); (try k_lift B'); (try k_fold); refine let_A ?_; intro A0)
  rename Fr _ _ _ _ => F0
  replace F0 : Fr _ _ _ (fun y => List.lookup y [(Str.ofString "script", Value.ref l)]) := F0
  k_steps
  refine ⟨?_⟩
  rename Fr _ _ _ _ => F5
  rename News _ _ _ _ => N5
  rename IntsAre _ ([2, 3] ++ _) => hI5
  rename_i tk1 ll1 h1 l1a h2 tk2 ll2 h3 l1b D5 w5 h4 hI4 hC4 hL4 l1c D6 w6 h5 l1d
  have hm5 := N5.get (List.Mem.head _)
  have hls : Heap.IsList _ D6 w6.toArray := ⟨_, hm5, rfl, _, rfl⟩
  have N5' : News _ _ _ ((ll1, listOf #[] 0) :: (D6, listOf w6.toArray 0) :: (l, listOf vs.toArray k) :: news) := fun p hp => by
    rcases List.mem_cons.mp hp with rfl | hp
    · exact N5 _ (.tail _ (.tail _ (.tail _ (.head _))))
    rcases List.mem_cons.mp hp with rfl | hp
    · exact N5 _ (.head _)
    · exact N5 _ (.tail _ (.tail _ (.tail _ (.tail _ hp))))
  have hne0 : ∀ p ∈ (D6, listOf w6.toArray 0) :: (l, listOf vs.toArray k) :: news, p.1 ≠ ll1 := by k_all
  refine ks_list (σ := List Value × Nat × List Int) (fun c => (ll1, listOf c.1.toArray c.2.1) :: (D6, listOf w6.toArray 0) :: (l, listOf vs.toArray k) :: news) (fun _ => []) [] (fun i c => IntsAre c.1 c.2.2 ∧ c.2.2 = (([2, 3] ++ ns.take 3).take i).flatMap blk) ([], 0, []) ((D6, listOf w6.toArray 0) :: (l, listOf vs.toArray k) :: news) (fun _ h => .tail _ h) rfl hls (N5 _ (List.Mem.head _)).2.1 F5 N5' (AllL.cons AllL.fx) (fun _ h => nomatch h) ⟨.nil, rfl⟩ ?_ ?_
  · intro i v
    refine cur3 ?_
    intro ov ok oi u h7 tk7 own hj hv hPq hal hown F7 N7
    refine gen_post (fun Q1 hQ1 E1 => ?_)
    refine let_F F7 ?_
    clear F7
    intro m7 F7
    have hP1 := hPq.1
    have hP2 := hPq.2
    dsimp only at hP1 hP2 N7 hown
    obtain ⟨x, tx, rfl, hx⟩ := int_at hI5 hv
    have hT : ∀ p ∈ news ++ own, p.1 ≠ ll1 := by
      intro p hp
      rcases List.mem_append.mp hp with hp | hp
      · exact hne0 p (.tail _ (.tail _ hp))
      · by_cases h6 : p.1 = D6
        · rw [h6]; exact hne0 _ (.head _)
        · exact fun e => hown p hp h6 _ (.head _) e.symm
    have hd6 : D6 ≠ ll1 := hne0 _ (.head _)
    have hdl : l ≠ ll1 := hne0 _ (.tail _ (.head _))
    simp only [List.cons_append] at N7
    have hlx := lens_bd (mod6 (x.fdiv 2)).1 (mod6 (x.fdiv 2)).2
    have hlx8 : (([2, 4, 8, 6, 1, 3] : List Int).getD ((x.fdiv 2).fmod 6).toNat 0).toNat ≤ 8 := nat8 hlx.2
    have hol : ov.length ≤ 1000 := by
      rw [hP1.length, hP2]
      exact let_bd ns i
    k_steps
    rename Fr _ _ _ _ => F8
    rename News _ _ _ _ => N8
    k_here
    refine list_iaddG F8 N8 (N8 _ (.head _)).1 (fun n' => by k_upd) ?_ (fun n10 h10 tk10 F10 N10 => ?_)
    · rw [flat_len]; exact Nat.le_trans (Nat.add_le_add hol hlx8) (by decide)
    k_steps
    refine ⟨?_⟩
    rename Fr _ _ _ _ => F12
    rename News _ _ _ _ => N12
    rename_i h11 tk11 la11 h12 l12 lb11 h13 l13 lc11 h14 l14 ld11 h15 l15
    have hls12 : Heap.IsList _ ld11 #[.ref la11, .ref lb11, .ref lc11] := ⟨_, (N12 _ (.head _)).1, rfl, _, rfl⟩
    refine item3 hls12 (three (mod3 _)) (fun v hv3 => ?_)
    obtain ⟨X9, rv9, rk9, ri9, rfl, hg9, hI9, hr9, hl9⟩ : ∃ X9 rv9 rk9 ri9, v = .ref X9 ∧ h15.get? X9 = some (listOf (rv9 : List Value).toArray rk9) ∧ IntsAre rv9 ri9 ∧ ri9 = ([[2], [53], []] : List (List Int)).getD ((x.fdiv 12).fmod 3).toNat [] ∧ rv9.length ≤ 1 := by
      rcases hv3 with ⟨e, rfl⟩ | ⟨e, rfl⟩ | ⟨e, rfl⟩
      · exact ⟨_, _, _, _, rfl, (N12 (la11, _) (by k_mem)).1, .cons _ _ .nil, by rw [e]; rfl, Nat.le_refl _⟩
      · exact ⟨_, _, _, _, rfl, (N12 (lb11, _) (by k_mem)).1, .cons _ _ .nil, by rw [e]; rfl, Nat.le_refl _⟩
      · exact ⟨_, _, _, _, rfl, (N12 (lc11, _) (by k_mem)).1, .nil, by rw [e]; rfl, Nat.zero_le _⟩
    clear hv3
    k_steps
    rename Fr _ _ _ _ => F16
    rename News _ _ _ _ => N16
    refine list_iaddG F16 N16 hg9 (fun n' => by k_upd) ?_ (fun n11 h10 tk10 F10 N10 => ?_)
    · rw [List.length_append, flat_len]; exact Nat.le_trans (Nat.add_le_add (Nat.add_le_add hol hlx8) hl9) (by decide)
    k_steps
    rename Fr _ _ _ _ => F17
    rename News _ _ _ _ => N17
    refine hQ1 _ _ ?_
    refine kend (ov ++ _ ++ rv9, _, oi ++ _ ++ ri9) F17 N17 (by first | kst_in | kst_inAny) (by first | (intro p hp; kst_mem) | kst_anyIn) (AllL.cons AllL.fx) (by (try dsimp only); kst_all) (by (try dsimp only); kst_same) ⟨(hP1.append (by assumption)).append hI9, ?_⟩
    show _ = List.flatMap blk (([2, 3] ++ ns.take 3).take (i + 1))
    rw [List.take_add_one, hx, Option.toList_some, List.flatMap_append, ← hP2]
    show (oi ++ _ ++ _ : List Int) = _
    rw [List.append_assoc]
    refine congrArg (oi ++ ·) ?_
    rw [List.flatMap_cons, List.flatMap_nil, List.append_nil, blk_eq, hr9]
  · refine cur3 ?_
    intro ov ok oi u h7 tk7 hPq hal F7 N7
    try k_fold
    refine let_F F7 ?_
    clear F7
    intro m7 F7
    have hP1 := hPq.1
    have hP2 := hPq.2
    dsimp only at hP1 hP2 N7
    have hol : oi.length ≤ 1000 := by
      rw [hP2]
      exact let_bd ns _
    rw [List.take_of_length_le (by rw [List.size_toArray]; exact Nat.le_of_eq hI5.length.symm)] at hP2
    k_steps
    rename IntsAre _ (oi ++ _) => hI9
    rename Fr h₀ L _ m => F10
    rename News h₀ L _ _ => N10
    exact hret _ _ _ _ _ (by rw [hP2] at hI9; exact hI9) F10 (fun p hp => N10 p (by
      rcases List.mem_cons.mp hp with rfl | hp
      · exact .head _
      · exact .tail _ (.tail _ (.tail _ (.tail _ hp)))))

end
end
end
section
-- W_now
open PySem PySem.W PySem.Calls PySem.Spec PyProof.Rows
set_option Elab.async false
set_option maxRecDepth 100000
set_option maxHeartbeats 8000000
set_option linter.all false
section
local macro_rules | `(tactic| omega) => `(tactic| lia)
section
local macro_rules | `(tactic| walk_at "eval IfExp") => `(tactic| (refine halt_in ?_))
local macro_rules | `(tactic| walk_at "exec For Tuple Name cons nil") => `(tactic| (k_here; (rename Fr _ _ _ _ => lF'); (with_unfolding_all refine' For_turns lF' ?_; k_whole)))
noncomputable def nowN (h0 h1 : Nat) (p : Int × Int) : Int := if p.1 = 62 then p.2 / 2 ^ h0 else if p.1 = 63 then p.2 / 2 ^ h1 else p.2
noncomputable def nowB (h0 h1 : Nat) (p : Int × Int) : List Int := List.replicate (nowN h0 h1 p).toNat p.1
noncomputable def nowF (rs : List (Int × Int)) (h0 h1 : Nat) : List Int := rs.flatMap (nowB h0 h1)
theorem now_len {h0 h1 : Nat} {B : Nat} : ∀ rs : List (Int × Int), (∀ p ∈ rs, nowN h0 h1 p ≤ B) → (nowF rs h0 h1).length ≤ B * rs.length
  | [], _ => Nat.zero_le _
  | p :: r, h => by
    have ih := now_len r fun p hp => h p (.tail _ hp)
    have hp := h p (.head _)
    unfold nowF at ih ⊢
    rw [List.flatMap_cons, List.length_append, List.length_cons, Nat.mul_succ]
    have : (nowB h0 h1 p).length ≤ B := by unfold nowB; rw [List.length_replicate]; omega
    omega
theorem flat_rep2 {α : Type} (n : Nat) (v : α) : (List.replicate n [v]).flatten = List.replicate n v := by
  induction n with
  | zero => rfl
  | succ n ih => rw [List.replicate_succ, List.flatten_cons, ih]; rfl
theorem flat_len2 {α : Type} (n : Nat) (v : α) : (List.replicate n [v]).flatten.length = n := by rw [flat_rep2, List.length_replicate]
theorem tA_app2 {α : Type} (a b : List α) : a.toArray ++ b.toArray = (a ++ b).toArray := by simp
theorem ints_rep (v : Int) (t : Tok) : ∀ n : Nat, IntsAre (List.replicate n (Value.int v t)) (List.replicate n v)
  | 0 => .nil
  | n + 1 => .cons _ _ (ints_rep v t n)
theorem mem_tl2 {α : Type} {a b p : α} {l l2 : List α} (h : p ∈ a :: b :: l) : p ∈ a :: b :: (l ++ l2) := by
  rcases List.mem_cons.mp h with rfl | h
  · exact .head _
  rcases List.mem_cons.mp h with rfl | h
  · exact .tail _ (.head _)
  · exact .tail _ (.tail _ (List.mem_append_left _ h))
theorem now_ok {q : Program} {w : World} {mean : ExcName → Option Value} {mg mb : Str → Option Value} {loose : List Str} {dp un : Nat} {gd : Option (List Code)} {cn : Str} {cs : Scope} {a : Addr} {ccd : Value} {cl : List (Str × Addr)} {outer : List Env} {A₀ : Around} {base h₀ : Heap} {L : Addr} {m : Str → Option Value} {news : List (Addr × Obj)} {s : Shared}
    {Q E : Value → Shared → Prop} {R kR hl k2 : Nat} {rl : List (Addr × Obj)} {rs : List (Int × Int)} {h0 h1 : Nat} {t0 t1 : Tok}
  (B : Below A₀ base outer h₀) (F : Fr h₀ L s.heap m) (X : (Mine.hd.heap_1 w.params).In h₀) (N : News h₀ L s.heap news) (T : Top q loose mean mg mb h₀) (hk : cs.kind = .function)
  (hP : PairsAre rl rs) (hR : (R, listOf (refsOf rl).toArray kR) ∈ news) (hrl : ∀ p ∈ rl, p ∈ news) (hH : (hl, listOf #[.int (h0 : Int) t0, .int (h1 : Int) t1] k2) ∈ news) (hn : rs.length ≤ 100) (hh0 : h0 ≤ 8) (hh1 : h1 ≤ 8) (hk0 : ∀ p ∈ rs, p.1 = 62 ∨ p.1 = 63 ∨ (0 ≤ p.1 ∧ p.1 ≤ 61)) (hb : ∀ p ∈ rs, 1 ≤ nowN h0 h1 p ∧ nowN h0 h1 p ≤ 50) (hd : dp + 20 < recursionLimit) (hu : un + 100 < cLine)
  (hret : ∀ lr rv kk h' tk', IntsAre rv (nowF rs h0 h1) → Fr h₀ L h' m → News h₀ L h' ((lr, listOf rv.toArray kk) :: news) → Q (.ref lr) { s with heap := h', toks := tk' }) :
  wpAny (model (PySem.Challenge.rw_in0277_01.row.toRowW.prog) w) (ktrTop dp un gd cn cs L a ccd cl outer) (call (.ref 320) [.ref R, .ref hl]) Q E s := by
  revert X
  k_fill
  intro X
  refine wpAny_call ?_
  k_dflt (refine' code_def ?k1 ?k2 ?k3 ?k4 ?k5 ?kA ?kF ?kK ?k6 ?k7 ?k8 ?k9 ?kB ?_ ?c2 ?c3 ?c4 ?c5; (case kA => exact rfl); (case kF => exact rfl); (case kK => assumption); (case k1 => k_asm); (case k2 => k_asm); (case k3 => k_asm); (case k4 => k_asm); (case k5 => k_asm); (case k6 => k_is); (case k7 => k_is); (case k8 => ktr_room); (case k9 => exact BindsTo.of_eq rfl); (case c5 => decide); (case kB => exact locs rfl); (case c2 => exact rfl); (case c3 => exact rfl); (case c4 => exact rfl); k_whole; intro g' L' h' FG' F' N' B' X' T'; (try dsimp only); (try k_lift B'); (try k_fold); refine let_A ?_; intro A0)
  have FR : Fr g' L' h' (fun y => List.lookup y [(Str.ofString "halved", Value.ref hl), (Str.ofString "runs", Value.ref R)]) := F'
  have NN : News g' L' h' ((R, listOf (refsOf rl).toArray kR) :: (hl, listOf #[.int (h0 : Int) t0, .int (h1 : Int) t1] k2) :: news) := fun p hp => by
    rcases List.mem_cons.mp hp with rfl | hp
    · exact N' _ hR
    rcases List.mem_cons.mp hp with rfl | hp
    · exact N' _ hH
    · exact N' _ hp
  clear F' N'
  k_steps
  refine ⟨?_⟩
  rename Fr _ _ _ _ => F5
  rename News _ _ _ _ => N5
  rename_i lv h91 l91 tk92 h92
  have hneV : ∀ p ∈ (R, listOf (refsOf rl).toArray kR) :: (hl, listOf #[.int (h0 : Int) t0, .int (h1 : Int) t1] k2) :: news, p.1 ≠ lv := by k_all
  have hls : Heap.IsList _ R (refsOf rl).toArray := ⟨_, (N5 _ (.tail _ (.head _))).1, rfl, _, rfl⟩
  refine ks_listT (σ := List Value × Nat × List Int) (Str.ofString "v") (fun c => (lv, listOf c.1.toArray c.2.1) :: (R, listOf (refsOf rl).toArray kR) :: (hl, listOf #[.int (h0 : Int) t0, .int (h1 : Int) t1] k2) :: news) (fun _ => []) [Str.ofString "n"] (fun i c => IntsAre c.1 c.2.2 ∧ c.2.2 = nowF (rs.take i) h0 h1) ([], 0, []) ((R, listOf (refsOf rl).toArray kR) :: (hl, listOf #[.int (h0 : Int) t0, .int (h1 : Int) t1] k2) :: news) (fun _ h => .tail _ h) rfl hls (N5 _ (.tail _ (List.Mem.head _))).2.1 F5 N5 (AllL.cons AllL.fx) (fun _ h => nomatch h) ⟨.nil, rfl⟩ ?_ ?_
  · intro i x
    refine cur3 ?_
    intro ov ok oi u h7 tk7 own hj hv hPq hal hown F7 N7
    try k_fold
    refine let_F F7 ?_
    clear F7
    intro m7 F7
    have hP1 := hPq.1
    have hP2 := hPq.2
    dsimp only at hP1 hP2 N7 hown
    obtain ⟨a, v, n, tv, tn, ka, rfl, hx, ha⟩ := hP.get (i := i) (x := x) (by simpa using hv)
    have hT : ∀ p ∈ news ++ own, p.1 ≠ lv := by
      intro p hp
      rcases List.mem_append.mp hp with hp | hp
      · exact hneV p (.tail _ (.tail _ hp))
      · by_cases h6 : p.1 = R
        · rw [h6]; exact hneV _ (.head _)
        · exact fun e => hown p hp h6 _ (.head _) e.symm
    have hRv : @Ne Nat R lv := hneV (R, _) (.head _)
    have hHv : @Ne Nat hl lv := hneV (hl, _) (.tail _ (.head _))
    have hav : @Ne Nat a lv := hneV (a, _) (.tail _ (.tail _ (hrl _ ha)))
    have N8 : News g' L' h7 ((lv, listOf ov.toArray ok) :: (a, pairO v n tv tn ka) :: (R, listOf (refsOf rl).toArray kR) :: (hl, listOf #[.int (h0 : Int) t0, .int (h1 : Int) t1] k2) :: (news ++ own)) := fun p hp => by
      rcases List.mem_cons.mp hp with rfl | hp
      · exact N7 _ (.head _)
      rcases List.mem_cons.mp hp with rfl | hp
      · exact N7 _ (.tail _ (.tail _ (.tail _ (List.mem_append_left _ (hrl _ ha)))))
      · exact N7 _ (.tail _ hp)
    clear N7
    have hmem : (v, n) ∈ rs := List.mem_of_getElem? hx
    obtain ⟨hb1, hb2⟩ := hb _ hmem
    have hvk := hk0 _ hmem
    have hol : ov.length ≤ 5000 := by
      rw [hP1.length, hP2]
      refine Nat.le_trans (now_len (B := 50) _ fun p hp => (hb p (List.mem_of_mem_take hp)).2) ?_
      rw [List.length_take]; omega
    k_steps
    refine ⟨?_⟩
    refine cut_int (nowN h0 h1 (v, n)) ?ev (fun u9 tk9 => ?rest)
    case ev =>
      intro Q2 hQ2
      rcases hvk with rfl | rfl | ⟨hv0, hv1⟩
      · have hg0 : 0 ≤ ([(h0 : Int), (h1 : Int)].getD ((62 : Int) - 62).toNat 0) := Int.natCast_nonneg h0
        have hg1 : ([(h0 : Int), (h1 : Int)].getD ((62 : Int) - 62).toNat 0) ≤ 8 := show (h0 : Int) ≤ 8 by omega
        have hq : n.fdiv (2 ^ ([(h0 : Int), (h1 : Int)].getD ((62 : Int) - 62).toNat 0).toNat) = nowN h0 h1 (62, n) := Int.fdiv_eq_ediv_of_nonneg _ (Int.le_of_lt (kbt_pos _))
        refine PyProof.Rows.IfExp_ ?_
        k_steps
        rw [hq]
        exact hQ2 _ _
      · have hg0 : 0 ≤ ([(h0 : Int), (h1 : Int)].getD ((63 : Int) - 62).toNat 0) := Int.natCast_nonneg h1
        have hg1 : ([(h0 : Int), (h1 : Int)].getD ((63 : Int) - 62).toNat 0) ≤ 8 := show (h1 : Int) ≤ 8 by omega
        have hq : n.fdiv (2 ^ ([(h0 : Int), (h1 : Int)].getD ((63 : Int) - 62).toNat 0).toNat) = nowN h0 h1 (63, n) := Int.fdiv_eq_ediv_of_nonneg _ (Int.le_of_lt (kbt_pos _))
        refine PyProof.Rows.IfExp_ ?_
        k_steps
        rw [hq]
        exact hQ2 _ _
      · have hq : nowN h0 h1 (v, n) = n := by
          unfold nowN
          rw [if_neg (by show ¬ v = 62; have : v ≤ 61 := hv1; omega), if_neg (by show ¬ v = 63; have : v ≤ 61 := hv1; omega)]
        have hv1' : v ≤ 61 := hv1
        refine PyProof.Rows.IfExp_ ?_
        k_steps
        have hQ3 := hQ2
        rw [hq] at hQ3
        exact hQ3 _ _
    have hfin : ∀ y, nowN h0 h1 (v, n) = y → oi ++ List.replicate y.toNat v = nowF (rs.take (i + 1)) h0 h1 := fun y e => by
      unfold nowF
      rw [List.take_add_one, hx, Option.toList_some, List.flatMap_append, List.flatMap_cons, List.flatMap_nil, List.append_nil, ← e]
      exact congrArg (· ++ _) hP2
    generalize nowN h0 h1 (v, n) = y at hb1 hb2 hfin ⊢
    replace hfin := hfin y rfl
    k_steps
    rename Fr _ _ _ _ => F9
    rename News _ _ _ _ => N9
    refine list_iaddG F9 N9 (N9 _ (by k_mem)).1 (fun n' => by k_upd) ?_ (fun n10 h10 tk10 F10 N10 => ?_)
    · rw [flat_len2]; exact tn_add hb2 hol
    rw [flat_rep2] at N10
    k_steps
    rename Fr _ _ _ _ => F11
    rename News _ _ _ _ => N11
    refine kend (ov ++ List.replicate _ (Value.int v tv), n10, oi ++ List.replicate y.toNat v) F11 N11 ?_ ?_ (AllL.cons AllL.fx) (by (try dsimp only); kst_all) (by (try dsimp only); kst_same) ⟨hP1.append (ints_rep _ _ _), hfin⟩
    · intro p hp
      rcases List.mem_cons.mp hp with rfl | hp
      · exact .tail _ (.tail _ (.head _))
      · exact .tail _ (.tail _ (.tail _ (.tail _ (mem_tl2 hp))))
    · intro p hp
      exact .tail _ (.tail _ (.tail _ (.tail _ (.tail _ (.tail _ (List.mem_append_right _ hp))))))
  · refine cur3 ?_
    intro ov ok oi u h7 tk7 hPq hal F7 N7
    try k_fold
    refine let_F F7 ?_
    clear F7
    intro m7 F7
    have hP1 := hPq.1
    have hP2 := hPq.2
    dsimp only at hP1 hP2 N7
    rw [List.take_of_length_le (by rw [List.size_toArray, refsOf, List.length_map]; exact Nat.le_of_eq hP.length.symm)] at hP2
    k_steps
    rename Fr h₀ L _ m => F10
    rename News h₀ L _ _ => N10
    exact hret _ _ _ _ _ (by rw [hP2] at hP1; exact hP1) F10 (fun p hp => N10 p (by
      rcases List.mem_cons.mp hp with rfl | hp
      · exact .head _
      · exact .tail _ (.tail _ (.tail _ hp))))

end
end
end
section
-- W_octets
open PySem PySem.W PySem.Calls PySem.Spec PyProof.Rows
set_option Elab.async false
set_option maxRecDepth 100000
set_option maxHeartbeats 8000000
set_option linter.all false
section
local macro_rules | `(tactic| omega) => `(tactic| lia)
section
local macro_rules | `(tactic| kmk_nums) => `(tactic| exact kmk_run (by l_ints) (by kmk_sign) (by kmk_sign))
theorem octets_ok {q : Program} {w : World} {mean : ExcName → Option Value} {mg mb : Str → Option Value} {loose : List Str} {dp un : Nat} {gd : Option (List Code)} {cn : Str} {cs : Scope} {a : Addr} {ccd : Value} {cl : List (Str × Addr)} {outer : List Env} {A₀ : Around} {base h₀ : Heap} {L : Addr} {m : Str → Option Value} {news : List (Addr × Obj)} {s : Shared}
    {Q E : Value → Shared → Prop} {l k : Nat} {vs : List Value} {ns : List Int}
  (B : Below A₀ base outer h₀) (F : Fr h₀ L s.heap m) (X : (Mine.hd.heap_1 w.params).In h₀) (N : News h₀ L s.heap ((l, listOf vs.toArray k) :: news)) (T : Top q loose mean mg mb h₀) (hk : cs.kind = .function)
  (hi : IntsAre vs ns) (hn : ns.length < 1000) (hv : ∀ v ∈ ns, 0 ≤ v ∧ v < 64) (hd : dp + 10 < recursionLimit) (hu : un + 80 < cLine)
  (hret : ∀ t h' tk', Fr h₀ L h' m → News h₀ L h' ((l, listOf vs.toArray k) :: news) → Q (.bytes (byteArr (octPre ns ((ns.length + 3) / 4))) t) { s with heap := h', toks := tk' }) :
  wpAny (model (PySem.Challenge.rw_in0277_01.row.toRowW.prog) w) (ktrTop dp un gd cn cs L a ccd cl outer) (call (.ref 292) [.ref l]) Q E s := by
  revert X
  k_fill
  intro X
  refine wpAny_call ?_
  k_dflt cell_enter
  refine let_A ?_
  intro A0
  rename Fr _ _ _ _ => F0
  replace F0 : Fr _ _ _ (fun y => List.lookup y [(Str.ofString "values", Value.ref l)]) := F0
  k_steps
  refine ⟨?_⟩
  rename IsRange _ _ _ _ _ _ _ _ => hR
  rename Fr _ _ _ _ => F2
  rename News _ _ _ _ => N2
  rename_i FG B' X' T' lr h1 l1 tk1 h2 F1 N1 h3 tk3 t0 u0 v0 a9
  refine ks_range (σ := List Value × List Int × Nat) (fun c => (lr, listOf c.1.toArray c.2.2) :: (l, listOf vs.toArray k) :: news) (fun _ => []) [Str.ofString "number", Str.ofString "v"] (fun i c => IntsAre c.1 c.2.1 ∧ c.2.1 = octPre ns i) ([], [], 0) ((l, listOf vs.toArray k) :: news) (fun p hp => .tail _ hp) rfl hR (small4 hn) (cnt4 _) F2 N2 (AllL.cons AllL.fx) (fun _ h => nomatch h) ⟨.nil, rfl⟩ ?_ ?_
  · intro i t
    refine cur3 ?_
    intro rv ri kk u h tk own hi' hPq hal hown F3 N3
    try k_fold
    refine let_F F3 ?_
    clear F3
    intro m3 F3
    have hI1 := hPq.1
    have hI2 := hPq.2
    dsimp only at hI1 hI2 N3 hown
    k_steps
    refine ⟨?_⟩
    rename News _ _ _ _ => N4
    rename Fr _ _ _ _ => F4
    rename IntsAre _ _ => hI4
    rename_i h4 D4 ws4 h5 l15 hC5 hL5
    rw [sl4] at hI4
    have hm4 := N4.get (List.Mem.head _)
    have hls : Heap.IsList _ D4 ws4.toArray := ⟨_, hm4, rfl, _, rfl⟩
    refine ks_list (σ := Int × Tok) (fun _ => (D4, listOf ws4.toArray 0) :: ((lr, listOf rv.toArray kk) :: (l, listOf vs.toArray k) :: news ++ own)) (fun c => [(Str.ofString "number", .int c.1 c.2)]) [] (fun j c => c.1 = num4 ((((ns.drop (4 * i)).take 4)).take j)) (0, _) ((D4, listOf ws4.toArray 0) :: ((lr, listOf rv.toArray kk) :: (l, listOf vs.toArray k) :: news ++ own)) (fun _ h => h) rfl hls (N4 _ (List.Mem.head _)).2.1 F4 N4 AllL.fx (by kst_all) rfl ?_ ?_
    · intro j v
      refine cur2 ?_
      intro na nt u5 h5 tk5 own5 hj hv5 hP5 _ hown5 F5 N5
      try k_fold
      refine let_F F5 ?_
      clear F5
      intro m5 F5
      dsimp only at hP5 N5
      obtain ⟨x, tx, rfl, hx⟩ := int_at hI4 hv5
      trace "INNER"
      k_steps
      rename Fr _ _ _ _ => F6
      rename News _ _ _ _ => N6
      refine kend (_, _) F6 N6 (by first | kst_in | kst_inAny) (by first | (intro p hp; kst_mem) | kst_anyIn) AllL.fx (by kst_all) (by kst_same) ?_
      show na * 64 + x = _
      rw [hP5]
      exact (num4_next hx).symm
    · refine cur2 ?_
      intro na nt u5 h5 tk5 hP5 _ F5 N5
      try k_fold
      refine let_F F5 ?_
      clear F5
      intro m5 F5
      dsimp only at hP5 N5
      have hna : na = num4 ((ns.drop (4 * i)).take 4) := by
        rw [hP5, List.take_of_length_le]
        rw [List.size_toArray, hI4.length]
        exact Nat.le_refl _
      have hri : ri.length = 3 * i := by rw [hI2, oct_len]
      k_steps
      rename Fr _ _ _ _ => F6
      rename News _ _ _ _ => N6
      rename_i l6 h6 l16
      have hne : ∀ b ∈ own, b.1 ≠ lr := fun b hb e => hown b hb (lr, _) (.head _) e.symm
      refine W.kl_extend (its := rv.toArray) (n := kk) F6 N6 (List.Mem.head _) rfl (Nat.succ_ne_zero _) (.tail (Nat.ne_of_gt (Nat.lt_trans (l15 (lr, _) (.head _)) l16.1)) (.tail (Nat.ne_of_gt (l15 (lr, _) (.head _))) (.head fun p hp => ?_))) ?_ ?_ ?_ fun h7 F7 N7 => ?_
      · rcases List.mem_cons.mp hp with rfl | hp
        · exact Nat.ne_of_lt l1.1
        rcases List.mem_append.mp hp with hp | hp
        · exact Nat.ne_of_lt (allLt_mem l1.2 p hp)
        · exact hne p hp
      · exact room_ext (by rw [List.size_toArray, hI1.length, hri]; show 3 * i + 3 ≤ 10000; omega)
      · show rv.length ≤ sizeLine; rw [hI1.length, hri, sizeLine_eq]; omega
      · rw [List.size_toArray, hI1.length, hri]; show 3 * i + 3 ≤ _; rw [sizeLine_eq]; omega
      k_steps
      rename Fr _ _ _ _ => F8
      rename News _ _ _ _ => N8
      refine kend (_, octPre ns (i + 1), _) F8 N8 (by first | kst_in | kst_inAny) (by first | (intro p hp; kst_mem) | kst_anyIn) (AllL.cons AllL.fx) (by kst_all) (by kst_same) ⟨?_, rfl⟩
      have e3 : octPre ns (i + 1) = octPre ns i ++ oct3 na := by
        unfold octPre
        rw [List.range_succ, List.flatMap_append, hna]
        simp
      rw [e3, ← hI2]
      refine hI1.append ?_
      unfold oct3
      rw [← Int.fdiv_eq_ediv_of_nonneg na (by decide), ← Int.fdiv_eq_ediv_of_nonneg na (by decide), ← Int.fmod_eq_emod_of_nonneg _ (by decide), ← Int.fmod_eq_emod_of_nonneg _ (by decide)]
      exact .cons _ _ (.cons _ _ (.cons _ _ .nil))
  · refine cur3 ?_
    intro rv ri kk u h tk hPq hal F3 N3
    try k_fold
    refine let_F F3 ?_
    clear F3
    intro m3 F3
    have hI1 := hPq.1
    have hI2 := hPq.2
    dsimp only at hI1 hI2 N3
    have hri : ri.length = 3 * ((ns.length + 3) / 4) := by rw [hI2, oct_len]
    have hin : W.KBa.In ri := by rw [hI2]; exact oct_in hv _
    k_steps
    rw [hI2]
    rename Fr h₀ _ _ _ => F9
    rename News h₀ _ _ _ => N9
    exact hret _ _ _ F9 fun p hp => N9 p (.tail _ hp)

end
end
end
section
-- W_parts
open PySem PySem.W PySem.Calls PySem.Spec PyProof.Rows
set_option Elab.async false
set_option maxRecDepth 100000
set_option maxHeartbeats 8000000
set_option linter.all false
section
local macro_rules | `(tactic| omega) => `(tactic| lia)
section
local macro_rules | `(tactic| walk_at "eval IfExp") => `(tactic| (refine halt_in ?_))
local macro_rules | `(tactic| walk_at "exec If") => `(tactic| (refine halt_in ?_))
local macro_rules | `(tactic| walk_at "exec For Tuple Name cons nil") => `(tactic| (k_here; (rename Fr _ _ _ _ => lF'); (with_unfolding_all refine' For_turns lF' ?_; k_whole)))
local macro_rules | `(tactic| walk_at "binaryOp Mult ref int") => `(tactic| (refine halt_in ?_))
local macro_rules | `(tactic| walk_at "binaryOp Add ref ref") => `(tactic| (refine halt_in ?_))
theorem sub_cons {α : Type} {a : α} {l l' : List α} (h : a ∈ l') (t : ∀ p ∈ l, p ∈ l') : ∀ p ∈ a :: l, p ∈ l' := fun p hp => by
  rcases List.mem_cons.mp hp with rfl | hp
  · exact h
  · exact t p hp
noncomputable def chS (n : Nat) : Str := ⟨#[n]⟩
inductive PartsAre : List Value → List (Option Nat) → Prop
  | nil : PartsAre [] []
  | none {vs ps} : PartsAre vs ps → PartsAre (.none :: vs) (Option.none :: ps)
  | sign {vs ps} (c : Nat) (t : Tok) : PartsAre vs ps → PartsAre (.str (chS c) t :: vs) (some c :: ps)
theorem PartsAre.length {vs ps} (h : PartsAre vs ps) : vs.length = ps.length := by
  induction h with
  | nil => rfl
  | none _ ih => exact congrArg Nat.succ ih
  | sign _ _ _ ih => exact congrArg Nat.succ ih
theorem PartsAre.append {vs ps vs' ps'} (h : PartsAre vs ps) (h' : PartsAre vs' ps') : PartsAre (vs ++ vs') (ps ++ ps') := by
  induction h with
  | nil => exact h'
  | none _ ih => exact .none ih
  | sign c t _ ih => exact .sign c t ih
theorem parts_rep (c : Nat) (t : Tok) : ∀ n : Nat, PartsAre (List.replicate n (Value.str (chS c) t)) (List.replicate n (some c))
  | 0 => .nil
  | n + 1 => .sign c t (parts_rep c t n)
noncomputable def sgn (v : Int) : Nat := if v = 63 then 63 else if v = 2 then 67 else 49
noncomputable def partsB (h1 : Nat) (p : Int × Int) : List (Option Nat) := if p.1 = 62 then [none] else List.replicate (nowN 0 h1 p).toNat (some (sgn p.1))
noncomputable def partsF (rs : List (Int × Int)) (h1 fill : Nat) : List (Option Nat) := rs.flatMap (partsB h1) ++ List.replicate fill (some 65)
theorem parts_len {h1 : Nat} : ∀ rs : List (Int × Int), (∀ p ∈ rs, nowN 0 h1 p ≤ 50) → (rs.flatMap (partsB h1)).length ≤ 50 * rs.length
  | [], _ => Nat.zero_le _
  | p :: r, h => by
    have ih := parts_len r fun p hp => h p (.tail _ hp)
    have hp := h p (.head _)
    rw [List.flatMap_cons, List.length_append, List.length_cons, Nat.mul_succ]
    have : (partsB h1 p).length ≤ 50 := by
      unfold partsB
      split
      · exact (by decide : 1 ≤ 50)
      · rw [List.length_replicate]; omega
    omega
theorem parts_ok {q : Program} {w : World} {mean : ExcName → Option Value} {mg mb : Str → Option Value} {loose : List Str} {dp un : Nat} {gd : Option (List Code)} {cn : Str} {cs : Scope} {a : Addr} {ccd : Value} {cl : List (Str × Addr)} {outer : List Env} {A₀ : Around} {base h₀ : Heap} {L : Addr} {m : Str → Option Value} {news : List (Addr × Obj)} {s : Shared}
    {Q E : Value → Shared → Prop} {R kR hl k2 : Nat} {rl : List (Addr × Obj)} {rs : List (Int × Int)} {h0 h1 fill : Nat} {t0 t1 tf : Tok}
  (B : Below A₀ base outer h₀) (F : Fr h₀ L s.heap m) (X : (Mine.hd.heap_1 w.params).In h₀) (N : News h₀ L s.heap news) (T : Top q loose mean mg mb h₀) (hk : cs.kind = .function)
  (hP : PairsAre rl rs) (hR : (R, listOf (refsOf rl).toArray kR) ∈ news) (hrl : ∀ p ∈ rl, p ∈ news) (hH : (hl, listOf #[.int (h0 : Int) t0, .int (h1 : Int) t1] k2) ∈ news) (hn : rs.length ≤ 100) (hh0 : h0 ≤ 8) (hh1 : h1 ≤ 8) (hf : fill ≤ 100) (hk0 : ∀ p ∈ rs, p.1 = 62 ∨ p.1 = 63 ∨ p.1 = 2 ∨ p.1 = 53) (hb : ∀ p ∈ rs, 1 ≤ nowN 0 h1 p ∧ nowN 0 h1 p ≤ 50) (hd : dp + 20 < recursionLimit) (hu : un + 100 < cLine)
  (hret : ∀ lr rv kk h' tk', PartsAre rv (partsF rs h1 fill) → Fr h₀ L h' m → News h₀ L h' ((lr, listOf rv.toArray kk) :: news) → Q (.ref lr) { s with heap := h', toks := tk' }) :
  wpAny (model (PySem.Challenge.rw_in0277_01.row.toRowW.prog) w) (ktrTop dp un gd cn cs L a ccd cl outer) (call (.ref 337) [.ref R, .ref hl, .int (fill : Int) tf]) Q E s := by
  revert X
  k_fill
  intro X
  refine wpAny_call ?_
  k_dflt (refine' code_def ?k1 ?k2 ?k3 ?k4 ?k5 ?kA ?kF ?kK ?k6 ?k7 ?k8 ?k9 ?kB ?_ ?c2 ?c3 ?c4 ?c5; (case kA => exact rfl); (case kF => exact rfl); (case kK => assumption); (case k1 => k_asm); (case k2 => k_asm); (case k3 => k_asm); (case k4 => k_asm); (case k5 => k_asm); (case k6 => k_is); (case k7 => k_is); (case k8 => ktr_room); (case k9 => exact BindsTo.of_eq rfl); (case c5 => decide); (case kB => exact locs rfl); (case c2 => exact rfl); (case c3 => exact rfl); (case c4 => exact rfl); k_whole; intro g' L' h' FG' F' N' B' X' T'; (try dsimp only); (try k_lift B'); (try k_fold); refine let_A ?_; intro A0)
  have FR : Fr g' L' h' (fun y => List.lookup y [(Str.ofString "fill", Value.int fill tf), (Str.ofString "halved", Value.ref hl), (Str.ofString "runs", Value.ref R)]) := F'
  have NN : News g' L' h' ((R, listOf (refsOf rl).toArray kR) :: (hl, listOf #[.int (h0 : Int) t0, .int (h1 : Int) t1] k2) :: news) := fun p hp => by
    rcases List.mem_cons.mp hp with rfl | hp
    · exact N' _ hR
    rcases List.mem_cons.mp hp with rfl | hp
    · exact N' _ hH
    · exact N' _ hp
  clear F' N'
  k_steps
  refine ⟨?_⟩
  rename Fr _ _ _ _ => F5
  rename News _ _ _ _ => N5
  rename_i lv h91 l91 tk92 h92
  have hneV : ∀ p ∈ (R, listOf (refsOf rl).toArray kR) :: (hl, listOf #[.int (h0 : Int) t0, .int (h1 : Int) t1] k2) :: news, p.1 ≠ lv := by k_all
  have hls : Heap.IsList _ R (refsOf rl).toArray := ⟨_, (N5 _ (.tail _ (.head _))).1, rfl, _, rfl⟩
  refine ks_listT (σ := List Value × Nat × List (Option Nat)) (Str.ofString "v") (fun c => (lv, listOf c.1.toArray c.2.1) :: (R, listOf (refsOf rl).toArray kR) :: (hl, listOf #[.int (h0 : Int) t0, .int (h1 : Int) t1] k2) :: news) (fun _ => []) [Str.ofString "n"] (fun i c => PartsAre c.1 c.2.2 ∧ c.2.2 = (rs.take i).flatMap (partsB h1)) ([], 0, []) ((R, listOf (refsOf rl).toArray kR) :: (hl, listOf #[.int (h0 : Int) t0, .int (h1 : Int) t1] k2) :: news) (fun _ h => .tail _ h) rfl hls (N5 _ (.tail _ (List.Mem.head _))).2.1 F5 N5 (AllL.cons AllL.fx) (fun _ h => nomatch h) ⟨.nil, rfl⟩ ?_ ?_
  · intro i x
    refine cur3 ?_
    intro ov ok oi u h7 tk7 own hj hv hPq hal hown F7 N7
    try k_fold
    refine let_F F7 ?_
    clear F7
    intro m7 F7
    have hP1 := hPq.1
    have hP2 := hPq.2
    dsimp only at hP1 hP2 N7 hown
    obtain ⟨a, v, n, tv, tn, ka, rfl, hx, ha⟩ := hP.get (i := i) (x := x) (by simpa using hv)
    have hT : ∀ p ∈ news ++ own, p.1 ≠ lv := by
      intro p hp
      rcases List.mem_append.mp hp with hp | hp
      · exact hneV p (.tail _ (.tail _ hp))
      · by_cases h6 : p.1 = R
        · rw [h6]; exact hneV _ (.head _)
        · exact fun e => hown p hp h6 _ (.head _) e.symm
    have hRv : @Ne Nat R lv := hneV (R, _) (.head _)
    have hHv : @Ne Nat hl lv := hneV (hl, _) (.tail _ (.head _))
    have hav : @Ne Nat a lv := hneV (a, _) (.tail _ (.tail _ (hrl _ ha)))
    have N8 : News g' L' h7 ((lv, listOf ov.toArray ok) :: (a, pairO v n tv tn ka) :: (R, listOf (refsOf rl).toArray kR) :: (hl, listOf #[.int (h0 : Int) t0, .int (h1 : Int) t1] k2) :: (news ++ own)) := fun p hp => by
      rcases List.mem_cons.mp hp with rfl | hp
      · exact N7 _ (.head _)
      rcases List.mem_cons.mp hp with rfl | hp
      · exact N7 _ (.tail _ (.tail _ (.tail _ (List.mem_append_left _ (hrl _ ha)))))
      · exact N7 _ (.tail _ hp)
    clear N7
    have hmem : (v, n) ∈ rs := List.mem_of_getElem? hx
    obtain ⟨hb1, hb2⟩ := hb _ hmem
    have hvk : v = 62 ∨ v = 63 ∨ v = 2 ∨ v = 53 := hk0 _ hmem
    have hol : ov.length ≤ 5000 := by
      rw [hP1.length, hP2]
      refine Nat.le_trans (parts_len _ fun p hp => (hb p (List.mem_of_mem_take hp)).2) ?_
      rw [List.length_take]; omega
    rcases (show v = 62 ∨ (v = 63 ∨ v = 2 ∨ v = 53) from hvk) with rfl | hv3
    · k_steps
      refine ⟨?_⟩
      refine wpAny_If ?_
      k_steps
      rename Fr _ _ _ _ => F11
      rename News _ _ _ _ => N11
      rw [List.push_toArray] at N11
      refine kend (ov ++ [Value.none], ok + 1, oi ++ [none]) F11 N11 ?_ ?_ (AllL.cons AllL.fx) (by (try dsimp only); kst_all) (by (try dsimp only); kst_same) ⟨hP1.append (.none .nil), ?_⟩
      · intro p hp
        rcases List.mem_cons.mp hp with rfl | hp
        · exact .head _
        · exact .tail _ (.tail _ (mem_tl2 hp))
      · intro p hp
        exact .tail _ (.tail _ (.tail _ (.tail _ (List.mem_append_right _ hp))))
      · rw [List.take_add_one, hx, Option.toList_some, List.flatMap_append, List.flatMap_cons, List.flatMap_nil, List.append_nil]
        exact congrArg (· ++ _) hP2
    · have hne : ¬ ((v == 62) = true) := by rcases hv3 with rfl | rfl | rfl <;> decide
      k_steps
      refine ⟨?_⟩
      rename Fr _ _ _ _ => F8
      refine wpAny_If (cmp_ok (n := 6) rfl F8 rfl rfl rfl (by with_unfolding_all rfl) fun tkc => PySem.W.ite_neg hne ?_)
      k_steps
      refine ⟨?_⟩
      refine cut_str (chS (sgn v)) ?ev (fun u9 tk9 => ?_)
      case ev =>
        intro Q2 hQ2
        rcases hv3 with rfl | rfl | rfl
        · refine PyProof.Rows.IfExp_ ?_
          k_steps
          rw [show Str.ofString "?" = chS (sgn 63) from by decide]
          exact hQ2 _ _
        · refine PyProof.Rows.IfExp_ ?_
          k_steps
          refine ⟨?_⟩
          refine PyProof.Rows.IfExp_ ?_
          k_steps
          rw [show Str.ofString "C" = chS (sgn 2) from by decide]
          exact hQ2 _ _
        · refine PyProof.Rows.IfExp_ ?_
          k_steps
          refine ⟨?_⟩
          refine PyProof.Rows.IfExp_ ?_
          k_steps
          rw [show Str.ofString "1" = chS (sgn 53) from by decide]
          exact hQ2 _ _
      k_steps
      refine ⟨?_⟩
      refine cut_int (nowN 0 h1 (v, n)) ?ev2 (fun u10 tk10 => ?_)
      case ev2 =>
        intro Q2 hQ2
        rcases hv3 with rfl | rfl | rfl
        · have hg0 : 0 ≤ ([(h0 : Int), (h1 : Int)].getD (1 : Int).toNat 0) := Int.natCast_nonneg h1
          have hg1 : ([(h0 : Int), (h1 : Int)].getD (1 : Int).toNat 0) ≤ 8 := show (h1 : Int) ≤ 8 by omega
          have hq : n.fdiv (2 ^ ([(h0 : Int), (h1 : Int)].getD (1 : Int).toNat 0).toNat) = nowN 0 h1 (63, n) := Int.fdiv_eq_ediv_of_nonneg _ (Int.le_of_lt (kbt_pos _))
          refine PyProof.Rows.IfExp_ ?_
          k_steps
          rw [hq]
          exact hQ2 _ _
        · refine PyProof.Rows.IfExp_ ?_
          k_steps
          exact hQ2 _ _
        · refine PyProof.Rows.IfExp_ ?_
          k_steps
          exact hQ2 _ _
      have hfin : ∀ y, nowN 0 h1 (v, n) = y → oi ++ List.replicate y.toNat (some (sgn v)) = (rs.take (i + 1)).flatMap (partsB h1) := fun y e => by
        rw [List.take_add_one, hx, Option.toList_some, List.flatMap_append, List.flatMap_cons, List.flatMap_nil, List.append_nil, ← e, hP2]
        refine congrArg (_ ++ ·) ?_
        unfold partsB
        rw [if_neg (show ¬ v = 62 from fun e => hne (by rw [e]; rfl))]
      generalize nowN 0 h1 (v, n) = y at hb1 hb2 hfin ⊢
      replace hfin := hfin y rfl
      k_steps
      refine ⟨?_⟩
      rename Fr _ _ _ _ => F8
      rename News _ _ _ _ => N8
      refine PySem.W.KMa.mul (ws := List.replicate y.toNat (Value.str (chS (sgn v)) _)) F8 N8 ⟨_, (N8 _ (.head _)).1, rfl, _, rfl⟩ (by omega) (by omega) (tn_le hb2) (flat_rep2 _ _) (fun D9 h9 F9 N9 l9 => ?_)
      k_lt l9
      k_steps
      rename Fr _ _ _ _ => F9
      rename News _ _ _ _ => N9
      refine list_iaddG F9 N9 (N9 _ (by k_mem)).1 (fun n' => by k_upd) ?_ (fun n10 h10 tk10 F10 N10 => ?_)
      · rw [List.length_replicate]; exact tn_add hb2 hol
      k_steps
      rename Fr _ _ _ _ => F11
      rename News _ _ _ _ => N11
      refine kend (ov ++ List.replicate _ (Value.str (chS (sgn v)) _), n10, oi ++ List.replicate y.toNat (some (sgn v))) F11 N11 (sub_cons (.tail _ (.tail _ (.head _))) fun p hp => .tail _ (.tail _ (.tail _ (.tail _ (mem_tl2 hp))))) ?_ (AllL.cons AllL.fx) (by (try dsimp only); kst_all) (by (try dsimp only); kst_same) ⟨hP1.append (parts_rep _ _ _), hfin⟩
      · intro p hp
        exact .tail _ (.tail _ (.tail _ (.tail _ (.tail _ (.tail _ (List.mem_append_right _ hp))))))
  · refine cur3 ?_
    intro ov ok oi u h7 tk7 hPq hal F7 N7
    try k_fold
    refine let_F F7 ?_
    clear F7
    intro m7 F7
    have hP1 := hPq.1
    have hP2 := hPq.2
    dsimp only at hP1 hP2 N7
    rw [List.take_of_length_le (by rw [List.size_toArray, refsOf, List.length_map]; exact Nat.le_of_eq hP.length.symm)] at hP2
    have hol : ov.length ≤ 5000 := by
      rw [hP1.length, hP2]
      refine Nat.le_trans (parts_len _ fun p hp => (hb p hp).2) ?_
      omega
    k_steps
    refine ⟨?_⟩
    rename Fr _ _ _ _ => F8
    rename News _ _ _ _ => N8
    refine PySem.W.KMa.mul (ws := List.replicate fill (Value.str (chS 65) _)) F8 N8 ⟨_, (N8 _ (.head _)).1, rfl, _, rfl⟩ (by omega) (by omega) (by show 1 * fill ≤ 256; omega) (flat_rep2 _ _) (fun D9 h9 F9 N9 l9 => ?_)
    k_steps
    refine ⟨?_⟩
    rename Fr _ _ _ _ => F10
    rename News _ _ _ _ => N10
    refine PySem.W.kmk_add_lit (zs := ov ++ List.replicate fill (Value.str (chS 65) _)) F10 N10 ⟨_, (N10 _ (.tail _ (.tail _ (.head _)))).1, rfl, _, rfl⟩ ⟨_, (N10 _ (.head _)).1, rfl, _, rfl⟩ rfl (fun D11 h11 F11 N11 l11 => ?_) (by show ov.length + List.length (List.replicate fill _) ≤ sizeLine; rw [List.length_replicate, sizeLine_eq]; omega)
    k_steps
    rename Fr h₀ L _ m => F12
    rename News h₀ L _ _ => N12
    refine hret _ _ _ _ _ ?_ F12 (fun p hp => N12 p (by
      rcases List.mem_cons.mp hp with rfl | hp
      · exact .head _
      · exact .tail _ (.tail _ (.tail _ (.tail _ (.tail _ (.tail _ hp)))))))
    unfold partsF
    rw [← hP2]
    exact hP1.append (parts_rep _ _ _)

end
end
end
section
-- Comp4
open PySem PySem.W PySem.Calls PySem.Spec PyProof.Rows
set_option Elab.async false
set_option maxRecDepth 100000
set_option linter.all false
section
section
variable {prog : Program} {w : World} {A : Around} {E : Value → Shared → Prop} {s : Shared} {h₀ : Heap} {L : Addr} {m : Str → Option Value} {env : Env} {elt : Expr} {x : Str} {scope : Scope} {cl : List (Str × Addr)} {Q : Value → Shared → Prop}
theorem src_tx {l : List Nat} {t : Tok} {news : List (Addr × Obj)} (hh : A.handled = none) (F : Fr h₀ L s.heap m) (N : News h₀ L s.heap news) (ha : ∀ c ∈ l, c < 128) (hsz : l.length ≤ sizeLine)
    (R : ∀ g, LCg.CompRest prog w A h₀ L m env elt x scope cl { s with heap := g } (fun _ => True) (SignAt (tx l)) (LCg.FinE h₀ L m { s with heap := g } Q) l.length 0 [] news) :
    wpAny (model prog w) A (pyIter (.str (tx l) t)) (fun it s₂ => SrcW prog w A h₀ L m env elt x scope cl Q it s₂) E s := by
  have hc : (tx l).cps.all (· < 128) = true := by
    unfold tx
    simpa using ha
  have hz : (tx l).cps.size = l.length := by unfold tx; simp
  refine wpAny_pyIter_ascii hc ?_
  refine ⟨s.heap.objs.size, _, l.length, _, _, fun _ => True, news, rfl, hz ▸ Walks.strAscii (prog := prog) (w := w) hh s.heap.objs.size (tx l) t, hsz, fun i h st => by obtain ⟨o, e, _⟩ := st; exact ⟨o, e⟩, ?_, ⟨_, Heap.get?_push_size _ rfl, rfl, rfl⟩, fun b hb => ?_,
    F.push _, fun p hp => ⟨Heap.get?_push_of_some _ (N p hp).1, (N p hp).2⟩, Nat.ne_of_lt F.ns.lt, next_is_new F, fun p hp => Nat.ne_of_lt (Heap.lt_size (N p hp).1), trivial, R _⟩
  · intro i h h' o nw st e e' _ _ _
    obtain ⟨o', q, r⟩ := st
    rw [e] at q
    cases q
    exact ⟨o, e', r⟩
  · rw [List.mem_singleton.mp hb]
    show s.heap.objs.size < (s.heap.push _).objs.size
    rw [Heap.size_push]; exact Nat.lt_succ_self _
theorem sign_at {l : List Nat} {i : Nat} {v : Value} (h : SignAt (tx l) i v) : ∃ c, l[i]? = some c ∧ ∃ u, v = .str (chS c) u := by
  obtain ⟨c, u, hc, rfl⟩ := h
  exact ⟨c, by simpa [tx] using hc, u, rfl⟩
end
theorem all2_ints {vs : List Value} : ∀ {l : List Nat}, All2 (fun (c : Nat) v => ∃ t, v = Value.int (c : Int) t) l vs → IntsAre vs (l.map fun c : Nat => (c : Int)) := by
  intro l h
  induction h with
  | nil => exact .nil
  | cons h _ ih => obtain ⟨t, rfl⟩ := h; exact .cons _ t ih
end
end
section
-- W_pesc
open PySem PySem.W PySem.Calls PySem.Spec PyProof.Rows
set_option Elab.async false
set_option maxRecDepth 100000
set_option maxHeartbeats 8000000
set_option linter.all false
section
local macro_rules | `(tactic| omega) => `(tactic| lia)
section
local macro_rules | `(tactic| walk_at "subscriptTail") => `(tactic| ((with_reducible show wpAny _ _ (subscriptTail _ _ (Value.ref _) (Value.str _ _)) _ _ _); refine halt_in ?_))
local macro_rules | `(tactic| walk_at "subscriptTail Name Slice str ref") => `(tactic| (refine halt_in ?_))
theorem slice2 {S : List Nat} {p : Int} {a b : Nat} (h0 : 0 ≤ p) (h1 : S[p.toNat]? = some a) (h2 : S[p.toNat + 1]? = some b) : ((S.drop p.toNat).take (p + 2 - p).toNat) = [a, b] := by
  have e : (p + 2 - p).toNat = 2 := by omega
  rw [e]
  apply List.ext_getElem?
  intro i
  match i with
  | 0 => simpa [List.getElem?_take, List.getElem?_drop] using h1
  | 1 => simpa [List.getElem?_take, List.getElem?_drop] using h2
  | i + 2 => rw [List.getElem?_eq_none (by rw [List.length_take]; omega)]; rfl
theorem pesc_ok {q : Program} {w : World} {mean : ExcName → Option Value} {mg mb : Str → Option Value} {loose : List Str} {dp un : Nat} {gd : Option (List Code)} {cn : Str} {cs : Scope} {a : Addr} {ccd : Value} {cl : List (Str × Addr)} {outer : List Env} {A₀ : Around} {base h₀ : Heap} {L : Addr} {m : Str → Option Value} {news : List (Addr × Obj)} {s : Shared}
    {Q E : Value → Shared → Prop} {S : List Nat} {p : Int} {ts tp : Tok}
  (B : Below A₀ base outer h₀) (F : Fr h₀ L s.heap m) (X : (Mine.hd.heap_1 w.params).In h₀) (N : News h₀ L s.heap news) (T : Top q loose mean mg mb h₀) (hk : cs.kind = .function)
  (h0 : 0 ≤ p) (hz : S.length ≤ 10000) (h1 : S[p.toNat]? = some 92) (h2 : S[p.toNat + 1]? = some 92) (hd : dp + 40 < recursionLimit) (hu : un + 200 < cLine)
  (hret : ∀ T t t2 h' tk', Fr h₀ L h' m → News h₀ L h' ((T, {cls := .type "tuple", data := .seq #[.int (p + 2) t, .str (tx [92]) t2]}) :: news) → Q (.ref T) { s with heap := h', toks := tk' }) :
  wpAny (model (PySem.Challenge.rw_in0277_01.row.toRowW.prog) w) (ktrTop dp un gd cn cs L a ccd cl outer) (call (.ref 145) [.str (tx S) ts, .int p tp]) Q E s := by
  revert X
  k_fill
  intro X
  refine wpAny_call ?_
  k_dflt (refine' code_def ?k1 ?k2 ?k3 ?k4 ?k5 ?kA ?kF ?kK ?k6 ?k7 ?k8 ?k9 ?kB ?_ ?c2 ?c3 ?c4 ?c5; (case kA => exact rfl); (case kF => exact rfl); (case kK => assumption); (case k1 => k_asm); (case k2 => k_asm); (case k3 => k_asm); (case k4 => k_asm); (case k5 => k_asm); (case k6 => k_is); (case k7 => k_is); (case k8 => ktr_room); (case k9 => (refine' kp_binds ?kx ?ke; (case kx => k_in); (case ke => exact fun _ => rfl))); (case c5 => decide); (case kB => exact locs rfl); (case c2 => exact rfl); (case c3 => exact rfl); (case c4 => exact rfl); k_whole; intro g' L' h' FG' F' N' B' X' T'; (try dsimp only); (try k_lift B'); (try k_fold))
  rename Fr _ _ _ _ => F0
  replace F0 : Fr _ _ _ (fun y => List.lookup y [(Str.ofString "multiline", Value.bool false), (Str.ofString "pos", Value.int p tp), (Str.ofString "src", Value.str (tx S) ts)]) := F0
  k_steps
  refine ⟨?_⟩
  rename News _ _ _ _ => N0
  have hlt : p.toNat + 1 < S.length := (List.getElem?_eq_some_iff.mp h2).1
  refine slice_strN_ss (hsz := room_tx (by omega)) (s := ⟨_, _, _, _, _⟩) F0 N0 (fun h3 t3 k3 F3 N3 => ?_)
  rw [slice_tx h0 (by omega) (by omega), slice2 h0 h1 h2, show tx [92, 92] = Str.ofString "\\\\" from by decide]
  k_steps
  refine ⟨?_⟩
  rename Fr _ _ _ _ => F5
  k_dflt (refine' mp_item ?F ?X ?l0 ?l ?k ?e ?_; (case F => k_asm); (case X => k_asm); (case l0 => k_is); (case l => k_is); (case k => k_keys); (case e => k_is))
  k_steps
  rename Fr h₀ L _ m => F8
  rename News h₀ L _ _ => N8
  rw [show Str.ofString "\\" = tx [92] from by decide] at N8
  exact hret _ _ _ _ _ F8 N8

end
end
end
section
-- W_runs
open PySem PySem.W PySem.Calls PySem.Spec PyProof.Rows
set_option Elab.async false
set_option maxRecDepth 100000
set_option maxHeartbeats 8000000
set_option linter.all false
section
local macro_rules | `(tactic| omega) => `(tactic| lia)
section
local macro_rules | `(tactic| walk_at "compareOp NotEq ref ref") => `(tactic| (refine halt_in ?_))
local macro_rules | `(tactic| walk_at "subscriptTail") => `(tactic| ((with_reducible show wpAny _ _ (subscriptTail _ (Expr.UnaryOp _ _ _) (Value.ref _) (Value.int _ _)) _ _ _); refine halt_in ?_))
local macro_rules | `(tactic| walk_at "call builtin:list.append") => `(tactic| ((fail_if_success (fail_if_success (with_reducible rename _ = refsOf _ ++ [_] => hzz))); refine hold_in ?_))
theorem runs_ok {q : Program} {w : World} {mean : ExcName → Option Value} {mg mb : Str → Option Value} {loose : List Str} {dp un : Nat} {gd : Option (List Code)} {cn : Str} {cs : Scope} {a : Addr} {ccd : Value} {cl : List (Str × Addr)} {outer : List Env} {A₀ : Around} {base h₀ : Heap} {L : Addr} {m : Str → Option Value} {news : List (Addr × Obj)} {s : Shared}
    {Q E : Value → Shared → Prop} {l k : Nat} {vs : List Value} {ns : List Int}
  (B : Below A₀ base outer h₀) (F : Fr h₀ L s.heap m) (X : (Mine.hd.heap_1 w.params).In h₀) (N : News h₀ L s.heap ((l, listOf vs.toArray k) :: news)) (T : Top q loose mean mg mb h₀) (hk : cs.kind = .function)
  (hi : IntsAre vs ns) (hn : ns.length < 1000) (hd : dp + 20 < recursionLimit) (hu : un + 100 < cLine)
  (hret : ∀ R rl kk h' tk', PairsAre rl (runsF ns) → Fr h₀ L h' m → News h₀ L h' ((R, listOf (refsOf rl).toArray kk) :: (rl ++ (l, listOf vs.toArray k) :: news)) → Q (.ref R) { s with heap := h', toks := tk' }) :
  wpAny (model (PySem.Challenge.rw_in0277_01.row.toRowW.prog) w) (ktrTop dp un gd cn cs L a ccd cl outer) (call (.ref 306) [.ref l]) Q E s := by
  revert X
  k_fill
  intro X
  refine wpAny_call ?_
  k_dflt (refine' code_def ?k1 ?k2 ?k3 ?k4 ?k5 ?kA ?kF ?kK ?k6 ?k7 ?k8 ?k9 ?kB ?_ ?c2 ?c3 ?c4 ?c5; (case kA => exact rfl); (case kF => exact rfl); (case kK => assumption); (case k1 => k_asm); (case k2 => k_asm); (case k3 => k_asm); (case k4 => k_asm); (case k5 => k_asm); (case k6 => k_is); (case k7 => k_is); (case k8 => ktr_room); (case k9 => exact BindsTo.of_eq rfl); (case c5 => decide); (case kB => exact locs rfl); (case c2 => exact rfl); (case c3 => exact rfl); (case c4 => exact rfl); k_whole; intro g' L' h' FG' F' N' B' X' T'; (try dsimp only); (try k_lift B'); (try k_fold))
  rename Fr _ _ _ _ => F0
  replace F0 : Fr _ _ _ (fun y => List.lookup y [(Str.ofString "values", Value.ref l)]) := F0
  k_steps
  refine ⟨?_⟩
  rename Fr _ _ _ _ => F5
  rename News _ _ _ _ => N5
  rename_i R h1 l1a h2 tk1
  have hne0 : ∀ p ∈ (l, listOf vs.toArray k) :: news, p.1 ≠ R := by k_all
  have hls : Heap.IsList _ l vs.toArray := ⟨_, (N5 _ (.tail _ (.head _))).1, rfl, _, rfl⟩
  refine ks_list (σ := List (Addr × Obj) × List (Int × Int) × Nat) (fun c => (R, listOf (refsOf c.1.reverse).toArray c.2.2) :: (c.1 ++ (l, listOf vs.toArray k) :: news)) (fun _ => []) [] (fun i c => PairsAre c.1 c.2.1 ∧ Above R ((l, listOf vs.toArray k) :: news) c.1 ∧ c.2.1 = (ns.take i).foldl runsStep []) ([], [], 0) ((l, listOf vs.toArray k) :: news) (fun _ h => .tail _ h) rfl hls (N5 _ (.tail _ (List.Mem.head _))).2.1 F5 N5 (AllL.cons AllL.fx) (fun _ h => nomatch h) ⟨.nil, .nil, rfl⟩ ?_ ?_
  · intro i v
    refine cur3 ?_
    intro rl rs kk u h7 tk7 own hj hv hPq hal hown F7 N7
    refine gen_post (fun Q1 hQ1 E1 => ?_)
    refine let_F F7 ?_
    clear F7
    intro m7 F7
    have hP1 := hPq.1
    have hP2 := hPq.2.1
    have hP3 := hPq.2.2
    dsimp only at hP1 hP2 hP3 N7 hown
    obtain ⟨x, tx, rfl, hx⟩ := int_at hi hv
    have hneR := hP2.ne hne0
    have hoR : ∀ p ∈ own, p.1 ≠ R := fun p hp => by
      by_cases h6 : p.1 = l
      · rw [h6]; exact hne0 _ (.head _)
      · exact fun e => hown p hp h6 _ (.head _) e.symm
    have hrl : rl.length ≤ 1000 := by
      rw [hP1.length, hP3]
      refine Nat.le_trans (runs_len _ _) ?_
      rw [List.length_take]; show 0 + _ ≤ _; omega
    cases hP1 with
    | nil =>
      replace N7 : News _ _ _ ((R, listOf #[] kk) :: (l, listOf vs.toArray k) :: (news ++ own)) := N7
      have hT : ∀ p ∈ news ++ own, p.1 ≠ R := fun p hp => (List.mem_append.mp hp).elim (fun h => hne0 p (.tail _ h)) (hoR p)
      have hlR : @Ne Nat l R := hne0 (l, _) (.head _)
      k_steps
      refine ⟨?_⟩
      rename Fr _ _ _ _ => F8
      rename News _ _ _ _ => N8
      refine ne_intsK (vs := []) (us := []) ⟨_, (N8 _ (.tail _ (.head _))).1, rfl, _, rfl⟩ .nil ⟨_, (N8 _ (.head _)).1, rfl, _, rfl⟩ .nil (by ktr_units) ?_
      k_steps
      rename Fr _ _ _ _ => F9
      rename News _ _ _ _ => N9
      rename_i tk90 lp h91 l91 h92 tk92
      have hRp : R < lp := l91.2.1
      refine hQ1 _ _ ?_
      refine kend ([(lp, pairO x 1 tx tk90 0)], [(x, 1)], kk + 1) F9 N9 ?_ (by first | (intro p hp; kst_mem) | kst_anyIn) (AllL.cons (AllL.cons AllL.fx)) (by (try dsimp only); kst_all) (by (try dsimp only); kst_same) ⟨.cons _ _ _ _ _ _ .nil, .cons .nil hRp ?_, ?_⟩
      · intro p hp
        rcases List.mem_cons.mp hp with rfl | hp
        · exact .tail _ (.tail _ (.head _))
        rcases List.mem_cons.mp hp with rfl | hp
        · exact .head _
        rcases List.mem_cons.mp hp with rfl | hp
        · exact .tail _ (.tail _ (.tail _ (.head _)))
        · exact .tail _ (.tail _ (.tail _ (.tail _ (List.mem_append_left _ hp))))
      · intro p hp
        rcases List.mem_cons.mp hp with rfl | hp
        · exact l91.2.2.1
        · exact allLt_mem l91.2.2.2 p (List.mem_append_left _ hp)
      · rw [List.take_add_one, hx, Option.toList_some, List.foldl_append, ← hP3]
        rfl
    | cons a v0 n0 t0 u0 k0 hr =>
      rename_i rl rs
      cases hP2 with
      | cons hA hRa hla =>
      have eN : ∀ X : List (Addr × Obj), (R, listOf (refsOf ((a, pairO v0 n0 t0 u0 k0) :: rl).reverse).toArray kk) :: (((a, pairO v0 n0 t0 u0 k0) :: rl) ++ (l, listOf vs.toArray k) :: news) ++ X = (R, listOf (refsOf rl.reverse ++ [Value.ref a]).toArray kk) :: (a, pairO v0 n0 t0 u0 k0) :: (rl ++ (l, listOf vs.toArray k) :: (news ++ X)) := fun X => by
        simp [refsOf]
      rw [eN] at N7
      have hTR : ∀ p ∈ rl ++ (l, listOf vs.toArray k) :: (news ++ own), p.1 ≠ R := fun p hp => by
        rw [← List.cons_append, ← List.append_assoc] at hp
        exact (List.mem_append.mp hp).elim (fun h => hneR p (.tail _ h)) (hoR p)
      have hTa : ∀ p ∈ rl ++ (l, listOf vs.toArray k) :: (news ++ own), p.1 ≠ a := fun p hp => by
        rw [← List.cons_append, ← List.append_assoc] at hp
        refine (List.mem_append.mp hp).elim (fun h => Nat.ne_of_lt (hla p h)) fun h => ?_
        by_cases h6 : p.1 = l
        · rw [h6]; exact Nat.ne_of_lt (hla (l, _) (List.mem_append_right _ (.head _)))
        · exact fun e => hown p h h6 _ (.tail _ (.head _)) e.symm
      have hrl' : rl.length ≤ 1000 := Nat.le_of_succ_le hrl
      have hRa' : @LT.lt Nat _ R a := hRa
      k_steps
      refine ⟨?_⟩
      rename Fr _ _ _ _ => F8
      rename News _ _ _ _ => N8
      rename_i lE hE l1E
      obtain ⟨as8, hr8⟩ := (PairsAre.cons a v0 n0 t0 u0 k0 hr).reverse.reads N8 (fun p hp => by
        rcases List.mem_cons.mp (List.mem_reverse.mp hp) with rfl | hp
        · k_mem
        · exact .tail _ (.tail _ (.tail _ (List.mem_append_left _ hp))))
      obtain ⟨p8, r8, e8⟩ : ∃ p8 r8, ((v0, n0) :: rs).reverse = p8 :: r8 := by
        cases e : ((v0, n0) :: rs).reverse with
        | nil => exact absurd (congrArg List.length e) (by simp)
        | cons p r => exact ⟨p, r, rfl⟩
      have eR : refsOf ((a, pairO v0 n0 t0 u0 k0) :: rl).reverse = refsOf rl.reverse ++ [Value.ref a] := by simp [refsOf]
      rw [e8, eR] at hr8
      refine ne_nil_pairs ⟨_, (N8 _ (.tail _ (.head _))).1, rfl, kk, rfl⟩ hr8 ⟨_, (N8 _ (.head _)).1, rfl, _, rfl⟩ (by ktr_units) ?_
      k_steps
      refine ⟨?_⟩
      refine item_last ⟨_, (N8 _ (.tail _ (.head _))).1, rfl, kk, rfl⟩ ?_
      k_steps
      · rename_i heq tk87
        refine ⟨?_⟩
        refine item_last ⟨_, (N8 _ (.tail _ (.head _))).1, rfl, kk, rfl⟩ ?_
        k_steps
        rename Fr _ _ _ _ => F9
        rename News _ _ _ _ => N9
        rename_i t87 h87 tk88
        refine hQ1 _ _ ?_
        refine kend ((a, pairO v0 (n0 + 1) t0 (tk87 + 1 + 1 + 1 + 1) k0) :: rl, (v0, n0 + 1) :: rs, kk) F9 N9 ?_ ?_ (AllL.cons (AllL.cons (AllL.pairs AllL.fx hr))) (by (try dsimp only); kst_all) (by (try dsimp only); kst_same) ⟨.cons _ _ _ _ _ _ hr, .cons hA hRa hla, ?_⟩
        · intro p hp
          rcases List.mem_cons.mp hp with rfl | hp
          · refine .tail _ ?_
            simp only [refsOf, List.reverse_cons, List.map_append, List.map_cons, List.map_nil]
            exact .head _
          rcases List.mem_cons.mp hp with rfl | hp
          · exact .tail _ (.tail _ (.head _))
          refine .tail _ (.tail _ (.tail _ ?_))
          rw [← List.cons_append, ← List.append_assoc]
          exact List.mem_append_left _ hp
        · intro p hp
          refine .tail _ (.tail _ (.tail _ ?_))
          rw [← List.cons_append, ← List.append_assoc]
          exact List.mem_append_right _ hp
        · rw [List.take_add_one, hx, Option.toList_some, List.foldl_append, ← hP3]
          show _ = runsStep ((v0, n0) :: rs) x
          rw [show runsStep ((v0, n0) :: rs) x = if v0 = x then (v0, n0 + 1) :: rs else (x, 1) :: (v0, n0) :: rs from rfl, if_pos heq]
      · rename Fr _ _ _ _ => F9
        rename News _ _ _ _ => N9
        rename_i hneq tk89 lp h91 l91
  
        have hU : ∀ p ∈ (a, pairO v0 n0 t0 u0 k0) :: (rl ++ (l, listOf vs.toArray k) :: (news ++ own)), p.1 ≠ R := by k_all
        refine W.append_K F9 N9 (.tail (by k_ne) (.tail (Nat.ne_of_gt l1E.1) (.head hU))) (fun h92 F10 N10 => ?_) (room (by simp only [List.size_toArray, List.length_append, refsOf, List.length_map, List.length_reverse, List.length_cons, List.length_nil]; omega))
        rw [List.push_toArray] at N10
        k_steps
        rename Fr _ _ _ _ => F11
        rename News _ _ _ _ => N11
        refine hQ1 _ _ ?_
        refine kend ((lp, pairO x 1 tx tk89 0) :: (a, pairO v0 n0 t0 u0 k0) :: rl, (x, 1) :: (v0, n0) :: rs, kk + 1) F11 N11 ?_ ?_ (AllL.cons (AllL.pairs AllL.fx (.cons lp x 1 tx tk89 0 (.cons a v0 n0 t0 u0 k0 hr)))) (by (try dsimp only); kst_all) (by (try dsimp only); kst_same) ⟨.cons _ _ _ _ _ _ (.cons _ _ _ _ _ _ hr), .cons (.cons hA hRa hla) l91.2.1 ?_, ?_⟩
        · intro p hp
          rcases List.mem_cons.mp hp with rfl | hp
          · refine .tail _ (.tail _ ?_)
            simp only [refsOf, List.reverse_cons, List.map_append, List.map_cons, List.map_nil]
            exact .head _
          rcases List.mem_cons.mp hp with rfl | hp
          · exact .head _
          rcases List.mem_cons.mp hp with rfl | hp
          · exact .tail _ (.tail _ (.tail _ (.head _)))
          refine .tail _ (.tail _ (.tail _ (.tail _ ?_)))
          rw [← List.cons_append, ← List.append_assoc]
          exact List.mem_append_left _ hp
        · intro p hp
          refine .tail _ (.tail _ (.tail _ (.tail _ ?_)))
          rw [← List.cons_append, ← List.append_assoc]
          exact List.mem_append_right _ hp
        · intro p hp
          rcases List.mem_cons.mp hp with rfl | hp
          · exact l91.2.2.1
          refine allLt_mem l91.2.2.2 p ?_
          rw [← List.cons_append, ← List.append_assoc]
          exact List.mem_append_left _ hp
        · rw [List.take_add_one, hx, Option.toList_some, List.foldl_append, ← hP3]
          show _ = runsStep ((v0, n0) :: rs) x
          rw [show runsStep ((v0, n0) :: rs) x = if v0 = x then (v0, n0 + 1) :: rs else (x, 1) :: (v0, n0) :: rs from rfl, if_neg hneq]
  · refine cur3 ?_
    intro rl rs kk u h7 tk7 hPq hal F7 N7
    try k_fold
    refine let_F F7 ?_
    clear F7
    intro m7 F7
    have hP1 := hPq.1
    have hP2 := hPq.2.1
    have hP3 := hPq.2.2
    dsimp only at hP1 hP2 hP3 N7
    rw [List.take_of_length_le (by rw [List.size_toArray]; exact Nat.le_of_eq hi.length.symm)] at hP3
    k_steps
    rename Fr h₀ L _ m => F10
    rename News h₀ L _ _ => N10
    have hrev := hP1.reverse
    refine hret R rl.reverse kk _ _ (by rw [hP3] at hrev; exact hrev) F10 (fun p hp => N10 p ?_)
    rcases List.mem_cons.mp hp with rfl | hp
    · exact .head _
    · refine .tail _ ?_
      rcases List.mem_append.mp hp with hp | hp
      · exact List.mem_append_left _ (List.mem_reverse.mp hp)
      · exact List.mem_append_right _ hp

end
end
end
section
-- W_serr
open PySem PySem.W PySem.Calls PySem.Spec PyProof.Rows
set_option Elab.async false
set_option maxRecDepth 100000
set_option maxHeartbeats 8000000
set_option linter.all false
section
local macro_rules | `(tactic| omega) => `(tactic| lia)
section
theorem serr_miss {q : Program} {w : World} {mean : ExcName → Option Value} {mg mb : Str → Option Value} {loose : List Str} {dp un : Nat} {gd : Option (List Code)} {cn : Str} {cs : Scope} {a : Addr} {ccd : Value} {cl : List (Str × Addr)} {outer : List Env} {A₀ : Around} {base h₀ : Heap} {L : Addr} {m : Str → Option Value} {news : List (Addr × Obj)} {s : Shared}
    {Q E : Value → Shared → Prop} {hnd : Option Value} {S : List Nat} {p : Int} {ts tp tm : Tok}
  (B : Below A₀ base outer h₀) (F : Fr h₀ L s.heap m) (X : (Mine.hd.heap_1 w.params).In h₀) (N : News h₀ L s.heap ((168, tabObj #[]) :: news)) (T : Top q loose mean mg mb h₀) (hk : cs.kind = .function)
  (C : CodeHd h₀ 172 168) (hP : ∀ q ∈ news, q.1 ≠ 168) (h0 : 0 ≤ p) (hz : S.length ≤ 10000) (hp : p.toNat < S.length) (hS : ∀ c ∈ S, c ≠ 10) (hd : dp + 40 < recursionLimit) (hu : un + 200 < cLine)
  (hret : ∀ e t c oc vs t2 h' tk', Fr h₀ L h' m → News h₀ L h' ((e, excObj (.ref 120) (.ref t)) :: (c, oc) :: (168, tabObj #[rawInt 102, rawInt 4, .ref c]) :: news) → (∀ q ∈ (c, oc) :: (168, tabObj #[rawInt 102, rawInt 4, .ref c]) :: news, q.1 ≠ e) → (168 < c ∧ AllLt c news) → oc.data = .fields vs → vs[1]? = some (.str qnc t2) → Q (.ref e) { s with heap := h', toks := tk' }) :
  wpAny (model (PySem.Challenge.rw_in0277_01.row.toRowW.prog) w) { handled := hnd, depth := dp, frames := some (envX cn cs L a ccd cl :: outer), guards := gd, units := un } (call (.ref 173) [.str (tx S) ts, .int p tp, .str (Str.ofString "Unescaped '\\' in a string") tm]) Q E s := by
  revert X
  k_fill
  intro X
  refine wpAny_call ?_
  k_dflt (refine' code_def ?k1 ?k2 ?k3 ?k4 ?k5 ?kA ?kF ?kK ?k6 ?k7 ?k8 ?k9 ?kB ?_ ?c2 ?c3 ?c4 ?c5; (case kA => exact rfl); (case kF => exact rfl); (case kK => assumption); (case k1 => k_asm); (case k2 => k_asm); (case k3 => k_asm); (case k4 => k_asm); (case k5 => k_asm); (case k6 => k_is); (case k7 => k_is); (case k8 => ktr_room); (case k9 => exact BindsTo.of_eq rfl); (case c5 => decide); (case kB => exact locs rfl); (case c2 => exact rfl); (case c3 => exact rfl); (case c4 => exact rfl); k_whole; intro g' L' h' FG' F' N' B' X' T'; (try dsimp only); (try k_lift B'); (try k_fold))
  rename Fr _ _ _ _ => F0
  replace F0 : Fr _ _ _ (fun y => List.lookup y [(Str.ofString "msg", Value.str (Str.ofString "Unescaped '\\' in a string") tm), (Str.ofString "pos", Value.int p tp), (Str.ofString "src", Value.str (tx S) ts)]) := F0
  have C' : CodeHd g' 172 168 := C.keeps FG'.keep
  k_steps
  refine wpAny_call ?_
  (refine' code_nest ?k1 ?k2 ?k3 ?k4 ?k5 ?kA ?kF ?kK ?k6 ?k7 ?k8 ?k9 ?kB ?_ ?c2 ?c3 ?c4 ?c5; (case kA => exact rfl); (case kF => exact rfl); (case kK => exact rfl); (case k1 => k_asm); (case k2 => k_asm); (case k3 => k_asm); (case k4 => k_asm); (case k5 => k_asm); (case k6 => k_mem); (case k7 => exact codeRec_news (by k_asm) (by k_mem) (by assumption) (by assumption)); (case k8 => ktr_room); (case k9 => exact BindsTo.of_eq rfl); (case c5 => decide); (case kB => exact locs rfl); (case c2 => exact rfl); (case c3 => exact rfl); (case c4 => exact rfl); k_whole; intro g' L' h' FG' F' N' B' X' T'; (try dsimp only); (try k_lift B'); (try k_fold))
  rename Fr _ _ _ _ => F2
  replace F2 : Fr g' L' h' (fun y => List.lookup y [(Str.ofString "pos", Value.int p tp), (Str.ofString "src", Value.str (tx S) ts)]) := F2
  rename News _ _ _ _ => N2
  have N3 := fun p hp => N2 p (.tail _ hp)
  clear N2
  replace N3 : News _ _ _ _ := N3
  k_steps
  refine len_tx (by omega) (fun t3 k3 => ?_)
  have hpl : p < S.length := by omega
  k_steps
  refine count_tx (fun c hc => hS c hc) (fun t4 k4 => ?_)
  k_steps
  rename Fr _ _ _ _ => F8
  rename News _ _ _ _ => N8
  rename Top _ _ _ _ _ _ => T8
  rename Frag.In _ _ => X8
  simp only [Array.empty_append] at N8
  refine call_exc (x := Str.ofString "TOMLDecodeError") (own_of_in X8 (topRead_of T8) (by kernel_rfl) (by kernel_rfl)) PySem.F.excBase_ValueError F8 N8 (show 1 ≤ sizeLine by decide) (fun h9 e9 t9 F9 N9 n9 => ?_)
  k_steps
  rename Fr h₀ L _ m => F10
  rename News h₀ L _ _ => N10
  exact hret _ _ _ _ _ _ _ _ F10 N10 n9 (by assumption) (by assumption) (by assumption)

theorem serr_hit {q : Program} {w : World} {mean : ExcName → Option Value} {mg mb : Str → Option Value} {loose : List Str} {dp un : Nat} {gd : Option (List Code)} {cn : Str} {cs : Scope} {a : Addr} {ccd : Value} {cl : List (Str × Addr)} {outer : List Env} {A₀ : Around} {base h₀ : Heap} {L : Addr} {m : Str → Option Value} {news : List (Addr × Obj)} {s : Shared}
    {Q E : Value → Shared → Prop} {hnd : Option Value} {S : List Nat} {p : Int} {ts tp tm : Tok} {c : Addr} {oc : Obj} {vs : Array Value} {t2 : Tok}
  (B : Below A₀ base outer h₀) (F : Fr h₀ L s.heap m) (X : (Mine.hd.heap_1 w.params).In h₀) (N : News h₀ L s.heap ((c, oc) :: (168, tabObj #[rawInt 102, rawInt 4, .ref c]) :: news)) (T : Top q loose mean mg mb h₀) (hk : cs.kind = .function)
  (C : CodeHd h₀ 172 168) (hP : ∀ q ∈ news, q.1 ≠ 168) (hcd : oc.data = .fields vs) (hcv : vs[1]? = some (.str qnc t2)) (h0 : 0 ≤ p) (hz : S.length ≤ 10000) (hp : p.toNat < S.length) (hS : ∀ c ∈ S, c ≠ 10) (hd : dp + 40 < recursionLimit) (hu : un + 200 < cLine)
  (hret : ∀ e t h' tk', Fr h₀ L h' m → News h₀ L h' ((e, excObj (.ref 120) (.ref t)) :: (c, oc) :: (168, tabObj #[rawInt 102, rawInt 4, .ref c]) :: news) → (∀ q ∈ (c, oc) :: (168, tabObj #[rawInt 102, rawInt 4, .ref c]) :: news, q.1 ≠ e) → Q (.ref e) { s with heap := h', toks := tk' }) :
  wpAny (model (PySem.Challenge.rw_in0277_01.row.toRowW.prog) w) { handled := hnd, depth := dp, frames := some (envX cn cs L a ccd cl :: outer), guards := gd, units := un } (call (.ref 173) [.str (tx S) ts, .int p tp, .str (Str.ofString "Unescaped '\\' in a string") tm]) Q E s := by
  revert X
  k_fill
  intro X
  refine wpAny_call ?_
  k_dflt (refine' code_def ?k1 ?k2 ?k3 ?k4 ?k5 ?kA ?kF ?kK ?k6 ?k7 ?k8 ?k9 ?kB ?_ ?c2 ?c3 ?c4 ?c5; (case kA => exact rfl); (case kF => exact rfl); (case kK => assumption); (case k1 => k_asm); (case k2 => k_asm); (case k3 => k_asm); (case k4 => k_asm); (case k5 => k_asm); (case k6 => k_is); (case k7 => k_is); (case k8 => ktr_room); (case k9 => exact BindsTo.of_eq rfl); (case c5 => decide); (case kB => exact locs rfl); (case c2 => exact rfl); (case c3 => exact rfl); (case c4 => exact rfl); k_whole; intro g' L' h' FG' F' N' B' X' T'; (try dsimp only); (try k_lift B'); (try k_fold))
  rename Fr _ _ _ _ => F0
  replace F0 : Fr _ _ _ (fun y => List.lookup y [(Str.ofString "msg", Value.str (Str.ofString "Unescaped '\\' in a string") tm), (Str.ofString "pos", Value.int p tp), (Str.ofString "src", Value.str (tx S) ts)]) := F0
  have C' : CodeHd g' 172 168 := C.keeps FG'.keep
  replace hcv : vs[1]? = some (.str (qualnameIn (envOf (Str.ofString "suffixed_err") default L' 173 (.ref 172)) (Str.ofString "coord_repr") (Str.ofString "coord_repr")) t2) := hcv
  k_steps
  refine wpAny_call ?_
  (refine' code_nest ?k1 ?k2 ?k3 ?k4 ?k5 ?kA ?kF ?kK ?k6 ?k7 ?k8 ?k9 ?kB ?_ ?c2 ?c3 ?c4 ?c5; (case kA => exact rfl); (case kF => exact rfl); (case kK => exact rfl); (case k1 => k_asm); (case k2 => k_asm); (case k3 => k_asm); (case k4 => k_asm); (case k5 => k_asm); (case k6 => k_mem); (case k7 => exact codeRec_news (by k_asm) (by k_mem) (by assumption) (by assumption)); (case k8 => ktr_room); (case k9 => exact BindsTo.of_eq rfl); (case c5 => decide); (case kB => exact locs rfl); (case c2 => exact rfl); (case c3 => exact rfl); (case c4 => exact rfl); k_whole; intro g' L' h' FG' F' N' B' X' T'; (try dsimp only); (try k_lift B'); (try k_fold))
  rename Fr _ _ _ _ => F2
  replace F2 : Fr g' L' h' (fun y => List.lookup y [(Str.ofString "pos", Value.int p tp), (Str.ofString "src", Value.str (tx S) ts)]) := F2
  rename News _ _ _ _ => N2
  have N3 := fun p hp => N2 p (.tail _ hp)
  clear N2
  replace N3 : News _ _ _ _ := N3
  k_steps
  refine len_tx (by omega) (fun t3 k3 => ?_)
  have hpl : p < S.length := by omega
  k_steps
  refine count_tx (fun c hc => hS c hc) (fun t4 k4 => ?_)
  k_steps
  rename Fr _ _ _ _ => F8
  rename News _ _ _ _ => N8
  rename Top _ _ _ _ _ _ => T8
  rename Frag.In _ _ => X8
  simp only [Array.empty_append] at N8
  refine call_exc (x := Str.ofString "TOMLDecodeError") (own_of_in X8 (topRead_of T8) (by kernel_rfl) (by kernel_rfl)) PySem.F.excBase_ValueError F8 N8 (show 1 ≤ sizeLine by decide) (fun h9 e9 t9 F9 N9 n9 => ?_)
  k_steps
  rename Fr h₀ L _ m => F10
  rename News h₀ L _ _ => N10
  exact hret _ _ _ _ F10 N10 n9

theorem serr_ok {q : Program} {w : World} {mean : ExcName → Option Value} {mg mb : Str → Option Value} {loose : List Str} {dp un : Nat} {gd : Option (List Code)} {cn : Str} {cs : Scope} {a : Addr} {ccd : Value} {cl : List (Str × Addr)} {outer : List Env} {A₀ : Around} {base h₀ : Heap} {L : Addr} {m : Str → Option Value} {news : List (Addr × Obj)} {s : Shared}
    {Q E : Value → Shared → Prop} {hnd : Option Value} {S : List Nat} {p : Int} {ts tp tm : Tok} {tabs : List (Addr × Obj)}
  (B : Below A₀ base outer h₀) (F : Fr h₀ L s.heap m) (X : (Mine.hd.heap_1 w.params).In h₀) (N : News h₀ L s.heap (tabs ++ news)) (T : Top q loose mean mg mb h₀) (hk : cs.kind = .function)
  (C : CodeHd h₀ 172 168) (hT : TabOk tabs) (hP : ∀ q ∈ news, ∀ p ∈ tabs, q.1 ≠ p.1) (h0 : 0 ≤ p) (hz : S.length ≤ 10000) (hp : p.toNat < S.length) (hS : ∀ c ∈ S, c ≠ 10) (hd : dp + 40 < recursionLimit) (hu : un + 200 < cLine)
  (hret : ∀ e t tabs' h' tk', TabOk tabs' → (∀ q ∈ news, ∀ p ∈ tabs', q.1 ≠ p.1) → Fr h₀ L h' m → News h₀ L h' ((e, excObj (.ref 120) (.ref t)) :: (tabs' ++ news)) → (∀ q ∈ tabs' ++ news, q.1 ≠ e) → Q (.ref e) { s with heap := h', toks := tk' }) :
  wpAny (model (PySem.Challenge.rw_in0277_01.row.toRowW.prog) w) { handled := hnd, depth := dp, frames := some (envX cn cs L a ccd cl :: outer), guards := gd, units := un } (call (.ref 173) [.str (tx S) ts, .int p tp, .str (Str.ofString "Unescaped '\\' in a string") tm]) Q E s := by
  rcases hT with rfl | ⟨c, oc, vs, t2, rfl, hc, hcd, hcv⟩
  · refine serr_miss B F X N T hk C (fun q hq => hP q hq _ (.head _)) h0 hz hp hS hd hu fun e t c oc vs t2 h' tk' F' N' n' lt d1 d2 => ?_
    refine hret e t _ h' tk' (.inr ⟨c, oc, vs, t2, rfl, (fun z => absurd lt.1 (by rw [z]; exact Nat.lt_irrefl _)), d1, d2⟩) (fun q hq p hp => ?_) F' N' n'
    rcases List.mem_cons.mp hp with rfl | hp
    · exact ne_of_allLt lt.2 q hq
    · rcases List.mem_cons.mp hp with rfl | hp
      · exact hP q hq (168, tabObj #[]) (.head _)
      · cases hp
  · refine serr_hit B F X N T hk C (fun q hq => hP q hq _ (.tail _ (.head _))) hcd hcv h0 hz hp hS hd hu fun e t h' tk' F' N' n' => ?_
    exact hret e t _ h' tk' (.inr ⟨c, oc, vs, t2, rfl, hc, hcd, hcv⟩) hP F' N' n'
end
end
end
section
-- W_pescb
open PySem PySem.W PySem.Calls PySem.Spec PyProof.Rows
set_option Elab.async false
set_option maxRecDepth 100000
set_option maxHeartbeats 8000000
set_option linter.all false
section
local macro_rules | `(tactic| omega) => `(tactic| lia)
section
local macro_rules | `(tactic| walk_at "compareOp Eq str str") => `(tactic| (refine halt_in ?_))
local macro_rules | `(tactic| walk_at "subscriptTail") => `(tactic| ((with_reducible show wpAny _ _ (subscriptTail _ _ (Value.ref _) (Value.str _ _)) _ _ _); refine halt_in ?_))
local macro_rules | `(tactic| walk_at "subscriptTail Name Slice str ref") => `(tactic| (refine halt_in ?_))
theorem mem_swap {α : Type} {a x : α} {l r : List α} (h : a ∈ l ++ x :: r) : a ∈ x :: (l ++ r) := by
  simp only [List.mem_append, List.mem_cons] at h ⊢
  rcases h with h | h | h
  · exact .inr (.inl h)
  · exact .inl h
  · exact .inr (.inr h)
theorem mem_more {α : Type} {a x : α} {l r : List α} (h : a ∈ l ++ r) : a ∈ l ++ x :: r := by
  simp only [List.mem_append, List.mem_cons] at h ⊢
  rcases h with h | h
  · exact .inl h
  · exact .inr (.inr h)
noncomputable def sg5 (c : Nat) : Prop := c = 43 ∨ c = 47 ∨ c = 49 ∨ c = 65 ∨ c = 67
theorem esc_u {c : Nat} (h : sg5 c) : (tx [92, c] == Str.ofString "\\u") = false := by
  rcases h with rfl | rfl | rfl | rfl | rfl <;> decide
theorem esc_U {c : Nat} (h : sg5 c) : (tx [92, c] == Str.ofString "\\U") = false := by
  rcases h with rfl | rfl | rfl | rfl | rfl <;> decide
theorem esc_no {P : Params} {c : Nat} (h : sg5 c) : nsIn (Mine.hd.heap_1 P) 109 (tx [92, c]) = some none := by
  rcases h with rfl | rfl | rfl | rfl | rfl <;> kernel_rfl
theorem pesc_bad {q : Program} {w : World} {mean : ExcName → Option Value} {mg mb : Str → Option Value} {loose : List Str} {dp un : Nat} {gd : Option (List Code)} {cn : Str} {cs : Scope} {a : Addr} {ccd : Value} {cl : List (Str × Addr)} {outer : List Env} {A₀ : Around} {base h₀ : Heap} {L : Addr} {m : Str → Option Value} {news : List (Addr × Obj)} {s : Shared}
    {Q E : Value → Shared → Prop} {S : List Nat} {p : Int} {c : Nat} {ts tp : Tok} {tabs : List (Addr × Obj)}
  (B : Below A₀ base outer h₀) (F : Fr h₀ L s.heap m) (X : (Mine.hd.heap_1 w.params).In h₀) (N : News h₀ L s.heap (tabs ++ news)) (T : Top q loose mean mg mb h₀) (hk : cs.kind = .function)
  (C : CodeHd base 172 168) (hT : TabOk tabs) (hP : ∀ q ∈ news, ∀ p ∈ tabs, q.1 ≠ p.1) (hS : ∀ c ∈ S, c ≠ 10) (hp : p.toNat + 2 < S.length) (h0 : 0 ≤ p) (hz : S.length ≤ 10000) (h1 : S[p.toNat]? = some 92) (h2 : S[p.toNat + 1]? = some c) (hc : sg5 c) (XB : (Mine.hd.heap_1 w.params).In base) (TB : Top q loose mean mg mb base) (hd : dp + 60 < recursionLimit) (hu : un + 300 < cLine)
  (hret : ∀ e G tabs' h' tk', TabOk tabs' → (∀ q ∈ news, ∀ p ∈ tabs', q.1 ≠ p.1) → Fr h₀ L G m → RaisedSN base G (envX cn cs L a ccd cl :: outer) e (.ref 120) (tabs' ++ news) h' → G.UpToSlots h' → E (.ref e) { s with heap := h', toks := tk' }) :
  wpAny (model (PySem.Challenge.rw_in0277_01.row.toRowW.prog) w) (ktrTop dp un gd cn cs L a ccd cl outer) (call (.ref 145) [.str (tx S) ts, .int p tp]) Q E s := by
  revert X
  k_fill
  intro X
  refine wpAny_call ?_
  k_dflt (refine' code_def ?k1 ?k2 ?k3 ?k4 ?k5 ?kA ?kF ?kK ?k6 ?k7 ?k8 ?k9 ?kB ?_ ?c2 ?c3 ?c4 ?c5; (case kA => exact rfl); (case kF => exact rfl); (case kK => assumption); (case k1 => k_asm); (case k2 => k_asm); (case k3 => k_asm); (case k4 => k_asm); (case k5 => k_asm); (case k6 => k_is); (case k7 => k_is); (case k8 => ktr_room); (case k9 => (refine' kp_binds ?kx ?ke; (case kx => k_in); (case ke => exact fun _ => rfl))); (case c5 => decide); (case kB => exact locs rfl); (case c2 => exact rfl); (case c3 => exact rfl); (case c4 => exact rfl); k_whole; intro g' L' h' FG' F' N' B' X' T'; (try dsimp only); (try k_lift B'); (try k_fold); refine let_A ?_; intro A0)
  rename Fr _ _ _ _ => F0
  replace F0 : Fr _ _ _ (fun y => List.lookup y [(Str.ofString "multiline", Value.bool false), (Str.ofString "pos", Value.int p tp), (Str.ofString "src", Value.str (tx S) ts)]) := F0
  k_steps
  refine ⟨?_⟩
  rename News _ _ _ _ => N0
  have hlt : p.toNat + 1 < S.length := (List.getElem?_eq_some_iff.mp h2).1
  refine slice_strN_ss (hsz := room_tx (by omega)) (s := ⟨_, _, _, _, _⟩) F0 N0 (fun h3 t3 k3 F3 N3 => ?_)
  rw [slice_tx h0 (by omega) (by omega), slice2 h0 h1 h2]
  k_steps
  refine ⟨?_⟩
  refine PyProof.Rows.eq_str ?_
  rw [esc_u hc]
  k_steps
  refine ⟨?_⟩
  refine PyProof.Rows.eq_str ?_
  rw [esc_U hc]
  k_steps
  refine ⟨?_⟩
  rename Fr _ _ _ _ => F5
  k_dflt (refine' mp_missing ?F ?X ?l0 ?l ?k ?e ?lo ?hh ?_; (case F => k_asm); (case X => k_asm); (case l0 => k_is); (case l => k_is); (case k => k_keys); (case e => exact esc_no hc); (case lo => decide); (case hh => rfl))
  intro h6 e6 x6
  k_steps
  rename Below _ _ _ _ => B7
  rename News _ _ _ _ => N7
  rename Fr _ _ _ _ => F7
  refine caught_own (X := "KeyError") (T' := "KeyError") B7 x6 F7 N7 XB TB (by kernel_rfl) PyProof.Rows.Boot.«KeyError» (by decide) kr_isExc_KeyError kr_notTuple_KeyError (by kts_sub) (fun h7 g7 oe7 vs7 T7 F8 N8 n8 d8 d9 B8 X8 P8 => ?_)
  clear F7 N7 x6 B7 X' T' X F N
  k_steps
  refine raise_none_K (C := 120) (L := L') (hx := e6) (ox := oe7) (ws := vs7) X8 (by kernel_rfl) rfl d8 d9 ?_
  k_steps
  refine serr_ok (hnd := some (.ref e6)) (tabs := tabs) (news := (e6, oe7) :: news) B8 F8 X8 (fun q hq => N8 q (mem_swap hq)) P8 rfl (C.keeps B8.stays) hT (fun q hq p hp => ?_) (by omega) hz (by omega) hS (show dp + 1 + 40 < recursionLimit by omega) (show un + 3 + 200 < cLine by omega) (fun e9 t9 tabs9 h9 tk9 hT9 hP9 F9 N9 n9 => ?_)
  · rcases List.mem_cons.mp hq with rfl | hq
    · exact fun z => n8 p (List.mem_append_left _ hp) z.symm
    · exact hP q hq p hp
  refine ⟨e9, _, _, tabs9 ++ (e6, oe7) :: news, rfl, F9, N9, List.mem_append_right _ (.head _), n9, fun h10 tk10 F10 N10 => ?_⟩
  dsimp only
  refine leave_led (cls := .ref 120) (oe := { cls := .ref 120, data := .fields #[.ref t9, .none, .ref e6, .none, .bool true, .none] }) (fs := #[.ref t9, .none, .ref e6, .none, .bool true, .none]) (news := tabs9 ++ news) B8 F10 (fun q hq => N10 q ?_) rfl rfl rfl rfl (fun q hq => n9 q (mem_more hq)) (fun h11 R11 U11 => ?_)
  · rcases List.mem_cons.mp hq with rfl | hq
    · exact .head _
    · exact .tail _ (mem_more hq)
  exact hret e9 g' tabs9 h11 _ hT9 (fun q hq p hp => hP9 q (.tail _ hq) p hp) FG' (Mine.RaisedSN.unturn R11 T7) (upTo_unturn U11 T7)

end
end
end
section
-- W_pbs
open PySem PySem.W PySem.Calls PySem.Spec PyProof.Rows
set_option Elab.async false
set_option maxRecDepth 100000
set_option maxHeartbeats 8000000
set_option linter.all false
section
local macro_rules | `(tactic| omega) => `(tactic| lia)
section
local macro_rules | `(tactic| walk_at "exec While") => `(tactic| (refine halt_in ?_))
local macro_rules | `(tactic| walk_at "compareOp Eq str str") => `(tactic| (refine halt_in ?_))
local macro_rules | `(tactic| walk_at "subscriptTail Name Slice str ref") => `(tactic| (refine halt_in ?_))
local macro_rules | `(tactic| walk_at "inplaceOp Add str str") => `(tactic| (refine halt_in ?_))
theorem eq_q (c : Nat) : (tx [c] == Str.ofString "\"") = (c == 34) := by
  rw [show Str.ofString "\"" = tx [34] from by decide]
  by_cases h : c = 34
  · subst h; decide
  · rw [beq_eq_false_iff_ne.mpr h, beq_eq_false_iff_ne]
    intro e
    have := congrArg Str.cps e
    simp [tx] at this
    exact h this
theorem eq_bs (c : Nat) : (tx [c] == Str.ofString "\\") = (c == 92) := by
  rw [show Str.ofString "\\" = tx [92] from by decide]
  by_cases h : c = 92
  · subst h; decide
  · rw [beq_eq_false_iff_ne.mpr h, beq_eq_false_iff_ne]
    intro e
    have := congrArg Str.cps e
    simp [tx] at this
    exact h this
theorem sg_q {c : Nat} (h : sg5 c) : (c == 34) = false := by rcases h with rfl | rfl | rfl | rfl | rfl <;> rfl
theorem sg_bs {c : Nat} (h : sg5 c) : (c == 92) = false := by rcases h with rfl | rfl | rfl | rfl | rfl <;> rfl
/-- no sign of the alphabet is an illegal sign -/
noncomputable def NoCtl (prog : Program) (w : World) (h₀ : Heap) : Prop := ∀ (A : Around) (E Q : Value → Shared → Prop) (s : Shared) (c : Nat) (t : Tok) (g : Heap) (L : Addr) (m : Str → Option Value), sg5 c → (∀ b o, h₀.get? b = some o → g.get? b = some o) → Fr g L s.heap m → (∀ k, Q (.bool false) { s with toks := k }) →
  wpAny (model prog w) A (compareOp .In (.str (tx [c]) t) (.ref 89)) Q E s
theorem pbs_ok {q : Program} {w : World} {mean : ExcName → Option Value} {mg mb : Str → Option Value} {loose : List Str} {dp un : Nat} {gd : Option (List Code)} {cn : Str} {cs : Scope} {a : Addr} {ccd : Value} {cl : List (Str × Addr)} {outer : List Env} {A₀ : Around} {base h₀ : Heap} {L : Addr} {m : Str → Option Value} {news : List (Addr × Obj)} {s : Shared}
    {Q E : Value → Shared → Prop} {S Y post : List Nat} {p : Int} {ts tp : Tok} {tabs : List (Addr × Obj)}
  (B : Below A₀ base outer h₀) (F : Fr h₀ L s.heap m) (X : (Mine.hd.heap_1 w.params).In h₀) (N : News h₀ L s.heap (tabs ++ news)) (T : Top q loose mean mg mb h₀) (hk : cs.kind = .function)
  (h0 : 0 ≤ p) (hz : S.length ≤ 10000) (hat : S.drop p.toNat = Y ++ 34 :: post) (hsig : ∀ x ∈ Y, x = 92 ∨ sg5 x) (hlast : Y.getLast? ≠ some 92) (C : CodeHd base 172 168) (hT : TabOk tabs) (hP : ∀ q ∈ news, ∀ p ∈ tabs, q.1 ≠ p.1) (hS : ∀ c ∈ S, c ≠ 10) (XB : (Mine.hd.heap_1 w.params).In base) (TB : Top q loose mean mg mb base) (NC : NoCtl (PySem.Challenge.rw_in0277_01.row.toRowW.prog) w base) (hd : dp + 120 < recursionLimit) (hu : un + 500 < cLine)
  (hret : ∀ o T t t2 h' tk', unesc Y = some o → Fr h₀ L h' m → News h₀ L h' ((T, {cls := .type "tuple", data := .seq #[.int (p + Y.length + 1) t, .str (tx o) t2]}) :: (tabs ++ news)) → Q (.ref T) { s with heap := h', toks := tk' })
  (herr : unesc Y = none → ∀ e G tabs' h' tk', TabOk tabs' → (∀ q ∈ news, ∀ p ∈ tabs', q.1 ≠ p.1) → Fr h₀ L G m → RaisedSN base G (envX cn cs L a ccd cl :: outer) e (.ref 120) (tabs' ++ news) h' → G.UpToSlots h' → E (.ref e) { s with heap := h', toks := tk' }) :
  wpAny (model (PySem.Challenge.rw_in0277_01.row.toRowW.prog) w) (ktrTop dp un gd cn cs L a ccd cl outer) (call (.ref 166) [.str (tx S) ts, .int p tp] [(Str.ofString "multiline", .bool false)]) Q E s := by
  revert X
  k_fill
  intro X
  refine wpAny_call ?_
  k_dflt (refine' code_def ?k1 ?k2 ?k3 ?k4 ?k5 ?kA ?kF ?kK ?k6 ?k7 ?k8 ?k9 ?kB ?_ ?c2 ?c3 ?c4 ?c5; (case kA => exact rfl); (case kF => exact rfl); (case kK => assumption); (case k1 => k_asm); (case k2 => k_asm); (case k3 => k_asm); (case k4 => k_asm); (case k5 => k_asm); (case k6 => k_is); (case k7 => k_is); (case k8 => ktr_room); (case k9 => exact BindsTo.of_eq rfl); (case c5 => decide); (case kB => exact locs rfl); (case c2 => exact rfl); (case c3 => exact rfl); (case c4 => exact rfl); k_whole; intro g' L' h' FG' F' N' B' X' T'; (try dsimp only); (try k_lift B'); (try k_fold); refine let_A ?_; intro A0)
  rename Fr _ _ _ _ => F0
  replace F0 : Fr _ _ _ (fun y => List.lookup y [(Str.ofString "multiline", Value.bool false), (Str.ofString "pos", Value.int p tp), (Str.ofString "src", Value.str (tx S) ts)]) := F0
  k_steps
  refine ⟨?_⟩
  rename Fr _ _ _ _ => F5
  rename News _ _ _ _ => N5
  rw [show Str.ofString "" = tx [] from by decide] at F5
  refine ks_while (Str.ofString "char") (fun _ => tabs ++ news) (fun c : PS => [(Str.ofString "result", Value.str (tx c.res) c.t1), (Str.ofString "pos", Value.int c.p c.t2), (Str.ofString "start_pos", Value.int c.st c.t3)]) [Str.ofString "parsed_escape"] (PSok S Y post p sg5) (fun c => c.R.length) ⟨Y, [], p, p, _, tp, tp⟩ F5 N5 (by intro q hq; dsimp only at hq; simp only [List.mem_cons, List.not_mem_nil, or_false] at hq; rcases hq with rfl | rfl | rfl <;> rfl) ?_ ?_
  · exact { st0 := h0, stp := Int.le_refl _, at_ := hat, pos := rfl, out := by (show unesc Y = (unesc Y).map _); simp [cur], sig := hsig, last := hlast, len := Nat.zero_le _ }
  · intro c u h7 tk7 hP7 F7 N7
    k_fold
    refine let_F F7 ?_
    clear F7
    intro m7 F7
    have hlt := hP7.lt
    have hst0 := hP7.st0
    have hstp := hP7.stp
    have hp0 : 0 ≤ c.p := by omega
    have hb1 : -((tx S).length : Int) ≤ c.p := by rw [tx_len]; omega
    have hb2 : c.p < ((tx S).length : Int) := by rw [tx_len]; omega
    k_steps
    refine ⟨?_⟩
    have hcut := hP7.cut
    have hcl := hP7.curlen
    have hrl := hP7.len
    have hcl5 : c.res.length + ((S.drop c.st.toNat).take (c.p - c.st).toNat).length ≤ 100000 := Nat.le_trans (List.length_append ▸ hcl) (Nat.le_trans (Nat.le_of_lt hP7.lt) (Nat.le_trans hz (by decide)))
    rcases hR : c.R with _ | ⟨x, r⟩
    · have e0 := hP7.get 0
      rw [hR] at e0
      have hit : PySem.Txt.item (tx S) c.p = tx [34] := by unfold PySem.Txt.item; rw [item_txE hp0 e0]; rfl
      rename Fr _ _ _ _ => F9
      rw [hit] at F9 ⊢
      refine PyProof.Rows.eq_str ?_
      rw [eq_q]
      k_steps
      refine ⟨?_⟩
      rename News _ _ _ _ => N9
      rename Fr _ _ _ _ => F9
      refine slice_strN_ss (hsz := room_tx (by omega)) (s := ⟨_, _, _, _, _⟩) F9 N9 (fun h3 t3 k3 F3 N3 => ?_)
      rw [slice_tx hst0 hstp (by omega)]
      refine add_tx hcl5 (fun t4 k4 => ?_)
      k_steps
      unfold WhPost
      dsimp only
      k_steps
      rename Fr h₀ L _ m => F10
      rename News h₀ L _ _ => N10
      have hpos := hP7.pos
      rw [hR] at hpos
      have hout := hP7.out
      rw [hR, unesc_nil] at hout
      rw [show c.p + 1 = p + Y.length + 1 from by simp at hpos; omega] at N10
      exact hret (cur S c) _ _ _ _ _ (by rw [hout]; simp) F10 N10
    have e0 := hP7.get 0
    rw [hR] at e0
    have hit : PySem.Txt.item (tx S) c.p = tx [x] := by unfold PySem.Txt.item; rw [item_txE hp0 e0]; rfl
    rename Fr _ _ _ _ => F9
    rw [hit] at F9 ⊢
    refine PyProof.Rows.eq_str ?_
    rw [eq_q]
    have hx := hP7.sig x (by rw [hR]; exact .head _)
    rcases hx with rfl | hx
    · k_steps
      refine ⟨?_⟩
      refine PyProof.Rows.eq_str ?_
      rw [eq_bs]
      rcases r with _ | ⟨y, r⟩
      · exact absurd (by rw [hR]; rfl) hP7.last
      by_cases hy : y = 92
      · subst hy
        k_steps
        refine ⟨?_⟩
        rename News _ _ _ _ => N9
        rename Fr _ _ _ _ => F9
        refine slice_strN_ss (hsz := room_tx (by omega)) (s := ⟨_, _, _, _, _⟩) F9 N9 (fun h3 t3 k3 F3 N3 => ?_)
        rw [slice_tx hst0 hstp (by omega)]
        refine iadd_tx hcl5 (fun t4 k4 => ?_)
        k_steps
        rename News _ _ _ _ => N10
        rename Fr _ _ _ _ => F10
        have e1 := hP7.get 1
        rw [hR] at e1
        refine pesc_ok B' F10 X' N10 T' rfl hp0 hz e0 e1 (show dp + 1 + 40 < recursionLimit by omega) (show un + 3 + 200 < cLine by omega) (fun T5 t5 t6 h5 tk5 F11 N11 => ?_)
        k_steps
        refine ⟨?_⟩
        refine iadd_tx (a := cur S c) (b := [92]) (by show (cur S c).length + 1 ≤ _; omega) (fun t8 k8 => ?_)
        k_steps
        unfold WhPost
        dsimp only
        rename News _ _ _ _ => N12
        rename Fr _ _ _ _ => F12
        exact whend ⟨r, cur S c ++ [92], c.p + 2, c.p + 2, _, _, _⟩ (by (try dsimp only); rw [hR, List.length_cons, List.length_cons]; omega) F12 N12 (fun p hp => .tail _ hp) (by (try dsimp only); kst_all) (by (try dsimp only); kst_same) (hP7.pair hR)
      · have hsy : sg5 y := (hP7.sig y (by rw [hR]; exact .tail _ (.head _))).resolve_left hy
        k_steps
        refine ⟨?_⟩
        rename News _ _ _ _ => N9
        rename Fr _ _ _ _ => F9
        refine slice_strN_ss (hsz := room_tx (by omega)) (s := ⟨_, _, _, _, _⟩) F9 N9 (fun h3 t3 k3 F3 N3 => ?_)
        rw [slice_tx hst0 hstp (by omega)]
        refine iadd_tx hcl5 (fun t4 k4 => ?_)
        k_steps
        rename News _ _ _ _ => N10
        rename Fr _ _ _ _ => F10
        have e1 := hP7.get 1
        rw [hR] at e1
        have hbad : unesc Y = none := by rw [hP7.out, hR, un_bad r hy]; rfl
        rw [hR, List.length_cons, List.length_cons] at hcut
        refine pesc_bad (c := y) (tabs := tabs) B' F10 X' N10 T' rfl C hT hP hS (by omega) hp0 hz e0 e1 hsy XB TB (show dp + 1 + 60 < recursionLimit by omega) (show un + 3 + 300 < cLine by omega) (fun e9 G9 tabs9 h9 tk9 hT9 hP9 F11 R9 U9 => ?_)
        dsimp only
        refine leave_onSN B' F11 R9 U9 (fun h11 R11 _ U11 => ?_)
        exact herr hbad e9 g' tabs9 h11 _ hT9 hP9 FG' R11 U11
    · rw [sg_q hx]
      k_steps
      refine ⟨?_⟩
      refine PyProof.Rows.eq_str ?_
      rw [eq_bs, sg_bs hx]
      k_steps
      rename Fr _ _ _ _ => F10
      refine NC _ _ _ _ x _ _ _ _ hx (fun b o e => B'.stays b o e) F10 (fun k5 => ?_)
      k_steps
      unfold WhPost
      dsimp only
      rename News _ _ _ _ => N12
      rename Fr _ _ _ _ => F12
      have hx2 : x ≠ 92 := fun z => by have := sg_bs hx; rw [z] at this; cases this
      exact whend ⟨r, c.res, c.st, c.p + 1, c.t1, _, c.t3⟩ (by (try dsimp only); rw [hR, List.length_cons]; omega) F12 N12 (fun p hp => hp) (by (try dsimp only); kst_all) (by (try dsimp only); kst_same) (hP7.step hR hx2)

end
end
end
section
-- NoCtl
open PySem PySem.W PySem.Calls PySem.Spec PyProof.Rows
set_option Elab.async false
set_option maxRecDepth 100000
set_option linter.all false
section
theorem not89 {c : Nat} (h : sg5 c) : decide (tx [c] ∈ L89) = false := by
  rcases h with rfl | rfl | rfl | rfl | rfl <;> kernel_rfl
theorem froz_of {prog : Program} {w : World} {h : Heap} {l : List Str} {a : Addr} (x : SetAt w h a l) : FrozAt (strKind prog w) h a (fun k => decide (k ∈ l)) l.length := by
  obtain ⟨es, ep, t, ho, hl, hf⟩ := x
  refine ⟨es, ep, t, ho, hl.elems, fun k => ?_, hl.size, hf⟩
  rw [decide_eq_true_iff]
  constructor
  · intro hk
    obtain ⟨e, he, rfl⟩ := List.mem_map.mp (hl.2.mem_iff.mpr hk)
    exact ⟨e, he, (hl.is_iff he _).mpr rfl⟩
  · rintro ⟨e, he, hp⟩
    rw [(hl.is_iff he _).mp hp]
    exact hl.mem he
theorem noCtl_of {w : World} {h : Heap} (x : SetAt w h 89 L89) : NoCtl (PySem.Challenge.rw_in0277_01.row.toRowW.prog) w h := by
  intro A E Q s c t g L m hc hk F hq
  obtain ⟨es, ep, tt, ho, r⟩ := x
  refine in_froz F (froz_of ⟨es, ep, tt, hk _ _ ho, r⟩) (strKind_is _ _ _ _) rfl (by decide) ?_
  show Q (.bool (decide (tx [c] ∈ L89))) _
  rw [not89 hc]
  exact hq _
end
end
section
-- W_one
open PySem PySem.W PySem.Calls PySem.Spec PyProof.Rows
set_option Elab.async false
set_option maxRecDepth 100000
set_option maxHeartbeats 8000000
set_option linter.all false
section
local macro_rules | `(tactic| omega) => `(tactic| lia)
section
theorem one_ok {q : Program} {w : World} {mean : ExcName → Option Value} {mg mb : Str → Option Value} {loose : List Str} {dp un : Nat} {gd : Option (List Code)} {cn : Str} {cs : Scope} {a : Addr} {ccd : Value} {cl : List (Str × Addr)} {outer : List Env} {A₀ : Around} {base h₀ : Heap} {L : Addr} {m : Str → Option Value} {news : List (Addr × Obj)} {s : Shared}
    {Q E : Value → Shared → Prop} {S Y post : List Nat} {p : Int} {ts tp : Tok} {tabs : List (Addr × Obj)}
  (B : Below A₀ base outer h₀) (F : Fr h₀ L s.heap m) (X : (Mine.hd.heap_1 w.params).In h₀) (N : News h₀ L s.heap (tabs ++ news)) (T : Top q loose mean mg mb h₀) (hk : cs.kind = .function)
  (h0 : 0 ≤ p) (hz : S.length ≤ 10000) (hat : S.drop (p + 1).toNat = Y ++ 34 :: post) (hsig : ∀ x ∈ Y, x = 92 ∨ sg5 x) (hlast : Y.getLast? ≠ some 92) (C : CodeHd base 172 168) (hT : TabOk tabs) (hP : ∀ q ∈ news, ∀ p ∈ tabs, q.1 ≠ p.1) (hS : ∀ c ∈ S, c ≠ 10) (XB : (Mine.hd.heap_1 w.params).In base) (TB : Top q loose mean mg mb base) (NC : NoCtl (PySem.Challenge.rw_in0277_01.row.toRowW.prog) w base) (hd : dp + 180 < recursionLimit) (hu : un + 600 < cLine)
  (hret : ∀ o T t t2 h' tk', unesc Y = some o → Fr h₀ L h' m → News h₀ L h' ((T, {cls := .type "tuple", data := .seq #[.int (p + 1 + Y.length + 1) t, .str (tx o) t2]}) :: (tabs ++ news)) → Q (.ref T) { s with heap := h', toks := tk' })
  (herr : unesc Y = none → ∀ e G tabs' h' tk', TabOk tabs' → (∀ q ∈ news, ∀ p ∈ tabs', q.1 ≠ p.1) → Fr h₀ L G m → RaisedSN base G (envX cn cs L a ccd cl :: outer) e (.ref 120) (tabs' ++ news) h' → G.UpToSlots h' → E (.ref e) { s with heap := h', toks := tk' }) :
  wpAny (model (PySem.Challenge.rw_in0277_01.row.toRowW.prog) w) (ktrTop dp un gd cn cs L a ccd cl outer) (call (.ref 137) [.str (tx S) ts, .int p tp]) Q E s := by
  revert X
  k_fill
  intro X
  refine wpAny_call ?_
  k_dflt (refine' code_def ?k1 ?k2 ?k3 ?k4 ?k5 ?kA ?kF ?kK ?k6 ?k7 ?k8 ?k9 ?kB ?_ ?c2 ?c3 ?c4 ?c5; (case kA => exact rfl); (case kF => exact rfl); (case kK => assumption); (case k1 => k_asm); (case k2 => k_asm); (case k3 => k_asm); (case k4 => k_asm); (case k5 => k_asm); (case k6 => k_is); (case k7 => k_is); (case k8 => ktr_room); (case k9 => exact BindsTo.of_eq rfl); (case c5 => decide); (case kB => exact locs rfl); (case c2 => exact rfl); (case c3 => exact rfl); (case c4 => exact rfl); k_whole; intro g' L' h' FG' F' N' B' X' T'; (try dsimp only); (try k_lift B'); (try k_fold))
  rename Fr _ _ _ _ => F0
  replace F0 : Fr _ _ _ (fun y => List.lookup y [(Str.ofString "pos", Value.int p tp), (Str.ofString "src", Value.str (tx S) ts)]) := F0
  k_steps
  rename News _ _ _ _ => N10
  rename Fr _ _ _ _ => F10
  refine pbs_ok (Y := Y) (post := post) (tabs := tabs) B' F10 X' N10 T' rfl (by omega) hz hat hsig hlast C hT hP hS XB TB NC (show dp + 1 + 120 < recursionLimit by omega) (show un + 3 + 500 < cLine by omega) (fun o T5 t5 t6 h5 tk5 hu5 F11 N11 => ?_) (fun hb5 e9 G9 tabs9 h9 tk9 hT9 hP9 F11 R9 U9 => ?_)
  · k_steps
    rename Fr h₀ L _ m => F12
    rename News h₀ L _ _ => N12
    exact hret _ _ _ _ _ _ hu5 F12 N12
  · dsimp only
    refine leave_onSN B' F11 R9 U9 (fun h11 R11 _ U11 => ?_)
    exact herr hb5 e9 g' tabs9 h11 _ hT9 hP9 FG' R11 U11

end
end
end
section
-- W_read
open PySem PySem.W PySem.Calls PySem.Spec PyProof.Rows
set_option Elab.async false
set_option maxRecDepth 100000
set_option maxHeartbeats 8000000
set_option linter.all false
section
local macro_rules | `(tactic| omega) => `(tactic| lia)
section
local macro_rules | `(tactic| walk_at "noteFrame ref") => `(tactic| (refine halt_in ?_))
local macro_rules | `(tactic| walk_at "binaryOp Add str str") => `(tactic| (refine halt_in ?_))
local macro_rules | `(tactic| walk_at "binaryOp Mult str int") => `(tactic| (refine halt_in ?_))
theorem tx_mul3 (l : List Nat) (hl : l ≠ []) : PySem.Txt.mul (tx l) 3 = tx (l ++ (l ++ l)) := by
  have hn : ((tx l).length == 0) = false := by
    rw [tx_len, beq_eq_false_iff_ne]
    intro e
    exact hl (List.eq_nil_of_length_eq_zero e)
  unfold PySem.Txt.mul
  rw [if_neg (by decide), hn, if_neg (by decide)]
  simp [tx, List.replicate]
theorem rd_at (Y : List Nat) : (Y ++ [34] ++ (Y ++ [34] ++ (Y ++ [34]))).drop ((Y.length : Int) + 1).toNat = Y ++ 34 :: (Y ++ [34]) := by
  rw [show ((Y.length : Int) + 1).toNat = (Y ++ [34]).length from by rw [List.length_append]; simp, List.drop_left]
  simp
theorem rd_no {Y : List Nat} (h : ∀ x ∈ Y, x = 92 ∨ sg5 x) : ∀ c ∈ Y ++ [34] ++ (Y ++ [34] ++ (Y ++ [34])), c ≠ 10 := by
  have hy : ∀ x ∈ Y, x ≠ 10 := fun x hx => by
    rcases h x hx with rfl | rfl | rfl | rfl | rfl | rfl <;> decide
  intro c hc
  simp only [List.mem_append, List.mem_singleton] at hc
  rcases hc with (hc | rfl) | (hc | rfl) | (hc | rfl)
  all_goals first | exact hy _ hc | decide
theorem mul3_ok {l : List Nat} (hl : l ≠ []) (hz : l.length ≤ 10000) : MulOk (tx l) 3 := by
  refine ⟨by decide, fun _ _ => ?_, fun _ _ => ?_⟩
  · rw [tx_len]; omega
  · rw [tx_len]
    show decide (l.length * 3 > sizeLine) = false
    rw [decide_eq_false_iff_not, sizeLine_eq]
    omega
theorem read_ok {q : Program} {w : World} {mean : ExcName → Option Value} {mg mb : Str → Option Value} {loose : List Str} {dp un : Nat} {gd : Option (List Code)} {cn : Str} {cs : Scope} {a : Addr} {ccd : Value} {cl : List (Str × Addr)} {outer : List Env} {A₀ : Around} {base h₀ : Heap} {L : Addr} {m : Str → Option Value} {news : List (Addr × Obj)} {s : Shared}
    {Q E : Value → Shared → Prop} {Y : List Nat} {tY : Tok} {tabs : List (Addr × Obj)}
  (B : Below A₀ base [] h₀) (F : Fr h₀ L s.heap m) (X : (Mine.hd.heap_1 w.params).In h₀) (N : News h₀ L s.heap (tabs ++ news)) (T : Top q loose mean mg mb h₀) (hk : cs.kind = .function)
  (hz : Y.length ≤ 3000) (hsig : ∀ x ∈ Y, x = 92 ∨ sg5 x) (hlast : Y.getLast? ≠ some 92) (C : CodeHd base 172 168) (hT : TabOk tabs) (hP : ∀ q ∈ news, ∀ p ∈ tabs, q.1 ≠ p.1) (XB : (Mine.hd.heap_1 w.params).In base) (TB : Top q loose mean mg mb base) (NC : NoCtl (PySem.Challenge.rw_in0277_01.row.toRowW.prog) w base) (hd : dp + 240 < recursionLimit) (hu : un + 700 < cLine)
  (hret : ∀ o T t t2 h' tk', unesc Y = some o → Fr h₀ L h' m → News h₀ L h' ((T, {cls := .type "tuple", data := .seq #[.int (2 * Y.length + 2) t, .str (tx o) t2]}) :: (tabs ++ news)) → Q (.ref T) { s with heap := h', toks := tk' })
  (hnone : unesc Y = none → ∀ tabs' h' tk', TabOk tabs' → (∀ q ∈ news, ∀ p ∈ tabs', q.1 ≠ p.1) → Fr h₀ L h' m → News h₀ L h' (tabs' ++ news) → Q .none { s with heap := h', toks := tk' }) :
  wpAny (model (PySem.Challenge.rw_in0277_01.row.toRowW.prog) w) (ktrTop dp un gd cn cs L a ccd cl []) (call (.ref 344) [.str (tx Y) tY]) Q E s := by
  revert X
  k_fill
  intro X
  refine wpAny_call ?_
  k_dflt (refine' code_defS0X ?k1 ?k2 ?k3 ?k4 ?k5 ?kA ?kF ?kK ?k6 ?k7 ?k8 ?k9 ?kB ?_ ?c2 ?c3 ?c4 ?c5; (case kA => exact rfl); (case kF => exact rfl); (case kK => assumption); (case k1 => k_asm); (case k2 => k_asm); (case k3 => k_asm); (case k4 => k_asm); (case k5 => k_asm); (case k6 => k_is); (case k7 => k_is); (case k8 => ktr_room); (case k9 => exact BindsTo.of_eq rfl); (case kB => exact locs rfl); (case c5 => decide); (case c2 => exact rfl); (case c3 => exact rfl); (case c4 => exact rfl); k_whole; intro g' L' h' FG' F' N' B' X' T' D'; (try dsimp only); (try k_lift B'); (try k_fold))
  rename Fr _ _ _ _ => F0
  replace F0 : Fr _ _ _ (fun y => List.lookup y [(Str.ofString "text", Value.str (tx Y) tY)]) := F0
  k_steps
  refine ⟨?_⟩
  refine add_tx (b := [34]) (by show Y.length + 1 ≤ _; omega) (fun t4 k4 => ?_)
  k_steps
  have hYn : Y ++ [34] ≠ [] := by simp
  refine ⟨?_⟩
  refine PySem.SB.mul (mul3_ok hYn (by rw [List.length_append]; show Y.length + 1 ≤ _; omega)) (fun t5 k5 => ?_)
  rw [tx_mul3 _ hYn]
  k_steps
  refine len_tx (by omega) (fun t6 k6 => ?_)
  k_steps
  rename News _ _ _ _ => N10
  rename Fr _ _ _ _ => F10
  refine one_ok (Y := Y) (post := Y ++ [34]) (tabs := tabs) B' F10 X' N10 T' rfl (by omega) (by simp only [List.length_append, List.length_singleton]; omega) (rd_at Y) hsig hlast C hT hP (rd_no hsig) XB TB NC (show dp + 1 + 180 < recursionLimit by omega) (show un + 3 + 600 < cLine by omega) (fun o T5 t7 t8 h5 tk5 hu5 F11 N11 => ?_) (fun hb5 e9 G9 tabs9 h9 tk9 hT9 hP9 F11 R9 U9 => ?_)
  · rw [show (Y.length : Int) + 1 + Y.length + 1 = 2 * Y.length + 2 from by omega] at N11
    k_steps
    rename Fr h₀ L _ m => F12
    rename News h₀ L _ _ => N12
    exact hret _ _ _ _ _ _ hu5 F12 N12
  · dsimp only
    refine kts_lookSN R9 F11 B' U9 D' (fun h10 R10 U10 => ?_)
    dsimp only
    refine hit_SN0 R10 F11 B' U10 XB TB D' KtsTurn.refl (test_name (c := .ref 120) (.inl (by kernel_rfl)) (by kernel_rfl) rfl rfl (by decide)) (fun h11 g11 T11 F12 N12 B12 X12 P12 D12 => ?_)
    k_steps
    rename Fr h₀ L _ m => F13
    rename News h₀ L _ _ => N13
    exact hnone hb5 tabs9 h11 _ hT9 hP9 F13 N13

end
end
end
section
-- W_small
open PySem PySem.W PySem.Calls PySem.Spec PyProof.Rows
set_option Elab.async false
set_option maxRecDepth 100000
set_option maxHeartbeats 8000000
set_option linter.all false
section
section
theorem truth_ok {q : Program} {w : World} {mean : ExcName → Option Value} {mg mb : Str → Option Value} {loose : List Str} {dp un : Nat} {gd : Option (List Code)} {cn : Str} {cs : Scope} {a : Addr} {ccd : Value} {cl : List (Str × Addr)} {outer : List Env} {A₀ : Around} {base h₀ : Heap} {L : Addr} {m : Str → Option Value} {news : List (Addr × Obj)} {s : Shared}
    {Q E : Value → Shared → Prop} 
  (B : Below A₀ base outer h₀) (F : Fr h₀ L s.heap m) (X : (Mine.hd.heap_1 w.params).In h₀) (N : News h₀ L s.heap news) (T : Top q loose mean mg mb h₀) (hk : cs.kind = .function)
   (hd : dp + 10 < recursionLimit) (hu : un + 80 < cLine)
  (hret : ∀ h' tk', Fr h₀ L h' m → News h₀ L h' news → Q (.bool false) { s with heap := h', toks := tk' }) :
  wpAny (model (PySem.Challenge.rw_in0277_01.row.toRowW.prog) w) (ktrTop dp un gd cn cs L a ccd cl outer) (call (.ref 222) [.bool false]) Q E s := by
  revert X
  k_fill
  intro X
  refine wpAny_call ?_
  k_dflt cell_enter
  refine let_A ?_
  intro A0
  k_steps
  exact hret _ _ (by assumption) (by assumption)

theorem decdata_ok {q : Program} {w : World} {mean : ExcName → Option Value} {mg mb : Str → Option Value} {loose : List Str} {dp un : Nat} {gd : Option (List Code)} {cn : Str} {cs : Scope} {a : Addr} {ccd : Value} {cl : List (Str × Addr)} {outer : List Env} {A₀ : Around} {base h₀ : Heap} {L : Addr} {m : Str → Option Value} {news : List (Addr × Obj)} {s : Shared}
    {Q E : Value → Shared → Prop} {b : Array UInt8} {tk : Tok}
  (B : Below A₀ base outer h₀) (F : Fr h₀ L s.heap m) (X : (Mine.hd.heap_1 w.params).In h₀) (N : News h₀ L s.heap news) (T : Top q loose mean mg mb h₀) (hk : cs.kind = .function)
   (hd : dp + 10 < recursionLimit) (hu : un + 80 < cLine)
  (hret : ∀ h' tk', Fr h₀ L h' m → News h₀ L h' news → Q (.bytes b tk) { s with heap := h', toks := tk' }) :
  wpAny (model (PySem.Challenge.rw_in0277_01.row.toRowW.prog) w) (ktrTop dp un gd cn cs L a ccd cl outer) (call (.ref 188) [.bytes b tk]) Q E s := by
  revert X
  k_fill
  intro X
  refine wpAny_call ?_
  k_dflt cell_enter
  refine let_A ?_
  intro A0
  k_steps
  exact hret _ _ (by assumption) (by assumption)

end
end
end
section
-- W_a2b
open PySem PySem.W PySem.Calls PySem.Spec PyProof.Rows
set_option Elab.async false
set_option maxRecDepth 100000
set_option maxHeartbeats 8000000
set_option linter.all false
section
local macro_rules | `(tactic| omega) => `(tactic| lia)
section
/-- one sign's value v against the state (quad_pos, leftchar, out) -/
noncomputable def a2bStep (c : Int × Int × List Int) (v : Int) : Int × Int × List Int :=
  if c.1 = 0 then (1, v, c.2.2)
  else if c.1 = 1 then (2, v % 16, c.2.2 ++ [c.2.1 * 4 + v / 16])
  else if c.1 = 2 then (3, v % 4, c.2.2 ++ [c.2.1 * 16 + v / 4])
  else (0, 0, c.2.2 ++ [c.2.1 * 64 + v])
noncomputable def a2bOk (c : Int × Int × List Int) : Prop := (c.1 = 0 ∨ (c.1 = 1 ∧ c.2.1 < 64) ∨ (c.1 = 2 ∧ c.2.1 < 16) ∨ (c.1 = 3 ∧ c.2.1 < 4)) ∧ 0 ≤ c.2.1 ∧ c.2.1 < 64 ∧ W.KBa.In c.2.2
theorem in_snoc {l : List Int} {n : Int} (h : W.KBa.In l) (h0 : 0 ≤ n) (h1 : n < 256) : W.KBa.In (l ++ [n]) := fun m hm => by
  rcases List.mem_append.mp hm with hm | hm
  · exact h m hm
  · rw [List.mem_singleton.mp hm]; exact ⟨h0, h1⟩
theorem a2b_step {c : Int × Int × List Int} {v : Int} (h : a2bOk c) (h0 : 0 ≤ v) (h1 : v < 64) : a2bOk (a2bStep c v) ∧ (a2bStep c v).2.2.length ≤ c.2.2.length + 1 := by
  obtain ⟨hq, hl0, hl1, hin⟩ := h
  rcases hq with e | ⟨e, hl⟩ | ⟨e, hl⟩ | ⟨e, hl⟩
  · have es : a2bStep c v = (1, v, c.2.2) := by unfold a2bStep; rw [if_pos e]
    rw [es]
    exact ⟨⟨.inr (.inl ⟨rfl, h1⟩), h0, h1, hin⟩, Nat.le_succ _⟩
  · have es : a2bStep c v = (2, v % 16, c.2.2 ++ [c.2.1 * 4 + v / 16]) := by unfold a2bStep; rw [if_neg (by omega), if_pos e]
    rw [es]
    exact ⟨⟨.inr (.inr (.inl ⟨rfl, by show v % 16 < 16; omega⟩)), by show 0 ≤ v % 16; omega, by show v % 16 < 64; omega, in_snoc hin (by omega) (by omega)⟩, by show (_ ++ [_]).length ≤ _; rw [List.length_append]; exact Nat.le_refl _⟩
  · have es : a2bStep c v = (3, v % 4, c.2.2 ++ [c.2.1 * 16 + v / 4]) := by unfold a2bStep; rw [if_neg (by omega), if_neg (by omega), if_pos e]
    rw [es]
    exact ⟨⟨.inr (.inr (.inr ⟨rfl, by show v % 4 < 4; omega⟩)), by show 0 ≤ v % 4; omega, by show v % 4 < 64; omega, in_snoc hin (by omega) (by omega)⟩, by show (_ ++ [_]).length ≤ _; rw [List.length_append]; exact Nat.le_refl _⟩
  · have es : a2bStep c v = (0, 0, c.2.2 ++ [c.2.1 * 64 + v]) := by unfold a2bStep; rw [if_neg (by omega), if_neg (by omega), if_neg (by omega)]
    rw [es]
    exact ⟨⟨.inl rfl, Int.le_refl _, by show (0 : Int) < 64; decide, in_snoc hin (by omega) (by omega)⟩, by show (_ ++ [_]).length ≤ _; rw [List.length_append]; exact Nat.le_refl _⟩
theorem fdp {a : Int} (k : Nat) : a.fdiv (2 ^ k) = a / 2 ^ k := Int.fdiv_eq_ediv_of_nonneg a (Int.le_of_lt (W.kbt_pos k))
theorem sub_led {a : Addr × Obj} {l own : List (Addr × Obj)} : ∀ p ∈ a :: l, p ∈ a :: (l ++ own) := fun p hp => by
  rcases List.mem_cons.mp hp with rfl | hp
  · exact .head _
  · exact .tail _ (List.mem_append_left _ hp)
theorem a2b_e1 {lc v : Int} {oi : List Int} (hl : 0 ≤ lc) (h0 : 0 ≤ v) (h1 : v < 64) : (2, Builtin.bitAnd v 15, oi ++ [Builtin.bitOr (lc * 2 ^ Int.toNat 2) (v.fdiv (2 ^ Int.toNat 4))]) = List.foldl a2bStep (1, lc, oi) [v] := by
  rw [PyProof.Rows.bitAnd_m4, fdp, bor_shift (Int.toNat 2) hl (by show 0 ≤ v / 16; omega) (by show v / 16 < 4; omega)]
  rfl
theorem a2b_e2 {lc v : Int} {oi : List Int} (hl : 0 ≤ lc) (h0 : 0 ≤ v) (h1 : v < 64) : (3, Builtin.bitAnd v 3, oi ++ [Builtin.bitOr (lc * 2 ^ Int.toNat 4) (v.fdiv (2 ^ Int.toNat 2))]) = List.foldl a2bStep (2, lc, oi) [v] := by
  rw [PyProof.Rows.bitAnd_m2, fdp, bor_shift (Int.toNat 4) hl (by show 0 ≤ v / 4; omega) (by show v / 4 < 16; omega)]
  rfl
theorem a2b_e3 {lc v : Int} {oi : List Int} (hl : 0 ≤ lc) (h0 : 0 ≤ v) (h1 : v < 64) : (0, 0, oi ++ [Builtin.bitOr (lc * 2 ^ Int.toNat 6) v]) = List.foldl a2bStep (3, lc, oi) [v] := by
  rw [bor_shift (Int.toNat 6) hl h0 (by show v < 64; exact h1)]
  rfl
theorem b64val_nn {c : Int} : 0 ≤ b64val c := by
  unfold b64val
  repeat' split
  all_goals omega
theorem a2b_inv (l : List Int) : ∀ c : Int × Int × List Int, (∀ v ∈ l, 0 ≤ v ∧ v < 64) → a2bOk c → a2bOk (l.foldl a2bStep c) ∧ (l.foldl a2bStep c).2.2.length ≤ c.2.2.length + l.length := by
  induction l with
  | nil => intro c _ h; exact ⟨h, Nat.le_refl _⟩
  | cons v l ih =>
    intro c hv h
    obtain ⟨h0, h1⟩ := hv v (.head _)
    obtain ⟨s1, s2⟩ := a2b_step h h0 h1
    obtain ⟨r1, r2⟩ := ih (a2bStep c v) (fun u hu => hv u (.tail _ hu)) s1
    rw [List.foldl_cons, List.length_cons]
    exact ⟨r1, by omega⟩
noncomputable def a2bF (l : List Int) : Int × Int × List Int := l.foldl a2bStep (0, 0, [])
theorem a2b_ok0 : a2bOk (0, 0, []) := ⟨.inl rfl, Int.le_refl _, by decide, fun _ h => by cases h⟩
theorem a2b_ok {q : Program} {w : World} {mean : ExcName → Option Value} {mg mb : Str → Option Value} {loose : List Str} {dp un : Nat} {gd : Option (List Code)} {cn : Str} {cs : Scope} {a : Addr} {ccd : Value} {cl : List (Str × Addr)} {outer : List Env} {A₀ : Around} {base h₀ : Heap} {L : Addr} {m : Str → Option Value} {news : List (Addr × Obj)} {s : Shared}
    {Q E : Value → Shared → Prop} {b : Array UInt8} {tk : Tok}
  (B : Below A₀ base outer h₀) (F : Fr h₀ L s.heap m) (X : (Mine.hd.heap_1 w.params).In h₀) (N : News h₀ L s.heap news) (T : Top q loose mean mg mb h₀) (hk : cs.kind = .function)
  (hb : b.size < 1000) (hv : ∀ c ∈ W.KBw.bInts b, c ≠ 61 ∧ b64val c < 64) (hz : (a2bF ((W.KBw.bInts b).map b64val)).1 = 0) (hd : dp + 20 < recursionLimit) (hu : un + 100 < cLine)
  (hret : ∀ t h' tk', Fr h₀ L h' m → News h₀ L h' news → Q (.bytes (byteArr (a2bF ((W.KBw.bInts b).map b64val)).2.2) t) { s with heap := h', toks := tk' }) :
  wpAny (model (PySem.Challenge.rw_in0277_01.row.toRowW.prog) w) (ktrTop dp un gd cn cs L a ccd cl outer) (call (.ref 237) [.bytes b tk] [(Str.ofString "strict_mode", .bool false)]) Q E s := by
  revert X
  k_fill
  intro X
  refine wpAny_call ?_
  k_dflt (refine' code_def ?k1 ?k2 ?k3 ?k4 ?k5 ?kA ?kF ?kK ?k6 ?k7 ?k8 ?k9 ?kB ?_ ?c2 ?c3 ?c4 ?c5; (case kA => exact rfl); (case kF => exact rfl); (case kK => assumption); (case k1 => k_asm); (case k2 => k_asm); (case k3 => k_asm); (case k4 => k_asm); (case k5 => k_asm); (case k6 => k_is); (case k7 => k_is); (case k8 => ktr_room); (case k9 => exact BindsTo.of_eq rfl); (case c5 => decide); (case kB => exact locs rfl); (case c2 => exact rfl); (case c3 => exact rfl); (case c4 => exact rfl); k_whole; intro g' L' h' FG' F' N' B' X' T'; (try dsimp only); (try k_lift B'); (try k_fold); refine let_A ?_; intro A0)
  rename Fr _ _ _ _ => F0
  replace F0 : Fr _ _ _ (fun y => List.lookup y [(Str.ofString "strict_mode", Value.bool false), (Str.ofString "data", Value.bytes b tk)]) := F0
  k_steps
  refine abuf_ok B' F0 X' N' T' rfl (show dp + 1 + 10 < recursionLimit by omega) (show un + 3 + 80 < cLine by omega) fun h2 tk2 F2 N2 => ?_
  k_steps
  rename Fr _ _ _ _ => F3
  rename News _ _ _ _ => N3
  refine truth_ok B' F3 X' N3 T' rfl (show dp + 1 + 10 < recursionLimit by omega) (show un + 3 + 80 < cLine by omega) fun h4 tk4 F4 N4 => ?_
  k_steps
  refine ⟨?_⟩
  rename Fr _ _ _ _ => F5
  rename News _ _ _ _ => N5
  rename_i lo hA loL tkB hB tC tkC hC tD tkD hD tE tkE hE tF tkF hF
  refine ks_bytes (σ := (List Value × Nat) × (Int × Tok) × (Int × Tok) × Tok × (Int × Tok) × List Int) (fun c => (lo, listOf c.1.1.toArray c.1.2) :: news) (fun c => [(Str.ofString "quad_pos", .int c.2.1.1 c.2.1.2), (Str.ofString "leftchar", .int c.2.2.1.1 c.2.2.1.2), (Str.ofString "pads", .int 0 c.2.2.2.1), (Str.ofString "i", .int c.2.2.2.2.1.1 c.2.2.2.2.1.2)]) [] (fun i c => IntsAre c.1.1 c.2.2.2.2.2 ∧ (c.2.1.1, c.2.2.1.1, c.2.2.2.2.2) = (((W.KBw.bInts b).map b64val).take i).foldl a2bStep (0, 0, [])) (([], 0), (0, _), (0, _), _, (0, _), []) news (fun p hp => .tail _ hp) rfl F5 N5 (AllL.cons AllL.fx) (by kst_all) ⟨.nil, rfl⟩ ?_ ?_
  · intro i x tx
    refine curA ?_
    intro ov ok qp qt lc lt pt ii it oi u h7 tk7 own hx hx0 hx1 hPq hal hown F7 N7
    refine gen_post (fun Q1 hQ1 E1 => ?_)
    refine let_F F7 ?_
    clear F7
    intro m7 F7
    have hP1 := hPq.1
    have hP2 := hPq.2
    dsimp only at hP1 hP2 N7 hown
    have hst := a2b_inv (((W.KBw.bInts b).map b64val).take i) (0, 0, []) (fun v hm => by
      obtain ⟨c, hc, rfl⟩ := List.mem_map.mp (List.mem_of_mem_take hm)
      exact ⟨b64val_nn, (hv c hc).2⟩) a2b_ok0
    rw [← hP2] at hst
    obtain ⟨⟨hq, hl0, hl1, hin⟩, hol⟩ := hst
    dsimp only at hq hl0 hl1 hin hol
    have hoz : ov.length ≤ 5000 := by
      have h9 : (((W.KBw.bInts b).map b64val).take i).length ≤ b.size := by rw [List.length_take, List.length_map, W.KBw.ints_length]; exact Nat.min_le_right _ _
      rw [hP1.length]; show oi.length ≤ 5000; have : oi.length ≤ 0 + (((W.KBw.bInts b).map b64val).take i).length := hol; omega
    obtain ⟨hne, hvl⟩ := hv x (List.mem_of_getElem? hx)
    have hvn := b64val_nn (c := x)
    have hxm : ((W.KBw.bInts b).map b64val)[i]? = some (b64val x) := by rw [List.getElem?_map, hx]; rfl
    have hT : ∀ p ∈ news ++ own, p.1 ≠ lo := off_head (o := listOf ov.toArray ok) loL hown
    simp only [List.cons_append] at N7
    k_steps
    all_goals (try (exact absurd (by assumption) hne))
    rename Fr _ _ _ _ => F8
    rename News _ _ _ _ => N8
    have F8' : Fr g' L' _ _ := F8
    have N8' : News g' L' _ _ := N8
    refine b64v_ok B' F8' X' N8' T' rfl (show dp + 1 + 10 < recursionLimit by omega) (show un + 3 + 80 < cLine by omega) fun t9 h9 tk9 F9 N9 => ?_
    generalize hgv : b64val x = v at *
    rcases hq with e | ⟨e, hl⟩ | ⟨e, hl⟩ | ⟨e, hl⟩ <;> subst e
    · k_steps
      rename Fr _ _ _ _ => F10
      rename News _ _ _ _ => N10
      refine hQ1 _ _ ?_
      refine kend ((ov, ok), (1, _), (v, _), _, (ii + 1, _), oi) F10 N10 sub_led (fun p hp => .tail _ (List.mem_append_right _ hp)) (AllL.cons AllL.fx) (by (try dsimp only); kst_all) (by (try dsimp only); kst_same) ⟨hP1, ?_⟩
      rw [List.take_add_one, hxm, Option.toList_some, List.foldl_append, ← hP2]
      rfl
    · k_steps
      rename Fr _ _ _ _ => F10
      rename News _ _ _ _ => N10
      rw [List.push_toArray] at N10
      refine hQ1 _ _ ?_
      refine kend ((ov ++ [.int (Builtin.bitOr (lc * 2 ^ Int.toNat 2) (v.fdiv (2 ^ Int.toNat 4))) _], ok + 1), (2, _), (Builtin.bitAnd v 15, _), _, (ii + 1, _), oi ++ [Builtin.bitOr (lc * 2 ^ Int.toNat 2) (v.fdiv (2 ^ Int.toNat 4))]) F10 N10 sub_led (fun p hp => .tail _ (List.mem_append_right _ hp)) (AllL.cons AllL.fx) (by (try dsimp only); kst_all) (by (try dsimp only); kst_same) ⟨hP1.append (.cons _ _ .nil), ?_⟩
      rw [List.take_add_one, hxm, Option.toList_some, List.foldl_append, ← hP2]
      exact a2b_e1 hl0 hvn hvl
    · k_steps
      rename Fr _ _ _ _ => F10
      rename News _ _ _ _ => N10
      rw [List.push_toArray] at N10
      refine hQ1 _ _ ?_
      refine kend ((ov ++ [.int (Builtin.bitOr (lc * 2 ^ Int.toNat 4) (v.fdiv (2 ^ Int.toNat 2))) _], ok + 1), (3, _), (Builtin.bitAnd v 3, _), _, (ii + 1, _), oi ++ [Builtin.bitOr (lc * 2 ^ Int.toNat 4) (v.fdiv (2 ^ Int.toNat 2))]) F10 N10 sub_led (fun p hp => .tail _ (List.mem_append_right _ hp)) (AllL.cons AllL.fx) (by (try dsimp only); kst_all) (by (try dsimp only); kst_same) ⟨hP1.append (.cons _ _ .nil), ?_⟩
      rw [List.take_add_one, hxm, Option.toList_some, List.foldl_append, ← hP2]
      exact a2b_e2 hl0 hvn hvl
    · k_steps
      rename Fr _ _ _ _ => F10
      rename News _ _ _ _ => N10
      rw [List.push_toArray] at N10
      refine hQ1 _ _ ?_
      refine kend ((ov ++ [.int (Builtin.bitOr (lc * 2 ^ Int.toNat 6) v) _], ok + 1), (0, _), (0, _), _, (ii + 1, _), oi ++ [Builtin.bitOr (lc * 2 ^ Int.toNat 6) v]) F10 N10 sub_led (fun p hp => .tail _ (List.mem_append_right _ hp)) (AllL.cons AllL.fx) (by (try dsimp only); kst_all) (by (try dsimp only); kst_same) ⟨hP1.append (.cons _ _ .nil), ?_⟩
      rw [List.take_add_one, hxm, Option.toList_some, List.foldl_append, ← hP2]
      exact a2b_e3 hl0 hvn hvl
  · refine curA ?_
    intro ov ok qp qt lc lt pt ii it oi u h7 tk7 hPq hal F7 N7
    try k_fold
    refine let_F F7 ?_
    clear F7
    intro m7 F7
    have hP1 := hPq.1
    have hP2 := hPq.2
    dsimp only at hP1 hP2 N7
    rw [List.take_of_length_le (by rw [List.length_map, W.KBw.ints_length]; exact Nat.le_refl _)] at hP2
    have hz' : qp = 0 := (congrArg (fun c => c.1) hP2).trans hz
    subst hz'
    have hoi : oi = (a2bF ((W.KBw.bInts b).map b64val)).2.2 := congrArg (fun c => c.2.2) hP2
    have hall := a2b_inv ((W.KBw.bInts b).map b64val) (0, 0, []) (fun v hm => by
      obtain ⟨c, hc, rfl⟩ := List.mem_map.mp hm
      exact ⟨b64val_nn, (hv c hc).2⟩) a2b_ok0
    have hin : W.KBa.In oi := by rw [hoi]; exact hall.1.2.2.2
    have hlen : oi.length ≤ 5000 := by
      have h5 := hall.2
      rw [List.length_map, W.KBw.ints_length] at h5
      rw [hoi]; exact Nat.le_trans h5 (by show 0 + b.size ≤ 5000; omega)
    k_steps
    all_goals (first | (rename _ = (1 : Int) => e; exact absurd (show (0 : Int) = 1 from e) (by decide)) | (rename _ ≠ (0 : Int) => e; exact absurd rfl e) | skip)
    rename Fr h₀ L _ m => F8
    rename News h₀ L _ _ => N8
    exact (congrArg (fun o => Q (.bytes (byteArr o) _) _) hoi).mpr (hret _ _ _ F8 (fun p hp => N8 p (.tail _ hp)))

end
end
end
section
-- W_b2a
open PySem PySem.W PySem.Calls PySem.Spec PyProof.Rows
set_option Elab.async false
set_option maxRecDepth 100000
set_option maxHeartbeats 8000000
set_option linter.all false
section
local macro_rules | `(tactic| omega) => `(tactic| lia)
section
local macro_rules | `(tactic| walk_at "subscriptTail Name BinOp bytes int") => `(tactic| (refine halt_in ?_))
local macro_rules | `(tactic| walk_at "exec While") => `(tactic| (k_here; k_dflt (refine whl_start 100 ?_)))
local macro_rules | `(tactic| walk_at "call builtin:list.append") => `(tactic| (refine hold_in ?_))
noncomputable def b64ks : List Int := W.KBw.bInts #[65, 66, 67, 68, 69, 70, 71, 72, 73, 74, 75, 76, 77, 78, 79, 80, 81, 82, 83, 84, 85, 86, 87, 88, 89, 90, 97, 98, 99, 100, 101, 102, 103, 104, 105, 106, 107, 108, 109, 110, 111, 112, 113, 114, 115, 116, 117, 118, 119, 120, 121, 122, 48, 49, 50, 51, 52, 53, 54, 55, 56, 57, 43, 47]
noncomputable def b64c (v : Int) : Int := b64ks.getD v.toNat 0
noncomputable def b2aStep (c : Int × Int × List Int) (x : Int) : Int × Int × List Int :=
  let lc := (c.1 * 256 + x) % 65536
  if c.2.1 = 0 then (lc, 2, c.2.2 ++ [b64c (lc / 4 % 64)])
  else if c.2.1 = 2 then (lc, 4, c.2.2 ++ [b64c (lc / 16 % 64)])
  else (lc, 0, (c.2.2 ++ [b64c (lc / 64 % 64)]) ++ [b64c (lc % 64)])
theorem b2a_inv (l : List Int) : ∀ c : Int × Int × List Int, (c.2.1 = 0 ∨ c.2.1 = 2 ∨ c.2.1 = 4) → 0 ≤ c.1 → c.1 < 65536 → ((l.foldl b2aStep c).2.1 = 0 ∨ (l.foldl b2aStep c).2.1 = 2 ∨ (l.foldl b2aStep c).2.1 = 4) ∧ 0 ≤ (l.foldl b2aStep c).1 ∧ (l.foldl b2aStep c).1 < 65536 ∧ (l.foldl b2aStep c).2.2.length ≤ c.2.2.length + 2 * l.length := by
  induction l with
  | nil => intro c h h0 h1; exact ⟨h, h0, h1, Nat.le_refl _⟩
  | cons x l ih =>
    intro c h h0 _
    rw [List.foldl_cons]
    have hs : ((b2aStep c x).2.1 = 0 ∨ (b2aStep c x).2.1 = 2 ∨ (b2aStep c x).2.1 = 4) ∧ 0 ≤ (b2aStep c x).1 ∧ (b2aStep c x).1 < 65536 ∧ (b2aStep c x).2.2.length ≤ c.2.2.length + 2 := by
      have h9 : 0 ≤ (c.1 * 256 + x) % 65536 := Int.emod_nonneg _ (by decide)
      have h8 : (c.1 * 256 + x) % 65536 < 65536 := Int.emod_lt_of_pos _ (by decide)
      unfold b2aStep
      rcases h with h | h | h <;> rw [h] <;> simp <;> omega
    obtain ⟨a, b, b', d⟩ := ih _ hs.1 hs.2.1 hs.2.2.1
    refine ⟨a, b, b', ?_⟩
    rw [List.length_cons]
    omega
theorem lc_eq {lc x : Int} (h : 0 ≤ lc) (h0 : 0 ≤ x) (h1 : x < 256) : Builtin.bitAnd (Builtin.bitOr (lc * 2 ^ Int.toNat 8) x) 65535 = (lc * 256 + x) % 65536 := by
  rw [PyProof.Rows.bitAnd_m16, bor_shift (Int.toNat 8) h h0 (by exact h1)]
  rfl
theorem fd {a b : Int} (h : 0 ≤ b) : a.fdiv b = a / b := Int.fdiv_eq_ediv_of_nonneg a h
theorem b2a_P0 {lc x : Int} {oi : List Int} (h : 0 ≤ lc) (h0 : 0 ≤ x) (h1 : x < 256) : (Builtin.bitAnd (Builtin.bitOr (lc * 2 ^ Int.toNat 8) x) 65535, (0 : Int) + 8 - 6, oi ++ [b64ks.getD (Builtin.bitAnd ((Builtin.bitAnd (Builtin.bitOr (lc * 2 ^ Int.toNat 8) x) 65535).fdiv (2 ^ ((0 : Int) + 8 - 6).toNat)) 63).toNat 0]) = List.foldl b2aStep (lc, 0, oi) [x] := by
  rw [lc_eq h h0 h1, PyProof.Rows.bitAnd_m6, fd (by decide)]
  rfl
theorem b2a_P2 {lc x : Int} {oi : List Int} (h : 0 ≤ lc) (h0 : 0 ≤ x) (h1 : x < 256) : (Builtin.bitAnd (Builtin.bitOr (lc * 2 ^ Int.toNat 8) x) 65535, (2 : Int) + 8 - 6, oi ++ [b64ks.getD (Builtin.bitAnd ((Builtin.bitAnd (Builtin.bitOr (lc * 2 ^ Int.toNat 8) x) 65535).fdiv (2 ^ ((2 : Int) + 8 - 6).toNat)) 63).toNat 0]) = List.foldl b2aStep (lc, 2, oi) [x] := by
  rw [lc_eq h h0 h1, PyProof.Rows.bitAnd_m6, fd (by decide)]
  rfl
theorem b2a_P4 {lc x : Int} {oi : List Int} (h : 0 ≤ lc) (h0 : 0 ≤ x) (h1 : x < 256) : (Builtin.bitAnd (Builtin.bitOr (lc * 2 ^ Int.toNat 8) x) 65535, (4 : Int) + 8 - 6 - 6, (oi ++ [b64ks.getD (Builtin.bitAnd ((Builtin.bitAnd (Builtin.bitOr (lc * 2 ^ Int.toNat 8) x) 65535).fdiv (2 ^ ((4 : Int) + 8 - 6).toNat)) 63).toNat 0]) ++ [b64ks.getD (Builtin.bitAnd ((Builtin.bitAnd (Builtin.bitOr (lc * 2 ^ Int.toNat 8) x) 65535).fdiv (2 ^ ((4 : Int) + 8 - 6 - 6).toNat)) 63).toNat 0]) = List.foldl b2aStep (lc, 4, oi) [x] := by
  rw [lc_eq h h0 h1, PyProof.Rows.bitAnd_m6, PyProof.Rows.bitAnd_m6, fd (by decide), fd (by decide)]
  have e : (lc * 256 + x) % 65536 / (2 ^ ((4 : Int) + 8 - 6 - 6).toNat) = (lc * 256 + x) % 65536 := Int.ediv_one _
  rw [e]
  rfl
noncomputable def b2aF (l : List Int) : Int × Int × List Int := l.foldl b2aStep (0, 0, [])
theorem b64c_in (v : Int) : 0 ≤ b64c v ∧ b64c v < 256 := by
  unfold b64c
  rw [List.getD_eq_getElem?_getD]
  cases h : b64ks[v.toNat]? with
  | none => decide
  | some k => exact W.KBw.ints_in (List.mem_of_getElem? h)
theorem b2a_in' (l : List Int) : ∀ c : Int × Int × List Int, W.KBa.In c.2.2 → W.KBa.In (l.foldl b2aStep c).2.2 := by
  induction l with
  | nil => intro c h; exact h
  | cons x l ih =>
    intro c h
    refine ih _ ?_
    unfold b2aStep
    dsimp only
    split
    · intro n hn
      rcases List.mem_append.mp hn with hn | hn
      · exact h n hn
      · rw [List.mem_singleton.mp hn]; exact b64c_in _
    · split
      · intro n hn
        rcases List.mem_append.mp hn with hn | hn
        · exact h n hn
        · rw [List.mem_singleton.mp hn]; exact b64c_in _
      · intro n hn
        rcases List.mem_append.mp hn with hn | hn
        · rcases List.mem_append.mp hn with hn | hn
          · exact h n hn
          · rw [List.mem_singleton.mp hn]; exact b64c_in _
        · rw [List.mem_singleton.mp hn]; exact b64c_in _
theorem b2a_in (l : List Int) : W.KBa.In (b2aF l).2.2 := b2a_in' l _ (fun n hn => by cases hn)
theorem b2a_ok {q : Program} {w : World} {mean : ExcName → Option Value} {mg mb : Str → Option Value} {loose : List Str} {dp un : Nat} {gd : Option (List Code)} {cn : Str} {cs : Scope} {a : Addr} {ccd : Value} {cl : List (Str × Addr)} {outer : List Env} {A₀ : Around} {base h₀ : Heap} {L : Addr} {m : Str → Option Value} {news : List (Addr × Obj)} {s : Shared}
    {Q E : Value → Shared → Prop} {b : Array UInt8} {tk : Tok}
  (B : Below A₀ base outer h₀) (F : Fr h₀ L s.heap m) (X : (Mine.hd.heap_1 w.params).In h₀) (N : News h₀ L s.heap news) (T : Top q loose mean mg mb h₀) (hk : cs.kind = .function)
  (hb : b.size < 1000) (hz : (b2aF (W.KBw.bInts b)).2.1 = 0) (hd : dp + 20 < recursionLimit) (hu : un + 100 < cLine)
  (hret : ∀ t h' tk', Fr h₀ L h' m → News h₀ L h' news → Q (.bytes (byteArr (b2aF (W.KBw.bInts b)).2.2) t) { s with heap := h', toks := tk' }) :
  wpAny (model (PySem.Challenge.rw_in0277_01.row.toRowW.prog) w) (ktrTop dp un gd cn cs L a ccd cl outer) (call (.ref 245) [.bytes b tk] [(Str.ofString "newline", .bool false)]) Q E s := by
  revert X
  k_fill
  intro X
  refine wpAny_call ?_
  k_dflt cell_enter
  refine let_A ?_
  intro A0
  rename Fr _ _ _ _ => F0
  replace F0 : Fr _ _ _ (fun y => List.lookup y [(Str.ofString "newline", Value.bool false), (Str.ofString "data", Value.bytes b tk)]) := F0
  k_steps
  rename Fr _ _ _ _ => F1
  rename News _ _ _ _ => N1
  rename Below _ _ _ _ => B1
  rename Top _ _ _ _ _ _ => T1
  rename Frag.In _ _ => X1
  refine bbuf_ok B1 F1 X1 N1 T1 rfl (show dp + 1 + 10 < recursionLimit by omega) (show un + 3 + 80 < cLine by omega) fun h2 tk2 F2 N2 => ?_
  k_steps
  rename Fr _ _ _ _ => F3
  rename News _ _ _ _ => N3
  refine truth_ok B1 F3 X1 N3 T1 rfl (show dp + 1 + 10 < recursionLimit by omega) (show un + 3 + 80 < cLine by omega) fun h4 tk4 F4 N4 => ?_
  k_steps
  refine ⟨?_⟩
  rename Fr _ _ _ _ => F5
  rename News _ _ _ _ => N5
  rename_i lo _ lo1 _ _ _ _ _ _ _ _
  refine ks_bytes (σ := (List Value × Nat) × (Int × Tok) × (Int × Tok) × List Int) (fun c => (lo, listOf c.1.1.toArray c.1.2) :: news) (fun c => [(Str.ofString "leftchar", .int c.2.1.1 c.2.1.2), (Str.ofString "leftbits", .int c.2.2.1.1 c.2.2.1.2)]) [] (fun i c => IntsAre c.1.1 c.2.2.2 ∧ (c.2.1.1, c.2.2.1.1, c.2.2.2) = ((W.KBw.bInts b).take i).foldl b2aStep (0, 0, [])) (([], 0), (0, _), (0, _), []) news (fun p hp => .tail _ hp) rfl F5 N5 (AllL.cons AllL.fx) (by kst_all) ⟨.nil, rfl⟩ ?_ ?_
  · intro i x tx
    refine cur7 ?_
    intro ov ok lc lt lb bt oi u h7 tk7 own hx hx0 hx1 hPq hal hown F7 N7
    try k_fold
    refine let_F F7 ?_
    clear F7
    intro m7 F7
    have hP1 := hPq.1
    have hP2 := hPq.2
    dsimp only at hP1 hP2 N7 hown
    have hst := b2a_inv ((W.KBw.bInts b).take i) (0, 0, []) (.inl rfl) (Int.le_refl 0) (by decide)
    rw [← hP2] at hst
    dsimp only at hst
    obtain ⟨hlb, hlc0, hlc1, hol⟩ := hst
    have hoz : ov.length ≤ 5000 := by
      have h9 : ((W.KBw.bInts b).take i).length ≤ b.size := by rw [List.length_take, W.KBw.ints_length]; exact Nat.min_le_right _ _
      have : oi.length ≤ 0 + 2 * ((W.KBw.bInts b).take i).length := hol
      rw [hP1.length]; omega
    rcases hlb with rfl | rfl | rfl
    · k_steps
      refine ⟨?_⟩
      k_here
      (with_reducible show wpAny _ _ (subscriptTail _ _ (Value.bytes _ _) (Value.int _ _)) _ _ _)
      refine W.KBw.item_K (ks := b64ks) (by exact rfl) (by decide) ?_ ?_ ?_
      · rw [PyProof.Rows.bitAnd_m6]; exact Int.emod_nonneg _ (by decide)
      · rw [PyProof.Rows.bitAnd_m6]; exact Int.emod_lt_of_pos _ (by decide)
      intro t8 k8 _ _
      k_steps
      rename Fr _ _ _ _ => F9
      rename News _ _ _ _ => N9
      refine W.append_K F9 N9 (.head (off_head lo1 hown)) (fun h10 F10 N10 => ?_) (room (by simp only [List.length_append, List.length_cons, List.length_nil, List.size_toArray]; omega))
      rw [List.push_toArray] at N10
      k_steps
      rename Fr _ _ _ _ => F8
      rename News _ _ _ _ => N8
      refine kend ((ov ++ [.int _ t8], _), (_, _), (_, _), oi ++ [_]) F8 N8 (by first | kst_in | kst_inAny) (by first | (intro p hp; kst_mem) | kst_anyIn) (AllL.cons AllL.fx) (by dsimp only; kst_all) (by dsimp only; kst_same) ⟨hP1.append (.cons _ _ .nil), ?_⟩
      rw [List.take_add_one, hx, Option.toList_some, List.foldl_append, ← hP2]
      exact b2a_P0 hlc0 hx0 hx1
    · k_steps
      refine ⟨?_⟩
      k_here
      (with_reducible show wpAny _ _ (subscriptTail _ _ (Value.bytes _ _) (Value.int _ _)) _ _ _)
      refine W.KBw.item_K (ks := b64ks) (by exact rfl) (by decide) ?_ ?_ ?_
      · rw [PyProof.Rows.bitAnd_m6]; exact Int.emod_nonneg _ (by decide)
      · rw [PyProof.Rows.bitAnd_m6]; exact Int.emod_lt_of_pos _ (by decide)
      intro t8 k8 _ _
      k_steps
      rename Fr _ _ _ _ => F9
      rename News _ _ _ _ => N9
      refine W.append_K F9 N9 (.head (off_head lo1 hown)) (fun h10 F10 N10 => ?_) (room (by simp only [List.length_append, List.length_cons, List.length_nil, List.size_toArray]; omega))
      rw [List.push_toArray] at N10
      k_steps
      rename Fr _ _ _ _ => F8
      rename News _ _ _ _ => N8
      refine kend ((ov ++ [.int _ t8], _), (_, _), (_, _), oi ++ [_]) F8 N8 (by first | kst_in | kst_inAny) (by first | (intro p hp; kst_mem) | kst_anyIn) (AllL.cons AllL.fx) (by dsimp only; kst_all) (by dsimp only; kst_same) ⟨hP1.append (.cons _ _ .nil), ?_⟩
      rw [List.take_add_one, hx, Option.toList_some, List.foldl_append, ← hP2]
      exact b2a_P2 hlc0 hx0 hx1
    · k_steps
      refine ⟨?_⟩
      k_here
      (with_reducible show wpAny _ _ (subscriptTail _ _ (Value.bytes _ _) (Value.int _ _)) _ _ _)
      refine W.KBw.item_K (ks := b64ks) (by exact rfl) (by decide) ?_ ?_ ?_
      · rw [PyProof.Rows.bitAnd_m6]; exact Int.emod_nonneg _ (by decide)
      · rw [PyProof.Rows.bitAnd_m6]; exact Int.emod_lt_of_pos _ (by decide)
      intro t8 k8 _ _
      k_steps
      rename Fr _ _ _ _ => F9
      rename News _ _ _ _ => N9
      refine W.append_K F9 N9 (.head (off_head lo1 hown)) (fun h10 F10 N10 => ?_) (room (by simp only [List.length_append, List.length_cons, List.length_nil, List.size_toArray]; omega))
      rw [List.push_toArray] at N10
      k_steps
      refine ⟨?_⟩
      k_here
      (with_reducible show wpAny _ _ (subscriptTail _ _ (Value.bytes _ _) (Value.int _ _)) _ _ _)
      refine W.KBw.item_K (ks := b64ks) (by exact rfl) (by decide) ?_ ?_ ?_
      · rw [PyProof.Rows.bitAnd_m6]; exact Int.emod_nonneg _ (by decide)
      · rw [PyProof.Rows.bitAnd_m6]; exact Int.emod_lt_of_pos _ (by decide)
      intro t9 k8 _ _
      k_steps
      rename Fr _ _ _ _ => F9
      rename News _ _ _ _ => N9
      refine W.append_K F9 N9 (.head (off_head lo1 hown)) (fun h10 F10 N10 => ?_) (room (by simp only [List.length_append, List.length_cons, List.length_nil, List.size_toArray]; omega))
      rw [List.push_toArray] at N10
      k_steps
      rename Fr _ _ _ _ => F8
      rename News _ _ _ _ => N8
      refine kend (((ov ++ [.int _ t8]) ++ [.int _ t9], _), (_, _), (_, _), (oi ++ [_]) ++ [_]) F8 N8 (by first | kst_in | kst_inAny) (by first | (intro p hp; kst_mem) | kst_anyIn) (AllL.cons AllL.fx) (by dsimp only; kst_all) (by dsimp only; kst_same) ⟨(hP1.append (.cons _ _ .nil)).append (.cons _ _ .nil), ?_⟩
      rw [List.take_add_one, hx, Option.toList_some, List.foldl_append, ← hP2]
      exact b2a_P4 hlc0 hx0 hx1
  · refine cur7 ?_
    intro ov ok lc lt lb bt oi u h7 tk7 hPq hal F7 N7
    try k_fold
    refine let_F F7 ?_
    clear F7
    intro m7 F7
    have hP1 := hPq.1
    have hP2 := hPq.2
    dsimp only at hP1 hP2 N7
    rw [List.take_of_length_le (by rw [W.KBw.ints_length]; exact Nat.le_refl _)] at hP2
    have hz' : lb = 0 := (congrArg (fun c => c.2.1) hP2).trans hz
    subst hz'
    have hoi : oi = (b2aF (W.KBw.bInts b)).2.2 := congrArg (fun c => c.2.2) hP2
    have hin : W.KBa.In oi := by rw [hoi]; exact b2a_in _
    have hlen : oi.length ≤ 5000 := by
      have := (b2a_inv (W.KBw.bInts b) (0, 0, []) (.inl rfl) (Int.le_refl 0) (by decide)).2.2.2
      rw [hoi]
      rw [W.KBw.ints_length] at this
      exact Nat.le_trans this (by show 0 + 2 * b.size ≤ 5000; omega)
    k_steps
    all_goals (first | (rename _ = (2 : Int) => e; exact absurd (show (0 : Int) = 2 from e) (by decide)) | (rename _ = (4 : Int) => e; exact absurd (show (0 : Int) = 4 from e) (by decide)) | skip)
    rename Fr h₀ L _ m => F8
    rename News h₀ L _ _ => N8
    exact (congrArg (fun o => Q (.bytes (byteArr o) _) _) hoi).mpr (hret _ _ _ F8 (fun p hp => N8 p (.tail _ hp)))

end
end
end
section
-- Plain1
open PySem PySem.W
set_option Elab.async false
set_option linter.all false
section
noncomputable def inB (v : Int) : Prop := 0 ≤ v ∧ v < 64
theorem dv {q r m : Int} (h0 : 0 ≤ r) (h1 : r < m) : (q * m + r) / m = q := by
  rw [Int.add_comm, Int.add_mul_ediv_right _ _ (Int.ne_of_gt (Int.lt_of_le_of_lt h0 h1)), Int.ediv_eq_zero_of_lt h0 h1, Int.zero_add]
theorem dm {q r m : Int} (h0 : 0 ≤ r) (h1 : r < m) : (q * m + r) % m = r := by
  rw [Int.add_comm, Int.add_mul_emod_self_right, Int.emod_eq_of_lt h0 h1]
theorem sp (v m k : Int) (hm : 0 < m) (h : 0 ≤ v ∧ v < k * m) : ∃ q r, v = q * m + r ∧ (0 ≤ q ∧ q < k) ∧ 0 ≤ r ∧ r < m :=
  ⟨v / m, v % m, (Int.mul_comm .. ▸ (Int.mul_ediv_add_emod v m).symm), ⟨Int.ediv_nonneg h.1 (Int.le_of_lt hm), Int.ediv_lt_of_lt_mul hm h.2⟩, Int.emod_nonneg _ (Int.ne_of_gt hm), Int.emod_lt_of_pos _ hm⟩
/-- two digits of one number -/
theorem two {q r m k : Int} (hq : 0 ≤ q ∧ q < k) (hr : 0 ≤ r ∧ r < m) : 0 ≤ q * m + r ∧ q * m + r < k * m :=
  ⟨Int.add_nonneg (Int.mul_nonneg hq.1 (Int.le_trans hr.1 (Int.le_of_lt hr.2))) hr.1,
    Int.lt_of_lt_of_le (Int.add_lt_add_left hr.2 _) (by rw [show q * m + m = (q + 1) * m from by rw [Int.add_mul, Int.one_mul]]; exact Int.mul_le_mul_of_nonneg_right hq.2 (Int.le_trans hr.1 (Int.le_of_lt hr.2)))⟩
theorem oct_group (a b c d : Int) (V : List Int) (k : Nat) : octPre (a :: b :: c :: d :: V) (k + 1) = oct3 (num4 [a, b, c, d]) ++ octPre V k := by
  unfold octPre
  rw [List.range_succ_eq_map, List.flatMap_cons, List.flatMap_map]
  rfl
theorem reg {a p q r s d : Int} : (((0 * 64 + a) * 64 + (p * 16 + q)) * 64 + (r * 4 + s)) * 64 + d = ((a * 4 + p) * 256 + (q * 16 + r)) * 256 + (s * 64 + d) := by omega
/-- four signs' bits in three octets -/
theorem oct3_of {a p q r s d : Int} (h2 : 0 ≤ q * 16 + r ∧ q * 16 + r < 256) (h3 : 0 ≤ s * 64 + d ∧ s * 64 + d < 256) : oct3 (num4 [a, p * 16 + q, r * 4 + s, d]) = [a * 4 + p, q * 16 + r, s * 64 + d] := by
  show oct3 ((((0 * 64 + a) * 64 + (p * 16 + q)) * 64 + (r * 4 + s)) * 64 + d) = _
  rw [reg]
  unfold oct3
  rw [show (65536 : Int) = 256 * 256 from rfl, ← Int.ediv_ediv_of_nonneg (by decide), dv h3.1 h3.2, dm h3.1 h3.2, dv h2.1 h2.2, dm h2.1 h2.2]
theorem a2b_group {a p q r s d l : Int} {acc : List Int} (hq : 0 ≤ q ∧ q < 16) (hs : 0 ≤ s ∧ s < 4) : [a, p * 16 + q, r * 4 + s, d].foldl a2bStep (0, l, acc) = (0, 0, acc ++ [a * 4 + p, q * 16 + r, s * 64 + d]) := by
  show (0, 0, ((acc ++ [a * 4 + (p * 16 + q) / 16]) ++ [(p * 16 + q) % 16 * 16 + (r * 4 + s) / 4]) ++ [(r * 4 + s) % 4 * 64 + d]) = _
  rw [dv hq.1 hq.2, dm hq.1 hq.2, dv hs.1 hs.2, dm hs.1 hs.2, List.append_assoc, List.append_assoc]
  rfl
theorem low {l x : Int} (h : 0 ≤ x ∧ x < 256) : (l * 256 + x) % 65536 = l % 256 * 256 + x := by omega
theorem b2a_group {a p q r s d l : Int} {acc : List Int} (ha : 0 ≤ a ∧ a < 64) (hp : 0 ≤ p ∧ p < 4) (hq : 0 ≤ q ∧ q < 16) (hr : 0 ≤ r ∧ r < 16) (hs : 0 ≤ s ∧ s < 4) (hd : 0 ≤ d ∧ d < 64) :
    [a * 4 + p, q * 16 + r, s * 64 + d].foldl b2aStep (l, 0, acc) = ((q * 16 + r) * 256 + (s * 64 + d), 0, acc ++ [b64c a, b64c (p * 16 + q), b64c (r * 4 + s), b64c d]) := by
  show ((((l * 256 + (a * 4 + p)) % 65536 * 256 + (q * 16 + r)) % 65536 * 256 + (s * 64 + d)) % 65536, 0, (((acc ++ [b64c ((l * 256 + (a * 4 + p)) % 65536 / 4 % 64)]) ++ [b64c (((l * 256 + (a * 4 + p)) % 65536 * 256 + (q * 16 + r)) % 65536 / 16 % 64)]) ++ [b64c ((((l * 256 + (a * 4 + p)) % 65536 * 256 + (q * 16 + r)) % 65536 * 256 + (s * 64 + d)) % 65536 / 64 % 64)]) ++ [b64c ((((l * 256 + (a * 4 + p)) % 65536 * 256 + (q * 16 + r)) % 65536 * 256 + (s * 64 + d)) % 65536 % 64)]) = _
  have h1 : 0 ≤ a * 4 + p ∧ a * 4 + p < 256 := two ha hp
  have h2 : 0 ≤ q * 16 + r ∧ q * 16 + r < 256 := two hq hr
  have h3 : 0 ≤ s * 64 + d ∧ s * 64 + d < 256 := two hs hd
  have h4 : 0 ≤ p * 16 + q ∧ p * 16 + q < 64 := two hp hq
  have h5 : 0 ≤ r * 4 + s ∧ r * 4 + s < 64 := two hr hs
  rw [low h1, low h2, low h3, dm h1.1 h1.2, dm h2.1 h2.2,
    show l % 256 * 256 + (a * 4 + p) = (l % 256 * 64 + a) * 4 + p by omega, dv hp.1 hp.2, dm ha.1 ha.2,
    show (a * 4 + p) * 256 + (q * 16 + r) = (a * 64 + (p * 16 + q)) * 16 + r by omega, dv hr.1 hr.2, dm h4.1 h4.2,
    show ((q * 16 + r) * 256 + (s * 64 + d)) / 64 = q * 64 + (r * 4 + s) from (congrArg (· / 64) (show (q * 16 + r) * 256 + (s * 64 + d) = (q * 64 + (r * 4 + s)) * 64 + d by omega)).trans (dv hd.1 hd.2), dm h5.1 h5.2,
    show ((q * 16 + r) * 256 + (s * 64 + d)) % 64 = d from (congrArg (· % 64) (show (q * 16 + r) * 256 + (s * 64 + d) = (q * 64 + (r * 4 + s)) * 64 + d by omega)).trans (dm hd.1 hd.2), List.append_assoc, List.append_assoc, List.append_assoc]
  rfl
theorem oct_zero {V : List Int} (h : V.length = 4 * 0) : V = [] := List.eq_nil_of_length_eq_zero h
theorem oct_ind {P : Nat → List Int → Prop} (h0 : P 0 []) (h1 : ∀ k a p q r s d V, (0 ≤ a ∧ a < 64) → (0 ≤ p ∧ p < 4) → (0 ≤ q ∧ q < 16) → (0 ≤ r ∧ r < 16) → (0 ≤ s ∧ s < 4) → (0 ≤ d ∧ d < 64) → P k V → P (k + 1) (a :: (p * 16 + q) :: (r * 4 + s) :: d :: V)) : ∀ (k : Nat) (V : List Int), V.length = 4 * k → (∀ v ∈ V, inB v) → P k V
  | 0, V, h, _ => by rw [oct_zero h]; exact h0
  | k + 1, a :: b :: c :: d :: V, h, hV => by
    obtain ⟨p, q, rfl, hp, hq⟩ := sp b 16 4 (by decide) (hV b (.tail _ (.head _)))
    obtain ⟨r, s, rfl, hr, hs⟩ := sp c 4 16 (by decide) (hV c (.tail _ (.tail _ (.head _))))
    exact h1 k a p q r s d V (hV a (.head _)) hp hq hr hs (hV d (.tail _ (.tail _ (.tail _ (.head _))))) (oct_ind h0 h1 k V (Nat.add_right_cancel (m := 4) h) fun v hv => hV v (.tail _ (.tail _ (.tail _ (.tail _ hv)))))
/-- values whose number is a multiple of four: the octets give the signs back -/
theorem b2a_oct : ∀ (k : Nat) (V : List Int), V.length = 4 * k → (∀ v ∈ V, inB v) → ∀ (l : Int) (acc : List Int), ∃ l', (octPre V k).foldl b2aStep (l, 0, acc) = (l', 0, acc ++ V.map b64c) :=
  oct_ind (fun l acc => ⟨l, by rw [show octPre [] 0 = [] from rfl]; exact congrArg (fun x => (l, 0, x)) (List.append_nil acc).symm⟩) fun k a p q r s d V ha hp hq hr hs hd ih l acc => by
    rw [oct_group, oct3_of (two hq hr) (two hs hd), List.foldl_append, b2a_group ha hp hq hr hs hd]
    obtain ⟨l2, e2⟩ := ih ((q * 16 + r) * 256 + (s * 64 + d)) (acc ++ [b64c a, b64c (p * 16 + q), b64c (r * 4 + s), b64c d])
    exact ⟨l2, e2.trans (congrArg (fun x => (l2, 0, x)) (List.append_assoc ..))⟩
theorem a2b_oct : ∀ (k : Nat) (V : List Int), V.length = 4 * k → (∀ v ∈ V, inB v) → ∀ (l : Int) (acc : List Int), ∃ l', V.foldl a2bStep (0, l, acc) = (0, l', acc ++ octPre V k) :=
  oct_ind (fun l acc => ⟨l, congrArg (fun x => (0, l, x)) (List.append_nil acc).symm⟩) fun k a p q r s d V _ hp hq hr hs hd ih l acc => by
    obtain ⟨l2, e2⟩ := ih 0 (acc ++ [a * 4 + p, q * 16 + r, s * 64 + d])
    rw [oct_group, oct3_of (two hq hr) (two hs hd), ← List.append_assoc]
    refine ⟨l2, Eq.trans (congrArg (V.foldl a2bStep) (a2b_group hq hs)) e2⟩
end
end
section
-- W_dec
open PySem PySem.W PySem.Calls PySem.Spec PyProof.Rows
set_option Elab.async false
set_option maxRecDepth 100000
set_option maxHeartbeats 8000000
set_option linter.all false
section
local macro_rules | `(tactic| omega) => `(tactic| lia)
section
local macro_rules | `(tactic| walk_at "call builtin:bytes.maketrans") => `(tactic| (refine halt_in ?_))
local macro_rules | `(tactic| walk_at "call builtin:bytes.translate") => `(tactic| (refine halt_in ?_))
local macro_rules | `(tactic| walk_at "getMethod type:bytes") => `(tactic| (refine halt_in ?_))
local macro_rules | `(tactic| walk_at "getMethod bytes") => `(tactic| (refine halt_in ?_))
noncomputable def una (p0 p1 : UInt8) (c : UInt8) : UInt8 := if c = p1 then 47 else if c = p0 then 43 else c
theorem dec_ok {q : Program} {w : World} {mean : ExcName → Option Value} {mg mb : Str → Option Value} {loose : List Str} {dp un : Nat} {gd : Option (List Code)} {cn : Str} {cs : Scope} {a : Addr} {ccd : Value} {cl : List (Str × Addr)} {outer : List Env} {A₀ : Around} {base h₀ : Heap} {L : Addr} {m : Str → Option Value} {news : List (Addr × Obj)} {s : Shared}
    {Q E : Value → Shared → Prop} {b : Array UInt8} {p0 p1 : UInt8} {t tp : Tok}
  (B : Below A₀ base outer h₀) (F : Fr h₀ L s.heap m) (X : (Mine.hd.heap_1 w.params).In h₀) (N : News h₀ L s.heap news) (T : Top q loose mean mg mb h₀) (hk : cs.kind = .function)
  (hb : b.size < 1000) (hv : ∀ c ∈ W.KBw.bInts (b.map (una p0 p1)), c ≠ 61 ∧ b64val c < 64) (hz : (a2bF ((W.KBw.bInts (b.map (una p0 p1))).map b64val)).1 = 0) (hd : dp + 40 < recursionLimit) (hu : un + 200 < cLine)
  (hret : ∀ t h' tk', Fr h₀ L h' m → News h₀ L h' news → Q (.bytes (byteArr (a2bF ((W.KBw.bInts (b.map (una p0 p1))).map b64val)).2.2) t) { s with heap := h', toks := tk' }) :
  wpAny (model (PySem.Challenge.rw_in0277_01.row.toRowW.prog) w) (ktrTop dp un gd cn cs L a ccd cl outer) (call (.ref 261) [.bytes b t, .bytes #[p0, p1] tp]) Q E s := by
  revert X
  k_fill
  intro X
  refine wpAny_call ?_
  k_dflt (refine' code_def ?k1 ?k2 ?k3 ?k4 ?k5 ?kA ?kF ?kK ?k6 ?k7 ?k8 ?k9 ?kB ?_ ?c2 ?c3 ?c4 ?c5; (case kA => exact rfl); (case kF => exact rfl); (case kK => assumption); (case k1 => k_asm); (case k2 => k_asm); (case k3 => k_asm); (case k4 => k_asm); (case k5 => k_asm); (case k6 => k_is); (case k7 => k_is); (case k8 => ktr_room); (case k9 => exact binds_K (by k_in) rfl (by k_is) rfl rfl rfl); (case c5 => decide); (case kB => exact locs rfl); (case c2 => exact rfl); (case c3 => exact rfl); (case c4 => exact rfl); k_whole; intro g' L' h' FG' F' N' B' X' T'; (try dsimp only); (try k_lift B'); (try k_fold))
  rename Fr _ _ _ _ => F0
  replace F0 : Fr _ _ _ (fun y => List.lookup y [(Str.ofString "validate", Value.bool false), (Str.ofString "altchars", Value.bytes #[p0, p1] tp), (Str.ofString "s", Value.bytes b t)]) := F0
  k_steps
  refine decdata_ok B' F0 X' N' T' rfl (show dp + 1 + 10 < recursionLimit by omega) (show un + 3 + 80 < cLine by omega) fun h1 tk1 F1 N1 => ?_
  k_steps
  rename Fr _ _ _ _ => F2
  rename News _ _ _ _ => N2
  refine decdata_ok B' F2 X' N2 T' rfl (show dp + 1 + 10 < recursionLimit by omega) (show un + 3 + 80 < cLine by omega) fun h3 tk3 F3 N3 => ?_
  k_steps
  · refine ⟨?_⟩
    refine method_translate ?_
    k_steps
    refine ⟨?_⟩
    rename Fr _ _ _ _ => F3
    rename News _ _ _ _ => N3
    refine' W.method_type (v := .builtin "bytes.maketrans") ?F ?X ?a ?b ?c ?d ?_
    case F => exact F3
    case X => exact X'
    case a => kernel_rfl
    case b => decide +kernel
    case c => k_dflt k_is
    case d => decide +kernel
    k_steps
    refine ⟨?_⟩
    refine call_maketrans rfl (fun t3 k3 => ?_)
    k_steps
    refine ⟨?_⟩
    refine call_translate (mkTab_size _ _) (by omega) (fun t4 k4 => ?_)
    have e : b.map (fun c => (mkTab #[p0, p1] #[43, 47]).getD c.toNat c) = b.map (una p0 p1) := by
      congr 1
      funext c
      rw [tab_two]
      rfl
    rw [e]
    k_steps
    rename Fr _ _ _ _ => F5
    rename News _ _ _ _ => N5
    refine a2b_ok (b := b.map (una p0 p1)) B' F5 X' N5 T' rfl (by rw [Array.size_map]; exact hb) hv hz (show dp + 1 + 20 < recursionLimit by omega) (show un + 3 + 100 < cLine by omega) fun t6 h6 tk6 F6 N6 => ?_
    k_steps
    rename Fr h₀ L _ m => F8
    rename News h₀ L _ _ => N8
    exact hret _ _ _ F8 N8
  · rename ¬ _ = (2 : Int) => e
    exact absurd rfl e

end
end
end
section
-- W_enc
open PySem PySem.W PySem.Calls PySem.Spec PyProof.Rows
set_option Elab.async false
set_option maxRecDepth 100000
set_option maxHeartbeats 8000000
set_option linter.all false
section
local macro_rules | `(tactic| omega) => `(tactic| lia)
section
local macro_rules | `(tactic| walk_at "getMethod type:bytes") => `(tactic| (refine halt_in ?_))
local macro_rules | `(tactic| walk_at "call builtin:bytes.maketrans") => `(tactic| (refine halt_in ?_))
local macro_rules | `(tactic| walk_at "call builtin:bytes.translate") => `(tactic| (refine halt_in ?_))
local macro_rules | `(tactic| walk_at "getMethod bytes") => `(tactic| (refine halt_in ?_))
theorem b2a_len {b : Array UInt8} (hb : b.size < 1000) : (b2aF (W.KBw.bInts b)).2.2.length ≤ 10000 := by
  have := (b2a_inv (W.KBw.bInts b) (0, 0, []) (.inl rfl) (Int.le_refl 0) (by decide)).2.2.2
  rw [W.KBw.ints_length] at this
  exact Nat.le_trans this (by show 0 + 2 * b.size ≤ 10000; omega)
noncomputable def alt (p0 p1 : UInt8) (c : UInt8) : UInt8 := if c = 47 then p1 else if c = 43 then p0 else c
theorem enc_ok {q : Program} {w : World} {mean : ExcName → Option Value} {mg mb : Str → Option Value} {loose : List Str} {dp un : Nat} {gd : Option (List Code)} {cn : Str} {cs : Scope} {a : Addr} {ccd : Value} {cl : List (Str × Addr)} {outer : List Env} {A₀ : Around} {base h₀ : Heap} {L : Addr} {m : Str → Option Value} {news : List (Addr × Obj)} {s : Shared}
    {Q E : Value → Shared → Prop} {b : Array UInt8} {p0 p1 : UInt8} {t tp : Tok}
  (B : Below A₀ base outer h₀) (F : Fr h₀ L s.heap m) (X : (Mine.hd.heap_1 w.params).In h₀) (N : News h₀ L s.heap news) (T : Top q loose mean mg mb h₀) (hk : cs.kind = .function)
  (hb : b.size < 1000) (hz : (b2aF (W.KBw.bInts b)).2.1 = 0) (hd : dp + 40 < recursionLimit) (hu : un + 200 < cLine)
  (hret : ∀ t h' tk', Fr h₀ L h' m → News h₀ L h' news → Q (.bytes ((byteArr (b2aF (W.KBw.bInts b)).2.2).map (alt p0 p1)) t) { s with heap := h', toks := tk' }) :
  wpAny (model (PySem.Challenge.rw_in0277_01.row.toRowW.prog) w) (ktrTop dp un gd cn cs L a ccd cl outer) (call (.ref 253) [.bytes b t, .bytes #[p0, p1] tp]) Q E s := by
  revert X
  k_fill
  intro X
  refine wpAny_call ?_
  k_dflt (refine' code_def ?k1 ?k2 ?k3 ?k4 ?k5 ?kA ?kF ?kK ?k6 ?k7 ?k8 ?k9 ?kB ?_ ?c2 ?c3 ?c4 ?c5; (case kA => exact rfl); (case kF => exact rfl); (case kK => assumption); (case k1 => k_asm); (case k2 => k_asm); (case k3 => k_asm); (case k4 => k_asm); (case k5 => k_asm); (case k6 => k_is); (case k7 => k_is); (case k8 => ktr_room); (case k9 => exact binds_K (by k_in) rfl (by k_is) rfl rfl rfl); (case c5 => decide); (case kB => exact locs rfl); (case c2 => exact rfl); (case c3 => exact rfl); (case c4 => exact rfl); k_whole; intro g' L' h' FG' F' N' B' X' T'; (try dsimp only); (try k_lift B'); (try k_fold))
  rename Fr _ _ _ _ => F0
  replace F0 : Fr _ _ _ (fun y => List.lookup y [(Str.ofString "altchars", Value.bytes #[p0, p1] tp), (Str.ofString "s", Value.bytes b t)]) := F0
  k_steps
  rename Fr _ _ _ _ => F1
  rename News _ _ _ _ => N1
  refine b2a_ok (b := b) (tk := t) B' F1 X' N1 T' rfl hb hz (show dp + 1 + 20 < recursionLimit by omega) (show un + 3 + 100 < cLine by omega) fun t2 h2 tk2 F2 N2 => ?_
  k_steps
  · refine ⟨?_⟩
    refine method_translate ?_
    k_steps
    refine ⟨?_⟩
    rename Fr _ _ _ _ => F3
    rename News _ _ _ _ => N3
    refine' W.method_type (v := .builtin "bytes.maketrans") ?F ?X ?a ?b ?c ?d ?_
    case F => exact F3
    case X => exact X'
    case a => kernel_rfl
    case b => decide +kernel
    case c => k_dflt k_is
    case d => decide +kernel
    k_steps
    refine ⟨?_⟩
    refine call_maketrans rfl (fun t3 k3 => ?_)
    k_steps
    refine ⟨?_⟩
    refine call_translate (mkTab_size _ _) (by rw [byteArr_size]; exact b2a_len hb) (fun t4 k4 => ?_)
    k_steps
    rename Fr h₀ L _ m => F8
    rename News h₀ L _ _ => N8
    have e : (byteArr (b2aF (W.KBw.bInts b)).2.2).map (fun c => (mkTab #[43, 47] #[p0, p1]).getD c.toNat c) = (byteArr (b2aF (W.KBw.bInts b)).2.2).map (alt p0 p1) := by
      congr 1
      funext c
      rw [tab_two]
      rfl
    exact (congrArg (fun o => Q (.bytes o _) _) e).mpr (hret _ _ _ F8 N8)
  · rename ¬ _ = (2 : Int) => e
    exact absurd rfl e

end
end
end
section
-- W_text
open PySem PySem.W PySem.Calls PySem.Spec PyProof.Rows
set_option Elab.async false
set_option maxRecDepth 100000
set_option maxHeartbeats 8000000
set_option linter.all false
section
local macro_rules | `(tactic| omega) => `(tactic| lia)
section
local macro_rules | `(tactic| walk_at "eval ListComp") => `(tactic| (refine halt_in ?_))
local macro_rules | `(tactic| walk_at "call builtin:str.join") => `(tactic| (refine halt_in ?_))
theorem text_ok {q : Program} {w : World} {mean : ExcName → Option Value} {mg mb : Str → Option Value} {loose : List Str} {dp un : Nat} {gd : Option (List Code)} {cn : Str} {cs : Scope} {a : Addr} {ccd : Value} {cl : List (Str × Addr)} {outer : List Env} {A₀ : Around} {base h₀ : Heap} {L : Addr} {m : Str → Option Value} {news : List (Addr × Obj)} {s : Shared}
    {Q E : Value → Shared → Prop} {b : Array UInt8} {t : Tok}
  (B : Below A₀ base outer h₀) (F : Fr h₀ L s.heap m) (X : (Mine.hd.heap_1 w.params).In h₀) (N : News h₀ L s.heap news) (T : Top q loose mean mg mb h₀) (hk : cs.kind = .function)
  (hb : b.size < 1000) (hd : dp + 20 < recursionLimit) (hu : un + 100 < cLine)
  (hret : ∀ t h' tk', Fr h₀ L h' m → News h₀ L h' news → Q (.str (tx ((W.KBw.bInts b).map Int.toNat)) t) { s with heap := h', toks := tk' }) :
  wpAny (model (PySem.Challenge.rw_in0277_01.row.toRowW.prog) w) (ktrTop dp un gd cn cs L a ccd cl outer) (call (.ref 330) [.bytes b t]) Q E s := by
  revert X
  k_fill
  intro X
  refine wpAny_call ?_
  k_dflt (refine' code_def ?k1 ?k2 ?k3 ?k4 ?k5 ?kA ?kF ?kK ?k6 ?k7 ?k8 ?k9 ?kB ?_ ?c2 ?c3 ?c4 ?c5; (case kA => exact rfl); (case kF => exact rfl); (case kK => assumption); (case k1 => k_asm); (case k2 => k_asm); (case k3 => k_asm); (case k4 => k_asm); (case k5 => k_asm); (case k6 => k_is); (case k7 => k_is); (case k8 => ktr_room); (case k9 => exact BindsTo.of_eq rfl); (case c5 => decide); (case kB => exact locs rfl); (case c2 => exact rfl); (case c3 => exact rfl); (case c4 => exact rfl); k_whole; intro g' L' h' FG' F' N' B' X' T'; (try dsimp only); (try k_lift B'); (try k_fold); refine let_A ?_; intro A0)
  rename Fr _ _ _ _ => F0
  replace F0 : Fr _ _ _ (fun y => List.lookup y [(Str.ofString "octets", Value.bytes b t)]) := F0
  k_steps
  refine ⟨?_⟩
  rename Fr _ _ _ _ => F1
  rename News _ _ _ _ => N1
  refine ListComp_W F1 (by with_unfolding_all rfl) (by decide) (by rfl) (by decide) (by rfl) ?_
  k_steps
  refine ⟨?_⟩
  refine src_bytes rfl F1 N1 (room (by omega)) (fun g => rest_W (ks := (W.KBw.bInts b).map Int.toNat) (fun k v => k < 256 ∧ ∃ t, v = .int (k : Int) t) isTx (by rw [List.length_map, W.KBw.ints_length]) ?_ ?_ ?_)
  · rintro i v hi ⟨c, u, hc, rfl⟩
    have e := W.KBw.ints_get hc
    refine ⟨c.toNat, by rw [List.getElem?_map, e]; rfl, c.toNat_lt, u, rfl⟩
  · rintro k _ I oI C oC D m₂ ys h tk E' hk ⟨hk256, t, rfl⟩ hC hx F N off ne
    k_steps
    exact LCg.CompEnd.intro F N news (fun p hp => hp) off trivial ⟨rfl, _, rfl⟩
  · intro ys hys D h tk F2 N2 o2
    k_steps
    refine ⟨?_⟩
    rename News _ _ _ _ => N3
    refine join_tx ⟨_, (N3 _ (.head _)).1, rfl, _, rfl⟩ hys (by rw [List.length_map, W.KBw.ints_length]; omega) (fun t' k => ?_)
    k_steps
    rename Fr h₀ L _ m => F8
    rename News h₀ L _ _ => N8
    exact hret _ _ _ F8 (fun p hp => N8 p (.tail _ hp))

end
end
end
section
-- W_trans
open PySem PySem.W PySem.Calls PySem.Spec PyProof.Rows
set_option Elab.async false
set_option maxRecDepth 100000
set_option maxHeartbeats 8000000
set_option linter.all false
section
local macro_rules | `(tactic| omega) => `(tactic| lia)
section
local macro_rules | `(tactic| walk_at "exec While") => `(tactic| (refine halt_in ?_))
local macro_rules | `(tactic| walk_at "compareOp Eq str str") => `(tactic| (refine halt_in ?_))
local macro_rules | `(tactic| walk_at "getAttr ref") => `(tactic| (refine halt_in ?_))
local macro_rules | `(tactic| walk_at "callWith ref nil nil") => `(tactic| ((fail_if_success with_reducible show wpAny _ _ (callWith _ (Value.ref 278) _ _ _) _ _ _); refine halt_in ?_))
local macro_rules | `(tactic| walk_at "subscriptTail Name UnaryOp ref int") => `(tactic| (refine halt_in ?_))
local macro_rules | `(tactic| walk_at "truthy ref") => `(tactic| ((fail_if_success (fail_if_success (with_reducible rename _ = _ ++ [_] => hzz))); refine halt_in ?_))
noncomputable def sgT (c : Nat) : Prop := c = 42 ∨ c = 63 ∨ c = 67 ∨ c = 49 ∨ c = 65
noncomputable def trStep (acc : List (Option Nat)) (c : Nat) : List (Option Nat) := if c = 42 then (if acc.getLast? = some none then acc else acc ++ [none]) else acc ++ [some c]
noncomputable def trF (S : List Nat) : List (Option Nat) := S.foldl trStep []
theorem trStep_len (acc : List (Option Nat)) (c : Nat) : (trStep acc c).length ≤ acc.length + 1 := by
  unfold trStep
  split
  · split
    · omega
    · rw [List.length_append]; exact Nat.le_refl _
  · rw [List.length_append]; exact Nat.le_refl _
theorem trF_take {S : List Nat} {k c : Nat} (h : S[k]? = some c) : trF (S.take (k + 1)) = trStep (trF (S.take k)) c := by
  unfold trF
  rw [List.take_succ, h, List.foldl_append]
  rfl
theorem trF_len (S : List Nat) : (trF S).length ≤ S.length := by
  unfold trF
  have : ∀ (S : List Nat) acc, (S.foldl trStep acc).length ≤ acc.length + S.length := by
    intro S
    induction S with
    | nil => intro acc; exact Nat.le_refl _
    | cons c r ih =>
      intro acc
      rw [List.foldl_cons, List.length_cons]
      have := ih (trStep acc c)
      have := trStep_len acc c
      omega
  simpa using this S []
theorem parts_lastQ {vs : List Value} {ps : List (Option Nat)} (h : PartsAre vs ps) : ∀ v, vs.getLast? = some v → (v = .none ∧ ps.getLast? = some none) ∨ ∃ c t, v = .str (chS c) t ∧ ps.getLast? = some (some c) := by
  induction h with
  | nil => exact fun _ e => nomatch e
  | none h ih =>
    cases h with
    | nil => exact fun v e => .inl ⟨(Option.some.inj e).symm, rfl⟩
    | none h => exact ih
    | sign c t h => exact ih
  | sign c t h ih =>
    cases h with
    | nil => exact fun v e => .inr ⟨c, t, (Option.some.inj e).symm, rfl⟩
    | none h => exact ih
    | sign c t h => exact ih
theorem parts_last {vs : List Value} {v : Value} {ps : List (Option Nat)} (h : PartsAre (vs ++ [v]) ps) : (v = .none ∧ ps.getLast? = some none) ∨ ∃ c t, v = .str (chS c) t ∧ ps.getLast? = some (some c) := parts_lastQ h v (List.getLast?_concat ..)
structure TS where
  i : Nat
  ti : Tok
  ov : List Value
  ok : Nat
theorem eqT (c d : Nat) : (tx [c] == tx [d]) = (c == d) := by
  by_cases h : c = d
  · subst h; simp
  · rw [beq_eq_false_iff_ne.mpr h, beq_eq_false_iff_ne]
    intro e
    have := congrArg Str.cps e
    simp [tx] at this
    exact h this
theorem trans_ok {q : Program} {w : World} {mean : ExcName → Option Value} {mg mb : Str → Option Value} {loose : List Str} {dp un : Nat} {gd : Option (List Code)} {cn : Str} {cs : Scope} {a : Addr} {ccd : Value} {cl : List (Str × Addr)} {outer : List Env} {A₀ : Around} {base h₀ : Heap} {L : Addr} {m : Str → Option Value} {news : List (Addr × Obj)} {s : Shared}
    {Q E : Value → Shared → Prop} {S : List Nat} {ts tq : Tok}
  (B : Below A₀ base outer h₀) (F : Fr h₀ L s.heap m) (X : (Mine.hd.heap_1 w.params).In h₀) (N : News h₀ L s.heap news) (T : Top q loose mean mg mb h₀) (hk : cs.kind = .function)
  (hz : S.length ≤ 1000) (hS : ∀ c ∈ S, sgT c) (hd : dp + 80 < recursionLimit) (hu : un + 400 < cLine)
  (hret : ∀ l k rv h' tk', PartsAre rv (trF S) → Fr h₀ L h' m → News h₀ L h' ((l, listOf rv.toArray k) :: news) → Q (.ref l) { s with heap := h', toks := tk' }) :
  wpAny (model (PySem.Challenge.rw_in0277_01.row.toRowW.prog) w) (ktrTop dp un gd cn cs L a ccd cl outer) (call (.ref 285) [.str (tx S) ts, .none, .str (tx [63]) tq]) Q E s := by
  revert X
  k_fill
  intro X
  refine wpAny_call ?_
  k_dflt (refine' code_def ?k1 ?k2 ?k3 ?k4 ?k5 ?kA ?kF ?kK ?k6 ?k7 ?k8 ?k9 ?kB ?_ ?c2 ?c3 ?c4 ?c5; (case kA => exact rfl); (case kF => exact rfl); (case kK => assumption); (case k1 => k_asm); (case k2 => k_asm); (case k3 => k_asm); (case k4 => k_asm); (case k5 => k_asm); (case k6 => k_is); (case k7 => k_is); (case k8 => ktr_room); (case k9 => exact BindsTo.of_eq rfl); (case c5 => decide); (case kB => exact locs rfl); (case c2 => exact rfl); (case c3 => exact rfl); (case c4 => exact rfl); k_whole; intro g' L' h' FG' F' N' B' X' T'; (try dsimp only); (try k_lift B'); (try k_fold); refine let_A ?_; intro A0)
  rename Fr _ _ _ _ => F0
  replace F0 : Fr _ _ _ (fun y => List.lookup y [(Str.ofString "QUESTION_MARK", Value.str (tx [63]) tq), (Str.ofString "STAR", Value.none), (Str.ofString "pat", Value.str (tx S) ts)]) := F0
  k_steps
  refine ⟨?_⟩
  rename Fr _ _ _ _ => F5
  rename News _ _ _ _ => N5
  rename_i lv h91 l91 tk92 h92
  have hneV : ∀ p ∈ news, p.1 ≠ lv := by k_all
  refine getattr_app_K F5 N5 (.head _) (fun add h6 tk6 F6 N6 l6 => ?_)
  have hal : @Ne Nat add lv := fun z => Nat.lt_irrefl _ (z ▸ l6 _ (.head _))
  k_steps
  refine len_tx (by omega) (fun t7 k7 => ?_)
  k_steps
  refine ⟨?_⟩
  rename Fr _ _ _ _ => F8
  rename News _ _ _ _ => N8
  have N9 : News _ _ _ ((add, boundApp lv) :: (lv, W.listOf #[] 0) :: news) := fun p hp => N8 p (.tail _ hp)
  clear N8
  refine ks_while (Str.ofString "c") (fun c : TS => (add, boundApp lv) :: (lv, W.listOf c.ov.toArray c.ok) :: news) (fun c => [(Str.ofString "i", Value.int (c.i : Int) c.ti)]) [] (fun c => c.i ≤ S.length ∧ PartsAre c.ov (trF (S.take c.i))) (fun c => S.length - c.i) ⟨0, _, [], 0⟩ F8 N9 (by intro q hq; dsimp only at hq; simp only [List.mem_cons, List.not_mem_nil, or_false] at hq; rcases hq with rfl; rfl) ⟨Nat.zero_le _, .nil⟩ ?_
  intro c u h7 tk7 hPq F7 N7
  try k_fold
  have hi := hPq.1
  have hP7 := hPq.2
  try dsimp only at F7 N7
  by_cases hlt : c.i < S.length
  · have hltI : (c.i : Int) < (S.length : Int) := by omega
    refine let_F F7 ?_
    clear F7
    intro m7 F7
    have hi0 : (0 : Int) ≤ (c.i : Int) := Int.natCast_nonneg _
    have hb1 : -((tx S).length : Int) ≤ (c.i : Int) := by rw [tx_len]; omega
    have hb2 : (c.i : Int) < ((tx S).length : Int) := by rw [tx_len]; omega
    k_steps
    refine WhlIf.yes (decide_eq_true hltI) ?_
    k_steps
    refine ⟨?_⟩
    obtain ⟨x, hx⟩ : ∃ x, S[c.i]? = some x := ⟨_, List.getElem?_eq_getElem hlt⟩
    have hsx := hS x (List.mem_of_getElem? hx)
    have hol : c.ov.length ≤ 1000 := by
      rw [hP7.length]
      exact Nat.le_trans (trF_len _) (by rw [List.length_take]; omega)
    have hit : PySem.Txt.item (tx S) c.i = tx [x] := by unfold PySem.Txt.item; rw [item_txE hi0 hx]; rfl
    rename Fr _ _ _ _ => F9
    rw [hit] at F9 ⊢
    rw [show Str.ofString "*" = tx [42] from by decide]
    refine PyProof.Rows.eq_str ?_
    rw [eqT]
    rcases hsx with rfl | rfl | hsx
    · rcases List.eq_nil_or_concat c.ov with ho | ⟨ov', lastv, ho⟩
      · rename News _ _ _ _ => N9b
        rw [ho] at N9b hP7
        have hacc : trF (S.take c.i) = [] := List.eq_nil_of_length_eq_zero hP7.length.symm
        k_steps
        refine ⟨?_⟩
        refine callWith_app1 (l := lv) ?_
        k_steps
        · exact (N9b _ (.head _)).1
        refine call_app_K F9 N9b (.head _) (.tail hal (.head hneV)) (room (by first | (simp; done) | (simp; omega))) (fun h12 F12 N12 => ?_)
        replace N12 : News g' L' h12 ((add, boundApp lv) :: (lv, W.listOf [Value.none].toArray (c.ok + 1)) :: news) := N12
        k_steps
        unfold WhPost
        dsimp only
        rename News _ _ _ _ => N14
        rename Fr _ _ _ _ => F14
        rw [show ((c.i : Int) + 1) = ((c.i + 1 : Nat) : Int) from rfl] at F14
        exact whend ⟨c.i + 1, _, [Value.none], c.ok + 1⟩ (by show S.length - (c.i + 1) < S.length - c.i; omega) F14 N14 (fun p hp => hp) (by (try dsimp only); kst_all) (by (try dsimp only); kst_same) ⟨hlt, by rw [trF_take hx]; exact (by rw [hacc]; exact .none .nil)⟩
      · rename News _ _ _ _ => N9b
        rw [List.concat_eq_append] at ho
        have hpl := parts_last (ho ▸ hP7)
        k_steps
        refine ⟨?_⟩
        refine wpAny_truthy_list ⟨_, (N9b _ (.tail _ (.head _))).1, rfl, _, rfl⟩ (by rw [List.size_toArray]; omega) ?_
        rw [show (!c.ov.toArray.isEmpty) = true from by rw [ho]; simp]
        k_steps
        refine ⟨?_⟩
        refine item_last (vs := ov') (v := lastv) ⟨_, (ho ▸ (N9b _ (.tail _ (.head _))).1), rfl, _, rfl⟩ ?_
        rcases hpl with ⟨rfl, hg⟩ | ⟨c2, t2, rfl, hg⟩
        · k_steps
          unfold WhPost
          dsimp only
          rename News _ _ _ _ => N14
          rename Fr _ _ _ _ => F14
          rw [show ((c.i : Int) + 1) = ((c.i + 1 : Nat) : Int) from rfl] at F14
          exact whend ⟨c.i + 1, _, c.ov, c.ok⟩ (by show S.length - (c.i + 1) < S.length - c.i; omega) F14 N14 (fun p hp => hp) (by (try dsimp only); kst_all) (by (try dsimp only); kst_same) ⟨hlt, by rw [trF_take hx]; exact (by unfold trStep; rw [if_pos rfl, if_pos hg]; exact hP7)⟩
        · k_steps
          refine ⟨?_⟩
          refine callWith_app1 (l := lv) ?_
          k_steps
          · exact (N9b _ (.head _)).1
          refine call_app_K F9 N9b (.head _) (.tail hal (.head hneV)) (room (by first | (simp; done) | (simp; omega))) (fun h12 F12 N12 => ?_)
          rw [List.push_toArray] at N12
          k_steps
          unfold WhPost
          dsimp only
          rename News _ _ _ _ => N14
          rename Fr _ _ _ _ => F14
          rw [show ((c.i : Int) + 1) = ((c.i + 1 : Nat) : Int) from rfl] at F14
          exact whend ⟨c.i + 1, _, c.ov ++ [Value.none], c.ok + 1⟩ (by show S.length - (c.i + 1) < S.length - c.i; omega) F14 N14 (fun p hp => hp) (by (try dsimp only); kst_all) (by (try dsimp only); kst_same) ⟨hlt, by rw [trF_take hx]; exact (by unfold trStep; rw [if_pos rfl, if_neg (by rw [hg]; exact fun z => nomatch z)]; exact hP7.append (.none .nil))⟩
    · k_steps
      refine ⟨?_⟩
      rw [show Str.ofString "?" = tx [63] from by decide]
      refine PyProof.Rows.eq_str ?_
      rw [eqT]
      rename News _ _ _ _ => N9b
      k_steps
      refine ⟨?_⟩
      refine callWith_app1 (l := lv) ?_
      k_steps
      · exact (N9b _ (.head _)).1
      refine call_app_K F9 N9b (.head _) (.tail hal (.head hneV)) (room (by first | (simp; done) | (simp; omega))) (fun h12 F12 N12 => ?_)
      rw [List.push_toArray] at N12
      k_steps
      unfold WhPost
      dsimp only
      rename News _ _ _ _ => N14
      rename Fr _ _ _ _ => F14
      rw [show ((c.i : Int) + 1) = ((c.i + 1 : Nat) : Int) from rfl] at F14
      exact whend ⟨c.i + 1, _, c.ov ++ [Value.str (chS 63) tq], c.ok + 1⟩ (by show S.length - (c.i + 1) < S.length - c.i; omega) F14 N14 (fun p hp => hp) (by (try dsimp only); kst_all) (by (try dsimp only); kst_same) ⟨hlt, by rw [trF_take hx]; exact (by unfold trStep; rw [if_neg (by decide)]; exact hP7.append (.sign 63 tq .nil))⟩
    · have hsx2 : x = 67 ∨ x = 49 ∨ x = 65 := hsx
      have h42 : (x == 42) = false := by rcases hsx2 with rfl | rfl | rfl <;> rfl
      have h63 : (x == 63) = false := by rcases hsx2 with rfl | rfl | rfl <;> rfl
      have h91b : (x == 91) = false := by rcases hsx2 with rfl | rfl | rfl <;> rfl
      rw [h42]
      k_steps
      refine ⟨?_⟩
      rw [show Str.ofString "?" = tx [63] from by decide]
      refine PyProof.Rows.eq_str ?_
      rw [eqT, h63]
      k_steps
      refine ⟨?_⟩
      rw [show Str.ofString "[" = tx [91] from by decide]
      refine PyProof.Rows.eq_str ?_
      rw [eqT, h91b]
      rename News _ _ _ _ => N9b
      k_steps
      refine ⟨?_⟩
      refine callWith_app1 (l := lv) ?_
      k_steps
      rename Fr _ _ _ _ => F10
      have hx42 : x ≠ 42 := fun z => by rw [z] at h42; cases h42
      refine escape_ok B' F10 X' N9b T' rfl hsx2 (show dp + 1 + 40 < recursionLimit by omega) (show un + 3 + 200 < cLine by omega) (fun t11 h11 tk11 F11 N11 => ?_)
      k_steps
      · exact (N11 _ (.head _)).1
      refine call_app_K F11 N11 (.head _) (.tail hal (.head hneV)) (room (by first | (simp; done) | (simp; omega))) (fun h12 F12 N12 => ?_)
      rw [List.push_toArray] at N12
      k_steps
      unfold WhPost
      dsimp only
      rename News _ _ _ _ => N14
      rename Fr _ _ _ _ => F14
      rw [show ((c.i : Int) + 1) = ((c.i + 1 : Nat) : Int) from rfl] at F14
      exact whend ⟨c.i + 1, _, c.ov ++ [Value.str (chS x) t11], c.ok + 1⟩ (by show S.length - (c.i + 1) < S.length - c.i; omega) F14 N14 (fun p hp => hp) (by (try dsimp only); kst_all) (by (try dsimp only); kst_same) ⟨hlt, by rw [trF_take hx]; exact (by unfold trStep; rw [if_neg hx42]; exact hP7.append (.sign x t11 .nil))⟩
  · have hge : ¬ ((c.i : Int) < (S.length : Int)) := by omega
    have heq : (c.i : Int) = (S.length : Int) := by omega
    rw [heq] at F7
    k_steps
    refine WhlIf.no (by simp) ?_
    k_steps
    any_goals (first | (exact absurd (rfl : (S.length : Int) = S.length) (by assumption)) | skip)
    rename Fr h₀ L _ m => F10
    rename News h₀ L _ _ => N10
    have e : c.i = S.length := by omega
    rw [e, List.take_length] at hP7
    exact hret _ _ _ _ _ hP7 F10 (fun p hp => N10 p (.tail _ hp))

end
end
end
section
-- Pcmp
open PySem PySem.W PySem.Calls PySem.Spec PyProof.Rows PySem.SeqAt
set_option Elab.async false
set_option maxRecDepth 100000
set_option linter.all false
section
noncomputable def partD : Option Nat → PyData
  | none => .none
  | some c => .str (chS c)
theorem parts_carried {vs : List Value} {ps : List (Option Nat)} (h : PartsAre vs ps) : CarriedAll vs (ps.map partD) := by
  induction h with
  | nil => exact .nil
  | none _ ih => exact .cons .none ih
  | sign c t _ ih => exact .cons (.str _ t) ih
theorem parts_lay : ∀ {ps : List (Option Nat)}, (∀ c, some c ∈ ps → PyData.canLay0 (.str (chS c)) = true) → PyData.canLayAll0 (ps.map partD) = true ∧ PyData.depthAll (ps.map partD) = 0 ∧ PyData.eqvAll (ps.map partD) (ps.map partD) = true
  | [], _ => ⟨rfl, rfl, by simp [PyData.eqvAll]⟩
  | none :: r, h => by
    obtain ⟨h1, h2, h3⟩ := parts_lay (ps := r) fun c hc => h c (.tail _ hc)
    simp [partD, PyData.canLayAll0, PyData.canLay0, PyData.depthAll, PyData.depth, PyData.eqvAll, PyData.eqv, h1, h2, h3]
  | some c :: r, h => by
    obtain ⟨h1, h2, h3⟩ := parts_lay (ps := r) fun c hc => h c (.tail _ hc)
    have h4 := h c (.head _)
    simp only [List.map_cons, partD, PyData.canLayAll0, PyData.depthAll, PyData.depth, PyData.eqvAll, PyData.eqv, h1, h2, h3, h4]
    simp
theorem tr_mem : ∀ (S : List Nat) (acc : List (Option Nat)) (c : Nat), some c ∈ S.foldl trStep acc → some c ∈ acc ∨ c ∈ S
  | [], _, _, h => .inl h
  | x :: r, acc, c, h => by
    rw [List.foldl_cons] at h
    rcases tr_mem r _ c h with h | h
    · unfold trStep at h
      split at h
      · split at h
        · exact .inl h
        · rcases List.mem_append.mp h with h | h
          · exact .inl h
          · cases List.mem_singleton.mp h
      · rcases List.mem_append.mp h with h | h
        · exact .inl h
        · cases List.mem_singleton.mp h
          exact .inr (.head _)
    · exact .inr (.tail _ h)
theorem tr_lay {S : List Nat} (hS : ∀ c ∈ S, sgT c) : ∀ c, some c ∈ trF S → PyData.canLay0 (.str (chS c)) = true := fun c h => by
  unfold trF at h
  rcases tr_mem S [] c h with h | h
  · cases h
  · rcases hS c h with rfl | rfl | rfl | rfl | rfl <;> (simp only [PyData.canLay0]; decide +kernel)
section
variable {prog : Program} {w : World} {A : Around} {E : Value → Shared → Prop} {s : Shared} {a b : Addr} {xs ys : List Value} {ps : List (Option Nat)} {Q : Value → Shared → Prop}
theorem ne_parts (ha : s.heap.IsList a xs.toArray) (hb : s.heap.IsList b ys.toArray) (hi : PartsAre xs ps) (hj : PartsAre ys ps) (hok : ∀ c, some c ∈ ps → PyData.canLay0 (.str (chS c)) = true) (hu : A.units + 64 < cLine) (h : Q (.bool false) s) :
    wpAny (model prog w) A (compareOp .NotEq (.ref a) (.ref b)) Q E s := by
  obtain ⟨h1, h2, h3⟩ := parts_lay hok
  have sh : shaped (.list (ps.map partD)) = true := by simp [shaped, PyData.canLay0, PyData.depth, h1, h2]
  refine ne_dataH (reads_newData ha (parts_carried hi)) (reads_newData hb (parts_carried hj)) sh sh hu ?_
  rw [show PyData.eqv (.list (ps.map partD)) (.list (ps.map partD)) = true by simp [PyData.eqv, h3]]
  exact h
theorem ne_tup {i : Int} {x : Str} {t1 t2 u1 u2 : Tok} (ha : IsTup s.heap a #[.int i t1, .str x t2]) (hb : IsTup s.heap b #[.int i u1, .str x u2]) (hx : PyData.canLay0 (.str x) = true) (hu : A.units + 64 < cLine) (h : Q (.bool false) s) :
    wpAny (model prog w) A (compareOp .NotEq (.ref a) (.ref b)) Q E s := by
  have sh : shaped (.tuple [.int i, .str x]) = true := by simp [shaped, PyData.canLayAll0, PyData.canLay0, PyData.depth, PyData.depthAll] at hx ⊢; exact hx
  refine ne_dataH (reads_newDataT (ys := [.int i t1, .str x t2]) ha (.cons (.int i t1) (.cons (.str x t2) .nil))) (reads_newDataT (ys := [.int i u1, .str x u2]) hb (.cons (.int i u1) (.cons (.str x u2) .nil))) sh sh hu ?_
  rw [show PyData.eqv (.tuple [.int i, .str x]) (.tuple [.int i, .str x]) = true by simp [PyData.eqv, PyData.eqvAll]]
  exact h
end
theorem lay_tx {l : List Nat} (h : ∀ c ∈ l, c < 1114112) : PyData.canLay0 (.str (tx l)) = true := by
  simp only [PyData.canLay0]
  unfold PyData.strOk tx
  simp
  exact h
end
end
section
-- W_twos
open PySem PySem.W PySem.Calls PySem.Spec PyProof.Rows
set_option Elab.async false
set_option maxRecDepth 100000
set_option maxHeartbeats 8000000
set_option linter.all false
section
local macro_rules | `(tactic| omega) => `(tactic| lia)
section
noncomputable def tw : Nat → Nat → Nat
  | 0, _ => 0
  | f + 1, n => if n % 2 = 0 then tw f (n / 2) + 1 else 0
theorem tw_spec : ∀ (f n : Nat), n ≤ f → 1 ≤ n → (∀ j < tw f n, (n / 2 ^ j) % 2 = 0) ∧ (n / 2 ^ tw f n) % 2 = 1
  | 0, n, h, h1 => by omega
  | f + 1, n, h, h1 => by
    unfold tw
    by_cases he : n % 2 = 0
    · rw [if_pos he]
      have ih := tw_spec f (n / 2) (by omega) (by omega)
      refine ⟨fun j hj => ?_, ?_⟩
      · cases j with
        | zero => simpa using he
        | succ j =>
          have := ih.1 j (by omega)
          rw [Nat.div_div_eq_div_mul] at this
          rw [Nat.pow_succ, Nat.mul_comm]; exact this
      · have := ih.2
        rw [Nat.div_div_eq_div_mul] at this
        rw [Nat.pow_succ, Nat.mul_comm]; exact this
    · rw [if_neg he]
      refine ⟨fun j hj => by omega, ?_⟩
      simp; omega
theorem tw_uniq {n k : Nat} (h1 : 1 ≤ n) (ha : ∀ j < k, (n / 2 ^ j) % 2 = 0) (hb : (n / 2 ^ k) % 2 = 1) : k = tw n n := by
  have s := tw_spec n n (Nat.le_refl n) h1
  rcases Nat.lt_trichotomy k (tw n n) with h | h | h
  · have := s.1 k h; omega
  · exact h
  · have := ha _ h; omega
theorem acc_half (n k : Nat) : accUp (fun _ x : Int => x.fdiv 2) 0 (n : Int) (k : Int) = ((n / 2 ^ k : Nat) : Int) := by
  induction k with
  | zero => rw [show ((0 : Nat) : Int) = 0 from rfl, accUp_start]; simp
  | succ k ih =>
    rw [show ((k + 1 : Nat) : Int) = (k : Int) + 1 from rfl, accUp_succ (Int.natCast_nonneg k), ih, Int.fdiv_eq_ediv_of_nonneg _ (by decide), Nat.pow_succ, ← Nat.div_div_eq_div_mul]
    rfl
theorem fm2 (n : Nat) : ((n : Int).fmod 2 == 0) = (n % 2 == 0) := by
  rw [Int.fmod_eq_emod_of_nonneg _ (by decide)]
  rcases Nat.mod_two_eq_zero_or_one n with h | h <;> rw [h]
  · have : (n : Int) % 2 = 0 := by omega
    rw [this]; rfl
  · have : (n : Int) % 2 = 1 := by omega
    rw [this]; rfl
theorem twos_ok {q : Program} {w : World} {mean : ExcName → Option Value} {mg mb : Str → Option Value} {loose : List Str} {dp un : Nat} {gd : Option (List Code)} {cn : Str} {cs : Scope} {a : Addr} {ccd : Value} {cl : List (Str × Addr)} {outer : List Env} {A₀ : Around} {base h₀ : Heap} {L : Addr} {m : Str → Option Value} {news : List (Addr × Obj)} {s : Shared}
    {Q E : Value → Shared → Prop} {n : Nat} {tk : Tok}
  (B : Below A₀ base outer h₀) (F : Fr h₀ L s.heap m) (X : (Mine.hd.heap_1 w.params).In h₀) (N : News h₀ L s.heap news) (T : Top q loose mean mg mb h₀) (hk : cs.kind = .function)
  (hn : 1 ≤ n) (hd : dp + 10 < recursionLimit) (hu : un + 80 < cLine)
  (hret : ∀ t h' tk', Fr h₀ L h' m → News h₀ L h' news → Q (.int ((tw n n : Nat)) t) { s with heap := h', toks := tk' }) :
  wpAny (model (PySem.Challenge.rw_in0277_01.row.toRowW.prog) w) (ktrTop dp un gd cn cs L a ccd cl outer) (call (.ref 313) [.int n tk]) Q E s := by
  revert X
  k_fill
  intro X
  refine wpAny_call ?_
  k_dflt cell_enter
  refine let_A ?_
  intro A0
  rename Fr _ _ _ _ => F0
  replace F0 : Fr _ _ _ (fun y => List.lookup y [(Str.ofString "n", Value.int n tk)]) := F0
  k_steps
  · refine stop_toMeasFrom (K := ((tw n n : Nat) : Int)) ⟨Int.natCast_nonneg _, ?_⟩
    show ((accUp (fun _ x : Int => x.fdiv 2) 0 (n : Int) ((tw n n : Nat) : Int)).fmod 2 == 0) = false
    rw [acc_half, fm2]
    have := (tw_spec n n (Nat.le_refl n) hn).2
    rw [this]; rfl
  · rename_i k t h9 tk9 h0 hle ha hb _ _ _ F9 N9 _ _
    obtain ⟨kn, rfl⟩ := Int.eq_ofNat_of_zero_le h0
    refine W.cb_retI hret ?_ F9 N9
    have e : kn = tw n n := by
      refine tw_uniq hn (fun j hj => ?_) ?_
      · have := ha (j : Int) (Int.natCast_nonneg j) (by omega)
        rw [show accUp (fun k x : Int => x.fdiv 2) 0 (n : Int) (j : Int) = _ from acc_half n j, fm2] at this
        exact eq_of_beq this
      · rw [show accUp (fun k x : Int => x.fdiv 2) 0 (n : Int) ((kn : Nat) : Int) = _ from acc_half n kn, fm2] at hb
        rcases Nat.mod_two_eq_zero_or_one (n / 2 ^ kn) with h | h
        · rw [h] at hb; cases hb
        · exact h
    rw [e]

end
end
end
section
-- W_written
open PySem PySem.W PySem.Calls PySem.Spec PyProof.Rows
set_option Elab.async false
set_option maxRecDepth 100000
set_option maxHeartbeats 8000000
set_option linter.all false
section
local macro_rules | `(tactic| omega) => `(tactic| lia)
section
local macro_rules | `(tactic| walk_at "eval ListComp") => `(tactic| (refine halt_in ?_))
local macro_rules | `(tactic| walk_at "subscriptTail") => `(tactic| ((with_reducible show wpAny _ _ (subscriptTail _ _ (Value.str _ _) (Value.int _ _)) _ _ _); refine halt_in ?_))
local macro_rules | `(tactic| walk_at "binaryOp Add str str") => `(tactic| (refine halt_in ?_))
local macro_rules | `(tactic| walk_at "call builtin:str.join") => `(tactic| (refine halt_in ?_))
/-- the sign of a value, a and b for 62 and 63 -/
noncomputable def wsg (a b : Nat) (v : Int) : Nat := if v = 62 then a else if v = 63 then b else if v = 2 then 67 else 49
theorem all2_map {α : Type} {f : α → Nat} {ks : List α} {ys : List Value} (h : All2 (fun k v => isTx (f k) v) ks ys) : All2 isTx (ks.map f) ys := by
  induction h with
  | nil => exact .nil
  | cons h _ ih => exact .cons h ih
theorem written_ok {q : Program} {w : World} {mean : ExcName → Option Value} {mg mb : Str → Option Value} {loose : List Str} {dp un : Nat} {gd : Option (List Code)} {cn : Str} {cs : Scope} {a : Addr} {ccd : Value} {cl : List (Str × Addr)} {outer : List Env} {A₀ : Around} {base h₀ : Heap} {L : Addr} {m : Str → Option Value} {news : List (Addr × Obj)} {s : Shared}
    {Q E : Value → Shared → Prop} {l k : Nat} {vs : List Value} {ns : List Int} {f : Nat} {a2 b2 : Nat} {tf tt : Tok}
  (B : Below A₀ base outer h₀) (F : Fr h₀ L s.heap m) (X : (Mine.hd.heap_1 w.params).In h₀) (N : News h₀ L s.heap news) (T : Top q loose mean mg mb h₀) (hk : cs.kind = .function)
  (hi : IntsAre vs ns) (hl : (l, listOf vs.toArray k) ∈ news) (hn : ns.length < 1000) (hf : f < 1000) (hv : ∀ v ∈ ns, v = 62 ∨ v = 63 ∨ v = 2 ∨ v = 53) (hd : dp + 20 < recursionLimit) (hu : un + 100 < cLine)
  (hret : ∀ t h' tk', Fr h₀ L h' m → News h₀ L h' news → Q (.str (tx (ns.map (wsg a2 b2) ++ List.replicate f 65)) t) { s with heap := h', toks := tk' }) :
  wpAny (model (PySem.Challenge.rw_in0277_01.row.toRowW.prog) w) (ktrTop dp un gd cn cs L a ccd cl outer) (call (.ref 325) [.ref l, .int (f : Int) tf, .str (tx [a2, b2]) tt]) Q E s := by
  revert X
  k_fill
  intro X
  refine wpAny_call ?_
  k_dflt (refine' code_defC ?k1 ?k2 ?k3 ?k4 ?k5 ?kA ?kF ?kK ?k6 ?k7 ?k8 ?k9 ?kB ?kD ?_ ?c2 ?c3 ?c4; (case kA => exact rfl); (case kF => exact rfl); (case kK => assumption); (case k1 => k_asm); (case k2 => k_asm); (case k3 => k_asm); (case k4 => k_asm); (case k5 => k_asm); (case k6 => k_is); (case k7 => k_is); (case k8 => ktr_room); (case k9 => exact BindsTo.of_eq rfl); (case kB => exact rfl); (case kD => decide +kernel); (case c2 => exact rfl); (case c3 => exact rfl); (case c4 => exact rfl); k_whole; intro g' L' h' tk' cells' FG' F' N' Y' B' X' T' l1; (try k_lt l1); k_cells Y'; (try simp only [List.cons_append, List.nil_append] at N'); (try dsimp only); (try k_lift B'); (try k_fold); refine let_A ?_; intro A0)
  rename_i o' d1'
  k_steps
  refine ⟨?_⟩
  refine ListComp_W F' (by with_unfolding_all rfl) (by decide) (by rfl) (by decide) (by rfl) ?_
  k_steps
  refine ⟨?_⟩
  refine src_list rfl F' N' (List.Mem.tail _ hl) (room (by rw [List.size_toArray, hi.length]; omega)) (fun g => rest_W (ks := ns) (fun k v => ∃ t, v = .int k t) (fun k v => isTx (wsg a2 b2 k) v) (by rw [List.size_toArray, hi.length]) ?_ ?_ ?_)
  · rintro i v hii hvv
    obtain ⟨x, tx, rfl, hx⟩ := int_at hi hvv
    exact ⟨x, hx, tx, rfl⟩
  · rintro k _ I oI C oC D m₂ ys h tk E' hk ⟨t, rfl⟩ hC hx F N off ne
    rcases hv _ hk with rfl | rfl | rfl | rfl
    · k_steps
      refine ⟨?_⟩
      refine item_tx (c := a2) (by decide) rfl (by show 2 ≤ _; decide) (fun t' kk => ?_)
      k_steps
      exact LCg.CompEnd.intro F N _ (fun p hp => hp) off (.inr ⟨_, .tail _ hl, rfl, _, rfl⟩) ⟨rfl, _, rfl⟩
    · k_steps
      refine ⟨?_⟩
      refine item_tx (c := b2) (by decide) rfl (by show 2 ≤ _; decide) (fun t' kk => ?_)
      k_steps
      exact LCg.CompEnd.intro F N _ (fun p hp => hp) off (.inr ⟨_, .tail _ hl, rfl, _, rfl⟩) ⟨rfl, _, rfl⟩
    · k_steps
      exact LCg.CompEnd.intro F N _ (fun p hp => hp) off (.inr ⟨_, .tail _ hl, rfl, _, rfl⟩) ⟨rfl, _, rfl⟩
    · k_steps
      exact LCg.CompEnd.intro F N _ (fun p hp => hp) off (.inr ⟨_, .tail _ hl, rfl, _, rfl⟩) ⟨rfl, _, rfl⟩
  · intro ys hys D h tk F2 N2 o2
    k_steps
    refine ⟨?_⟩
    rename News _ _ _ _ => N3
    refine join_tx (l := ns.map (wsg a2 b2)) ⟨_, (N3 _ (.head _)).1, rfl, _, rfl⟩ (all2_map hys) (by rw [List.length_map]; omega) (fun t' k => ?_)
    k_steps
    refine ⟨?_⟩
    rw [tx_mulA]
    refine add_tx (by rw [List.length_map, List.length_replicate]; omega) (fun t2 kk => ?_)
    k_steps
    rename Fr h₀ L _ m => F8
    rename News h₀ L _ _ => N8
    exact hret _ _ _ F8 (fun p hp => N8 p (.tail _ (.tail _ hp)))

end
end
end
section
-- Plain2
open PySem PySem.W
set_option Elab.async false
set_option linter.all false
section
local macro_rules | `(tactic| omega) => `(tactic| lia)
theorem last_app {α : Type} (l : List α) (x : α) : (l ++ [x]).getLast? = some x := by simp
theorem tr_rep0 (n : Nat) (acc : List (Option Nat)) (h : acc.getLast? = some none) : (List.replicate n 42).foldl trStep acc = acc := by
  induction n with
  | zero => rfl
  | succ n ih =>
    rw [List.replicate_succ, List.foldl_cons]
    have e : trStep acc 42 = acc := by unfold trStep; rw [if_pos rfl, if_pos h]
    rw [e, ih]
theorem tr_rep1 (n : Nat) (acc : List (Option Nat)) (hn : 1 ≤ n) (h : acc.getLast? ≠ some none) : (List.replicate n 42).foldl trStep acc = acc ++ [none] := by
  obtain ⟨k, rfl⟩ : ∃ k, n = k + 1 := ⟨n - 1, by omega⟩
  rw [List.replicate_succ, List.foldl_cons]
  have e : trStep acc 42 = acc ++ [none] := by unfold trStep; rw [if_pos rfl, if_neg h]
  rw [e]
  exact tr_rep0 k _ (last_app _ _)
theorem tr_repc {c : Nat} (hc : c ≠ 42) (n : Nat) : ∀ acc : List (Option Nat), (List.replicate n c).foldl trStep acc = acc ++ List.replicate n (some c) := by
  induction n with
  | zero => intro acc; simp
  | succ n ih =>
    intro acc
    rw [List.replicate_succ, List.foldl_cons]
    have e : trStep acc c = acc ++ [some c] := by unfold trStep; rw [if_neg hc]
    rw [e, ih, List.replicate_succ, List.append_assoc]
    rfl
noncomputable def keyOk (p : Int × Int) : Prop := p.1 = 62 ∨ p.1 = 63 ∨ p.1 = 2 ∨ p.1 = 53
noncomputable def adj : List (Int × Int) → Prop
  | p :: q :: r => p.1 ≠ q.1 ∧ adj (q :: r)
  | _ => True
theorem adj_tail {p : Int × Int} {r : List (Int × Int)} (h : adj (p :: r)) : adj r := by
  cases r with
  | nil => trivial
  | cons q r => exact h.2
theorem tr_main {h0 h1 : Nat} : ∀ (rs : List (Int × Int)) (acc : List (Option Nat)), adj rs → (∀ p ∈ rs, keyOk p) → (∀ p ∈ rs, 1 ≤ nowN h0 h1 p) → (∀ p, rs.head? = some p → p.1 = 62 → acc.getLast? ≠ some none) →
    ((nowF rs h0 h1).map (wsg 42 63)).foldl trStep acc = acc ++ rs.flatMap (partsB h1)
  | [], acc, _, _, _, _ => by simp [nowF]
  | p :: r, acc, ha, hk, hn, hl => by
    have e : (nowF (p :: r) h0 h1).map (wsg 42 63) = List.replicate (nowN h0 h1 p).toNat (wsg 42 63 p.1) ++ (nowF r h0 h1).map (wsg 42 63) := by
      unfold nowF
      rw [List.flatMap_cons, List.map_append]
      unfold nowB
      rw [List.map_replicate]
    have hp := hn p (.head _)
    have hb : (List.replicate (nowN h0 h1 p).toNat (wsg 42 63 p.1)).foldl trStep acc = acc ++ partsB h1 p := by
      by_cases h62 : p.1 = 62
      · unfold partsB
        rw [if_pos h62, show wsg 42 63 p.1 = 42 from by unfold wsg; rw [if_pos h62]]
        exact tr_rep1 _ _ (by omega) (hl p rfl h62)
      · have hs : wsg 42 63 p.1 = sgn p.1 := by
          unfold wsg sgn
          rw [if_neg h62]
        have hc : sgn p.1 ≠ 42 := by
          unfold sgn
          split
          · decide
          · split <;> decide
        have hN : nowN h0 h1 p = nowN 0 h1 p := by
          unfold nowN
          rw [if_neg h62, if_neg h62]
        unfold partsB
        rw [if_neg h62, hs, ← hN]
        exact tr_repc hc _ _
    rw [e, List.foldl_append, hb, tr_main r _ (adj_tail ha) (fun q hq => hk q (.tail _ hq)) (fun q hq => hn q (.tail _ hq)) ?_, List.flatMap_cons, List.append_assoc]
    intro q hq hq62
    cases r with
    | nil => cases hq
    | cons q' r =>
      cases Option.some.inj hq
      have h62 : p.1 ≠ 62 := fun z => ha.1 (z.trans hq62.symm)
      have hN : nowN h0 h1 p = nowN 0 h1 p := by
        unfold nowN
        rw [if_neg h62, if_neg h62]
      unfold partsB
      rw [if_neg h62, ← hN]
      obtain ⟨k, hk'⟩ : ∃ k, (nowN h0 h1 p).toNat = k + 1 := ⟨(nowN h0 h1 p).toNat - 1, by omega⟩
      rw [hk', List.replicate_succ', ← List.append_assoc, last_app]
      intro z
      cases z
/-- _translate of the encoded text is the list of parts -/
theorem tr_written {rs : List (Int × Int)} {h0 h1 fill : Nat} (ha : adj rs) (hk : ∀ p ∈ rs, keyOk p) (hn : ∀ p ∈ rs, 1 ≤ nowN h0 h1 p) :
    trF ((nowF rs h0 h1).map (wsg 42 63) ++ List.replicate fill 65) = partsF rs h1 fill := by
  unfold trF partsF
  rw [List.foldl_append, tr_main rs [] ha hk hn (fun _ _ _ z => nomatch z), tr_repc (by decide), List.nil_append]
end
end
section
-- Plain3
open PySem PySem.W
set_option Elab.async false
set_option linter.all false
section
local macro_rules | `(tactic| omega) => `(tactic| lia)
theorem adj_snoc : ∀ {l : List (Int × Int)} {a b : Int × Int}, adj (l ++ [a]) → a.1 ≠ b.1 → adj (l ++ [a] ++ [b])
  | [], a, b, _, h => ⟨h, trivial⟩
  | [x], a, b, h, hab => ⟨h.1, hab, trivial⟩
  | x :: y :: l, a, b, h, hab => ⟨h.1, adj_snoc (l := y :: l) h.2 hab⟩
theorem adj_last : ∀ {l : List (Int × Int)} {u n n' : Int}, adj (l ++ [(u, n)]) → adj (l ++ [(u, n')])
  | [], _, _, _, _ => trivial
  | [x], _, _, _, h => ⟨h.1, trivial⟩
  | x :: y :: l, _, _, _, h => ⟨h.1, adj_last (l := y :: l) h.2⟩
noncomputable def flatR (rs : List (Int × Int)) : List Int := rs.flatMap fun p => List.replicate p.2.toNat p.1
structure RunsIs (R : List (Int × Int)) (ns : List Int) : Prop where
  adj_ : adj R.reverse
  pos : ∀ p ∈ R, 1 ≤ p.2
  mem : ∀ p ∈ R, p.1 ∈ ns
  flat : flatR R.reverse = ns
theorem runs_step {R : List (Int × Int)} {ns : List Int} (h : RunsIs R ns) (v : Int) : RunsIs (runsStep R v) (ns ++ [v]) := by
  cases R with
  | nil =>
    have : ns = [] := h.flat.symm
    subst this
    exact ⟨trivial, fun p hp => by simp [runsStep] at hp; rw [hp]; exact Int.le_refl _, fun p hp => by simp [runsStep] at hp; rw [hp]; simp, by simp [runsStep, flatR]⟩
  | cons p r =>
    obtain ⟨u, n⟩ := p
    have hn : 1 ≤ n := h.pos (u, n) (.head _)
    have hf := h.flat
    have ha := h.adj_
    rw [List.reverse_cons] at hf ha
    unfold flatR at hf
    rw [List.flatMap_append] at hf
    simp only [List.flatMap_cons, List.flatMap_nil, List.append_nil] at hf
    by_cases e : u = v
    · have e2 : runsStep ((u, n) :: r) v = (u, n + 1) :: r := by simp [runsStep, e]
      rw [e2]
      refine ⟨by rw [List.reverse_cons]; exact adj_last ha, fun p hp => ?_, fun p hp => ?_, ?_⟩
      · rcases List.mem_cons.mp hp with rfl | hp
        · show 1 ≤ n + 1; omega
        · exact h.pos p (.tail _ hp)
      · rcases List.mem_cons.mp hp with rfl | hp
        · exact List.mem_append_left _ (h.mem (u, n) (.head _))
        · exact List.mem_append_left _ (h.mem p (.tail _ hp))
      · rw [List.reverse_cons]
        unfold flatR
        rw [List.flatMap_append]
        simp only [List.flatMap_cons, List.flatMap_nil, List.append_nil]
        rw [show (n + 1).toNat = n.toNat + 1 from by omega, List.replicate_succ', ← List.append_assoc, hf, e]
    · have e2 : runsStep ((u, n) :: r) v = (v, 1) :: (u, n) :: r := by simp [runsStep, e]
      rw [e2]
      refine ⟨by rw [List.reverse_cons, List.reverse_cons]; exact adj_snoc ha e, fun p hp => ?_, fun p hp => ?_, ?_⟩
      · rcases List.mem_cons.mp hp with rfl | hp
        · exact Int.le_refl _
        · exact h.pos p hp
      · rcases List.mem_cons.mp hp with rfl | hp
        · exact List.mem_append_right _ (.head _)
        · exact List.mem_append_left _ (h.mem p hp)
      · rw [List.reverse_cons, List.reverse_cons]
        unfold flatR
        rw [List.flatMap_append, List.flatMap_append]
        simp only [List.flatMap_cons, List.flatMap_nil, List.append_nil]
        rw [hf]
        rfl
theorem runs_is : ∀ (l : List Int) (R : List (Int × Int)) (ns : List Int), RunsIs R ns → RunsIs (l.foldl runsStep R) (ns ++ l)
  | [], R, ns, h => by simpa using h
  | v :: l, R, ns, h => by
    rw [List.foldl_cons, show ns ++ v :: l = (ns ++ [v]) ++ l from by simp]
    exact runs_is l _ _ (runs_step h v)
theorem runsF_is (ns : List Int) : adj (runsF ns) ∧ (∀ p ∈ runsF ns, 1 ≤ p.2) ∧ (∀ p ∈ runsF ns, p.1 ∈ ns) ∧ flatR (runsF ns) = ns := by
  have h := runs_is ns [] [] ⟨trivial, (fun _ h => nomatch h), (fun _ h => nomatch h), rfl⟩
  rw [List.nil_append] at h
  exact ⟨h.adj_, fun p hp => h.pos p (List.mem_reverse.mp hp), fun p hp => h.mem p (List.mem_reverse.mp hp), h.flat⟩
theorem now_zero (rs : List (Int × Int)) : nowF rs 0 0 = flatR rs := by
  unfold nowF flatR
  apply congrArg (fun f => List.flatMap f rs)
  funext p
  unfold nowB nowN
  simp
end
end
section
-- Plain5
open PySem PySem.W
set_option Elab.async false
set_option linter.all false
section
local macro_rules | `(tactic| omega) => `(tactic| lia)
noncomputable def segsOf (a b h0 h1 : Nat) (rs : List (Int × Int)) : List (Nat × Nat) := rs.map fun p => (wsg a b p.1, (nowN h0 h1 p).toNat)
theorem segs_flat (a b h0 h1 : Nat) (rs : List (Int × Int)) : (segsOf a b h0 h1 rs).flatMap seg = (nowF rs h0 h1).map (wsg a b) := by
  unfold segsOf nowF
  rw [List.flatMap_map, List.map_flatMap]
  apply congrArg (fun f => List.flatMap f rs)
  funext p
  unfold seg nowB
  rw [List.map_replicate]
theorem wsg_inj {a b : Nat} {u v : Int} (hab : a ≠ b) (ha : a ≠ 67 ∧ a ≠ 49) (hb : b ≠ 67 ∧ b ≠ 49) (hu : u = 62 ∨ u = 63 ∨ u = 2 ∨ u = 53) (hv : v = 62 ∨ v = 63 ∨ v = 2 ∨ v = 53) (e : wsg a b u = wsg a b v) : u = v := by
  obtain ⟨a1, a2⟩ := ha
  obtain ⟨b1, b2⟩ := hb
  rcases hu with rfl | rfl | rfl | rfl <;> rcases hv with rfl | rfl | rfl | rfl <;> simp [wsg] at e ⊢ <;> omega
theorem segs_adj {a b h0 h1 : Nat} (hab : a ≠ b) (ha : a ≠ 67 ∧ a ≠ 49) (hb : b ≠ 67 ∧ b ≠ 49) : ∀ rs : List (Int × Int), adj rs → (∀ p ∈ rs, keyOk p) → (∀ p, rs.getLast? = some p → p.1 = 53) → adjS (segsOf a b h0 h1 rs)
  | [], _, _, _ => trivial
  | [p], _, _, hl => by
    show wsg a b p.1 ≠ 92
    rw [hl p rfl]
    simp [wsg]
  | p :: q :: r, h, hk, hl => by
    refine ⟨fun e => h.1 (wsg_inj hab ha hb (hk p (.head _)) (hk q (.tail _ (.head _))) e), ?_⟩
    exact segs_adj hab ha hb (q :: r) h.2 (fun x hx => hk x (.tail _ hx)) (fun x hx => hl x (by rw [List.getLast?_cons_cons]; exact hx))
theorem half_now {n : Int} (h : Nat) (hn : 0 ≤ n) : (n / 2 ^ h).toNat / 2 = (n / 2 ^ (h + 1)).toNat := by
  have e : n / 2 ^ (h + 1) = n / 2 ^ h / 2 := by rw [Int.pow_succ, Int.ediv_ediv_of_nonneg (by exact Int.le_of_lt (Int.pow_pos (by decide)))]
  have h0 : 0 ≤ n / 2 ^ h := Int.ediv_nonneg hn (Int.le_of_lt (Int.pow_pos (by decide)))
  rw [e]
  omega
theorem half_map {a b h0 h1 g0 g1 : Nat} {rs : List (Int × Int)} (h : ∀ p ∈ rs, halfS (wsg a b p.1, (nowN h0 h1 p).toNat) = (nowB g0 g1 p).map (wsg a b)) : (segsOf a b h0 h1 rs).flatMap halfS = (nowF rs g0 g1).map (wsg a b) := by
  unfold segsOf nowF
  rw [List.flatMap_map, List.map_flatMap]
  induction rs with
  | nil => rfl
  | cons p r ih => rw [List.flatMap_cons, List.flatMap_cons, h p (.head _), ih fun q hq => h q (.tail _ hq)]
theorem half0 {h0 h1 : Nat} {rs : List (Int × Int)} (hk : ∀ p ∈ rs, keyOk p) (hp : ∀ p ∈ rs, 1 ≤ p.2) : (segsOf 92 47 h0 h1 rs).flatMap halfS = (nowF rs (h0 + 1) h1).map (wsg 92 47) := by
  refine half_map fun p hp' => ?_
  have hn := hp p hp'
  unfold halfS nowB
  rw [List.map_replicate]
  rcases hk p hp' with e | e | e | e
  · have e2 : nowN h0 h1 p = p.2 / 2 ^ h0 := by unfold nowN; rw [if_pos e]
    have e3 : nowN (h0 + 1) h1 p = p.2 / 2 ^ (h0 + 1) := by unfold nowN; rw [if_pos e]
    rw [e2, e3, ← half_now h0 (by omega), e]
    rfl
  all_goals
    have e4 : nowN (h0 + 1) h1 p = nowN h0 h1 p := by unfold nowN; rw [e]; rfl
    rw [e4, e]
    rfl
theorem half1 {h0 h1 : Nat} {rs : List (Int × Int)} (hk : ∀ p ∈ rs, keyOk p) (hp : ∀ p ∈ rs, 1 ≤ p.2) : (segsOf 43 92 h0 h1 rs).flatMap halfS = (nowF rs h0 (h1 + 1)).map (wsg 43 92) := by
  refine half_map fun p hp' => ?_
  have hn := hp p hp'
  unfold halfS nowB
  rw [List.map_replicate]
  rcases hk p hp' with e | e | e | e
  · have e4 : nowN h0 (h1 + 1) p = nowN h0 h1 p := by unfold nowN; rw [e]; rfl
    rw [e4, e]
    rfl
  · have e2 : nowN h0 h1 p = p.2 / 2 ^ h1 := by unfold nowN; rw [e]; rfl
    have e3 : nowN h0 (h1 + 1) p = p.2 / 2 ^ (h1 + 1) := by unfold nowN; rw [e]; rfl
    rw [e2, e3, ← half_now h1 (by omega), e]
    rfl
  all_goals
    have e4 : nowN h0 (h1 + 1) p = nowN h0 h1 p := by unfold nowN; rw [e]; rfl
    rw [e4, e]
    rfl
end
end
section
-- Plain6
open PySem PySem.W
set_option Elab.async false
set_option linter.all false
section
local macro_rules | `(tactic| omega) => `(tactic| lia)
noncomputable def twI (n : Int) : Nat := tw n.toNat n.toNat
noncomputable def isMin (kv : Int) (rs : List (Int × Int)) (m : Nat) : Prop := (∀ p ∈ rs, p.1 = kv → m ≤ twI p.2) ∧ ∃ p ∈ rs, p.1 = kv ∧ twI p.2 = m
theorem div_toNat {n : Int} (hn : 0 ≤ n) (h : Nat) : (n / 2 ^ h).toNat = n.toNat / 2 ^ h := by
  obtain ⟨k, rfl⟩ := Int.eq_ofNat_of_zero_le hn
  have : ((k : Int) / 2 ^ h) = ((k / 2 ^ h : Nat) : Int) := by push_cast; rfl
  rw [this]
  rfl
theorem tw_even {n : Int} (hn : 1 ≤ n) {j : Nat} (hj : j < twI n) : (n / 2 ^ j).toNat % 2 = 0 := by
  rw [div_toNat (by omega)]
  exact (tw_spec n.toNat n.toNat (Nat.le_refl _) (by omega)).1 j hj
theorem tw_odd {n : Int} (hn : 1 ≤ n) : (n / 2 ^ twI n).toNat % 2 = 1 := by
  rw [div_toNat (by omega)]
  exact (tw_spec n.toNat n.toNat (Nat.le_refl _) (by omega)).2
theorem tw_pos {n : Int} (hn : 1 ≤ n) {j : Nat} (hj : j ≤ twI n) : 1 ≤ n / 2 ^ j := by
  have h1 := tw_odd hn
  rw [div_toNat (by omega)] at h1
  have h2 : n.toNat / 2 ^ twI n ≤ n.toNat / 2 ^ j := Nat.div_le_div_left (Nat.pow_le_pow_right (by decide) hj) (Nat.pow_pos (by decide))
  have h3 := div_toNat (n := n) (by omega) j
  have h4 : 0 ≤ n / 2 ^ j := Int.ediv_nonneg (by omega) (Int.le_of_lt (Int.pow_pos (by decide)))
  generalize n.toNat / 2 ^ twI n = x at h1 h2
  generalize n.toNat / 2 ^ j = y at h2 h3
  generalize n / 2 ^ j = z at h3 h4 ⊢
  omega
theorem goodS_iff : ∀ (l : List (Nat × Nat)), goodS l = true ↔ ∀ q ∈ l, q.1 = 92 → q.2 % 2 = 0
  | [] => by simp [goodS]
  | p :: r => by
    rw [goodS_cons, Bool.and_eq_true, goodS_iff r]
    simp only [Bool.or_eq_true, bne_iff_ne, beq_iff_eq, List.forall_mem_cons]
    constructor
    · rintro ⟨h, h'⟩
      exact ⟨fun e => h.resolve_left (fun z => z e), h'⟩
    · rintro ⟨h, h'⟩
      refine ⟨?_, h'⟩
      by_cases e : p.1 = 92
      · exact .inr (h e)
      · exact .inl e
theorem now_pos {h0 h1 m0 m1 : Nat} {rs : List (Int × Int)} (hp : ∀ p ∈ rs, 1 ≤ p.2) (i0 : isMin 62 rs m0) (i1 : isMin 63 rs m1) (l0 : h0 ≤ m0) (l1 : h1 ≤ m1) : ∀ p ∈ rs, 1 ≤ nowN h0 h1 p := fun p hp' => by
  have hn := hp p hp'
  unfold nowN
  split
  · rename_i e
    exact tw_pos hn (Nat.le_trans l0 (i0.1 p hp' e))
  · split
    · rename_i e
      exact tw_pos hn (Nat.le_trans l1 (i1.1 p hp' e))
    · exact hn
theorem good0_lt {h0 h1 m0 : Nat} {rs : List (Int × Int)} (hk : ∀ p ∈ rs, keyOk p) (hp : ∀ p ∈ rs, 1 ≤ p.2) (i0 : isMin 62 rs m0) (hl : h0 < m0) : goodS (segsOf 92 47 h0 h1 rs) = true := by
  rw [goodS_iff]
  intro q hq e
  obtain ⟨p, hp', rfl⟩ := List.mem_map.mp hq
  dsimp only at e ⊢
  rcases hk p hp' with k | k | k | k
  · unfold nowN
    rw [if_pos k]
    exact tw_even (hp p hp') (Nat.lt_of_lt_of_le hl (i0.1 p hp' k))
  all_goals (rw [k] at e; simp [wsg] at e)
theorem good0_eq {h1 m0 : Nat} {rs : List (Int × Int)} (hp : ∀ p ∈ rs, 1 ≤ p.2) (i0 : isMin 62 rs m0) : goodS (segsOf 92 47 m0 h1 rs) = false := by
  rw [← Bool.not_eq_true, goodS_iff]
  intro h
  obtain ⟨p, hp', k, e⟩ := i0.2
  have := h _ (List.mem_map_of_mem hp') (by rw [k]; rfl)
  dsimp only at this
  unfold nowN at this
  rw [if_pos k] at this
  subst e
  have := tw_odd (hp p hp')
  omega
theorem good1_lt {h0 h1 m1 : Nat} {rs : List (Int × Int)} (hk : ∀ p ∈ rs, keyOk p) (hp : ∀ p ∈ rs, 1 ≤ p.2) (i1 : isMin 63 rs m1) (hl : h1 < m1) : goodS (segsOf 43 92 h0 h1 rs) = true := by
  rw [goodS_iff]
  intro q hq e
  obtain ⟨p, hp', rfl⟩ := List.mem_map.mp hq
  dsimp only at e ⊢
  rcases hk p hp' with k | k | k | k
  · rw [k] at e; simp [wsg] at e
  · have e2 : nowN h0 h1 p = p.2 / 2 ^ h1 := by unfold nowN; rw [k]; rfl
    rw [e2]
    exact tw_even (hp p hp') (Nat.lt_of_lt_of_le hl (i1.1 p hp' k))
  all_goals (rw [k] at e; simp [wsg] at e)
theorem good1_eq {h0 m1 : Nat} {rs : List (Int × Int)} (hp : ∀ p ∈ rs, 1 ≤ p.2) (i1 : isMin 63 rs m1) : goodS (segsOf 43 92 h0 m1 rs) = false := by
  rw [← Bool.not_eq_true, goodS_iff]
  intro h
  obtain ⟨p, hp', k, e⟩ := i1.2
  have := h _ (List.mem_map_of_mem hp') (by rw [k]; rfl)
  dsimp only at this
  have e2 : nowN h0 m1 p = p.2 / 2 ^ m1 := by unfold nowN; rw [k]; rfl
  rw [e2] at this
  subst e
  have := tw_odd (hp p hp')
  omega
end
end
section
-- Plain7
open PySem PySem.W
set_option Elab.async false
set_option linter.all false
section
local macro_rules | `(tactic| omega) => `(tactic| lia)
theorem runs_keep : ∀ (l : List Int) (p : Int × Int) (R : List (Int × Int)), ∃ p' S, l.foldl runsStep (p :: R) = p' :: (S ++ R)
  | [], p, R => ⟨p, [], rfl⟩
  | v :: l, (u, n), R => by
    rw [List.foldl_cons]
    by_cases e : u = v
    · have e2 : runsStep ((u, n) :: R) v = (u, n + 1) :: R := by simp [runsStep, e]
      rw [e2]
      exact runs_keep l _ R
    · have e2 : runsStep ((u, n) :: R) v = (v, 1) :: (u, n) :: R := by simp [runsStep, e]
      rw [e2]
      obtain ⟨p', S, h⟩ := runs_keep l (v, 1) ((u, n) :: R)
      exact ⟨p', S ++ [(u, n)], by rw [h]; simp⟩
theorem blk2 : blk 2 = [62, 62, 62, 62, 2] := by decide
theorem blk3 : blk 3 = [63, 63, 63, 63, 2] := by decide
noncomputable def valsF (ns : List Int) : List Int := letterF ns ++ [53]
theorem vals_eq (ns : List Int) : valsF ns = [62, 62, 62, 62, 2, 63, 63, 63, 63, 2] ++ ((ns.take 3).flatMap blk ++ [53]) := by
  unfold valsF letterF
  rw [List.flatMap_append, show ([2, 3] : List Int).flatMap blk = [62, 62, 62, 62, 2, 63, 63, 63, 63, 2] from by decide, List.append_assoc]
theorem runs_four (ns : List Int) : ((62, 4) : Int × Int) ∈ runsF (valsF ns) ∧ ((63, 4) : Int × Int) ∈ runsF (valsF ns) := by
  unfold runsF
  rw [vals_eq, List.foldl_append, show ([62, 62, 62, 62, 2, 63, 63, 63, 63, 2] : List Int).foldl runsStep [] = [(2, 1), (63, 4), (2, 1), (62, 4)] from by decide]
  obtain ⟨p', S, h⟩ := runs_keep ((ns.take 3).flatMap blk ++ [53]) (2, 1) [(63, 4), (2, 1), (62, 4)]
  rw [h]
  constructor <;> simp
theorem blk_key (x v : Int) (h : v ∈ blk x) : v = 62 ∨ v = 63 ∨ v = 2 ∨ v = 53 := by
  unfold blk at h
  rcases List.mem_append.mp h with h | h
  · have := List.eq_of_mem_replicate h
    omega
  · have e : ((x / 12) % 3).toNat = 0 ∨ ((x / 12) % 3).toNat = 1 ∨ ((x / 12) % 3).toNat = 2 := by omega
    rcases e with e | e | e <;> rw [e] at h <;> simp at h
    · exact .inr (.inr (.inl h))
    · exact .inr (.inr (.inr h))
theorem vals_key (ns : List Int) : ∀ v ∈ valsF ns, v = 62 ∨ v = 63 ∨ v = 2 ∨ v = 53 := fun v hv => by
  rcases List.mem_append.mp hv with hv | hv
  · unfold letterF at hv
    obtain ⟨x, _, hx⟩ := List.mem_flatMap.mp hv
    exact blk_key x v hx
  · rw [List.mem_singleton.mp hv]
    exact .inr (.inr (.inr rfl))
theorem vals_len (ns : List Int) : (valsF ns).length ≤ 46 := by
  unfold valsF letterF
  rw [List.length_append]
  have := blk_len ([2, 3] ++ ns.take 3)
  have h3 : ([2, 3] ++ ns.take 3).length ≤ 5 := by rw [List.length_append, List.length_take]; show 2 + _ ≤ 5; omega
  show _ + 1 ≤ 46
  omega
theorem runs_last (ns : List Int) : ∀ p, (runsF (valsF ns)).getLast? = some p → p.1 = 53 := fun p hp => by
  obtain ⟨_, hpos, _, hflat⟩ := runsF_is (valsF ns)
  obtain ⟨l, hl⟩ : ∃ l, runsF (valsF ns) = l ++ [p] := by
    have := List.getLast?_eq_some_iff.mp hp
    obtain ⟨l, h⟩ := this
    exact ⟨l, h⟩
  have h1 := hpos p (List.mem_of_getLast? hp)
  rw [hl] at hflat
  unfold flatR at hflat
  rw [List.flatMap_append] at hflat
  simp only [List.flatMap_cons, List.flatMap_nil, List.append_nil] at hflat
  obtain ⟨k, hk⟩ : ∃ k, p.2.toNat = k + 1 := ⟨p.2.toNat - 1, by omega⟩
  rw [hk, List.replicate_succ', ← List.append_assoc] at hflat
  have e := congrArg List.getLast? hflat
  unfold valsF at e
  rw [last_app, last_app] at e
  exact Option.some.inj e
theorem min_of {kv : Int} {rs : List (Int × Int)} : ∀ (n : Nat), (∃ p ∈ rs, p.1 = kv ∧ twI p.2 ≤ n) → ∃ m, m ≤ n ∧ isMin kv rs m
  | 0, ⟨p, hp, k, h⟩ => ⟨0, Nat.le_refl _, fun _ _ _ => Nat.zero_le _, p, hp, k, by omega⟩
  | n + 1, ⟨p, hp, k, h⟩ => by
    by_cases hex : ∃ q ∈ rs, q.1 = kv ∧ twI q.2 ≤ n
    · obtain ⟨m, hm, i⟩ := min_of n hex
      exact ⟨m, by omega, i⟩
    · refine ⟨n + 1, Nat.le_refl _, fun q hq hk => ?_, p, hp, k, ?_⟩
      · exact Nat.lt_of_not_le fun z => hex ⟨q, hq, hk, z⟩
      · have : ¬ twI p.2 ≤ n := fun z => hex ⟨p, hp, k, z⟩
        omega
theorem min_two (ns : List Int) : (∃ m, m ≤ 2 ∧ isMin 62 (runsF (valsF ns)) m) ∧ (∃ m, m ≤ 2 ∧ isMin 63 (runsF (valsF ns)) m) :=
  ⟨min_of 2 ⟨_, (runs_four ns).1, rfl, by decide⟩, min_of 2 ⟨_, (runs_four ns).2, rfl, by decide⟩⟩
end
end
section
-- Plain8
open PySem PySem.W
set_option Elab.async false
set_option linter.all false
section
theorem bytes_map (l : List Int) (f : UInt8 → UInt8) : (W.KBw.bInts ((byteArr l).map f)) = l.map fun n => ((f (n.toNat.toUInt8)).toNat : Int) := by
  unfold W.KBw.bInts byteArr
  simp
noncomputable def sv (a b : Nat) (v : Int) : Nat := if v = 0 then 65 else wsg a b v
noncomputable def key0 (v : Int) : Prop := v = 0 ∨ v = 62 ∨ v = 63 ∨ v = 2 ∨ v = 53
theorem enc_s0 {v : Int} (h : key0 v) : (alt 92 47 ((b64c v).toNat.toUInt8)).toNat = sv 92 47 v := by rcases h with rfl | rfl | rfl | rfl | rfl <;> decide
theorem enc_s1 {v : Int} (h : key0 v) : (alt 43 92 ((b64c v).toNat.toUInt8)).toNat = sv 43 92 v := by rcases h with rfl | rfl | rfl | rfl | rfl <;> decide
theorem enc_s2 {v : Int} (h : key0 v) : (alt 42 63 ((b64c v).toNat.toUInt8)).toNat = sv 42 63 v := by rcases h with rfl | rfl | rfl | rfl | rfl <;> decide
theorem dec_s0 {v : Int} (h : key0 v) : b64val (((una 92 47 ((((sv 92 47 v : Nat) : Int)).toNat.toUInt8)).toNat : Nat) : Int) = v := by rcases h with rfl | rfl | rfl | rfl | rfl <;> decide
theorem dec_s1 {v : Int} (h : key0 v) : b64val (((una 43 92 ((((sv 43 92 v : Nat) : Int)).toNat.toUInt8)).toNat : Nat) : Int) = v := by rcases h with rfl | rfl | rfl | rfl | rfl <;> decide
theorem dec_n0 {v : Int} (h : key0 v) : (((una 92 47 ((((sv 92 47 v : Nat) : Int)).toNat.toUInt8)).toNat : Nat) : Int) ≠ 61 := by rcases h with rfl | rfl | rfl | rfl | rfl <;> decide
theorem dec_n1 {v : Int} (h : key0 v) : (((una 43 92 ((((sv 43 92 v : Nat) : Int)).toNat.toUInt8)).toNat : Nat) : Int) ≠ 61 := by rcases h with rfl | rfl | rfl | rfl | rfl <;> decide
theorem key_lt {v : Int} (h : key0 v) : inB v := by rcases h with rfl | rfl | rfl | rfl | rfl <;> exact ⟨by decide, by decide⟩
/-- the values with their filling -/
noncomputable def full (rs : List (Int × Int)) (h0 h1 fill : Nat) : List Int := nowF rs h0 h1 ++ List.replicate fill 0
theorem full_key {rs : List (Int × Int)} {h0 h1 fill : Nat} (hk : ∀ p ∈ rs, keyOk p) : ∀ v ∈ full rs h0 h1 fill, key0 v := fun v hv => by
  rcases List.mem_append.mp hv with hv | hv
  · unfold nowF at hv
    obtain ⟨p, hp, h⟩ := List.mem_flatMap.mp hv
    unfold nowB at h
    rw [List.eq_of_mem_replicate h]
    exact .inr (hk p hp)
  · exact .inl (List.eq_of_mem_replicate hv)
theorem full_text {a b : Nat} {rs : List (Int × Int)} {h0 h1 fill : Nat} (hk : ∀ p ∈ rs, keyOk p) : (full rs h0 h1 fill).map (sv a b) = (nowF rs h0 h1).map (wsg a b) ++ List.replicate fill 65 := by
  unfold full
  rw [List.map_append, List.map_replicate]
  refine (congrArg (· ++ _) (List.map_congr_left fun v hv => ?_) : (nowF rs h0 h1).map (sv a b) ++ List.replicate fill (sv a b 0) = (nowF rs h0 h1).map (wsg a b) ++ List.replicate fill (sv a b 0))
  unfold nowF at hv
  obtain ⟨p, hp, h⟩ := List.mem_flatMap.mp hv
  unfold nowB at h
  have e := List.eq_of_mem_replicate h
  unfold sv
  rw [if_neg (by rcases hk p hp with k | k | k | k <;> rw [e, k] <;> decide)]
theorem row_ints {V : List Int} {k : Nat} (hl : V.length = 4 * k) (hV : ∀ v ∈ V, inB v) : (b2aF (octPre V k)).2.1 = 0 ∧ (b2aF (octPre V k)).2.2 = V.map b64c := by
  obtain ⟨l', e⟩ := b2a_oct k V hl hV 0 []
  unfold b2aF
  rw [e]
  exact ⟨rfl, by simp⟩
theorem row_back {V : List Int} {k : Nat} (hl : V.length = 4 * k) (hV : ∀ v ∈ V, inB v) : (a2bF V).1 = 0 ∧ (a2bF V).2.2 = octPre V k := by
  obtain ⟨l', e⟩ := a2b_oct k V hl hV 0 []
  unfold a2bF
  rw [e]
  exact ⟨rfl, by simp⟩
end
end
section
-- Plain9
open PySem PySem.W PySem.Calls PySem.Spec PyProof.Rows
set_option Elab.async false
set_option maxRecDepth 100000
set_option linter.all false
section
local macro_rules | `(tactic| omega) => `(tactic| lia)
theorem flatR_len : ∀ (rs : List (Int × Int)) (p : Int × Int), p ∈ rs → p.2 ≤ (flatR rs).length
  | q :: r, p, h => by
    unfold flatR
    rw [List.flatMap_cons, List.length_append, List.length_replicate]
    rcases List.mem_cons.mp h with rfl | h
    · omega
    · have := flatR_len r p h
      unfold flatR at this
      omega
theorem runs_bound (ns : List Int) : ∀ p ∈ runsF (valsF ns), p.2 ≤ 46 := fun p hp => by
  have h1 := flatR_len _ p hp
  rw [(runsF_is (valsF ns)).2.2.2] at h1
  have := vals_len ns
  omega
theorem now_le {h0 h1 : Nat} {p : Int × Int} {B : Int} (h : 0 ≤ p.2) (hb : p.2 ≤ B) : nowN h0 h1 p ≤ B := by
  have key : ∀ j : Nat, p.2 / 2 ^ j ≤ p.2 := fun j => Int.ediv_le_self _ h
  unfold nowN
  split
  · exact Int.le_trans (key _) hb
  · split
    · exact Int.le_trans (key _) hb
    · exact hb
/-- the signs of a manner -/
noncomputable def KindOk (kd : Int) (a2 b2 : Nat) (p0 p1 : UInt8) : Prop := (kd = 0 ∧ a2 = 92 ∧ b2 = 47 ∧ p0 = 92 ∧ p1 = 47) ∨ (kd = 1 ∧ a2 = 43 ∧ b2 = 92 ∧ p0 = 43 ∧ p1 = 92)
noncomputable def textF (rs : List (Int × Int)) (h0 h1 fill a b : Nat) : List Nat := (nowF rs h0 h1).map (wsg a b) ++ List.replicate fill 65
theorem textF_def (rs : List (Int × Int)) (h0 h1 fill a b : Nat) : textF rs h0 h1 fill a b = (nowF rs h0 h1).map (wsg a b) ++ List.replicate fill 65 := rfl
noncomputable def selK (kd : Int) (a b : Nat) : Nat := if kd = 0 then a else b
noncomputable def next0 (kd : Int) (h0 : Nat) : Nat := if kd = 0 then h0 + 1 else h0
noncomputable def next1 (kd : Int) (h1 : Nat) : Nat := if kd = 0 then h1 else h1 + 1
theorem next_int {kd : Int} (h : kd = 0 ∨ kd = 1) (h0 h1 : Nat) : (h0 : Int) + 1 - kd = (next0 kd h0 : Nat) ∧ (h1 : Int) + kd = (next1 kd h1 : Nat) := by
  unfold next0 next1
  rcases h with rfl | rfl
  · exact ⟨by simp, by simp⟩
  · exact ⟨by simp, by simp⟩
theorem enc_key {kd : Int} {a2 b2 : Nat} {p0 p1 : UInt8} (h : KindOk kd a2 b2 p0 p1) : ∀ v, key0 v → (alt p0 p1 ((b64c v).toNat.toUInt8)).toNat = sv a2 b2 v := fun v hv => by
  rcases h with ⟨_, rfl, rfl, rfl, rfl⟩ | ⟨_, rfl, rfl, rfl, rfl⟩
  · exact enc_s0 hv
  · exact enc_s1 hv
theorem enc_text {a b : Nat} {p0 p1 : UInt8} {rs : List (Int × Int)} {h0 h1 fill kk : Nat} (hf : ∀ v, key0 v → (alt p0 p1 ((b64c v).toNat.toUInt8)).toNat = sv a b v) (hk : ∀ p ∈ rs, keyOk p) (hl : (full rs h0 h1 fill).length = 4 * kk) :
    (b2aF (W.KBw.bInts (byteArr (octPre (full rs h0 h1 fill) kk)))).2.1 = 0 ∧ (W.KBw.bInts ((byteArr (b2aF (W.KBw.bInts (byteArr (octPre (full rs h0 h1 fill) kk)))).2.2).map (alt p0 p1))).map Int.toNat = textF rs h0 h1 fill a b := by
  have hV : ∀ v ∈ full rs h0 h1 fill, inB v := fun v hv => key_lt (full_key hk v hv)
  rw [W.KBa.ints_make (oct_in hV kk)]
  obtain ⟨r1, r2⟩ := row_ints hl hV
  refine ⟨r1, ?_⟩
  rw [r2, bytes_map, List.map_map, List.map_map]
  unfold textF
  rw [← full_text hk]
  refine List.map_congr_left fun v hv => ?_
  show Int.toNat ((((alt p0 p1 ((b64c v).toNat.toUInt8)).toNat : Nat) : Int)) = _
  rw [Int.toNat_natCast]
  exact hf v (full_key hk v hv)
theorem enc_size {p0 p1 : UInt8} {rs : List (Int × Int)} {h0 h1 fill kk : Nat} (hk : ∀ p ∈ rs, keyOk p) (hl : (full rs h0 h1 fill).length = 4 * kk) :
    ((byteArr (b2aF (W.KBw.bInts (byteArr (octPre (full rs h0 h1 fill) kk)))).2.2).map (alt p0 p1)).size = 4 * kk := by
  have hV : ∀ v ∈ full rs h0 h1 fill, inB v := fun v hv => key_lt (full_key hk v hv)
  rw [W.KBa.ints_make (oct_in hV kk), (row_ints hl hV).2, Array.size_map]
  unfold byteArr
  rw [List.size_toArray, List.length_map, List.length_map, hl]
theorem row_size (V : List Int) (kk : Nat) : (byteArr (octPre V kk)).size = 3 * kk := by
  unfold byteArr
  rw [List.size_toArray, List.length_map, oct_len]
theorem dec_text {kd : Int} {a2 b2 : Nat} {p0 p1 : UInt8} {rs : List (Int × Int)} {h0 h1 fill kk : Nat} (hK : KindOk kd a2 b2 p0 p1) (hk : ∀ p ∈ rs, keyOk p) (hl : (full rs h0 h1 fill).length = 4 * kk) :
    (∀ c ∈ W.KBw.bInts ((byteArr ((textF rs h0 h1 fill a2 b2).map fun c : Nat => (c : Int))).map (una p0 p1)), c ≠ 61 ∧ b64val c < 64) ∧ (a2bF ((W.KBw.bInts ((byteArr ((textF rs h0 h1 fill a2 b2).map fun c : Nat => (c : Int))).map (una p0 p1))).map b64val)).1 = 0 ∧
      (a2bF ((W.KBw.bInts ((byteArr ((textF rs h0 h1 fill a2 b2).map fun c : Nat => (c : Int))).map (una p0 p1))).map b64val)).2.2 = octPre (full rs h0 h1 fill) kk := by
  have hV : ∀ v ∈ full rs h0 h1 fill, inB v := fun v hv => key_lt (full_key hk v hv)
  have hd : ∀ v, key0 v → b64val (((una p0 p1 ((((sv a2 b2 v : Nat) : Int)).toNat.toUInt8)).toNat : Nat) : Int) = v := fun v hv => by
    rcases hK with ⟨_, rfl, rfl, rfl, rfl⟩ | ⟨_, rfl, rfl, rfl, rfl⟩
    · exact dec_s0 hv
    · exact dec_s1 hv
  have hn : ∀ v, key0 v → (((una p0 p1 ((((sv a2 b2 v : Nat) : Int)).toNat.toUInt8)).toNat : Nat) : Int) ≠ 61 := fun v hv => by
    rcases hK with ⟨_, rfl, rfl, rfl, rfl⟩ | ⟨_, rfl, rfl, rfl, rfl⟩
    · exact dec_n0 hv
    · exact dec_n1 hv
  have e : W.KBw.bInts ((byteArr ((textF rs h0 h1 fill a2 b2).map fun c : Nat => (c : Int))).map (una p0 p1)) = (full rs h0 h1 fill).map fun v => (((una p0 p1 ((((sv a2 b2 v : Nat) : Int)).toNat.toUInt8)).toNat : Nat) : Int) := by
    rw [bytes_map]
    unfold textF
    rw [← full_text hk, List.map_map, List.map_map]
    rfl
  have e2 : ((full rs h0 h1 fill).map fun v => (((una p0 p1 ((((sv a2 b2 v : Nat) : Int)).toNat.toUInt8)).toNat : Nat) : Int)).map b64val = full rs h0 h1 fill := by
    rw [List.map_map]
    refine (List.map_congr_left fun v hv => ?_).trans (List.map_id _)
    exact hd v (full_key hk v hv)
  rw [e, e2]
  refine ⟨fun c hc => ?_, row_back hl hV⟩
  obtain ⟨v, hv, rfl⟩ := List.mem_map.mp hc
  refine ⟨hn v (full_key hk v hv), ?_⟩
  show b64val _ < 64
  rw [hd v (full_key hk v hv)]
  exact (hV v hv).2
theorem now_len_le {h0 h1 : Nat} : ∀ rs : List (Int × Int), (∀ p ∈ rs, 0 ≤ p.2) → (nowF rs h0 h1).length ≤ (flatR rs).length
  | [], _ => Nat.le_refl _
  | p :: r, h => by
    have ih := now_len_le (h0 := h0) (h1 := h1) r fun p hp => h p (.tail _ hp)
    unfold nowF flatR at ih ⊢
    rw [List.flatMap_cons, List.flatMap_cons, List.length_append, List.length_append, List.length_replicate]
    unfold nowB at ih ⊢
    rw [List.length_replicate]
    have := now_le (h0 := h0) (h1 := h1) (h p (.head _)) (Int.le_refl _)
    omega
theorem now_46 (ns : List Int) (h0 h1 : Nat) : (nowF (runsF (valsF ns)) h0 h1).length ≤ 46 := by
  have h := now_len_le (h0 := h0) (h1 := h1) (runsF (valsF ns)) fun p hp => by have := (runsF_is (valsF ns)).2.1 p hp; omega
  rw [(runsF_is (valsF ns)).2.2.2] at h
  exact Nat.le_trans h (vals_len ns)
theorem now_key {h0 h1 : Nat} {rs : List (Int × Int)} (hk : ∀ p ∈ rs, keyOk p) : ∀ v ∈ nowF rs h0 h1, v = 62 ∨ v = 63 ∨ v = 2 ∨ v = 53 := fun v hv => by
  unfold nowF at hv
  obtain ⟨p, hp, h⟩ := List.mem_flatMap.mp hv
  unfold nowB at h
  rw [List.eq_of_mem_replicate h]
  exact hk p hp
theorem text_sig {kd : Int} {a2 b2 : Nat} {p0 p1 : UInt8} {rs : List (Int × Int)} {h0 h1 fill : Nat} (hK : KindOk kd a2 b2 p0 p1) (hk : ∀ p ∈ rs, keyOk p) : ∀ x ∈ textF rs h0 h1 fill a2 b2, x = 92 ∨ sg5 x := fun x hx => by
  unfold textF at hx
  rcases List.mem_append.mp hx with hx | hx
  · obtain ⟨v, hv, rfl⟩ := List.mem_map.mp hx
    rcases hK with ⟨_, rfl, rfl, _, _⟩ | ⟨_, rfl, rfl, _, _⟩ <;> rcases now_key hk v hv with rfl | rfl | rfl | rfl <;> (unfold sg5; decide)
  · rw [List.eq_of_mem_replicate hx]; exact .inr (by unfold sg5; decide)
theorem text_sgT {rs : List (Int × Int)} {h0 h1 fill : Nat} (hk : ∀ p ∈ rs, keyOk p) : ∀ x ∈ textF rs h0 h1 fill 42 63, sgT x := fun x hx => by
  unfold textF at hx
  rcases List.mem_append.mp hx with hx | hx
  · obtain ⟨v, hv, rfl⟩ := List.mem_map.mp hx
    rcases now_key hk v hv with rfl | rfl | rfl | rfl <;> (unfold sgT; decide)
  · rw [List.eq_of_mem_replicate hx]; unfold sgT; decide
theorem now_last {h0 h1 : Nat} : ∀ rs : List (Int × Int), (∀ p ∈ rs, 1 ≤ nowN h0 h1 p) → (∀ p, rs.getLast? = some p → p.1 = 53) → ∀ v, (nowF rs h0 h1).getLast? = some v → v = 53
  | [], _, _, v, h => by cases h
  | [p], hn, hl, v, h => by
    have e : nowF [p] h0 h1 = nowB h0 h1 p := by unfold nowF; simp
    rw [e] at h
    unfold nowB at h
    have := List.mem_of_getLast? h
    rw [List.eq_of_mem_replicate this]
    exact hl p rfl
  | p :: q :: r, hn, hl, v, h => by
    have e : nowF (p :: q :: r) h0 h1 = nowB h0 h1 p ++ nowF (q :: r) h0 h1 := by unfold nowF; rw [List.flatMap_cons]
    have hne : nowF (q :: r) h0 h1 ≠ [] := by
      unfold nowF
      rw [List.flatMap_cons]
      intro z
      have z1 := (List.append_eq_nil_iff.mp z).1
      unfold nowB at z1
      have z2 := congrArg List.length z1
      rw [List.length_replicate] at z2
      have := hn q (.tail _ (.head _))
      simp only [List.length_nil] at z2
      omega
    rw [e, List.getLast?_append] at h
    obtain ⟨z, hz⟩ : ∃ z, (nowF (q :: r) h0 h1).getLast? = some z := by cases e9 : (nowF (q :: r) h0 h1).getLast? with | none => exact absurd (List.getLast?_eq_none_iff.mp e9) hne | some z => exact ⟨z, rfl⟩
    rw [hz] at h
    replace h : some z = some v := h
    rw [← hz] at h
    exact now_last (q :: r) (fun p hp => hn p (.tail _ hp)) (fun p hp => hl p (by rw [List.getLast?_cons_cons]; exact hp)) v h
theorem text_last {kd : Int} {a2 b2 : Nat} {p0 p1 : UInt8} {rs : List (Int × Int)} {h0 h1 fill : Nat} (hK : KindOk kd a2 b2 p0 p1) (hn : ∀ p ∈ rs, 1 ≤ nowN h0 h1 p) (hl : ∀ p, rs.getLast? = some p → p.1 = 53) : (textF rs h0 h1 fill a2 b2).getLast? ≠ some 92 := by
  unfold textF
  cases fill with
  | succ f =>
    rw [List.replicate_succ', ← List.append_assoc, List.getLast?_append]
    simp
  | zero =>
    rw [List.replicate_zero, List.append_nil, List.getLast?_map]
    cases e : (nowF rs h0 h1).getLast? with
    | none => simp
    | some v =>
      rw [now_last rs hn hl v e]
      rcases hK with ⟨_, rfl, rfl, _, _⟩ | ⟨_, rfl, rfl, _, _⟩ <;> decide
theorem un_text {kd : Int} {a2 b2 : Nat} {p0 p1 : UInt8} {rs : List (Int × Int)} {h0 h1 fill m0 m1 : Nat} (hK : KindOk kd a2 b2 p0 p1) (ha : adj rs) (hk : ∀ p ∈ rs, keyOk p) (hp : ∀ p ∈ rs, 1 ≤ p.2) (hl : ∀ p, rs.getLast? = some p → p.1 = 53)
    (i0 : isMin 62 rs m0) (i1 : isMin 63 rs m1) (l0 : h0 ≤ m0) (l1 : h1 ≤ m1) :
    unesc (textF rs h0 h1 fill a2 b2) = if selK kd h0 h1 = selK kd m0 m1 then none else some (textF rs (next0 kd h0) (next1 kd h1) fill a2 b2) := by
  have hn := now_pos hp i0 i1 l0 l1
  have hs : ∀ p ∈ segsOf a2 b2 h0 h1 rs, 1 ≤ p.2 := fun p hp' => by
    unfold segsOf at hp'
    obtain ⟨q, hq, rfl⟩ := List.mem_map.mp hp'
    have := hn q hq
    show 1 ≤ (nowN h0 h1 q).toNat
    omega
  have ht : ∀ x ∈ List.replicate fill 65, x ≠ 92 := fun x hx => by rw [List.eq_of_mem_replicate hx]; decide
  have hab : a2 ≠ b2 ∧ (a2 ≠ 67 ∧ a2 ≠ 49) ∧ (b2 ≠ 67 ∧ b2 ≠ 49) := by rcases hK with ⟨_, rfl, rfl, _, _⟩ | ⟨_, rfl, rfl, _, _⟩ <;> decide
  have hu := un_segs ht _ hs (segs_adj (h0 := h0) (h1 := h1) hab.1 hab.2.1 hab.2.2 rs ha hk hl)
  rw [segs_flat] at hu
  unfold textF next0 next1 selK
  rw [hu]
  rcases hK with ⟨rfl, rfl, rfl, _, _⟩ | ⟨rfl, rfl, rfl, _, _⟩
  · simp only [if_true]
    by_cases e : h0 = m0
    · subst e
      rw [good0_eq hp i0, if_pos rfl, if_neg (by decide)]
    · rw [good0_lt hk hp i0 (by omega), if_neg e, if_pos rfl, half0 hk hp]
  · simp only [show ¬ ((1 : Int) = 0) by decide, if_false]
    by_cases e : h1 = m1
    · subst e
      rw [good1_eq hp i1, if_pos rfl, if_neg (by decide)]
    · rw [good1_lt hk hp i1 (by omega), if_neg e, if_pos rfl, half1 hk hp]
theorem next_le {kd : Int} {h0 h1 m0 m1 : Nat} (l0 : h0 ≤ m0) (l1 : h1 ≤ m1) (hn : selK kd h0 h1 ≠ selK kd m0 m1) : next0 kd h0 ≤ m0 ∧ next1 kd h1 ≤ m1 ∧ next0 kd h0 + next1 kd h1 = h0 + h1 + 1 := by
  unfold selK at hn
  unfold next0 next1
  split at hn <;> rename_i h <;> simp only [h, if_true, if_false] at hn ⊢ <;> refine ⟨?_, ?_, ?_⟩ <;> omega
theorem sel_val {kd : Int} {a b : Nat} {t u : Tok} {v : Value} (h : (kd = 0 ∧ v = .int (a : Int) t) ∨ (kd = 1 ∧ v = .int (b : Int) u)) : ∃ tv, v = .int ((selK kd a b : Nat) : Int) tv := by
  unfold selK
  rcases h with ⟨rfl, rfl⟩ | ⟨rfl, rfl⟩
  · exact ⟨t, by rw [if_pos rfl]⟩
  · exact ⟨u, by rw [if_neg (by decide)]⟩
end
end
section
-- W_law
open PySem PySem.W PySem.Calls PySem.Spec PyProof.Rows
set_option Elab.async false
set_option maxRecDepth 100000
set_option maxHeartbeats 8000000
set_option linter.all false
section
local macro_rules | `(tactic| omega) => `(tactic| lia)
section
local macro_rules | `(tactic| walk_at "binaryOp Mod int int") => `(tactic| ((with_reducible show wpAny _ _ (binaryOp _ (Value.int (-(Nat.cast (List.length (textF _ _ _ _ _ _)))) _) _) _ _ _); refine halt_in ?_))
local macro_rules | `(tactic| walk_at "binaryOp Add str str") => `(tactic| ((try k_fold); refine halt_in ?_))
local macro_rules | `(tactic| walk_at "pyIter str") => `(tactic| (refine halt_in ?_))
local macro_rules | `(tactic| walk_at "compareOp NotEq ref ref") => `(tactic| ((try k_fold); refine halt_in ?_))
local macro_rules | `(tactic| walk_at "subscriptTail") => `(tactic| ((with_reducible show wpAny _ _ (subscriptTail _ _ (Value.ref _) (Value.int _ _)) _ _ _); (fail_if_success (with_reducible show wpAny _ _ (subscriptTail _ _ (Value.ref _) (Value.int (OfNat.ofNat _) _)) _ _ _)); (try k_fold); refine halt_in ?_))
local macro_rules | `(tactic| walk_at "call ref") => `(tactic| ((try k_fold); refine halt_in ?_))
local macro_rules | `(tactic| walk_at "eval ListComp") => `(tactic| ((try k_fold); refine halt_in ?_))
local macro_rules | `(tactic| walk_at "exec Assign Name ListComp cons nil") => `(tactic| (refine halt_in ?_))
theorem led_ne {h₀ h : Heap} {L a b : Addr} {o o' : Obj} {led : List (Addr × Obj)} (N : News h₀ L h led) (h1 : (a, o) ∈ led) (h2 : (b, o') ∈ led) (hn : o ≠ o') : @Ne Nat a b := fun e => by
  have e1 := (N _ h1).1
  have e2 := (N _ h2).1
  dsimp only at e1 e2
  have e' : a = b := e
  rw [e', e2] at e1
  exact hn (Option.some.inj e1).symm
theorem PairsAre.lists {rl rs} (h : PairsAre rl rs) : ∀ p ∈ rl, p.2.cls = .type "list" ∧ ∃ vs k, p.2.data = .seq vs k := by
  induction h with
  | nil => exact fun _ h => nomatch h
  | cons _ _ _ _ _ _ _ ih => exact fun p h => (List.mem_cons.mp h).elim (fun e => e ▸ ⟨rfl, _, _, rfl⟩) (ih p)
theorem fold_two (i : Int) : ∀ (rs : List (Int × Int)) (l : List Int), List.foldl (fun l (p : Int × Int) => if p.fst = 62 + i then l ++ [(twI p.snd : Int)] else l) l rs = l ++ (rs.filter fun p => p.1 = 62 + i).map fun p => (twI p.2 : Int)
  | [], l => by simp
  | p :: r, l => by
    rw [List.foldl_cons, fold_two i r]
    by_cases h : p.1 = 62 + i
    · simp [h]
    · simp [h]
theorem min_is {i m0 m1 : Nat} {rs : List (Int × Int)} (hi : i < 2) (i0 : isMin 62 rs m0) (i1 : isMin 63 rs m1) :
    ((if i = 0 then m0 else m1 : Nat) : Int) ∈ List.foldl (fun l (p : Int × Int) => if p.fst = 62 + (i : Int) then l ++ [(twI p.snd : Int)] else l) [] rs ∧ ∀ a ∈ List.foldl (fun l (p : Int × Int) => if p.fst = 62 + (i : Int) then l ++ [(twI p.snd : Int)] else l) [] rs, ((if i = 0 then m0 else m1 : Nat) : Int) ≤ a := by
  have key : ∀ (kv : Int) (m : Nat), kv = 62 + (i : Int) → isMin kv rs m → (m : Int) ∈ List.foldl (fun l (p : Int × Int) => if p.fst = 62 + (i : Int) then l ++ [(twI p.snd : Int)] else l) [] rs ∧ ∀ a ∈ List.foldl (fun l (p : Int × Int) => if p.fst = 62 + (i : Int) then l ++ [(twI p.snd : Int)] else l) [] rs, (m : Int) ≤ a := by
    intro kv m e h
    rw [fold_two, List.nil_append]
    obtain ⟨h1, p, hp, hpk, hpm⟩ := h
    refine ⟨List.mem_map.mpr ⟨p, List.mem_filter.mpr ⟨hp, by simp [hpk, e]⟩, by rw [hpm]⟩, fun a ha => ?_⟩
    obtain ⟨p', hp', rfl⟩ := List.mem_map.mp ha
    obtain ⟨hm, hk⟩ := List.mem_filter.mp hp'
    have := h1 p' hm (by rw [e]; simpa using hk)
    omega
  have hi' : i = 0 ∨ i = 1 := by omega
  rcases hi' with rfl | rfl
  · exact key 62 m0 rfl i0
  · exact key 63 m1 rfl i1
theorem fill_of (n : Nat) : ∃ f : Nat, (-(n : Int)).fmod 4 = (f : Int) ∧ f ≤ 3 ∧ (n + f) % 4 = 0 := by
  have h0 : (-(n : Int)).fmod 4 = (-(n : Int)) % 4 := Int.fmod_eq_emod_of_nonneg _ (by decide)
  refine ⟨((-(n : Int)) % 4).toNat, ?_, ?_, ?_⟩ <;> omega
theorem flat_zero (f : Nat) : (List.replicate f [(0 : Int)]).flatten = List.replicate f 0 := flat_rep2 f 0
structure LS where
  tabs : List (Addr × Obj)
  hl : Addr
  kh : Nat
  t0 : Tok
  t1 : Tok
  h0 : Nat
  h1 : Nat
  fill : Nat
  tf : Tok
  tr : Tok
  kk : Nat
noncomputable def restL (D l lr c : Addr) (k kr m0 m1 : Nat) (u0 u1 : Tok) (oc : Obj) (vs : List Value) (rl : List (Addr × Obj)) : List (Addr × Obj) := (D, listOf #[.int (m0 : Int) u0, .int (m1 : Int) u1] 2) :: (c, oc) :: (lr, listOf (refsOf rl).toArray kr) :: (l, listOf vs.toArray k) :: rl
theorem restL_in {D l lr c hl : Addr} {k kr m0 m1 : Nat} {u0 u1 : Tok} {oc oh : Obj} {vs : List Value} {rl : List (Addr × Obj)} {q : Addr × Obj} {x : List (Addr × Obj)} (h : q ∈ restL D l lr c k kr m0 m1 u0 u1 oc vs rl) : q ∈ (hl, oh) :: (D, listOf #[.int (m0 : Int) u0, .int (m1 : Int) u1] 2) :: (c, oc) :: (lr, listOf (refsOf rl).toArray kr) :: (l, listOf vs.toArray k) :: (rl ++ x) := mt (m4 ml h)
noncomputable def ledL (D l lr c : Addr) (k kr m0 m1 : Nat) (u0 u1 : Tok) (oc : Obj) (vs : List Value) (rl : List (Addr × Obj)) (st : LS) : List (Addr × Obj) := (st.hl, listOf #[.int (st.h0 : Int) st.t0, .int (st.h1 : Int) st.t1] st.kh) :: (D, listOf #[.int (m0 : Int) u0, .int (m1 : Int) u1] 2) :: (c, oc) :: (lr, listOf (refsOf rl).toArray kr) :: (l, listOf vs.toArray k) :: (rl ++ st.tabs)
theorem curLS {P : LS → Prop} (h : ∀ tabs hl kh t0 t1 h0 h1 fill tf tr kk, P ⟨tabs, hl, kh, t0, t1, h0, h1, fill, tf, tr, kk⟩) : ∀ c, P c := fun _ => h _ _ _ _ _ _ _ _ _ _ _
structure LInv (m0 m1 : Nat) (rs : List (Int × Int)) (rest : List (Addr × Obj)) (c : LS) : Prop where
  tab : TabOk c.tabs
  off : ∀ q ∈ rest, ∀ p ∈ c.tabs, q.1 ≠ p.1
  offh : ∀ p ∈ c.tabs, c.hl ≠ p.1
  le0 : c.h0 ≤ m0
  le1 : c.h1 ≤ m1
  fil : c.fill ≤ 3 + 3 * (c.h0 + c.h1)
  len : (full rs c.h0 c.h1 c.fill).length = 4 * c.kk
theorem list_neR (vs : Array Value) (k : Nat) : ∀ a b c, listOf vs k ≠ rangeIt a b c := fun a b c e => by
  injection e with e
  injection e with e
  exact absurd e (by decide)
theorem PairsAre.neR {rl rs} (h : PairsAre rl rs) : AllR rl := fun p hp a b c e => by
  have := (h.lists p hp).1
  rw [e] at this
  injection this with this
  exact absurd this (by decide)
theorem TabOk.neR {tabs} (h : TabOk tabs) : AllR tabs := by
  have ht : ∀ ps a b c, tabObj ps ≠ rangeIt a b c := fun ps a b c e => by
    have := congrArg Obj.cls e
    cases this
  rcases h with rfl | ⟨c, oc, vs, t, rfl, _, hd, hv⟩
  · exact .cons (ht _) (fun _ h => nomatch h)
  · refine .cons (fun a b d e => ?_) (.cons (ht _) (fun _ h => nomatch h))
    dsimp only at e
    rw [e] at hd
    injection hd with hd
    rw [← hd] at hv
    cases hv
section
variable {prog : Program} {w : World} {A : Around} {E : Value → Shared → Prop} {s : Shared}
theorem item_sel {value slice : PySem.Expr} {l : Addr} {v0 v1 : Value} {kd : Int} {u : Tok} {Q : Value → Shared → Prop} (hl : s.heap.IsList l #[v0, v1]) (hk : kd = 0 ∨ kd = 1) (h : ∀ v, (kd = 0 ∧ v = v0) ∨ (kd = 1 ∧ v = v1) → Q v s)
    (hs : subscripted slice false (.ref l) (.int kd u) = operate [.ref l, .int kd u] (getItem (.ref l) (.int kd u)) := by with_unfolding_all rfl) :
    wpAny (model prog w) A (subscriptTail value slice (.ref l) (.int kd u)) Q E s := by
  rcases hk with rfl | rfl
  · exact tail_any hl.typeIs slot_list_getitem.lookup (wpAny_getItem_list hl (by decide) (by decide) (x := v0) rfl (h v0 (.inl ⟨rfl, rfl⟩))) hs
  · exact tail_any hl.typeIs slot_list_getitem.lookup (wpAny_getItem_list hl (by decide) (by decide) (x := v1) rfl (h v1 (.inr ⟨rfl, rfl⟩))) hs
end
theorem off_split {D l lr c : Addr} {k kr m0 m1 : Nat} {u0 u1 : Tok} {oc : Obj} {vs : List Value} {rl own : List (Addr × Obj)} {q : Addr × Obj} (h : q ∈ (D, listOf #[.int (m0 : Int) u0, .int (m1 : Int) u1] 2) :: (c, oc) :: (lr, listOf (refsOf rl).toArray kr) :: (l, listOf vs.toArray k) :: (rl ++ own)) : q ∈ restL D l lr c k kr m0 m1 u0 u1 oc vs rl ∨ q ∈ own := off4 h
theorem mod_fill {prog : Program} {w : World} {A : Around} {E : Value → Shared → Prop} {s : Shared} {n : Nat} {t u : Tok} {Q : Value → Shared → Prop} (h : ∀ mo : Nat, mo ≤ 3 → (n + mo) % 4 = 0 → Q (.int (mo : Int) s.toks) { s with toks := s.toks + 1 }) :
    wpAny (model prog w) A (binaryOp .Mod (.int (-(n : Int)) t) (.int 4 u)) Q E s := by
  obtain ⟨f, e, h3, h4⟩ := fill_of n
  refine mod_int' (by decide) ?_
  rw [e]
  exact h f h3 h4
theorem sig_lt {x : Nat} (h : x = 92 ∨ sg5 x) : x < 128 := by
  unfold sg5 at h
  omega
theorem rest_in {D l lr c : Addr} {k kr m0 m1 : Nat} {u0 u1 : Tok} {oc : Obj} {vs : List Value} {rl own : List (Addr × Obj)} {q : Addr × Obj} (h : q ∈ restL D l lr c k kr m0 m1 u0 u1 oc vs rl) : q ∈ (D, listOf #[.int (m0 : Int) u0, .int (m1 : Int) u1] 2) :: (c, oc) :: (lr, listOf (refsOf rl).toArray kr) :: (l, listOf vs.toArray k) :: (rl ++ own) := m4 ml h
theorem textF_add (rs : List (Int × Int)) (h0 h1 f m a b : Nat) : textF rs h0 h1 f a b ++ List.replicate m 65 = textF rs h0 h1 (f + m) a b := by
  unfold textF
  rw [List.append_assoc, List.replicate_append_replicate]
theorem key_zero {rs : List (Int × Int)} (h : ∀ p ∈ rs, p.1 = 62 ∨ p.1 = 63 ∨ p.1 = 2 ∨ p.1 = 53) : ∀ p ∈ rs, p.1 = 62 ∨ p.1 = 63 ∨ (0 ≤ p.1 ∧ p.1 ≤ 61) := fun p hp => by
  rcases h p hp with e | e | e | e <;> rw [e] <;> decide
theorem two_of {α : Type} {a b : α} {ys : List α} (h : ys.length = 2) (h0 : ys[0]? = some a) (h1 : ys[1]? = some b) : ys = [a, b] := by
  refine List.ext_getElem? fun i => ?_
  match i with
  | 0 => exact h0
  | 1 => exact h1
  | i + 2 => rw [List.getElem?_eq_none (by rw [h]; exact Nat.le_add_left ..)]; rfl
theorem fil15 {a b f x y : Nat} (h : f ≤ 3 + 3 * (a + b)) (ha : a ≤ x) (hx : x ≤ 2) (hb : b ≤ y) (hy : y ≤ 2) : f ≤ 15 := by omega
theorem fil_next {a b c d f g : Nat} (h : f ≤ 3 + 3 * (a + b)) (e : c + d = a + b + 1) (hg : g ≤ 3) : f + g ≤ 3 + 3 * (c + d) := by omega
theorem quad0 {n : Nat} (h : n % 4 = 0) : n = 4 * (n / 4) := by omega
theorem quad {n f g : Nat} (h : (n + f + g) % 4 = 0) : n + (f + g) = 4 * ((n + f + g) / 4) := by omega
theorem mod2 (x : Int) : x % 2 = 0 ∨ x % 2 = 1 := by omega
theorem text_len {rs : List (Int × Int)} {h0 h1 f a b : Nat} (hn : (nowF rs h0 h1).length ≤ 46) (hf : f ≤ 18) : (textF rs h0 h1 f a b).length ≤ 64 := by
  unfold textF
  rw [List.length_append, List.length_map, List.length_replicate]
  exact Nat.add_le_add hn hf
theorem law_ok {q : Program} {w : World} {mean : ExcName → Option Value} {mg mb : Str → Option Value} {loose : List Str} {h₀ : Heap} {s : Shared} {R : Result → Shared → Prop} {l k : Nat} {vs : List Value} {ns : List Int}
  (X : (Mine.hd.heap_1 w.params).In h₀) (T : Top q loose mean mg mb h₀) (hk₀ : ∀ b o, h₀.get? b = some o → s.heap.get? b = some o) (hsz : h₀.objs.size ≤ s.heap.objs.size) (N : ∀ q ∈ [(168, tabObj #[]), (l, listOf vs.toArray k)], s.heap.get? q.1 = some q.2 ∧ h₀.get? q.1 = none)
  (hi : IntsAre vs ns) (hn : ns.length ≤ 63) (C : CodeHd h₀ 172 168) (NC : NoCtl (PySem.Challenge.rw_in0277_01.row.toRowW.prog) w h₀) (hl : l ≠ 168)
  (hret : ∀ L' m' tabs h' tk', TabOk tabs → Fr h₀ L' h' m' → News h₀ L' h' (tabs ++ [(l, listOf vs.toArray k)]) → R (.ok (.ret (.bool true))) { s with heap := h', toks := tk' }) :
  codeAny (model (PySem.Challenge.rw_in0277_01.row.toRowW.prog) w) callerA (.call (.ref 349) ⟨[.ref l], []⟩) R s := by
  revert X
  k_fill
  intro X
  (refine' enter_topC (binds := [(Str.ofString "script", .ref l)]) hk₀ hsz N X T ?k6 ?k7 ?k9 ?kB ?kD ?_ ?c2 ?c3 ?c4; (case k6 => k_is); (case k7 => k_is); (case k9 => exact BindsTo.of_eq rfl); (case kB => exact rfl); (case kD => decide +kernel); (case c2 => exact rfl); (case c3 => exact rfl); (case c4 => exact rfl); k_whole; intro L' h' tk' cells' F' N' Y' l1; (try k_lt l1); k_cells Y'; (try simp only [List.cons_append, List.nil_append] at N'); (try dsimp only))
  have B' := below_caller h₀
  have X' := X
  have T' := T
  repeat clear ek qk
  rename_i o' d1'
  replace F' : Fr h₀ L' h' (fun y => if y = Str.ofString "script" then some (.ref l) else none) := F'
  have hab : @Ne Nat l 168 := hl
  have hLl : @Ne Nat (L' + 1) l := by have : @LT.lt Nat _ l L' := l1.2; omega
  have hLt : @Ne Nat (L' + 1) 168 := by have : @LT.lt Nat _ 168 L' := l1.1; omega
  k_steps
  refine ⟨?_⟩
  have N1 : News h₀ L' h' [(l, listOf vs.toArray k), (L' + 1, o'), (168, tabObj #[])] := fun p hp => N' p (mem_l1 hp)
  refine letter_ok B' F' X' N1 T' rfl hi (show ns.length < 1000 by omega) (by decide) (by decide) (fun lv rv kv h2 tk2 hvs F2 N2 => ?_)
  clear N1 N'
  k_steps
  rename News _ _ _ _ => N3
  rename Fr _ _ _ _ => F3
  have hcv : @Ne Nat lv (L' + 1) := led_ne N3 (.head _) (.tail _ (.tail _ (.head _))) (fun e => by rw [← e] at d1'; cases d1')
  have hct : @Ne Nat lv 168 := led_ne N3 (.head _) (.tail _ (.tail _ (.tail _ (.head _)))) (fun e => by cases e)
  refine ⟨?_⟩
  refine runs_ok B' F3 X' N3 T' rfl hvs (show (letterF ns ++ [53]).length < 1000 from by have := vals_len ns; unfold valsF at this; omega) (by decide) (by decide) (fun lr rl kr h4 tk4 hP F4 N4 => ?_)
  have hcr : @Ne Nat lr (L' + 1) := led_ne N4 (.head _) (.tail _ (List.mem_append_right _ (.tail _ (.tail _ (.head _))))) (fun e => by rw [← e] at d1'; cases d1')
  have hcl : ∀ p ∈ rl, @Ne Nat p.1 (L' + 1) := fun p hp => led_ne N4 (.tail _ (List.mem_append_left _ hp)) (.tail _ (List.mem_append_right _ (.tail _ (.tail _ (.head _))))) (fun e => by
    obtain ⟨_, a, b, h⟩ := hP.lists p hp; rw [e, d1'] at h; cases h)
  have N5 : News h₀ L' h4 ((L' + 1, o') :: (lr, listOf (refsOf rl).toArray kr) :: (lv, listOf rv.toArray kv) :: (l, listOf vs.toArray k) :: (168, tabObj #[]) :: rl) := fun p hp => N4 p (mem_l5 hp)
  clear N4 N3
  k_steps
  rename News _ _ _ _ => N6
  rename Fr _ _ _ _ => F6
  repeat clear ek qk
  rename_i h6 o6 d6 tk6
  refine assign_comp_cell F6 rfl (by with_unfolding_all rfl) (by with_unfolding_all rfl) (fun n => rfl) (fun h => rfl) rfl (by decide) (by with_unfolding_all rfl) (by with_unfolding_all rfl) (by rfl) ?_
  k_steps
  rename Fr _ _ _ _ => F7
  rename News _ _ _ _ => N7
  rename IsRange _ _ _ _ _ _ _ _ => R7
  obtain ⟨⟨m0, hm0, i0⟩, m1, hm1, i1⟩ := min_two ns
  rw [show letterF ns ++ [53] = valsF ns from rfl] at hvs hP
  refine ⟨?_⟩
  refine src_cell (n := 2) (fun i v => ∃ t, v = .int ((if i = 0 then m0 else m1 : Nat) : Int) t) rfl F7 N7 R7 (by decide) (by decide) (by decide) ?_ ?_
  · intro g i ti I oI C oC c oc D ys h8 tk8 E' hi2 hyl hocd hoC F8 N8
    k_steps
    refine ⟨?_⟩
    refine comp_pairs (fun l p => if p.1 = 62 + (i : Int) then l ++ [(twI p.2 : Int)] else l) rfl F8 N8 hP (ax := lr) (kR := kr) (.tail _ (.tail _ (.tail _ (.tail _ (.tail _ (.head _)))))) (fun p hp => (.tail _ (.tail _ (.tail _ (.tail _ (.tail _ (.tail _ (.tail _ (.tail _ (.tail _ hp)))))))))) (room (by have h1 := runs_len (valsF ns) []; have h2 := vals_len ns; unfold runsF; rw [List.length_reverse]; simp at h1; omega)) (by with_unfolding_all rfl) (by decide) rfl (by decide) (by rfl) (by rfl) (by decide) ?_ (fun l p => by (try dsimp only); split <;> simp) ?_ ?_
    · intro Q' hq
      k_steps
      exact hq
    · intro p ta tb I2 oI2 C2 oC2 D2 ys2 l2 h9 tk9 m2 E2 hp hy2 hoC2 hma hmb F9 N9
      obtain ⟨pv, pn⟩ := p
      dsimp only at hma hmb ⊢
      have hpn : 1 ≤ pn := (runsF_is (valsF ns)).2.1 _ hp
      obtain ⟨nn, rfl⟩ := Int.eq_ofNat_of_zero_le (show 0 ≤ pn by omega)
      k_steps
      · refine ⟨?_⟩
        rename Fr _ _ _ _ => F10
        rename News _ _ _ _ => N10
        repeat clear ek qk
        rename_i hpe _
        refine twos_ok B' F10 X' N10 T' rfl (show 1 ≤ nn by omega) (by decide) (by decide) (fun t11 h11 tk11 F11 N11 => ?_)
        refine EndC.intro F11 N11 (fun p hp => hp) ⟨_, _, rfl, ?_⟩
        rw [if_pos hpe]; rfl
      · rename_i hpe
        refine EndC.intro F9 N9 (fun p hp => hp) ?_
        rw [if_neg hpe]
    · intro D2 ys2 h9 tk9 hy2 hl2 F9 N9
      obtain ⟨hml, hmm⟩ := min_is (i := i) hi2 i0 i1
      have hne : 0 < (List.foldl (fun l (p : Int × Int) => if p.fst = 62 + (i : Int) then l ++ [(twI p.snd : Int)] else l) [] (runsF (valsF ns))).length := List.length_pos_of_mem hml
      k_steps
      rename Fr _ _ _ _ => F10
      rename News _ _ _ _ => N10
      repeat clear ek qk
      rename_i h10 M10 t10 k10 hMa hMb
      exact EndC.intro F10 N10 (fun p hp => .tail _ hp) ⟨t10, by rw [show M10 = _ from Int.le_antisymm (hMb _ hml) (hmm _ hMa)]⟩
  · intro D ys h8 tk8 hyl hyr F8 N8
    obtain ⟨ys0, e0, u0, rfl⟩ := hyr 0 (by decide)
    obtain ⟨ys1, e1, u1, rfl⟩ := hyr 1 (by decide)
    have eys := two_of hyl e0 e1
    subst eys
    clear hyr hyl e0 e1
    replace N8 : News h₀ L' h8 ((D, listOf #[.int (m0 : Int) u0, .int (m1 : Int) u1] 2) :: (L' + 1, o6) :: (lr, W.listOf (refsOf rl).toArray kr) :: (lv, W.listOf rv.toArray kv) :: (l, W.listOf vs.toArray k) :: (168, tabObj #[]) :: rl) := N8
    have hvl := vals_len ns
    have hrvl : rv.length ≤ 46 := by rw [hvs.length]; exact hvl
    clear N7 F7 R7
    k_steps
    refine ⟨?_⟩
    rename Fr _ _ _ _ => F11
    rename News _ _ _ _ => N11
    repeat clear ek qk
    rename_i _ _ _ _ _ _ _ _ _ _ _ _ _ _ hI11 l11

    obtain ⟨fl, hfe, hf3, hfm⟩ := fill_of (valsF ns).length
    rw [hfe] at F11 hI11
    rw [Int.toNat_natCast, flat_zero] at hI11
    have hVl : (valsF ns ++ List.replicate fl 0).length ≤ 49 := by rw [List.length_append, List.length_replicate]; exact Nat.add_le_add hvl hf3
    have hVb : ∀ v ∈ valsF ns ++ List.replicate fl 0, 0 ≤ v ∧ v < 64 := by
      intro v hv
      rcases List.mem_append.mp hv with hv | hv
      · rcases vals_key ns v hv with rfl | rfl | rfl | rfl <;> decide
      · rw [List.eq_of_mem_replicate hv]; decide
    refine octets_ok B' F11 X' N11 T' rfl hI11 (Nat.lt_of_le_of_lt hVl (by decide)) hVb (by decide) (by decide) (fun t12 h12 tk12 F12 N12 => ?_)
    clear N11 F11 l11
    k_steps
    refine ⟨?_⟩
    rename IsRange _ _ _ _ _ _ _ _ => R13
    rename Fr _ _ _ _ => F13
    rename News _ _ _ _ => N13
    obtain ⟨hl0, th, tr0, tf0, t00, t01, FX, NX⟩ : ∃ hl th tr tf t00 t01, Fr h₀ L' _ (fun y => if y = Str.ofString "head" then some (Value.int ((List.take 63 ns).sum + 38) th) else if y = Str.ofString "row" then some (Value.bytes (byteArr (octPre (valsF ns ++ List.replicate fl 0) (((valsF ns ++ List.replicate fl 0).length + 3) / 4))) tr) else if y = Str.ofString "fill" then some (Value.int (fl : Int) tf) else if y = Str.ofString "halved" then some (.ref hl) else if y = Str.ofString "least" then some (.ref D) else if y = Str.ofString "values" then some (.ref lv) else if y = Str.ofString "script" then some (.ref l) else none) ∧ News h₀ L' _ ((hl, listOf #[.int ((0 : Nat) : Int) t00, .int ((0 : Nat) : Int) t01] 0) :: (D, listOf #[.int (m0 : Int) u0, .int (m1 : Int) u1] 2) :: (L' + 1, o6) :: (lr, W.listOf (refsOf rl).toArray kr) :: (l, W.listOf vs.toArray k) :: (rl ++ [(168, tabObj #[])])) :=
      ⟨_, _, _, _, _, _, F13, fun p hp => N13 p (List.Mem.tail _ (List.Mem.tail _ (List.Mem.tail _ (List.Mem.tail _ (led_sub hp)))))⟩
    clear F13 N13
    generalize (List.take 63 ns).sum + 38 = hd at FX
    have hfull : valsF ns ++ List.replicate fl 0 = full (runsF (valsF ns)) 0 0 fl := by unfold full; rw [now_zero, (runsF_is (valsF ns)).2.2.2]
    obtain ⟨k0, hk0l⟩ : ∃ k0, (full (runsF (valsF ns)) 0 0 fl).length = 4 * k0 := ⟨((valsF ns).length + fl) / 4, by rw [← hfull, List.length_append, List.length_replicate]; exact quad0 hfm⟩
    rw [hfull, hk0l, show (4 * k0 + 3) / 4 = k0 by omega] at FX

    have hal : ∀ c : LS, TabOk c.tabs → AllR (ledL D l lr (L' + 1) k kr m0 m1 u0 u1 o6 vs rl c) := fun c hT => .cons (list_neR _ _) (.cons (list_neR _ _) (.cons (fun a b d e => by have e' : o6 = rangeIt a b d := e; rw [e'] at d6; cases d6) (.cons (list_neR _ _) (.cons (list_neR _ _) (.append (hP.neR) hT.neR)))))
    have hk0 : ∀ q ∈ (L' + 1, o6) :: (lr, W.listOf (refsOf rl).toArray kr) :: (l, W.listOf vs.toArray k) :: (rl ++ [(168, tabObj #[])]), h₀.get? q.1 = none := fun q hq => (NX q (.tail _ (.tail _ hq))).2.2
    refine ks_rangeR (σ := LS) (n := 6) (ledL D l lr (L' + 1) k kr m0 m1 u0 u1 o6 vs rl)
      (fun c => [(Str.ofString "halved", .ref c.hl), (Str.ofString "fill", .int (c.fill : Int) c.tf), (Str.ofString "row", .bytes (byteArr (octPre (full (runsF (valsF ns)) c.h0 c.h1 c.fill) c.kk)) c.tr)])
      [Str.ofString "kind", Str.ofString "two", Str.ofString "pair", Str.ofString "text", Str.ofString "found", Str.ofString "told", Str.ofString "more"]
      (fun _ c => LInv m0 m1 (runsF (valsF ns)) (restL D l lr (L' + 1) k kr m0 m1 u0 u1 o6 vs rl) c)
      ⟨[(168, tabObj #[])], hl0, 0, t00, t01, 0, 0, fl, tf0, tr0, k0⟩ rfl R13 (by decide) (by decide) FX NX (hal _ (.inl rfl))
      (by intro q hq; dsimp only at hq; simp only [List.mem_cons, List.not_mem_nil, or_false] at hq; rcases hq with rfl | rfl | rfl <;> rfl) ?inv ?turn ?done
    case inv =>
      refine ⟨.inl rfl, ?_, ?_, Nat.zero_le _, Nat.zero_le _, hf3, hk0l⟩
      intro q hq p hp
      rw [List.mem_singleton.mp hp]
      refine led_ne NX (b := 168) (o' := tabObj #[]) (restL_in hq) (mt5 (mr (.head _))) ?_
      rcases List.mem_cons.mp hq with rfl | hq
      · exact fun e => by cases e
      rcases List.mem_cons.mp hq with rfl | hq
      · exact fun e => by have e' : o6 = tabObj #[] := e; rw [e'] at d6; cases d6
      rcases List.mem_cons.mp hq with rfl | hq
      · exact fun e => by cases e
      rcases List.mem_cons.mp hq with rfl | hq
      · exact fun e => by cases e
      · exact fun e => by have := (hP.lists q hq).1; rw [e] at this; cases this
      · intro p hp
        rw [List.mem_singleton.mp hp]
        exact led_ne NX (b := 168) (o' := tabObj #[]) (.head _) (by simp) (fun e => by cases e)
    case done =>
      refine curLS ?_
      intro tabs hl kh t0 t1 h0 h1 fill tf tr kk u h14 tk14 hPq halc F14 N14
      refine let_F F14 ?_
      clear F14
      intro m14 F14
      have hT := hPq.tab
      unfold ledL at N14
      dsimp only at N14 hT
      k_steps
      rename Fr _ _ _ _ => F15
      rename News _ _ _ _ => N15
      exact hret L' _ tabs _ _ hT F15 (fun p hp => N15 p (mem_d hp))
    case turn =>
      intro i ti
      refine curLS ?_
      intro tabs hl kh t0 t1 h0 h1 fill tf tr kk u h14 tk14 own hi6 hPq halc hown F14 N14
      refine gen_post (fun Q1 hQ1 E1 => ?_)
      refine let_A ?_
      intro A1
      refine let_F F14 ?_
      clear F14
      intro m14 F14
      have hT := hPq.tab
      have hPd := hPq.off
      have hPh := hPq.offh
      have hh0 := hPq.le0
      have hh1 := hPq.le1
      have hfl := hPq.fil
      have hkk := hPq.len
      unfold ledL at N14 hown
      dsimp only at N14 hown hT hPd hh0 hh1 hfl hkk
      refine let_N N14 ?_
      clear N14
      intro led0 N14
      have hf15 : fill ≤ 15 := fil15 hfl hh0 hm0 hh1 hm1
      have hi0 : 0 ≤ (0 : Int) + (i : Int) * 1 := by omega
      have hi6' : (0 : Int) + (i : Int) * 1 ≤ 6 := by omega
      k_steps
      refine ⟨?_⟩
      have hkd : (hd.fdiv (2 ^ ((0 : Int) + (i : Int) * 1).toNat)).fmod 2 = 0 ∨ (hd.fdiv (2 ^ ((0 : Int) + (i : Int) * 1).toNat)).fmod 2 = 1 := by
        rw [Int.fmod_eq_emod_of_nonneg _ (by decide)]; exact mod2 _
      generalize (hd.fdiv (2 ^ ((0 : Int) + (i : Int) * 1).toNat)).fmod 2 = kd at *
      obtain ⟨a2, b2, p0, p1, hK⟩ : ∃ a2 b2 p0 p1, KindOk kd a2 b2 p0 p1 := by
        rcases hkd with e | e
        · exact ⟨_, _, _, _, .inl ⟨e, rfl, rfl, rfl, rfl⟩⟩
        · exact ⟨_, _, _, _, .inr ⟨e, rfl, rfl, rfl, rfl⟩⟩
      rename News _ _ _ _ => N15
      refine item_sel ⟨_, (N15 _ (.head _)).1, rfl, _, rfl⟩ hkd (fun v hv => ?_)
      obtain ⟨tw, rfl⟩ : ∃ tw, v = .str (tx [a2, b2]) tw := by
        rcases hK with ⟨e, rfl, rfl, _⟩ | ⟨e, rfl, rfl, _⟩ <;> rcases hv with ⟨e', rfl⟩ | ⟨e', rfl⟩
        · exact ⟨_, rfl⟩
        · rw [e] at e'; cases e'
        · rw [e] at e'; cases e'
        · exact ⟨_, rfl⟩
      clear hv
      k_steps
      refine ⟨?_⟩
      rename News _ _ _ _ => N16
      refine item_sel ⟨_, (N16 _ (.head _)).1, rfl, _, rfl⟩ hkd (fun v hv => ?_)
      obtain ⟨tp, rfl⟩ : ∃ tp, v = .bytes #[p0, p1] tp := by
        rcases hK with ⟨e, _, _, rfl, rfl⟩ | ⟨e, _, _, rfl, rfl⟩ <;> rcases hv with ⟨e', rfl⟩ | ⟨e', rfl⟩
        · exact ⟨_, rfl⟩
        · rw [e] at e'; cases e'
        · rw [e] at e'; cases e'
        · exact ⟨_, rfl⟩
      clear hv
      k_steps
      refine ⟨?_⟩
      rename Fr _ _ _ _ => F17
      rename News _ _ _ _ => N17
      have hrl : (runsF (valsF ns)).length ≤ 100 := by have h1 := runs_len (valsF ns) []; have h2 := vals_len ns; unfold runsF; rw [List.length_reverse]; simp at h1; omega
      have hkey : ∀ p ∈ runsF (valsF ns), p.1 = 62 ∨ p.1 = 63 ∨ p.1 = 2 ∨ p.1 = 53 := fun p hp => vals_key ns _ ((runsF_is (valsF ns)).2.2.1 p hp)
      have hpos := (runsF_is (valsF ns)).2.1
      have hkey0 : ∀ p ∈ runsF (valsF ns), p.1 = 62 ∨ p.1 = 63 ∨ (0 ≤ p.1 ∧ p.1 ≤ 61) := key_zero hkey
      have hbnd : ∀ p ∈ runsF (valsF ns), p.2 ≤ 46 := runs_bound ns
      have hb1 : ∀ p ∈ runsF (valsF ns), 1 ≤ nowN h0 h1 p ∧ nowN h0 h1 p ≤ 50 := fun p hp => ⟨now_pos hpos i0 i1 hh0 hh1 p hp, now_le (by have := hpos p hp; omega) (by have := hbnd p hp; omega)⟩
      refine now_ok (hl := hl) (k2 := kh) (t0 := t0) (t1 := t1) B' F17 X' N17 T' rfl hP (R := lr) (kR := kr) (.tail _ (.tail _ (List.mem_append_left _ (.tail _ (.tail _ (.tail _ (.head _))))))) (fun p hp => (.tail _ (.tail _ (List.mem_append_left _ (.tail _ (.tail _ (.tail _ (.tail _ (.tail _ (List.mem_append_left _ hp)))))))))) (.tail _ (.tail _ (List.mem_append_left _ (.head _)))) hrl (Nat.le_trans hh0 (Nat.le_trans hm0 (by decide))) (Nat.le_trans hh1 (Nat.le_trans hm1 (by decide))) hkey0 hb1 (by decide) (by decide) (fun ln rn kn h18 tk18 hnw F18 N18 => ?_)
      clear N17 F17
      k_steps
      refine ⟨?_⟩
      rename Fr _ _ _ _ => F19
      rename News _ _ _ _ => N19
      have hnl : (nowF (runsF (valsF ns)) h0 h1).length ≤ 46 := now_46 ns h0 h1
      refine written_ok B' F19 X' N19 T' rfl hnw (.head _) (Nat.lt_of_le_of_lt hnl (by decide)) (Nat.lt_of_le_of_lt hf15 (by decide)) (now_key hkey) (by decide) (by decide) (fun tt h20 tk20 F20 N20 => ?_)
      rw [← textF_def]
      clear N19 F19
      k_steps
      refine ⟨?_⟩
      rename Fr _ _ _ _ => F21
      rename News _ _ _ _ => N21
      obtain ⟨en1, en2⟩ := enc_text (enc_key hK) hkey hkk
      have hsz4 := enc_size (p0 := p0) (p1 := p1) hkey hkk
      have hkk2 : 4 * kk ≤ 100 := by rw [← hkk]; unfold full; rw [List.length_append, List.length_replicate]; exact Nat.le_trans (Nat.add_le_add hnl hf15) (by decide)
      refine enc_ok B' F21 X' N21 T' rfl (show (byteArr (octPre (full (runsF (valsF ns)) h0 h1 fill) kk)).size < 1000 by rw [row_size]; omega) en1 (by decide) (by decide) (fun t22 h22 tk22 F22 N22 => ?_)
      clear N21 F21
      k_steps
      refine ⟨?_⟩
      rename Fr _ _ _ _ => F23
      rename News _ _ _ _ => N23
      refine text_ok B' F23 X' N23 T' rfl (by rw [hsz4]; omega) (by decide) (by decide) (fun t24 h24 tk24 F24 N24 => ?_)
      rw [en2]
      clear N23 F23
      k_steps
      all_goals (first | (rename_i hne; simp at hne; done) | skip)
      refine ⟨?_⟩
      rename Fr _ _ _ _ => F25
      rename News _ _ _ _ => N25
      obtain ⟨es1, es2⟩ := enc_text (p0 := 42) (p1 := 63) (a := 42) (b := 63) (fun v => enc_s2) hkey hkk
      have hsz5 := enc_size (p0 := 42) (p1 := 63) hkey hkk
      refine enc_ok B' F25 X' N25 T' rfl (show (byteArr (octPre (full (runsF (valsF ns)) h0 h1 fill) kk)).size < 1000 by rw [row_size]; omega) es1 (by decide) (by decide) (fun t26 h26 tk26 F26 N26 => ?_)
      clear N25 F25
      k_steps
      refine ⟨?_⟩
      rename Fr _ _ _ _ => F27
      rename News _ _ _ _ => N27
      refine text_ok B' F27 X' N27 T' rfl (by rw [hsz5]; omega) (by decide) (by decide) (fun t28 h28 tk28 F28 N28 => ?_)
      rw [es2]
      clear N27 F27
      k_steps
      refine ⟨?_⟩
      rename Fr _ _ _ _ => F29
      rename News _ _ _ _ => N29
      have htl : (textF (runsF (valsF ns)) h0 h1 fill 42 63).length ≤ 100 := Nat.le_trans (text_len hnl (Nat.le_trans hf15 (by decide))) (by decide)
      refine trans_ok B' F29 X' N29 T' rfl (Nat.le_trans htl (by decide)) (text_sgT hkey) (by decide) (by decide) (fun ls ks rs h30 tk30 hPs F30 N30 => ?_)
      have htr : trF (textF (runsF (valsF ns)) h0 h1 fill 42 63) = partsF (runsF (valsF ns)) h1 fill := tr_written (runsF_is (valsF ns)).1 hkey fun p hp => (hb1 p hp).1
      rw [htr] at hPs
      clear N29 F29
      k_steps
      refine ⟨?_⟩
      rename Fr _ _ _ _ => F31
      rename News _ _ _ _ => N31
      have hb0 : ∀ p ∈ runsF (valsF ns), 1 ≤ nowN 0 h1 p ∧ nowN 0 h1 p ≤ 50 := fun p hp => ⟨now_pos hpos i0 i1 (Nat.zero_le _) hh1 p hp, now_le (by have := hpos p hp; omega) (by have := hbnd p hp; omega)⟩
      refine parts_ok (hl := hl) (k2 := kh) (t0 := t0) (t1 := t1) B' F31 X' N31 T' rfl hP (R := lr) (kR := kr) (.tail _ (.tail _ (.tail _ (.tail _ (List.mem_append_left _ (.tail _ (.tail _ (.tail _ (.head _))))))))) (fun p hp => (.tail _ (.tail _ (.tail _ (.tail _ (List.mem_append_left _ (.tail _ (.tail _ (.tail _ (.tail _ (.tail _ (List.mem_append_left _ hp)))))))))))) (.tail _ (.tail _ (.tail _ (.tail _ (List.mem_append_left _ (.head _)))))) hrl (Nat.le_trans hh0 (Nat.le_trans hm0 (by decide))) (Nat.le_trans hh1 (Nat.le_trans hm1 (by decide))) (Nat.le_trans hf15 (by decide)) hkey hb0 (by decide) (by decide) (fun lp rp kp h32 tk32 hPp F32 N32 => ?_)
      clear N31 F31
      k_steps
      refine ⟨?_⟩
      refine ne_parts ⟨_, (N32 _ (.tail _ (.head _))).1, rfl, _, rfl⟩ ⟨_, (N32 _ (.head _)).1, rfl, _, rfl⟩ hPs hPp (by rw [← htr]; exact tr_lay (text_sgT hkey)) (show 7 + 64 < cLine by decide) ?_
      k_steps
      refine ⟨?_⟩
      rename Fr _ _ _ _ => F33
      rename News _ _ _ _ => N33
      have hun := un_text (fill := fill) hK (runsF_is (valsF ns)).1 hkey hpos (runs_last ns) i0 i1 hh0 hh1
      have hYl : (textF (runsF (valsF ns)) h0 h1 fill a2 b2).length ≤ 100 := Nat.le_trans (text_len hnl (Nat.le_trans hf15 (by decide))) (by decide)
      have NR : News h₀ L' _ (tabs ++ ((hl, listOf #[.int (h0 : Int) t0, .int (h1 : Int) t1] kh) :: (D, listOf #[.int (m0 : Int) u0, .int (m1 : Int) u1] 2) :: (L' + 1, o6) :: (lr, listOf (refsOf rl).toArray kr) :: (l, listOf vs.toArray k) :: (rl ++ own))) := fun p hp => N33 p (mem_nr hp)
      have hPn : ∀ q ∈ (hl, listOf #[.int (h0 : Int) t0, .int (h1 : Int) t1] kh) :: (D, listOf #[.int (m0 : Int) u0, .int (m1 : Int) u1] 2) :: (L' + 1, o6) :: (lr, listOf (refsOf rl).toArray kr) :: (l, listOf vs.toArray k) :: (rl ++ own), ∀ p ∈ tabs, q.1 ≠ p.1 := fun q hq p hp => by
        rcases List.mem_cons.mp hq with rfl | hq
        · exact hPh p hp
        rcases off_split hq with h | h
        · exact hPd q h p hp
        · exact Ne.symm (hown q h p (.tail _ (.tail _ (.tail _ (.tail _ (.tail _ (List.mem_append_right _ hp)))))))
      refine read_ok (outer := []) B' F33 X' NR T' rfl (Nat.le_trans hYl (by decide)) (text_sig hK hkey) (text_last hK (fun p hp => (hb1 p hp).1) (runs_last ns)) C hT hPn X' T' NC (by decide) (by decide) ?some ?none
      case some =>
        intro o T34 t34 t34b h34 tk34 ho F34 N34
        clear N33 F33 NR
        have hne : selK kd h0 h1 ≠ selK kd m0 m1 := fun e => by rw [hun, if_pos e] at ho; cases ho
        have hg0 : ∀ a b : Nat, ([(a : Int), (b : Int)].getD kd.toNat 0) = ((selK kd a b : Nat) : Int) := fun a b => by rcases hkd with e | e <;> rw [e] <;> rfl
        have hneG : ([(h0 : Int), (h1 : Int)].getD kd.toNat 0) ≠ ([(m0 : Int), (m1 : Int)].getD kd.toNat 0) := fun e => hne (by rw [hg0, hg0] at e; omega)
        rw [hun, if_neg hne] at ho
        cases ho
        obtain ⟨hle0, hle1, hsum⟩ := next_le hh0 hh1 hne
        have NT : News h₀ L' _ ((T34, { cls := .type "tuple", data := .seq #[.int (2 * ((textF (runsF (valsF ns)) h0 h1 fill a2 b2).length : Int) + 2) t34, .str (tx (textF (runsF (valsF ns)) (next0 kd h0) (next1 kd h1) fill a2 b2)) t34b] }) :: (hl, listOf #[.int (h0 : Int) t0, .int (h1 : Int) t1] kh) :: (D, listOf #[.int (m0 : Int) u0, .int (m1 : Int) u1] 2) :: (L' + 1, o6) :: (lr, listOf (refsOf rl).toArray kr) :: (l, listOf vs.toArray k) :: (rl ++ (own ++ tabs))) := fun p hp => N34 p (mem_nt hp)
        clear N34
        refine let_N NT ?_
        clear NT
        intro led1 NT
        k_steps
        all_goals (first | (exact absurd (by assumption) hneG) | skip)
        refine ⟨?_⟩
        rename Fr _ _ _ _ => F37
        rename News _ _ _ _ => N37
        repeat clear ek qk
        rename_i hl2 h37a l37 h37b tk37
        have hnx := next_int hkd h0 h1
        rw [show ([(h0 : Int), (h1 : Int)].getD (Int.toNat 0) 0 + 1 - kd) = ((next0 kd h0 : Nat) : Int) from hnx.1, show ([(h0 : Int), (h1 : Int)].getD (Int.toNat 1) 0 + kd) = ((next1 kd h1 : Nat) : Int) from hnx.2] at N37
        obtain ⟨kh2, t0', t1', N38⟩ : ∃ kh2 t0' t1', News h₀ L' _ ((hl2, listOf #[.int ((next0 kd h0 : Nat) : Int) t0', .int ((next1 kd h1 : Nat) : Int) t1'] kh2) :: _) := ⟨_, _, _, N37⟩
        clear N37
        have hb2 : ∀ p ∈ runsF (valsF ns), 1 ≤ nowN (next0 kd h0) (next1 kd h1) p ∧ nowN (next0 kd h0) (next1 kd h1) p ≤ 50 := fun p hp => ⟨now_pos hpos i0 i1 hle0 hle1 p hp, now_le (by have := hpos p hp; omega) (by have := hbnd p hp; omega)⟩
        have hnl2 : (nowF (runsF (valsF ns)) (next0 kd h0) (next1 kd h1)).length ≤ 46 := now_46 ns _ _
        refine now_ok (hl := hl2) B' F37 X' N38 T' rfl hP (R := lr) (kR := kr) (.tail _ (.tail _ (.tail _ (.tail _ (.tail _ (.head _)))))) (fun p hp => (.tail _ (.tail _ (.tail _ (.tail _ (.tail _ (.tail _ (.tail _ (List.mem_append_left _ hp))))))))) (.head _) hrl (Nat.le_trans hle0 (Nat.le_trans hm0 (by decide))) (Nat.le_trans hle1 (Nat.le_trans hm1 (by decide))) hkey0 hb2 (by decide) (by decide) (fun ln2 rn2 kn2 h38 tk38 hnw2 F38 N39 => ?_)
        clear N38 F37
        k_steps
        refine ⟨?_⟩
        rename Fr _ _ _ _ => F39
        rename News _ _ _ _ => N40
        refine written_ok B' F39 X' N40 T' rfl hnw2 (.head _) (Nat.lt_of_le_of_lt hnl2 (by decide)) (Nat.lt_of_le_of_lt hf15 (by decide)) (now_key hkey) (by decide) (by decide) (fun t40 h40 tk40 F40 N41 => ?_)
        rw [← textF_def]
        clear N40 F39
        k_steps
        refine len_tx (Nat.le_trans hYl (by decide)) (fun t41 k41 => ?_)
        k_steps
        refine ⟨?_⟩
        rename News _ _ _ _ => N42
        have hTl : (textF (runsF (valsF ns)) (next0 kd h0) (next1 kd h1) fill a2 b2).length ≤ 100 := Nat.le_trans (text_len hnl2 (Nat.le_trans hf15 (by decide))) (by decide)
        have hTs : ∀ x ∈ textF (runsF (valsF ns)) (next0 kd h0) (next1 kd h1) fill a2 b2, x < 128 := fun x hx => sig_lt (text_sig hK hkey x hx)
        refine ne_tup ⟨_, (N42 (T34, { cls := .type "tuple", data := .seq #[.int (2 * ((textF (runsF (valsF ns)) h0 h1 fill a2 b2).length : Int) + 2) t34, .str (tx (textF (runsF (valsF ns)) (next0 kd h0) (next1 kd h1) fill a2 b2)) t34b] }) (.tail _ (.tail _ (.tail _ (.head _))))).1, rfl, _, rfl⟩ ⟨_, (N42 _ (.head _)).1, rfl, _, rfl⟩ (lay_tx fun c hc => by have := hTs c hc; omega) (show 7 + 64 < cLine by decide) ?_
        k_steps
        refine len_tx (Nat.le_trans hTl (by decide)) (fun t43 k43 => ?_)
        k_steps
        refine ⟨?_⟩
        refine mod_fill (fun mo hmo hmm => ?_)
        k_steps
        refine ⟨?_⟩
        rename Fr _ _ _ _ => F44
        rename News _ _ _ _ => N44
        have hZl : (textF (runsF (valsF ns)) (next0 kd h0) (next1 kd h1) (fill + mo) a2 b2).length ≤ 110 := Nat.le_trans (text_len hnl2 (Nat.add_le_add hf15 hmo)) (by decide)
        have hZs : ∀ x ∈ textF (runsF (valsF ns)) (next0 kd h0) (next1 kd h1) (fill + mo) a2 b2, x < 128 := fun x hx => sig_lt (text_sig hK hkey x hx)
        have hmul := tx_mulA mo
        refine ListComp_W F44 (by with_unfolding_all rfl) (by decide) (by rfl) (by decide) (by rfl) ?_
        k_steps
        refine ⟨?_⟩
        rw [hmul]
        refine add_tx (by rw [List.length_replicate]; exact Nat.le_trans (Nat.add_le_add hTl hmo) (by decide)) (fun t45 k45 => ?_)
        rw [textF_add]
        k_steps
        refine ⟨?_⟩
        rename Fr _ _ _ _ => F45
        rename News _ _ _ _ => N45
        refine src_tx rfl F45 N45 hZs (room (Nat.le_trans hZl (by decide))) (fun g => rest_W (ks := textF (runsF (valsF ns)) (next0 kd h0) (next1 kd h1) (fill + mo) a2 b2) (fun (c : Nat) v => ∃ u, v = .str (chS c) u) (fun (c : Nat) v => ∃ t, v = Value.int (c : Int) t) rfl ?_ ?_ ?_)
        · rintro i v hi hv
          exact sign_at hv
        · rintro c _ I oI C2 oC D2 m₂ ys h tk E' hk ⟨t, rfl⟩ hC hx F N off ne
          unfold chS at hx
          k_steps
          exact LCg.CompEnd.intro F N _ (fun p hp => hp) off trivial ⟨rfl, _, rfl⟩
        · intro ys hys D2 h46 tk46 F46 N46 o46
          have hys2 := all2_ints hys
          have hIn : W.KBa.In ((textF (runsF (valsF ns)) (next0 kd h0) (next1 kd h1) (fill + mo) a2 b2).map fun c : Nat => (c : Int)) := fun n hn => by
            obtain ⟨c, hc, rfl⟩ := List.mem_map.mp hn
            have := hZs c hc
            omega
          have hZl2 : ((textF (runsF (valsF ns)) (next0 kd h0) (next1 kd h1) (fill + mo) a2 b2).map fun c : Nat => (c : Int)).length ≤ 110 := by rw [List.length_map]; exact hZl
          obtain ⟨kk2, hkk2'⟩ : ∃ kk2, (full (runsF (valsF ns)) (next0 kd h0) (next1 kd h1) (fill + mo)).length = 4 * kk2 := ⟨((textF (runsF (valsF ns)) (next0 kd h0) (next1 kd h1) fill a2 b2).length + mo) / 4, by unfold full; unfold textF at hmm ⊢; rw [List.length_append, List.length_map, List.length_replicate] at hmm; rw [List.length_append, List.length_replicate, List.length_append, List.length_map, List.length_replicate]; exact quad hmm⟩
          obtain ⟨dv, dz, dr⟩ := dec_text hK hkey hkk2'
          k_steps
          refine ⟨?_⟩
          rename Fr _ _ _ _ => F47
          rename News _ _ _ _ => N47
          refine dec_ok B' F47 X' N47 T' rfl (show (byteArr _).size < 1000 by unfold byteArr; rw [List.size_toArray, List.length_map]; omega) dv dz (by decide) (by decide) (fun t48 h48 tk48 F48 N48 => ?_)
          rw [dr]
          clear N47 F47
          k_steps
          rename Fr _ _ _ _ => F49
          rename News _ _ _ _ => N49
          rw [show (fill : Int) + (mo : Int) = ((fill + mo : Nat) : Int) from rfl] at F49
          refine hQ1 _ _ ?_
          refine rend ⟨tabs, hl2, kh2, t0', t1', next0 kd h0, next1 kd h1, fill + mo, _, _, kk2⟩ F49 N49 (fun p hp => mem_n2 hp) (fun p hp => mem_o2 hp) (hal _ hT) (by (try dsimp only); kst_all) (by (try dsimp only); kst_same) ⟨hT, hPd, ?_, hle0, hle1, (fil_next hfl hsum hmo), hkk2'⟩
          · intro p hp
            exact Nat.ne_of_gt (l37 p (.tail _ (.tail _ (.tail _ (.tail _ (.tail _ (.tail _ (List.mem_append_right _ (List.mem_append_right _ hp)))))))))
      case none =>
        intro ho tabs2 h34 tk34 hT2 hP2 F34 N34
        clear N33 F33 NR
        have heq : selK kd h0 h1 = selK kd m0 m1 := Classical.byContradiction fun e => by rw [hun, if_neg e] at ho; cases ho
        have heqI : ((selK kd h0 h1 : Nat) : Int) = ((selK kd m0 m1 : Nat) : Int) := by rw [heq]
        k_steps
        refine ⟨?_⟩
        rename News _ _ _ _ => N35
        refine item_sel ⟨_, (N35 (hl, listOf #[.int (h0 : Int) t0, .int (h1 : Int) t1] kh) (List.mem_append_right _ (.head _))).1, rfl, _, rfl⟩ hkd (fun v hv => ?_)
        obtain ⟨tv, rfl⟩ := sel_val hv
        clear hv
        k_steps
        refine ⟨?_⟩
        refine item_sel ⟨_, (N35 (D, listOf #[.int (m0 : Int) u0, .int (m1 : Int) u1] 2) (List.mem_append_right _ (.tail _ (.head _)))).1, rfl, _, rfl⟩ hkd (fun v hv => ?_)
        obtain ⟨tv2, rfl⟩ := sel_val hv
        clear hv
        k_steps
        all_goals (first | (exact absurd heqI (by assumption)) | skip)
        rename Fr _ _ _ _ => F36
        rename News _ _ _ _ => N36
        refine hQ1 _ _ ?_
        refine rend ⟨tabs2, hl, kh, t0, t1, h0, h1, fill, tf, tr, kk⟩ F36 N36 (fun p hp => mem_n1 hp) (fun p hp => mem_o1 hp) (hal ⟨tabs2, hl, kh, t0, t1, h0, h1, fill, tf, tr, kk⟩ hT2) (by (try dsimp only); kst_all) (by (try dsimp only); kst_same) ⟨hT2, fun q hq p hp => hP2 q (.tail _ (rest_in hq)) p hp, fun p hp => hP2 (hl, _) (.head _) p hp, hh0, hh1, hfl, hkk⟩

end
end
end
section
-- Fin
open PySem PySem.W PySem.Calls PySem.Spec PyProof.Rows
set_option Elab.async false
set_option maxRecDepth 100000
set_option maxHeartbeats 8000000
set_option linter.all false
section
local macro_rules | `(tactic| omega) => `(tactic| lia)
theorem K_of {P : Params} {h : Heap} (X : (KK P).In h) : (Mine.hd.heap_1 P).In h := by
  have e : Mine.hd.heap_1 P = KK P := by kernel_rfl
  rw [e]; exact X
noncomputable abbrev lawRow : OpenRow := PySem.Challenge.rw_in0277_01.row
theorem lawSome : (defOf qw lawRow.name).isSome = true := by kernel_rfl
noncomputable def lawDef : DefRec × List (Str × Expr) := (defOf qw lawRow.name).get lawSome
theorem lawDef_eq : defOf qw lawRow.name = some (lawDef.1, lawDef.2) := (Option.some_get lawSome).symm
theorem law_params : lawRow.prog.theDef lawRow.name = some (lawDef.1.params, lawDef.1.body, lawDef.1.scope) := by kernel_rfl
theorem law_kw : kwWritten? lawDef.1.params.kwonlyargs lawDef.1.params.kw_defaults = some lawDef.2 := by kernel_rfl
theorem law_name : lawDef.1.name = Str.ofString "law" := by kernel_rfl
theorem law_tab (P : Params) : tabIn (Mine.hd.heap_1 P) (Str.ofString "suffixed_err") = some (172, 168) := by kernel_rfl
theorem law_noTabs (P : Params) : noTabs (Mine.hd.heap_1 P) = true := by kernel_rfl
theorem law_at (P : Params) : nsIn (Mine.hd.heap_1 P) mainGlobals (Str.ofString "law") = some (some (.ref 349)) := by kernel_rfl
noncomputable def noLists (K : Frag) : Bool := K.all fun p => match p.2.cls with
  | .type "list" => false
  | _ => true
theorem law_noLists (P : Params) : noLists (Mine.hd.heap_1 P) = true := by kernel_rfl
theorem serr_some : ((recsOf qw).find? (fun e => e.name == Str.ofString "suffixed_err")).isSome = true := by kernel_rfl
theorem list_fresh {K : Frag} {h : Heap} {l : Addr} {vs : Array Value} {k : Nat} (X : K.In h) (hK : noLists K = true) (hl : h.get? l = some (listOf vs k)) : K.In (hideAll h [l]) := fun a o e => by
  refine hideAll_get _ (X a o e) fun q => ?_
  obtain rfl := List.mem_singleton.mp q
  have e2 := X _ _ e
  rw [hl] at e2
  cases e2
  have h2 := List.all_eq_true.mp hK _ (mem_of_lookupK e)
  exact absurd (show false = true from h2) Bool.false_ne_true
theorem not_list {vs : Array Value} {k : Nat} {t : String} {p : Prop} (e : (listOf vs k).cls = .type t) (ht : "list" ≠ t) : p := by
  have e9 : Value.type "list" = Value.type t := e
  injection e9 with e9
  exact absurd e9 ht
theorem hide_ns {h : Heap} {l a : Addr} {vs : Array Value} {k : Nat} {mm : Str → Option Value} (hl : h.get? l = some (listOf vs k)) (x : h.Ns a mm) : (hideAll h [l]).Ns a mm :=
  let ⟨o, es, ep, e, hd, r⟩ := x
  ⟨o, es, ep, hideAll_get _ e (fun q => by rw [List.mem_singleton.mp q, hl] at e; cases e; cases hd), hd, r⟩
theorem hide_top {h : Heap} {l : Addr} {vs : Array Value} {k : Nat} {loose : List Str} {mean : ExcName → Option Value} {mg mb : Str → Option Value} (hl : h.get? l = some (listOf vs k)) (T : Top topProg loose mean mg mb h) : Top topProg loose mean mg mb (hideAll h [l]) where
  g := hide_ns hl T.g
  b := hide_ns hl T.b
  nolimit := let ⟨mc, a, r⟩ := T.nolimit; ⟨mc, hide_ns hl a, r⟩
  nodigits := let ⟨mc, a, r⟩ := T.nodigits; ⟨mc, hide_ns hl a, r⟩
  fn := fun d hd => absurd (show d ∈ ([] : List DefRec) from hd) List.not_mem_nil
  own := fun o ho => absurd (show o ∈ ([] : List OwnSpec) from ho) List.not_mem_nil
  const := T.const
  free := T.free
  builtins := T.builtins
  tab := fun d hd => absurd (show d ∈ ([] : List DefRec) from hd) List.not_mem_nil
  bmain := let ⟨bm, ob, a1, a2, a3, a4, r⟩ := T.bmain; ⟨bm, ob, a1, a2, hideAll_get _ a3 (fun q => by rw [List.mem_singleton.mp q, hl] at a3; cases a3; exact not_list a4 (by decide)), a4, r⟩
  seer := fun e => absurd (show false = true from e) Bool.false_ne_true
theorem well_list {P : Params} {h : Heap} {v : Value} {d : WData} {a : Addr} {xs : List WData} (x : Well P h v d) (hv : v = .ref a) (hd : d = .list xs) : ∃ vs : List Value, h.get? a = some (listOf vs.toArray 0) := by
  cases x with
  | list e _ => cases hv; exact ⟨_, e⟩
  | _ => first | cases hd | cases hv
theorem law_call : WalkNG qw looseN (XL qw []) YPw lawRow.toRowW lawDef.1 lawDef.2 := by
  intro w s₀ s₁ mg mb G Y a o pm cd doc dV kV ho hd hcd hdf hmg hgens args vals as hpre hlay hrd hwl hlo
  have X := K_of Y.1
  have NC := noCtl_of Y.2
  have T := G.T
  wrow_args hpre hlay hrd hwl hlo
  rename_i nums hs0 hlay0 hL1 hr1 hl2 as1 as2 l vv as3 hL ra w1 r0 hI hr hc hc2
  have ha : a = 349 := by
    have h1 := mg_of X T.g (law_at w.params)
    rw [law_name, h1] at hmg
    injection hmg with h2
    injection h2 with h2
    exact h2.symm
  subst ha
  obtain ⟨vs', hl0⟩ := well_list (a := l) w1 rfl (by rfl)
  have hvs : vs'.toArray = vv.toArray := by
    obtain ⟨o', e1, e2, n, e3⟩ := hL
    rw [hl0] at e1
    cases e1
    injection e3
  rw [hvs] at hl0
  have hT : TabsAt [(172, 168)] s₁.heap := fun q hq => by
    rw [List.mem_singleton.mp hq]
    exact tab_of T X (Option.some_get serr_some).symm (law_tab w.params)
  have h168 : s₁.heap.get? 168 = some (tabObj #[]) := (hT _ (.head _)).2
  have hl168 : l ≠ 168 := fun e => by rw [e, h168] at hl0; cases hl0
  have hlG : (ghostOf s₁.heap [(172, 168)]).get? l = some (listOf vv.toArray 0) := ghost_get hT hl0 (fun e => by cases e)
  have XG := list_fresh (ghost_K hT X (law_noTabs _)) (law_noLists _) hlG
  have TG := hide_top hlG (ghost_top hT T)
  have kp : ∀ b o, (hideAll (ghostOf s₁.heap [(172, 168)]) [l]).get? b = some o → s₁.heap.get? b = some o := fun b o e => of_hideAll _ (of_hideAll _ e)
  refine wpAny_call (codeAny_mono (goodNG_of hT (fun _ _ => rfl) ?main) fun res s' g => by rcases g.1 with ⟨v, _, _, rfl, _⟩ | ⟨e, _, _, rfl, _⟩ <;> exact g)
  refine law_ok (k := 0) XG TG kp (by rw [hideAll_size, hideAll_size]; exact Nat.le_refl _) ?N hI (show nums.length ≤ 63 by omega) ?C ?NC hl168 ?ret
  case N =>
    intro q hq
    rcases List.mem_cons.mp hq with rfl | hq
    · exact ⟨h168, by
        cases e : (hideAll (ghostOf s₁.heap [(172, 168)]) [l]).get? 168 with
        | none => rfl
        | some o =>
          have e2 : (ghostOf s₁.heap [(172, 168)]).get? 168 = some o := of_hideAll _ e
          rw [show (ghostOf s₁.heap [(172, 168)]).get? 168 = none from hideAll_none _ (.head _)] at e2
          cases e2⟩
    · rw [List.mem_singleton.mp hq]
      exact ⟨hl0, hideAll_none _ (.head _)⟩
  case C =>
    obtain ⟨o', vs2, file, tf, flags, tg, inF, text, tt, e, hc', r⟩ := ghost_code hT |>.1
    exact ⟨o', vs2, file, tf, flags, tg, inF, text, tt, hideAll_get _ e (fun q => by
      have hh : (172 : Nat) = l := List.mem_singleton.mp q
      rw [← hh] at hlG
      have e2 : (ghostOf s₁.heap [(172, 168)]).get? 172 = some o' := e
      rw [hlG] at e2
      cases e2
      exact not_list hc' (by decide)), hc', r⟩
  case NC =>
    obtain ⟨es, ep, t, e, r⟩ := Y.2
    have e1 := ghost_get hT e (fun q => by cases q)
    exact noCtl_of ⟨es, ep, t, hideAll_get _ e1 (fun q => by
      rw [List.mem_singleton.mp q, hlG] at e1
      have z : (listOf vv.toArray 0).cls = .type "frozenset" := congrArg Obj.cls (Option.some.inj e1)
      exact not_list z (by decide)), r⟩
  case ret =>
    intro L' m' tabs h' tk' hTo F' N'
    refine ⟨⟨.inl ⟨.bool true, .bool true, [], rfl, fun _ => rfl, .bool true, ?post, fun _ => ⟨List.nodup_nil, fun _ h => nomatch h⟩⟩, fun b o' e => ?_, rfl, hgens⟩, ?_, trivial⟩
    case post => first | rfl | kernel_rfl
    · by_cases hb : b = l
      · rw [hb, hlG] at e
        cases e
        rw [hb]
        exact (N' _ (List.mem_append_right _ (.head _))).1
      · exact F'.keep b o' (hideAll_get _ e (fun q => hb (List.mem_singleton.mp q)))
    · rcases hTo with rfl | ⟨c, oc, vs3, t, rfl, _⟩
      · exact ⟨_, (N' _ (.head _)).1⟩
      · exact ⟨_, (N' _ (.tail _ (.head _))).1⟩
theorem fin_ok : PySem.Challenge.rw_in0277_01.Holds := by
  refine holds_law law_said fun said => ?_
  refine holds_mineG (q := qw) (loose := looseN) stands YPw.keeps ?XK lawDef_eq law_params law_kw rfl (by assumption) ?ok ?hb ?hw law_call
  case XK => exact XL.keeps
  case ok => kernel_rfl
  case hb => exact ⟨rfl, rfl, rfl, rfl, rfl, by decide +kernel⟩
  case hw => w_witness2
end
end
end
end Mine
theorem PySem.Challenge.cw_in0277_01_holds : PySem.Challenge.rw_in0277_01.Holds :=
  Mine.fin_ok
