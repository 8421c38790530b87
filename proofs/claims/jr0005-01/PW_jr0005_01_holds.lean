import PyProof.Rows.All
import Wide.All
import OpenK.AllK
import Wide.FinOn
import PySem.Challenge.RW_jr0005_01
set_option Elab.async false
set_option maxRecDepth 100000

section
open PySem PySem.W PyProof.Rows
namespace Mine
open Sem (wp)

def badIds : List String := ["bytearray.__contains__", "bytearray.__mod__", "bytearray.__rmod__", "_struct.pack_into.held", "bytearray.find.held"] ++ Builtin.Bytes.decodersThatHold
def badC : Code → Bool
  | .builtin id _ => badIds.contains id
  | _ => false
/-- no code that lends a bytearray out lies on the stack -/
def NoBad (Γ : Ctx) : Prop := badC Γ.code = false ∧ ∀ x ∈ Γ.below, badC x.1 = false

def wpN {α : Type} (M : Model) (A : Around) (t : Sem α) (Q : α → Shared → Prop) (E : Value → Shared → Prop) (s : Shared) : Prop :=
  ∀ Γ p, Γ.In A → NoBad Γ → wp M Γ t (fun a _ s' => Q a s') (fun e _ s' => E e s') p s
def codeN (M : Model) (A : Around) (c : Code) (R : Result → Shared → Prop) (s : Shared) : Prop :=
  ∀ Γ p, Γ.code = c → Γ.Below A → NoBad Γ → wpCode M Γ R p s

section
variable {α β : Type} {M : Model} {A : Around} {E : Value → Shared → Prop} {s : Shared}
theorem wpN_any {t : Sem α} {Q : α → Shared → Prop} (h : wpAny M A t Q E s) : wpN M A t Q E s := fun Γ p hi _ => h Γ p hi
theorem codeN_any {c : Code} {R : Result → Shared → Prop} (h : codeAny M A c R s) : codeN M A c R s := fun Γ p hc hb _ => h Γ p hc hb
theorem wpN_pure {a : α} {Q : α → Shared → Prop} (h : Q a s) : wpN M A (pure a) Q E s := fun _ _ _ _ => h
theorem wpN_mono {t : Sem α} {Q Q' : α → Shared → Prop} {E' : Value → Shared → Prop} (h : wpN M A t Q E s)
    (hQ : ∀ a s, Q a s → Q' a s) (hE : ∀ e s, E e s → E' e s) : wpN M A t Q' E' s :=
  fun Γ p hi hn => Sem.wp_mono M Γ t (fun a _ s' => hQ a s') (fun e _ s' => hE e s') p s (h Γ p hi hn)
theorem wpN_bind {m : Sem α} {f : α → Sem β} {Q : β → Shared → Prop} (h : wpN M A m (fun a s' => wpN M A (f a) Q E s') E s) :
    wpN M A (m >>= f) Q E s := fun Γ p hi hn => by
  rw [Sem.wp_bind']
  exact Sem.wp_mono M Γ m (fun a p' s' h' => h' Γ p' hi hn) (fun _ _ _ h' => h') p s (h Γ p hi hn)
/-- a first part that the library's rules walk, the rest here -/
theorem wpN_first {m : Sem α} {f : α → Sem β} {Q : β → Shared → Prop} (h : wpAny M A m (fun a s' => wpN M A (f a) Q E s') E s) :
    wpN M A (m >>= f) Q E s := wpN_bind (wpN_any h)
theorem wpN_last {m : Sem α} {f : α → Sem β} {Q : β → Shared → Prop} (h : wpN M A m (fun a s' => wpAny M A (f a) Q E s') E s) :
    wpN M A (m >>= f) Q E s := wpN_bind (wpN_mono h (fun _ _ x => wpN_any x) fun _ _ x => x)
theorem wpN_holding {vs : List Value} {m : Sem α} {Q : α → Shared → Prop} (h : wpN M A m Q E s) : wpN M A (holding vs m) Q E s :=
  fun Γ p hi hn => by rw [Sem.wp_holding]; exact h Γ p hi hn
theorem wpN_operate {vs : List Value} {m : Sem Value} {Q : Value → Shared → Prop} (h : wpN M A m Q E s) : wpN M A (operate vs m) Q E s :=
  fun Γ p hi hn => by rw [Sem.wp_operate]; exact h Γ p hi hn
theorem wpN_keep {vs : List Value} {m : Sem α} {Q : α → Shared → Prop} (h : wpN M A m Q E s) : wpN M A (m.keep vs) Q E s :=
  fun Γ p hi hn => by rw [Sem.wp_keep]; exact h Γ p hi hn
theorem wpN_onRaise {m : Sem α} {k : Value → Sem Unit} {Q : α → Shared → Prop}
    (h : wpN M A m Q (fun e s' => wpAny M A (k e) (fun _ s'' => E e s'') E s') s) : wpN M A (m.onRaise k) Q E s := fun Γ p hi hn => by
  rw [Sem.wp_onRaise]
  exact Sem.wp_mono M Γ m (fun _ _ _ h' => h') (fun e p' s' h' => h' Γ p' hi) p s (h Γ p hi hn)
theorem wpN_attempt {m : Sem α} {Q : Except Value α → Shared → Prop} (h : wpN M A m (fun a => Q (.ok a)) (fun e => Q (.error e)) s) :
    wpN M A m.attempt Q E s := fun Γ p hi hn => by rw [Sem.wp_attempt]; exact h Γ p hi hn
theorem wpN_tryCatch {m : Sem α} {k : Value → Sem α} {Q : α → Shared → Prop} (h : wpN M A m Q (fun e s' => wpN M A (k e) Q E s') s) :
    wpN M A (tryCatch m k) Q E s := fun Γ p hi hn => by
  rw [Sem.wp_tryCatch']
  exact Sem.wp_mono M Γ m (fun _ _ _ h' => h') (fun e p' s' h' => h' Γ p' hi hn) p s (h Γ p hi hn)
theorem wpN_standAt {pos : Pos} {Q : Unit → Shared → Prop} (h : Q () s) : wpN M A (standAt pos) Q E s := wpN_any (wpAny_standAt h)
theorem wpN_of_eq {a : α} {t : Sem α} {Q : α → Shared → Prop} (e : t = pure a) (h : Q a s) : wpN M A t Q E s := e ▸ wpN_pure h

theorem codeN_mono {c : Code} {R R' : Result → Shared → Prop} (h : codeN M A c R s) (hR : ∀ r s, R r s → R' r s) : codeN M A c R' s :=
  fun Γ p hc hb hn => wpCode_mono hR (h Γ p hc hb hn)
theorem NoBad.enter {Γ : Ctx} (h : NoBad Γ) {c : Code} (hc : badC c = false) (hd : Option Value) (p : Pos) : NoBad (Γ.enter c hd p) :=
  ⟨hc, fun x hx => by
    rcases List.mem_cons.mp hx with rfl | hx
    · exact h.1
    · exact h.2 x hx⟩
theorem NoBad.goto {Γ : Ctx} (h : NoBad Γ) {c : Code} (hc : badC c = false) : NoBad (Γ.goto c) := ⟨hc, h.2⟩
theorem wpN_runValue {c : Code} {Q : Value → Shared → Prop}
    (hc : codeN M A c (fun r s' => match r with | .ok (.ret v) => Q v s' | .ok _ => False | .error e => E e s') s) (hg : badC c = false) :
    wpN M A (runValue c) Q E s := fun Γ p hi hn => by
  rw [Sem.wp_runValue]; exact hc _ p rfl (hi.enter c none p (by intro x; cases x)) (hn.enter hg _ _)
theorem wpN_call {f : Value} {pos : List Value} {kw : List (Str × Value)} {Q : Value → Shared → Prop}
    (hc : codeN M A (.call f ⟨pos, kw⟩) (fun r s' => match r with | .ok (.ret v) => Q v s' | .ok _ => False | .error e => E e s') s) :
    wpN M A (call f pos kw) Q E s := wpN_runValue hc rfl
theorem wpN_run {c : Code} {h : Option Value} {Q : Flow → Shared → Prop}
    (hc : codeN M (A.mark h) c (fun r s' => match r with | .ok f => Q f s' | .error e => E e s') s) (hg : badC c = false) (hnb : h ≠ some byPass := by intro x; cases x) :
    wpN M A (run c h) Q E s :=
  fun Γ p hi hn => by rw [Sem.wp_run]; exact hc _ p rfl (hi.enter c h p hnb) (hn.enter hg _ _)

def FinN (M : Model) (A : Around) (R : Result → Shared → Prop) (fin : Fin) (s' : Shared) : Prop :=
  match fin with
  | .done f => R (.ok f) s'
  | .again c' => c'.quiet = true ∧ badC c' = false ∧ codeN M A c' R s'
theorem codeN_of_tree {c : Code} {R : Result → Shared → Prop}
    (h : wpN M (A.under c) (M.den c) (FinN M A R) (fun e s' => R (.error e) s') s) : codeN M A c R s := fun Γ p hc hb hn => by
  rw [wpCode_iff_wp, hc]
  refine Sem.wp_mono M Γ _ (fun fin p' s' h' => ?_) (fun _ _ _ h' => h') p s (h Γ p (hc ▸ hb.in) hn)
  cases fin with
  | done f => exact h'
  | again c' => exact ⟨h'.1, h'.2.2 (Γ.goto c') p' rfl (hb.goto c') (hn.goto h'.2.1)⟩

theorem bad_of {id : String} {a : Args} {c : Code} (e : c = .builtin id a) (hid : badIds.contains id = true) : ¬ badC c = false := by
  subst e; intro h; have h2 : badIds.contains id = false := h; rw [hid] at h2; cases h2
theorem exported_none {self : Value} {Q : Bool → Shared → Prop} (h : Q false s) : wpN M A (Builtin.Bytes.exported self) Q E s := fun Γ p _ hn => by
  unfold Builtin.Bytes.exported
  rw [Sem.wp_bind']
  have key : ∀ x ∈ (Γ.code, p) :: Γ.below, badC x.1 = false := fun x hx => by
    rcases List.mem_cons.mp hx with rfl | hx
    · exact hn.1
    · exact hn.2 x hx
  show Q (((Γ.code, p) :: Γ.below).any _) s
  rw [List.any_eq_false.mpr fun x hx => ?_]
  · exact h
  · have hb := key x hx
    obtain ⟨c, q⟩ := x
    (try dsimp only)
    split <;> first
      | (rename_i e; exact absurd hb (bad_of (Prod.mk.inj e).1 (by decide +kernel)))
      | (rename_i e; have hc := (Prod.mk.inj e).1; subst hc
         rename_i id _ _ _ _ _ _ _ _ _
         have hz : Builtin.Bytes.decodersThatHold.contains id = false := by
           have hb' : badIds.contains id = false := hb
           simp only [badIds, List.contains_eq_mem, List.mem_append, decide_eq_false_iff_not, not_or] at hb' ⊢
           exact hb'.2
         rw [hz, Bool.and_false]; exact Bool.false_ne_true)
      | exact Bool.false_ne_true
end
end Mine
end

section
open PySem PySem.W PyProof.Rows
namespace Mine
open Sem (wp)

/-- look at the stack first: a bad code on it ends the tree at once -/
def guardT {α : Type} (t : Sem α) (a : α) : Sem α := .stack fun st => if st.any (fun x => badC x.1) then .pure a else t

section
variable {α : Type} {M : Model} {A : Around} {E : Value → Shared → Prop} {s : Shared}
theorem any_guard {t : Sem α} {a : α} {Q : α → Shared → Prop} (hq : Q a s) (h : wpN M A t Q E s) : wpAny M A (guardT t a) Q E s := fun Γ p hi => by
  unfold guardT
  rw [Sem.wp_stack]
  by_cases hb : ((Γ.code, p) :: Γ.below).any (fun x => badC x.1) = true
  · rw [if_pos hb, Sem.wp_pure]; exact hq
  · rw [if_neg hb]
    refine h Γ p hi ?_
    have h2 := List.any_eq_false.mp (Bool.not_eq_true _ ▸ hb)
    exact ⟨by have := h2 _ (List.mem_cons_self ..); simpa using this, fun x hx => by have := h2 x (List.mem_cons_of_mem _ hx); simpa using this⟩
theorem guard_swap {t : Sem Value} {u : Sem Fin} {Q : Fin → Shared → Prop}
    (hin : ∀ Γ p, Γ.In A → (∀ p', wp M Γ t (fun v _ s' => Q (.done (.ret v)) s') (fun e _ s' => E e s') p' s) → wp M Γ u (fun a _ s' => Q a s') (fun e _ s' => E e s') p s)
    {v : Value} (h : wpAny M A (guardT t v) (fun v s' => Q (.done (.ret v)) s') E s) : wpAny M A (guardT u (.done (.ret v))) Q E s := fun Γ p hi => by
  have hh : ∀ p', wp M Γ (if ((Γ.code, p) :: Γ.below).any (fun x => badC x.1) = true then .pure v else t) (fun v _ s' => Q (.done (.ret v)) s') (fun e _ s' => E e s') p' s := fun p' => by
    have := h Γ p' hi
    unfold guardT at this
    rw [Sem.wp_stack] at this
    exact this
  unfold guardT
  rw [Sem.wp_stack]
  by_cases hb : ((Γ.code, p) :: Γ.below).any (fun x => badC x.1) = true
  · simp only [if_pos hb, Sem.wp_pure] at hh ⊢
    exact hh p
  · simp only [if_neg hb] at hh ⊢
    exact hin Γ p hi hh
end

def callTree (name : Str) (vs : List Value) : Sem Fin := do
  match ← nsGet mainNs name with
  | some f => do ret (← PySem.call f vs)
  | none => unsupported "claim.caller:no-such-global"

theorem swap_call {M : Model} {s : Shared} {mg : Str → Option Value} {name : Str} {f : Value} {vs : List Value} {Q : Fin → Shared → Prop} {E : Value → Shared → Prop} (hg : s.heap.Ns mainGlobals mg) (hf : mg name = some f)
    (h : wpAny M callerA (guardT (PySem.call f vs) (.bool true)) (fun v s' => Q (.done (.ret v)) s') E s) : wpAny M callerA (guardT (callTree name vs) (.done (.ret (.bool true)))) Q E s := by
  refine guard_swap (fun Γ p hi hh => ?_) h
  have h1 : wpAny M callerA (nsGet mainNs name) (fun o s' => o = some f ∧ s' = s) E s := wpAny_nsGet hg ⟨hf, rfl⟩
  unfold callTree
  rw [Sem.wp_bind']
  refine Sem.wp_mono M Γ _ (fun o p' s' h' => ?_) (fun _ _ _ h' => h') _ _ (h1 Γ p hi)
  obtain ⟨rfl, rfl⟩ := h'
  show wp M Γ (PySem.call f vs >>= fun v => ret v) _ _ p' _
  rw [Sem.wp_bind']
  exact Sem.wp_mono M Γ _ (fun v p' s' h' => h') (fun _ _ _ h' => h') _ _ (hh p')

theorem sched_guard {p : Program} {w : World} {s s' : Shared} {t : Sem Fin} {a : Fin} {n : Nat} {o : Outcome} (hz : s.asleep)
    (h : schedN (denote table) p w n (.single s ⟨guardT t a, .builtin "claim.caller" {}, default, []⟩) = .halted o s') :
    ∃ n', schedN (denote table) p w n' (.single s ⟨t, .builtin "claim.caller" {}, default, []⟩) = .halted o s' := by
  cases n with
  | zero => cases h
  | succ n =>
    have hs : step (denote table) p w s ⟨guardT t a, .builtin "claim.caller" {}, default, []⟩ = .go s ⟨t, .builtin "claim.caller" {}, default, []⟩ := by
      obtain ⟨heap, gens, drawn, toks, os⟩ := s
      show Step.go _ ⟨(if badC (.builtin "claim.caller" {}) || false then .pure a else t), _, _, _⟩ = _
      rw [show badC (.builtin "claim.caller" {}) = false by decide +kernel]
      rfl
    have e := (sstep_single (denote table) p w s ⟨guardT t a, .builtin "claim.caller" {}, default, []⟩ rfl hz).resolve_right (by rw [hs]; intro x; cases x)
    rw [hs] at e
    refine ⟨n, ?_⟩
    simp only [schedN, e, Step.lift] at h
    exact h
end Mine
end

section
open PySem PySem.W PyProof.Rows
namespace Mine
open Sem (wp)

theorem callFrom_unguard {c : ClaimW} {name : Str} {w : World} {free : Addr → Prop} {gens : Prop} {kept : Heap → Prop} {s : Shared} (hz : s.asleep)
    (h : c.CallFrom (fun vs => ⟨guardT (callTree name vs) (.done (.ret (.bool true))), .builtin "claim.caller" {}, default, []⟩) w free gens kept s) :
    c.CallFrom (callStub name) w free gens kept s := by
  intro args h1 h2 ord h3
  obtain ⟨vs, s₁, hl, n, o, s', hr, rest⟩ := h args h1 h2 ord h3
  obtain ⟨n', hr'⟩ := sched_guard (Shared.asleep_of_life (layAllW_rest _ _ _ hl).2.2.2 hz) hr
  exact ⟨vs, s₁, hl, n', o, s', hr', rest⟩

theorem holds_unguard {c : ClaimW} {name : Str} {defs keeps : List Str} {writes : Bool}
    (h : c.HoldsOpenBy (fun vs => ⟨guardT (callTree name vs) (.done (.ret (.bool true))), .builtin "claim.caller" {}, default, []⟩) defs keeps writes) :
    c.HoldsOpenBy (callStub name) defs keeps writes := by
  obtain ⟨a, b, h⟩ := h
  refine ⟨a, b, fun w => ⟨(h w).1, fun s hs => ?_⟩⟩
  obtain ⟨s₀, hf, hg, s₁, hT, r1, r2, r3, hc⟩ := (h w).2 s hs
  have z0 : s₀.asleep := Shared.asleep_of_life (fenceModules_life hf) (AfterImport.life hs)
  exact ⟨s₀, hf, hg, s₁, hT, r1, r2, r3, callFrom_unguard (Shared.asleep_of_life hT.2.1 z0) hc⟩

end Mine

/-- the library's head lemma of this name wants the call for every stack; this one for those without a bad code -/
theorem Mine.PySem.W.holds_open {r : OpenRow} {q : Program} {loose : List Str} {Xt : Shared → Bool} {XP : (Str → Option Value) → Heap → Prop} {α : Type} {Yf : Shared → α} {Ya : World → α} {YP : World → Heap → Prop} {d : DefRec} {kwd : List (Str × Expr)} {N : Nat}
    (left : LeftO r.prog q loose Xt Yf Ya N) (hY : ∀ w s, Yf s = Ya w → YP w s.heap) (hYk : ∀ w h h', YP w h → (∀ b o, h.get? b = some o → h'.get? b = some o) → YP w h')
    (hX : ∀ s, Xt s = true → XP (s.heap.nsMap mainGlobals) s.heap) (hXk : ∀ mg h h', XP mg h → (∀ b o, h.get? b = some o → h'.get? b = some o) → XP mg h')
    (hdef : defOf q r.name = some (d, kwd)) (hp : r.prog.theDef r.name = some (d.params, d.body, d.scope)) (hk : kwWritten? d.params.kwonlyargs d.params.kw_defaults = some kwd) (hRf : ∀ s, Xt s = true → RecFacts r.records s.heap) (hwr : (!r.writes || r.records.isEmpty) = true)
    (k1 : r.wellSaid = true) (ok : (chainsOk q && opensWell r.prog && (frees r.toRowW && r.within.isEmpty)) = true) (hb : r.prog.bare) (hw : r.toRowW.promised)
    (call : WalkO q loose XP YP r.toRowW d kwd fun f vs => guardT (PySem.call f vs) (.bool true)) : r.Holds := by
  refine ⟨k1, hw, holds_unguard (open_anyG (r := r.toRowW) (run := fun f vs => guardT (PySem.call f vs) (.bool true)) (tree := fun vs => guardT (callTree r.name vs) (.done (.ret (.bool true)))) left hY hYk hX hXk hRf hwr ok hb hw
    (fun vs w s mg f Q E hg hf h => swap_call hg hf h) (fun w s hg G n hn => ?_) fun w s₀ s₁ mg mb G Y args vs as hpre hlay L low => ?_)⟩
  · obtain rfl : n = r.name := by split at hn <;> simp_all
    exact pinned_of_view hg G hdef hp hk
  · obtain ⟨a, o, pm, cd, doc, dV, kV, h1, h2, h3, h4, h5⟩ := G.fn hdef
    exact ⟨.ref a, h1, call w s₀ s₁ mg mb G Y a o pm cd doc dV kV h2 h3 h4 h5 (defOf_name hdef ▸ h1) L.gens args vs as hpre hlay L.reads L.well (L.low low)⟩
end

section
open PySem PySem.W PyProof.Rows PySem.Spec PySem.Calls
namespace Mine
open Sem (wp)

section
variable {prog : Program} {w : World} {A A₀ : Around} {s : Shared} {R : Result → Shared → Prop} {E : Value → Shared → Prop} {env : Env}

theorem codeN_func {body : List Stmt}
    (h : wpN (model prog w) (A.deeper env) (execs body env) (fun f s' => R (.ok (.ret (match f with | .ret v => v | _ => .none))) s')
      (fun e s' => wpAny (model prog w) (A.deeper env) (leaving env e) (fun _ s'' => R (.error e) s'') (fun e' s'' => R (.error e') s'') s') s) :
    codeN (model prog w) A (.func body env) R s := by
  refine codeN_of_tree ?_
  show wpN _ (A.deeper env) (do point; match ← (execs body env).onRaise (leaving env) with | .ret v => ret v | _ => ret .none) _ _ s
  refine wpN_first (wpAny_point (wpN_bind (wpN_onRaise (wpN_mono h (fun f s' h' => ?_) fun _ _ h' => h'))))
  cases f <;> exact wpN_pure h'

theorem codeN_call_function {a : Addr} {args : Args} {o : Obj} {fd : FuncData} {body : List Stmt} (hroom : A.depth < recursionLimit)
    (ho : s.heap.get? a = some o) (hd' : o.data = .func fd) (hco : fd.scope.isCoroutine = false) (hgen : fd.scope.isGenerator = false) (hbody : fd.body = .stmts body) (hcd : s.heap.CodeRec fd.code fd.qualname)
    (h : wpAny (model prog w) A.in1 (bindArgs fd args) (fun binds s₁ =>
      wpAny (model prog w) A.in1 (newFunctionEnv fd.scope fd.globals fd.closure binds (fd.qualname ++ ".<locals>.") (some a) fd.code none fd.builtins)
        (fun env s₂ => s₂.heap.NoLimit ∧ codeN (model prog w) A (.func body env) R s₂) (fun e s' => R (.error e) s') s₁) (fun e s' => R (.error e) s') s) :
    codeN (model prog w) A (.call (.ref a) args) R s := by
  refine codeN_of_tree (wpN_any ?_)
  show wpAny _ A.in1 (callAny (.ref a) args) _ _ s
  simp only [callAny]
  refine wpAny_bind (wpAny_load ho ?_)
  obtain ⟨c, oc, vs, tq, hc, hoc, hdc, hq⟩ := hcd
  simp only [hd', callFunction, hco, hgen, hbody, hc]
  rw [hc] at h
  refine wpAny_bind (m := field (.ref c) 1) (wpAny_field hoc hdc hq (wpAny_bind (wpAny_pure ?_)))
  exact wpAny_bind (wpAny_mono h (fun binds s₁ h₁ => wpAny_bind (wpAny_mono h₁ (fun env s₂ h₂ => wpAny_bind (wpAny_enterFrame h₂.1 hroom
    (wpAny_pure (And.intro rfl (And.intro rfl h₂.2))))) fun _ _ h' => h')) fun _ _ h' => h')

theorem codeN_call_def {a : Addr} {o : Obj} {fd : FuncData} {body : List Stmt} {args : Args} {binds : List (Str × Value)}
    (hroom : A.depth < recursionLimit) (ho : s.heap.get? a = some o) (hdata : o.data = .func fd) (hlim : s.heap.NoLimit) (hcd : s.heap.CodeRec fd.code fd.qualname)
    (hbody : fd.body = .stmts body) (hbind : BindsTo s fd args binds)
    (hcell : ∀ x ∈ fd.scope.names, x.2 ≠ .cell) (hloc : ∀ x ∈ binds, fd.scope.names.lookup x.1 = some .local)
    (h : ∀ h₀, h₀.Ns s.heap.objs.size (fun x => binds.reverse.lookup x) → (∀ b o, s.heap.get? b = some o → h₀.get? b = some o) →
      wpN (model prog w) (A.deeper (callEnv fd s.heap.objs.size a)) (execs body (callEnv fd s.heap.objs.size a)) (fun f s' => R (.ok (.ret (match f with | .ret v => v | _ => .none))) s')
        (fun e s' => wpAny (model prog w) (A.deeper (callEnv fd s.heap.objs.size a)) (leaving (callEnv fd s.heap.objs.size a) e) (fun _ s'' => R (.error e) s'') (fun e' s'' => R (.error e') s'') s')
        { s with heap := h₀, toks := s.toks + binds.length })
    (hco : fd.scope.isCoroutine = false := by rfl) (hgen : fd.scope.isGenerator = false := by rfl) (hk : fd.scope.kind = .function := by rfl) :
    codeN (model prog w) A (.call (.ref a) args) R s := by
  refine codeN_call_function hroom ho hdata hco hgen hbody hcd (hbind _ _ _ _ ?_)
  refine wpAny_newFunctionEnv hcell hloc (fun h₀ hns₀ hsb₀ => ⟨hlim.fresh _ hsb₀, codeN_func (h h₀ hns₀ fun b o e => ?_)⟩) hk
  exact hsb₀.extBut b o (Nat.ne_of_lt (Heap.lt_size e)) (Heap.get?_push_of_some _ e)

/-- the law's own call, from the caller -/
theorem call_topN {name : Str} {params : Arguments} {body : List Stmt} {scope : Scope} {dV kV pm cd doc : Value} {a : Addr} {o : Obj} {args : Args} {binds : List (Str × Value)}
    (hroom : A.depth < recursionLimit) (ho : s.heap.get? a = some o) (hdata : o.data = .func { docDef name params body scope pm cd doc with defaults := dV, kwdefaults := kV }) (hlim : s.heap.NoLimit) (hcd : s.heap.CodeRec cd name)
    (hbind : BindsTo s { docDef name params body scope pm cd doc with defaults := dV, kwdefaults := kV } args binds)
    (hloc : ∀ x ∈ binds, scope.names.lookup x.1 = some .local)
    (h : ∀ h₁, Fr s.heap s.heap.objs.size h₁ (fun x => binds.reverse.lookup x) →
      wpN (model prog w) (A.deeper (envOf name scope s.heap.objs.size a cd)) (execs body (envOf name scope s.heap.objs.size a cd))
        (fun f s' => R (.ok (.ret (match f with | .ret v => v | _ => .none))) s')
        (fun e s' => wpAny (model prog w) (A.deeper (envOf name scope s.heap.objs.size a cd)) (leaving (envOf name scope s.heap.objs.size a cd) e)
          (fun _ s'' => R (.error e) s'') (fun e' s'' => R (.error e') s'') s')
        { s with heap := h₁, toks := s.toks + binds.length })
    (hco : scope.isCoroutine = false := by rfl) (hgen : scope.isGenerator = false := by rfl) (hk : scope.kind = .function := by rfl)
    (hcell : ∀ x ∈ scope.names, x.2 ≠ .cell := by decide) :
    codeN (model prog w) A (.call (.ref a) args) R s :=
  codeN_call_def hroom ho hdata hlim hcd rfl hbind hcell hloc (fun h₁ hns hkeep => h h₁ ⟨hns, hkeep, Nat.le_refl _⟩) hco hgen hk

/-- a def of the text, called from a frame of the walk -/
theorem code_defN {K : Frag} {base h₀ : Heap} {outer : List Env} {L : Addr} {m mg mb : Str → Option Value} {news : List (Addr × Obj)} {p : Program} {loose : List Str} {mean : ExcName → Option Value}
    {name qual : Str} {params : Arguments} {body : List Stmt} {scope : Scope} {dV kV doc pm cdv ct oc : Value} {an od : Option Addr} {osl : Array (Option Value)} {f : Addr} {args : Args} {binds : List (Str × Value)}
    (B : Below A₀ base outer h₀) (F : Fr h₀ L s.heap m) (X₀ : K.In h₀) (N : News h₀ L s.heap news) (T : Top p loose mean mg mb h₀) (hA : A.frames = some (env :: outer)) (hf : env.frame = some L) (hke : env.scope.kind = .function)
    (ho : K.lookup f = some ⟨oc, od, .func (fnOf name qual params body scope dV kV doc pm an cdv ct), osl⟩) (hcd : codeIn K cdv qual = true) (hroom : A.depth < recursionLimit)
    (hbind : BindsTo s (fnOf name qual params body scope dV kV doc pm an cdv ct) args binds) (hloc : ∀ y ∈ binds, scope.names.lookup y.1 = some .local)
    (h : ∀ g L' h₁, Fr h₀ L g m → Fr g L' h₁ (fun y => binds.reverse.lookup y) → News g L' h₁ news → Below A base (env :: outer) g → K.In g → Top p loose mean mg mb g → (∀ p ∈ news, p.1 < L') →
      wpN (model prog w) (A.deeper (envOf qual scope L' f cdv)) (execs body (envOf qual scope L' f cdv))
        (fun fl s' => LeaveK h₀ L m g R (match fl with | .ret v => v | _ => .none) s')
        (fun e s' => wpAny (model prog w) (A.deeper (envOf qual scope L' f cdv)) (leaving (envOf qual scope L' f cdv) e) (fun _ s'' => R (.error e) s'') (fun e' s'' => R (.error e') s'') s')
        { s with heap := h₁, toks := s.toks + binds.length })
    (hco : scope.isCoroutine = false) (hgen : scope.isGenerator = false) (hk : scope.kind = .function)
    (hcell : ∀ x ∈ scope.names, x.2 ≠ .cell) : codeN (model prog w) A (.call (.ref f) args) R s := by
  obtain ⟨FG, BG, st, lv⟩ := groundX (R := R) B F N hA hf hke
  refine codeN_call_def (fd := fnOf name qual params body scope dV kV doc pm an cdv ct) (body := body) (binds := binds) hroom ((X₀.keeps F.keep) _ _ ho) rfl (T.nolimit.keeps F.keep) (codeRec_of (X₀.keeps F.keep) hcd) rfl hbind hcell hloc (fun h₁ hns hk₁ => ?_) hco hgen hk
  exact wpN_mono (h _ s.heap.objs.size h₁ FG ⟨hns, fun b o e => hk₁ b o (of_hideAll _ e), Nat.le_of_eq (hideAll_size _ _)⟩
    (fun p hp => ⟨hk₁ _ _ (N p hp).1, Nat.ne_of_lt (Heap.lt_size (N p hp).1), hideAll_none _ (List.mem_map_of_mem hp)⟩) BG (X₀.keeps st) (T.keeps st) (fun p hp => Heap.lt_size (N p hp).1)) (fun fl s' hl => lv _ _ hl) fun _ _ y => y
end

section
variable {M : Model} {A : Around} {E : Value → Shared → Prop} {s : Shared} {env : Env}
theorem wpN_execs_cons {st rest} {Q : Flow → Shared → Prop}
    (h : wpN M A (exec st env) (fun f s' => match f with | .next => wpN M A (execs rest env) Q E s' | f => Q f s') E s) :
    wpN M A (execs (st :: rest) env) Q E s := by
  rw [execs_cons]
  refine wpN_bind (wpN_mono h (fun f s' h' => ?_) fun _ _ h' => h')
  cases f <;> first | exact h' | exact wpN_pure h'
theorem wpN_If {test body orelse pos} {Q : Flow → Shared → Prop}
    (h : wpAny M A (isTrue test env (eval test env)) (fun b s₂ => if b then wpN M A (execs body env) Q E s₂ else wpN M A (execs orelse env) Q E s₂) E s) :
    wpN M A (exec (.If test body orelse pos) env) Q E s := by
  rw [exec_If]
  refine wpN_first (wpAny_standAt (wpN_first (wpAny_mono h (fun b s₂ h₂ => ?_) fun _ _ h' => h')))
  cases b <;> exact h₂
theorem wpN_Assign_Name {x pos' value pos} {Q : Flow → Shared → Prop}
    (h : wpN M A (eval value env) (fun v s₁ => wpAny M A (storeName env x v) (fun _ => Q .next) E s₁) E s)
    (hs : swapsWith value (some (.Name x pos')) pos.line env = pure false := by rfl) :
    wpN M A (exec (.Assign [.Name x pos'] value pos) env) Q E s := fun Γ p hi hn => by
  simp only [exec_Assign_Name env x pos' value pos hs, Sem.wp_bind', Sem.wp_cmd_standAt, Sem.wp_bindName, Sem.wp_pure']
  exact Sem.wp_mono M Γ _ (fun v _ s₁ h₁ => h₁ Γ _ hi) (fun _ _ _ h' => h') _ _ (h Γ _ hi hn)
theorem wpN_Assign_Attribute {o attr pos' value pos} {Q : Flow → Shared → Prop}
    (h : wpN M A (eval value env) (fun v s₁ => wpAny M A (eval o env) (fun ov s₂ => wpAny M A (setAttr ov attr v) (fun _ => Q .next) E s₂) E s₁) E s)
    (hs : swapsWith value (some (.Attribute o attr pos')) pos.line env = pure false := by rfl) :
    wpN M A (exec (.Assign [.Attribute o attr pos'] value pos) env) Q E s := fun Γ p hi hn => by
  simp only [plainObj_exec_Assign_Attribute o attr pos' value pos hs, assign_Attribute, Sem.wp_bind', Sem.wp_holding, Sem.wp_cmd_standAt, Sem.wp_release, Sem.wp_pure']
  exact Sem.wp_mono M Γ _ (fun v p₁ s₁ h₁ => Sem.wp_mono M Γ _ (fun ov _ s₂ h₂ => h₂ Γ _ hi) (fun _ _ _ h' => h') _ _ (h₁ Γ p₁ hi)) (fun _ _ _ h' => h') _ _ (h Γ _ hi hn)
theorem wpN_AugAssign_Attribute {o value : Expr} {attr : Str} {tpos pos : Pos} {op : Operator} {Q : Flow → Shared → Prop}
    (h : wpAny M A (eval o env) (fun ov s₁ => wpAny M A (getAttr ov attr true) (fun old s₂ =>
          wpAny M A (eval value env) (fun v s₃ => wpN M A (inplaceOp op old v) (fun new s₄ =>
            wpAny M A (setAttr ov attr new) (fun _ => Q .next) E s₄) E s₃) E s₂) E s₁) E s) :
    wpN M A (exec (.AugAssign (.Attribute o attr tpos) op value pos) env) Q E s := by
  have e : exec (.AugAssign (.Attribute o attr tpos) op value pos) env = (do
      standAt pos
      let ov ← eval o env
      let new ← holding [ov] do
        standAt tpos.atName
        let old ← getAttr ov attr true
        let v ← holding [old] (eval value env)
        standAt pos
        operate [old, v] (inplaceOp op old v)
      standAt tpos.atName
      holding [new, ov] (setAttr ov attr new)
      release [new, ov] []
      pure .next) := rfl
  rw [e]
  refine wpN_first (wpAny_standAt (wpN_first (wpAny_mono h (fun ov s₁ h₁ => ?_) fun _ _ x => x)))
  refine wpN_bind (wpN_holding ?_)
  refine wpN_first (wpAny_standAt (wpN_first (wpAny_mono h₁ (fun old s₂ h₂ => ?_) fun _ _ x => x)))
  refine wpN_first (wpAny_holding (wpAny_mono h₂ (fun v s₃ h₃ => ?_) fun _ _ x => x))
  refine wpN_first (wpAny_standAt (wpN_operate (wpN_mono h₃ (fun new s₄ h₄ => ?_) fun _ _ x => x)))
  refine wpN_any (wpAny_bind (wpAny_standAt (wpAny_bind (wpAny_holding (wpAny_mono h₄ (fun _ s₅ h₅ => ?_) fun _ _ x => x)))))
  exact wpAny_bind (fun Γ p hi => by rw [Sem.wp_release]; exact wpAny_pure h₅)
end
end Mine
end

section
open PySem PySem.W PyProof.Rows PySem.Spec PySem.Calls
namespace Mine
open Sem (wp)

section
variable {prog : Program} {w : World} {A : Around} {s : Shared} {R : Result → Shared → Prop}
theorem codeN_builtin {id : String} {args : Args} {b : Builtin} (hb : entryFor table id = some b)
    (h : wpN (model prog w) (A.under (.builtin id args)) (b args) (FinN (model prog w) A R) (fun e s' => R (.error e) s') s) :
    codeN (model prog w) A (.builtin id args) R s := by
  refine codeN_of_tree ?_
  show wpN _ _ (match entryFor table id with | some b => b args | none => unsupported ((withoutEnding? id "#data").getD id)) _ _ s
  rw [hb]; exact h
theorem codeN_call_builtin {id : String} {args : Args} {b : Builtin} (hq : (Code.builtin id args).quiet = true) (hg : badIds.contains id = false) (hb : entryFor table id = some b)
    (h : wpAny (model prog w) A.in1 (checkBuiltinCall id args) (fun _ s₁ => wpN (model prog w) (A.under (.builtin id args)) (b args) (FinN (model prog w) A R) (fun e s' => R (.error e) s') s₁)
      (fun e s' => R (.error e) s') s) : codeN (model prog w) A (.call (.builtin id) args) R s := by
  refine codeN_of_tree (wpN_any ?_)
  show wpAny _ A.in1 (do checkBuiltinCall id args; again (.builtin id args)) _ _ s
  exact wpAny_bind (wpAny_mono h (fun _ s₁ h₁ => wpAny_pure (And.intro hq (And.intro hg (codeN_builtin hb h₁)))) fun _ _ h' => h')
end

section
variable {M : Model} {A : Around} {E : Value → Shared → Prop} {s : Shared} {env : Env} {K : Frag} {pos : Pos} {f : Value} {first : List Value} {Q : Value → Shared → Prop}
theorem callWithN {P : Heap → Prop} {args : List (Bool × Sem Value)} {keywords : List (Option Str × Sem Value)} (hplain : (args.any (·.1) || keywords.any (·.1.isNone)) = false)
    (hk : ∀ h, P h → ∃ k, (k = Keeper.frame ∨ k = Keeper.machine ∨ k = Keeper.boundFrame) ∧ Looks M h (keeperOf f) k)
    (h : wpAny M A (evalArgs f true args keywords) (fun a s₁ => P s₁.heap ∧ wpN M A (call f (first ++ a.pos) a.kw) Q E s₁) E s) : wpN M A (callWith pos f first args keywords) Q E s := by
  unfold callWith
  refine wpN_first (wpAny_holding (wpAny_mono h (fun a s₁ h₁ => wpN_first (wpAny_standAt ?_)) fun _ _ x => x))
  obtain ⟨k, hk', L⟩ := hk _ h₁.1
  simp only [hplain]
  refine wpN_first (L.here ?_)
  have tail : ∀ {t : Sem Value}, wpN M A t Q E s₁ → wpN M A (t >>= fun r => holding [r] point >>= fun _ => pure r) Q E s₁ :=
    fun ht => wpN_bind (wpN_mono ht (fun r s₂ hr => wpN_any (wpAny_bind (wpAny_holding (wpAny_point (wpAny_pure hr))))) fun _ _ x => x)
  have marked (mk : Value) : wpN M A (callMarked mk f (first ++ a.pos) a.kw) Q E s₁ := by unfold callMarked; exact wpN_keep h₁.2
  rcases hk' with rfl | rfl | rfl <;> dsimp only <;> first | exact tail h₁.2 | (split <;> first | exact tail h₁.2 | exact tail (marked _))
theorem callWith_KN {h₀ : Heap} {e : Expr} {rest : List Expr} (_X : K.In h₀) (hk : keepIn K f = true) (h : wpAny M A (spliced (backTo pos (starEach (e :: rest) env))) (fun vs s₁ => K.In s₁.heap ∧ wpN M A (call f (first ++ vs)) Q E s₁) E s)
    (he : starEach (e :: rest) env = (false, eval e env) :: starEach rest env := by rfl) (hplain : (backTo pos (starEach rest env)).any (·.1) = false := by rfl) :
    wpN M A (callWith pos f first (backTo pos (starEach (e :: rest) env)) []) Q E s := by
  rw [he] at h ⊢
  exact callWithN (by show ((false || (backTo pos (starEach rest env)).any (·.1)) || false) = false; rw [hplain]; rfl) (keeps_K hk) (evalArgs_plain h)
theorem callWith_KN0 (X : K.In s.heap) (hk : keepIn K f = true) (h : wpN M A (call f (first ++ [])) Q E s) : wpN M A (callWith pos f first (backTo pos (starEach [] env)) []) Q E s :=
  callWithN rfl (keeps_K hk) (evalArgs_nil3 ⟨X, h⟩)
theorem callWith_typeN0 {T : String} (h : wpN M A (call (.type T) (first ++ [])) Q E s) : wpN M A (callWith pos (.type T) first (backTo pos (starEach [] env)) []) Q E s :=
  callWithN (P := fun _ => True) rfl (fun _ _ => ⟨.machine, .inr (.inl rfl), Looks.of_pure rfl⟩) (evalArgs_nil3 ⟨trivial, h⟩)
theorem wpN_Call_Name {id : Str} {p : Pos} {args : List Expr} {keywords : List Keyword}
    (h : wpAny M A (eval (.Name id p) env) (fun f s₁ => wpN M A (callWith pos f [] (backTo pos (starEach args env)) (backToKw pos (keywordEach keywords env))) Q E s₁) E s) :
    wpN M A (eval (.Call (.Name id p) args keywords pos) env) Q E s := by
  rw [arm_eval_Call_Name']
  exact wpN_first h
theorem wpN_Call_Method {o : Expr} {name : Str} {apos : Pos} {args : List Expr} {kws : List Keyword} {pl : Sem Bool}
    (h : wpAny M A (eval o env) (fun ov s₁ => wpAny M A (getMethod ov name pl) (fun fx s₂ => wpN M A (callWith pos fx.1 fx.2 (backTo pos (starEach args env)) (backToKw pos (keywordEach kws env))) Q E s₂) E s₁) E s)
    (he : eval (.Call (.Attribute o name apos) args kws pos) env = (do
      let ov ← eval o env
      standAt apos.atName
      let (f, first) ← holding [ov] (getMethod ov name pl)
      callWith pos f first (backTo pos (starEach args env)) (backToKw pos (keywordEach kws env))) := by rfl) :
    wpN M A (eval (.Call (.Attribute o name apos) args kws pos) env) Q E s := by
  rw [he]
  refine wpN_first (wpAny_mono h (fun ov s₁ h₁ => wpN_first (wpAny_standAt (wpN_first (wpAny_holding (wpAny_mono h₁ (fun fx s₂ h₂ => ?_) fun _ _ x => x))))) fun _ _ x => x)
  exact h₂
end

section
variable {prog : Program} {w : World} {A : Around} {K : Frag} {C : Addr} {R : Result → Shared → Prop} {h : Heap} {g : Array GenState} {d : Drawn} {t : Nat} {os : OsState}
theorem make_coreN {rest : List Value} {kw : List (Str × Value)} {init : Value} (Y : Makes (model prog w) h C) (hi : Looks (model prog w) h (typeLookup (.ref C) "__init__") (some init))
    (hb : ∀ self, Looks (model prog w) h (bindSpecial init self) (init, [self])) (hne : (some init != some (Value.builtin "object.__init__")) = true ∨ (rest = [] ∧ kw = []))
    (hq : codeN (model prog w) (A.under (.builtin "type.__call__" ⟨.ref C :: rest, kw⟩)) (.call init ⟨.ref (h.objs.size + 1) :: rest, kw⟩) (InitBack (h.objs.size + 1) R) ⟨(h.push emptyDict).push (instObj C h.objs.size), g, d, t, os⟩) :
    codeN (model prog w) A (.call (.ref C) ⟨rest, kw⟩) R ⟨h, g, d, t, os⟩ := by
  have Y' := Y
  obtain ⟨⟨oc, od, cd, sl, hC, e1, e2, e4⟩, made, base, self, top, call, typ⟩ := Y
  refine codeN_of_tree (wpN_any ?_)
  show wpAny _ _ (callAny (.ref C) _) _ _ _
  refine nd_load hC ?_
  show wpAny _ _ (callAny.viaDunder (.ref C) _) _ _ _
  unfold callAny.viaDunder
  refine wpAny_bind (call.at ?_)
  dsimp only
  rw [tc_bind]
  refine wpAny_bind (wpAny_pure (wpAny_bind (wpAny_pure ?_)))
  refine wpAny_pure (a := Fin.again (.call (.builtin "type.__call__") ⟨.ref C :: rest, kw⟩)) (And.intro rfl (And.intro rfl ?_))
  refine codeN_call_builtin (Code.quiet_builtin _ (by decide +kernel)) (by decide +kernel) entry_typeCall (check_slot tc_kind tc_split typ (tc_args _ _ _) ?_)
  unfold Builtin.«type.__call__»
  have hm : Looks (model prog w) h (mroOf (.ref C)) cd.mro := ((Looks.ld (part := none) hC).andThen .now).andThen .now
  show wpN _ _ (mroOf (.ref C) >>= _) _ _ _
  refine wpN_first (hm.at ?_)
  simp only [e4, Bool.false_eq_true, if_false]
  show wpN _ _ (Bind.madeBy (.ref C) >>= _) _ _ _
  refine wpN_first (made.at ?_)
  show wpN _ _ (holding [.builtin "object.__new__"] (PySem.call (.builtin "object.__new__") (.ref C :: rest) kw) >>= _) _ _ _
  refine wpN_first (wpAny_holding (wpAny_call (new_K Y' hi hne ?_)))
  have k : ∀ b o, h.get? b = some o → ((h.push emptyDict).push (instObj C h.objs.size)).get? b = some o := fun b o e => Heap.get?_push_of_some _ (Heap.get?_push_of_some _ e)
  have hx : ((h.push emptyDict).push (instObj C h.objs.size)).get? (h.objs.size + 1) = some (instObj C h.objs.size) := by heap_get
  have t1 : Looks (model prog w) ((h.push emptyDict).push (instObj C h.objs.size)) (typeOf (.ref (h.objs.size + 1))) (.ref C) := (Looks.ld hx).andThen .now
  have s1 := self.keeps k
  have i1 := hi.keeps k
  have b1 := (hb (.ref (h.objs.size + 1))).keeps k
  have ins : Looks (model prog w) ((h.push emptyDict).push (instObj C h.objs.size)) (isInstance (.ref (h.objs.size + 1)) (.ref C)) true := t1.andThen s1
  show wpN _ _ (isInstance (.ref (h.objs.size + 1)) (.ref C) >>= _) _ _ _
  refine wpN_first (ins.at ?_)
  show wpN _ _ (holding [.ref (h.objs.size + 1)] (callSpecial? (.ref (h.objs.size + 1)) "__init__" rest kw) >>= _) _ _ _
  refine wpN_bind (wpN_holding ?_)
  unfold callSpecial? specialOf
  refine wpN_bind (wpN_first (t1.at (wpN_any (i1.at ?_))))
  refine wpN_holding (wpN_first (b1.at ?_))
  refine wpN_bind (wpN_call (codeN_mono hq fun r s' z => ?_))
  rcases r with e | (v | _ | _ | _) <;> first | exact z | exact z.elim | skip
  obtain ⟨rfl, z⟩ := z
  exact wpN_pure (wpN_pure z)
end

section
variable {prog : Program} {w : World} {A : Around} {K : Frag} {C : Addr} {s : Shared} {h₀ : Heap} {L : Addr} {m : Str → Option Value} {news : List (Addr × Obj)} {E : Value → Shared → Prop} {Q : Value → Shared → Prop}
theorem call_clsN {pos : List Value} {kw : List (Str × Value)} {fI : Addr} (F : Fr h₀ L s.heap m) (X₀ : K.In h₀) (N : News h₀ L s.heap news) (hm : makesIn K C = true) (hi : findIn K (.ref C) "__init__" = some (some (.ref fI))) (hf : isFn K (.ref fI) = true)
    (h : ∀ x dx h', Fr h₀ L h' m → News h₀ L h' ((x, instObj C dx) :: (dx, dictOf [] 0) :: news) → (∀ p ∈ news, p.1 < dx) → dx < x →
      codeN (model prog w) (A.under (.builtin "type.__call__" ⟨.ref C :: pos, kw⟩)) (.call (.ref fI) ⟨.ref x :: pos, kw⟩) (InitBack x fun r s' => match r with | .ok (.ret v) => Q v s' | .ok _ => False | .error e => E e s') { s with heap := h' }) :
    wpN (model prog w) A (call (.ref C) pos kw) Q E s := by
  have X := X₀.keeps F.keep
  obtain ⟨hh, g, d, t, os⟩ := s
  refine wpN_call (make_coreN (makes_of X hm) (looks_findIn X hi) (fun self => bind_fn X self (beq_iff_eq.mp hf)) (.inl rfl) (h _ hh.objs.size _ ((F.push _).push _) ?_ (fun p hp => Heap.lt_size (N p hp).1) (Nat.lt_succ_self _)))
  have := (N.push F emptyDict).push (F.push _) (instObj C hh.objs.size)
  rwa [Heap.size_push] at this
end
end Mine
end

section
open PySem PySem.W PyProof.Rows PySem.Spec PySem.Calls
namespace Mine
namespace FA
theorem plainAttrs_bytearray : PlainAttrs "bytearray" :=
  ⟨⟨"bytearray.__getattribute__", by rw [typeLookup_type, builtinLookup_eq_fast]; kernel_rfl, by decide +kernel⟩, by rw [typeLookup_type, builtinLookup_eq_fast]; kernel_rfl⟩
theorem owner_bytearray : Manifest.owners.lookup (String.ofList ['y', 'a', 'r', 'r', 'a', 'e', 't', 'y', 'b'].reverse) = some Manifest.sig_bytearray := by kernel_rfl
theorem slot_bytearray_len : Slot "bytearray" "__len__" "bytearray.__len__" :=
  .of (owner := "bytearray") (n := "__len__") (by rw [typeLookup_type, builtinLookup_eq_fast]; kernel_rfl) (by decide +kernel) (by decide +kernel) (by decide +kernel)
    (by first | exact .inl (by decide +kernel) | exact .inr (by decide +kernel)) (by rw [isSubtype_type]; kernel_rfl)
theorem entry_bytearray_len : entryFor table "bytearray.__len__" = some Builtin.«bytearray.__len__» := entryFor_of_tree (by kernel_rfl)
theorem args_bytearray_len_1 (a : Value) : argsOk "bytearray.__len__" ⟨[a], []⟩ := by
  unfold argsOk; rw [signature?_of (id := "bytearray.__len__") (n := ['_', '_', 'n', 'e', 'l', '_', '_']) (o := ['y', 'a', 'r', 'r', 'a', 'e', 't', 'y', 'b']) (by kernel_rfl) owner_bytearray]; kernel_rfl
theorem slot_bytearray_getitem : Slot "bytearray" "__getitem__" "bytearray.__getitem__" :=
  .of (owner := "bytearray") (n := "__getitem__") (by rw [typeLookup_type, builtinLookup_eq_fast]; kernel_rfl) (by decide +kernel) (by decide +kernel) (by decide +kernel)
    (by first | exact .inl (by decide +kernel) | exact .inr (by decide +kernel)) (by rw [isSubtype_type]; kernel_rfl)
theorem entry_bytearray_getitem : entryFor table "bytearray.__getitem__" = some Builtin.«bytearray.__getitem__» := entryFor_of_tree (by kernel_rfl)
theorem args_bytearray_getitem_2 (a b : Value) : argsOk "bytearray.__getitem__" ⟨[a, b], []⟩ := by
  unfold argsOk; rw [signature?_of (id := "bytearray.__getitem__") (n := ['_', '_', 'm', 'e', 't', 'i', 't', 'e', 'g', '_', '_']) (o := ['y', 'a', 'r', 'r', 'a', 'e', 't', 'y', 'b']) (by kernel_rfl) owner_bytearray]; kernel_rfl
theorem slot_bytearray_eq : Slot "bytearray" (cmpInfo .Eq).2.1 "bytearray.__eq__" :=
  .of (owner := "bytearray") (n := "__eq__") (by rw [typeLookup_type, builtinLookup_eq_fast]; kernel_rfl) (by decide +kernel) (by decide +kernel) (by decide +kernel)
    (by first | exact .inl (by decide +kernel) | exact .inr (by decide +kernel)) (by rw [isSubtype_type]; kernel_rfl)
theorem entry_bytearray_eq : entryFor table "bytearray.__eq__" = some Builtin.«bytearray.__eq__» := entryFor_of_tree (by kernel_rfl)
theorem args_bytearray_eq_2 (a b : Value) : argsOk "bytearray.__eq__" ⟨[a, b], []⟩ := by
  unfold argsOk; rw [signature?_of (id := "bytearray.__eq__") (n := ['_', '_', 'q', 'e', '_', '_']) (o := ['y', 'a', 'r', 'r', 'a', 'e', 't', 'y', 'b']) (by kernel_rfl) owner_bytearray]; kernel_rfl
theorem slot_bytearray_ne : Slot "bytearray" (cmpInfo .NotEq).2.1 "bytearray.__ne__" :=
  .of (owner := "bytearray") (n := "__ne__") (by rw [typeLookup_type, builtinLookup_eq_fast]; kernel_rfl) (by decide +kernel) (by decide +kernel) (by decide +kernel)
    (by first | exact .inl (by decide +kernel) | exact .inr (by decide +kernel)) (by rw [isSubtype_type]; kernel_rfl)
theorem entry_bytearray_ne : entryFor table "bytearray.__ne__" = some Builtin.«bytearray.__ne__» := entryFor_of_tree (by kernel_rfl)
theorem args_bytearray_ne_2 (a b : Value) : argsOk "bytearray.__ne__" ⟨[a, b], []⟩ := by
  unfold argsOk; rw [signature?_of (id := "bytearray.__ne__") (n := ['_', '_', 'e', 'n', '_', '_']) (o := ['y', 'a', 'r', 'r', 'a', 'e', 't', 'y', 'b']) (by kernel_rfl) owner_bytearray]; kernel_rfl
theorem slot_bytearray_iadd : Slot "bytearray" "__iadd__" "bytearray.__iadd__" :=
  .of (owner := "bytearray") (n := "__iadd__") (by rw [typeLookup_type, builtinLookup_eq_fast]; kernel_rfl) (by decide +kernel) (by decide +kernel) (by decide +kernel)
    (by first | exact .inl (by decide +kernel) | exact .inr (by decide +kernel)) (by rw [isSubtype_type]; kernel_rfl)
theorem entry_bytearray_iadd : entryFor table "bytearray.__iadd__" = some Builtin.«bytearray.__iadd__» := entryFor_of_tree (by kernel_rfl)
theorem args_bytearray_iadd_2 (a b : Value) : argsOk "bytearray.__iadd__" ⟨[a, b], []⟩ := by
  unfold argsOk; rw [signature?_of (id := "bytearray.__iadd__") (n := ['_', '_', 'd', 'd', 'a', 'i', '_', '_']) (o := ['y', 'a', 'r', 'r', 'a', 'e', 't', 'y', 'b']) (by kernel_rfl) owner_bytearray]; kernel_rfl
theorem slot_bytearray_init : Slot "bytearray" "__init__" "bytearray.__init__" :=
  .of (owner := "bytearray") (n := "__init__") (by rw [typeLookup_type, builtinLookup_eq_fast]; kernel_rfl) (by decide +kernel) (by decide +kernel) (by decide +kernel)
    (by first | exact .inl (by decide +kernel) | exact .inr (by decide +kernel)) (by rw [isSubtype_type]; kernel_rfl)
theorem entry_bytearray_init : entryFor table "bytearray.__init__" = some Builtin.«bytearray.__init__» := entryFor_of_tree (by kernel_rfl)
theorem args_bytearray_init_1 (a : Value) : argsOk "bytearray.__init__" ⟨[a], []⟩ := by
  unfold argsOk; rw [signature?_of (id := "bytearray.__init__") (n := ['_', '_', 't', 'i', 'n', 'i', '_', '_']) (o := ['y', 'a', 'r', 'r', 'a', 'e', 't', 'y', 'b']) (by kernel_rfl) owner_bytearray]; kernel_rfl
theorem slot_bytearray_find : Slot "bytearray" "find" "bytearray.find" :=
  .of (owner := "bytearray") (n := "find") (by rw [typeLookup_type, builtinLookup_eq_fast]; kernel_rfl) (by decide +kernel) (by decide +kernel) (by decide +kernel)
    (by first | exact .inl (by decide +kernel) | exact .inr (by decide +kernel)) (by rw [isSubtype_type]; kernel_rfl)
theorem entry_bytearray_find : entryFor table "bytearray.find" = some Builtin.«bytearray.find» := entryFor_of_tree (by kernel_rfl)
theorem type_bytearray_find : typeOf (.builtin "bytearray.find") = pure (.type "method_descriptor") := by show builtinType _ = _; rw [builtinType_eq_fast]; kernel_rfl
theorem args_bytearray_find_2 (a b : Value) : argsOk "bytearray.find" ⟨[a, b], []⟩ := by
  unfold argsOk; rw [signature?_of (id := "bytearray.find") (n := ['d', 'n', 'i', 'f']) (o := ['y', 'a', 'r', 'r', 'a', 'e', 't', 'y', 'b']) (by kernel_rfl) owner_bytearray]; kernel_rfl
theorem args_bytearray_find_3 (a b c : Value) : argsOk "bytearray.find" ⟨[a, b, c], []⟩ := by
  unfold argsOk; rw [signature?_of (id := "bytearray.find") (n := ['d', 'n', 'i', 'f']) (o := ['y', 'a', 'r', 'r', 'a', 'e', 't', 'y', 'b']) (by kernel_rfl) owner_bytearray]; kernel_rfl
theorem slot_bytearray_split : Slot "bytearray" "split" "bytearray.split" :=
  .of (owner := "bytearray") (n := "split") (by rw [typeLookup_type, builtinLookup_eq_fast]; kernel_rfl) (by decide +kernel) (by decide +kernel) (by decide +kernel)
    (by first | exact .inl (by decide +kernel) | exact .inr (by decide +kernel)) (by rw [isSubtype_type]; kernel_rfl)
theorem entry_bytearray_split : entryFor table "bytearray.split" = some Builtin.«bytearray.split» := entryFor_of_tree (by kernel_rfl)
theorem type_bytearray_split : typeOf (.builtin "bytearray.split") = pure (.type "method_descriptor") := by show builtinType _ = _; rw [builtinType_eq_fast]; kernel_rfl
theorem args_bytearray_split_2 (a b : Value) : argsOk "bytearray.split" ⟨[a, b], []⟩ := by
  unfold argsOk; rw [signature?_of (id := "bytearray.split") (n := ['t', 'i', 'l', 'p', 's']) (o := ['y', 'a', 'r', 'r', 'a', 'e', 't', 'y', 'b']) (by kernel_rfl) owner_bytearray]; kernel_rfl
theorem slot_bytearray_endswith : Slot "bytearray" "endswith" "bytearray.endswith" :=
  .of (owner := "bytearray") (n := "endswith") (by rw [typeLookup_type, builtinLookup_eq_fast]; kernel_rfl) (by decide +kernel) (by decide +kernel) (by decide +kernel)
    (by first | exact .inl (by decide +kernel) | exact .inr (by decide +kernel)) (by rw [isSubtype_type]; kernel_rfl)
theorem entry_bytearray_endswith : entryFor table "bytearray.endswith" = some Builtin.«bytearray.endswith» := entryFor_of_tree (by kernel_rfl)
theorem type_bytearray_endswith : typeOf (.builtin "bytearray.endswith") = pure (.type "method_descriptor") := by show builtinType _ = _; rw [builtinType_eq_fast]; kernel_rfl
theorem args_bytearray_endswith_2 (a b : Value) : argsOk "bytearray.endswith" ⟨[a, b], []⟩ := by
  unfold argsOk; rw [signature?_of (id := "bytearray.endswith") (n := ['h', 't', 'i', 'w', 's', 'd', 'n', 'e']) (o := ['y', 'a', 'r', 'r', 'a', 'e', 't', 'y', 'b']) (by kernel_rfl) owner_bytearray]; kernel_rfl
theorem owner_bytes : Manifest.owners.lookup (String.ofList ['s', 'e', 't', 'y', 'b'].reverse) = some Manifest.sig_bytes := by kernel_rfl
theorem slot_bytes_find : Slot "bytes" "find" "bytes.find" :=
  .of (owner := "bytes") (n := "find") (by rw [typeLookup_type, builtinLookup_eq_fast]; kernel_rfl) (by decide +kernel) (by decide +kernel) (by decide +kernel)
    (by first | exact .inl (by decide +kernel) | exact .inr (by decide +kernel)) (by rw [isSubtype_type]; kernel_rfl)
theorem entry_bytes_find : entryFor table "bytes.find" = some Builtin.«bytes.find» := entryFor_of_tree (by kernel_rfl)
theorem type_bytes_find : typeOf (.builtin "bytes.find") = pure (.type "method_descriptor") := by show builtinType _ = _; rw [builtinType_eq_fast]; kernel_rfl
theorem args_bytes_find_2 (a b : Value) : argsOk "bytes.find" ⟨[a, b], []⟩ := by
  unfold argsOk; rw [signature?_of (id := "bytes.find") (n := ['d', 'n', 'i', 'f']) (o := ['s', 'e', 't', 'y', 'b']) (by kernel_rfl) owner_bytes]; kernel_rfl
theorem args_bytes_find_3 (a b c : Value) : argsOk "bytes.find" ⟨[a, b, c], []⟩ := by
  unfold argsOk; rw [signature?_of (id := "bytes.find") (n := ['d', 'n', 'i', 'f']) (o := ['s', 'e', 't', 'y', 'b']) (by kernel_rfl) owner_bytes]; kernel_rfl
theorem look_buffer : typeLookup (.type "bytearray") "__buffer__" = pure (some (.builtin "bytearray.__buffer__")) := by rw [typeLookup_type, builtinLookup_eq_fast]; kernel_rfl
theorem look_release : typeLookup (.type "bytearray") "__release_buffer__" = pure (some (.builtin "bytearray.__release_buffer__")) := by rw [typeLookup_type, builtinLookup_eq_fast]; kernel_rfl
theorem look_index : typeLookup (.type "bytearray") "__index__" = pure none := by rw [typeLookup_type, builtinLookup_eq_fast]; kernel_rfl
theorem look_bool : typeLookup (.type "bytearray") "__bool__" = pure none := by rw [typeLookup_type, builtinLookup_eq_fast]; kernel_rfl
theorem sub_ba_ba : isSubtype (.type "bytearray") (.type "bytearray") = pure true := by rw [isSubtype_type]; kernel_rfl
theorem mro_ba : mroOf (.type "bytearray") = pure [.type "bytearray", .type "object"] := by rw [mroOf_type]; kernel_rfl
theorem lookup_ba_new : typeLookup (.type "bytearray") "__new__" = pure (some (.builtin "bytearray.__new__")) := by rw [typeLookup_type, builtinLookup_eq_fast]; kernel_rfl
theorem called_ba : TypeCalled "bytearray" "bytearray.__new__" "bytearray.__init__" :=
  ⟨by decide +kernel, by decide +kernel, ⟨_, _, mro_ba⟩, madeBy_type mro_ba lookup_ba_new (by decide +kernel), by decide +kernel, sub_ba_ba, slot_bytearray_init⟩
theorem typeCall_ba_0 : checkTypeCall "bytearray" ⟨[], []⟩ = pure () := by kernel_rfl
theorem newCall_ba_0 : checkBuiltinCall "bytearray.__new__" ⟨[.type "bytearray"], []⟩ = pure () := by kernel_rfl
theorem entry_ba_new : entryFor table "bytearray.__new__" = some Builtin.«list.__new__» :=
  entryFor_alias (id' := "list.__new__") (by rw [fastTable_eq_tree]; kernel_rfl) (by decide +kernel) (by decide +kernel) (by rw [fastTable_eq_tree]; kernel_rfl)
theorem plain_ba_new : plainId "bytearray.__new__" = true := by decide +kernel
end FA
end Mine
end

section
open PySem PySem.W PyProof.Rows PySem.Spec PySem.Calls
namespace Mine
open Sem (wp)

abbrev baObj (b : Array UInt8) : Obj := { cls := .type "bytearray", data := .bytearray b }

section
variable {prog : Program} {w : World} {A : Around} {E : Value → Shared → Prop} {s : Shared}
set_option maxHeartbeats 4000000 in
theorem owner_ba_new : ("bytearray.__new__".splitOn ".__new__").headD "" = "bytearray" := by simp +decide [String.splitOn, String.splitOnAux]

theorem code_ba_new {Q₁ : Value → Shared → Prop} (h : Q₁ (.ref s.heap.objs.size) { s with heap := s.heap.push (baObj #[]) }) :
    codeAny (model prog w) A (.call (.builtin "bytearray.__new__") ⟨[.type "bytearray"], []⟩) (wants Q₁ E) s := by
  refine codeAny_of_tree ?_
  show wpAny _ A.in1 (do checkBuiltinCall "bytearray.__new__" ⟨[.type "bytearray"], []⟩; again (.builtin "bytearray.__new__" ⟨[.type "bytearray"], []⟩)) _ _ s
  refine wpAny_bind (wpAny_of_eq FA.newCall_ba_0 (wpAny_pure ⟨plainId_quiet FA.plain_ba_new _, codeAny_builtin_stack FA.entry_ba_new rfl fun p st => ?_⟩))
  rw [Around.under_plainId FA.plain_ba_new _]
  have hsub := FA.sub_ba_ba
  have hown := owner_ba_new
  obtain ⟨hp, g, d, tk, os⟩ := s
  simp only [hown]
  wp_walk
  exact h
end

section
variable {prog : Program} {w : World} {A : Around} {h₀ : Heap} {L : Addr} {m : Str → Option Value} {news : List (Addr × Obj)} {E : Value → Shared → Prop} {s : Shared}

theorem typeBa {h : Heap} {a : Addr} {b : Array UInt8} {M : Model} (e : h.get? a = some (baObj b)) : Looks M h (typeOf (.ref a)) (.type "bytearray") := (Looks.ld e).andThen .now
theorem specialBa {h : Heap} {a : Addr} {b : Array UInt8} {M : Model} (e : h.get? a = some (baObj b)) {name : Str} {r : Option Value} (l : typeLookup (.type "bytearray") name = pure r) : Looks M h (specialOf (.ref a) name) r :=
  (typeBa e).andThen (Looks.of_pure l)
theorem instBa {h : Heap} {a : Addr} {b : Array UInt8} {M : Model} (e : h.get? a = some (baObj b)) : Looks M h (isInstance (.ref a) (.type "bytearray")) true := (typeBa e).andThen (Looks.of_pure FA.sub_ba_ba)

theorem slotOwn_of {h : Heap} {a : Addr} {b : Array UInt8} {M : Model} (e : h.get? a = some (baObj b)) {name id : String} (l : typeLookup (.type "bytearray") (name : Str) = pure (some (.builtin id)))
    (h1 : (!id.endsWith ("." ++ name)) = false) (h2 : (id.dropRight (name.length + 1)) = "bytearray") : Looks M h (Builtin.Bytes.slotIsOwn (.ref a) name) true := by
  unfold Builtin.Bytes.slotIsOwn
  refine (specialBa e l).andThen ?_
  show Looks M h (if (!id.endsWith ("." ++ name)) = true then _ else _) true
  rw [h1, if_neg Bool.false_ne_true]
  show Looks M h (isInstance (.ref a) (.type (id.dropRight (name.length + 1)))) true
  rw [h2]; exact instBa e
theorem ownBuffer {h : Heap} {a : Addr} {b : Array UInt8} {M : Model} (e : h.get? a = some (baObj b)) : Looks M h (Builtin.Bytes.slotIsOwn (.ref a) "__buffer__") true :=
  slotOwn_of e FA.look_buffer (by decide +kernel) (by decide +kernel)
theorem ownRel {h : Heap} {a : Addr} {b : Array UInt8} {M : Model} (e : h.get? a = some (baObj b)) : Looks M h (Builtin.Bytes.ownRelease (.ref a)) false :=
  (slotOwn_of e FA.look_release (by decide +kernel) (by decide +kernel)).andThen .now
theorem payloadBa {h : Heap} {a : Addr} {b : Array UInt8} {M : Model} (e : h.get? a = some (baObj b)) : Looks M h (Builtin.Bytes.payload (.ref a)) b :=
  ((Looks.ld e).andThen .now).andThen .now
theorem exportsBa {h : Heap} {a : Addr} {b : Array UInt8} {M : Model} (e : h.get? a = some (baObj b)) : Looks M h (Builtin.Bytes.exportsOf (.ref a)) 0 :=
  (Looks.ld e).andThen .now
theorem bufferBa {h : Heap} {a : Addr} {b : Array UInt8} {M : Model} {id : String} (e : h.get? a = some (baObj b)) : Looks M h (Builtin.Bytes.buffer? id (.ref a)) (some b) := by
  unfold Builtin.Bytes.buffer?
  refine (specialBa e FA.look_buffer).andThen ?_
  refine (ownBuffer e).andThen ?_
  refine (specialBa e FA.look_buffer).andThen ?_
  refine (ownRel e).andThen ?_
  exact (payloadBa e).andThen .now

theorem write_ba {M : Model} {a : Addr} {b : Array UInt8} {f : Array UInt8 → Array UInt8} {Q : Unit → Shared → Prop} (e : s.heap.get? a = some (baObj b)) (hz : (f b).size ≤ sizeLine)
    (h : ∀ h', Heap.SameBut a s.heap h' → h'.get? a = some (baObj (f b)) → Q () { s with heap := h' }) : wpAny M A (Builtin.Bytes.write (.ref a) f) Q E s := by
  show wpAny _ _ (updateBytearray a f) _ _ _
  unfold updateBytearray
  refine wpAny_bind (wpAny_load e ?_)
  show wpAny _ _ (update a (Obj.mapBytearray f) >>= fun _ => lookBehind a) _ _ _
  have e₂ : (s.heap.update a (Obj.mapBytearray f)).get? a = some (baObj (f b)) := Heap.get?_update_self (Obj.mapBytearray f) e rfl
  refine wpAny_bind (wpAny_update e (wpAny_lookBehind e₂ ?_ (h _ (Heap.SameBut.update ..) e₂)))
  show (if (f b).size > sizeLine then some "bytearray:memory" else none) = none
  rw [if_neg (Nat.not_lt.mpr hz)]

theorem init_ba {q : Addr} {R : Fin → Shared → Prop} (e : s.heap.get? q = some (baObj #[]))
    (h : ∀ h', Heap.SameBut q s.heap h' → h'.get? q = some (baObj #[]) → R (.done (.ret .none)) { s with heap := h' }) :
    wpN (model prog w) A (Builtin.«bytearray.__init__» ⟨[.ref q], []⟩) R E s := by
  unfold Builtin.«bytearray.__init__»
  show wpN _ _ (Builtin.Bytes.ownRelease (.ref q) >>= _) _ _ _
  refine wpN_first ((ownRel e).here ?_)
  show wpN _ _ (Builtin.Bytes.bindOptional "bytearray.__init__" "bytearray" ["source", "encoding", "errors"] [] [] >>= _) _ _ _
  refine wpN_first (wpAny_of_eq (a := [none, none, none]) (by kernel_rfl) ?_)
  refine wpN_first (wpAny_of_eq (a := ()) rfl ?_)
  refine wpN_first (wpAny_of_eq (a := ()) rfl ?_)
  refine wpN_bind ?_
  show wpN _ _ (Builtin.Bytes.exported (.ref q) >>= _) _ _ _
  refine wpN_bind (exported_none ?_)
  show wpN _ _ (Builtin.Bytes.exportsOf (.ref q) >>= _) _ _ _
  refine wpN_first ((exportsBa e).here (wpN_pure ?_))
  show wpN _ _ (Builtin.Bytes.write (.ref q) (fun _ => #[]) >>= _) _ _ _
  refine wpN_any (wpAny_bind (write_ba (f := fun _ => #[]) e (Nat.zero_le _) fun h' hs e' => ?_))
  exact wpAny_bind (wpAny_pure (wpAny_pure (h h' hs e')))

theorem call_baN {Q : Value → Shared → Prop} (F : Fr h₀ L s.heap m) (N : News h₀ L s.heap news)
    (h : ∀ q h', Fr h₀ L h' m → News h₀ L h' ((q, baObj #[]) :: news) → (∀ p ∈ news, p.1 < q) → Q (.ref q) { s with heap := h' }) :
    wpN (model prog w) A (call (.type "bytearray") []) Q E s := by
  refine wpN_call (codeN_of_tree (wpN_any ?_))
  show wpAny _ _ (callAny (.type "bytearray") _) _ _ _
  refine wpAny_pure (a := Fin.again (.builtin "type.__call__" ⟨[.type "bytearray"], []⟩)) (And.intro (Code.quiet_builtin _ (by decide +kernel)) (And.intro (by decide +kernel) (codeN_builtin PySem.F.entry_type_call ?_)))
  obtain ⟨hp, g, d, tk, os⟩ := s
  have h1 := FA.called_ba.notType
  have h2 := FA.called_ba.canCreate
  have h3 := FA.typeCall_ba_0
  have h4 := FA.mro_ba
  have h5 := FA.called_ba.made
  unfold Builtin.«type.__call__»
  simp only [h1, h2, h3, h4, h5, Bool.false_eq_true, if_false, pure_bind, List.isEmpty_cons]
  refine wpN_first (wpAny_holding (wpAny_call ?_))
  refine codeAny_mono (code_ba_new (Q₁ := fun v s' => v = .ref hp.objs.size ∧ s' = ⟨hp.push (baObj #[]), g, d, tk, os⟩) (E := fun _ _ => False) ⟨rfl, rfl⟩) fun r s' hr => ?_
  rcases r with e | (v | _ | _ | _) <;> first | exact hr.elim | skip
  obtain ⟨rfl, rfl⟩ := hr
  have e0 : (hp.push (baObj #[])).get? hp.objs.size = some (baObj #[]) := Heap.get?_push_size _ rfl
  refine wpN_first ((instBa e0).at ?_)
  show wpN _ _ (holding [.ref hp.objs.size] (callSpecial? (.ref hp.objs.size) "__init__" [] []) >>= _) _ _ _
  refine wpN_bind (wpN_holding ?_)
  unfold callSpecial?
  refine wpN_first ((specialBa e0 FA.slot_bytearray_init.lookup).at ?_)
  refine wpN_holding (wpN_first (wpAny_of_eq (FA.slot_bytearray_init.bind _) ?_))
  refine wpN_bind (wpN_call (codeN_call_builtin (plainId_quiet FA.slot_bytearray_init.plain _) (by decide +kernel) FA.entry_bytearray_init (FA.slot_bytearray_init.check _ _ _ _ _ _ _ _ ⟨_, e0, rfl⟩ (FA.args_bytearray_init_1 _) ?_)))
  refine init_ba e0 fun h' hs e' => ?_
  refine wpN_pure (wpN_pure ?_)
  have F1 := F.push (baObj #[])
  have N1 := N.push F (baObj #[])
  have z := N1 (hp.objs.size, baObj #[]) (.head _)
  have N2 := news_set (pre := []) (post := news) N1 (fun _ hp => nomatch hp) (fun p hp' => Nat.ne_of_lt (Heap.lt_size (N p hp').1)) hs e'
  exact h hp.objs.size h' (F1.change hs z.2.1 z.2.2) N2 (fun p hp' => Heap.lt_size (N p hp').1)
end
end Mine
end

section
open PySem PySem.W PyProof.Rows PySem.Spec PySem.Calls
namespace Mine
open Sem (wp)
namespace FA
theorem look_add : typeLookup (.type "bytearray") (dunder "add") = pure (some (.builtin "bytearray.__add__")) := by rw [typeLookup_type, builtinLookup_eq_fast]; kernel_rfl
theorem look_radd : typeLookup (.type "bytearray") (dunderR "add") = pure none := by rw [typeLookup_type, builtinLookup_eq_fast]; kernel_rfl
theorem look_iadd : typeLookup (.type "bytearray") (dunderI "add") = pure (some (.builtin "bytearray.__iadd__")) := by rw [typeLookup_type, builtinLookup_eq_fast]; kernel_rfl
theorem noFill_ba_add : fillsNumberSlot (.type "bytearray") "add" = pure false := _root_.PySem.fillsNumberSlot_seq look_add (by decide +kernel) look_radd rfl
theorem seq_ba_iadd : seqSlot? (.type "bytearray") (dunderI "add") = pure (some (.builtin "bytearray.__iadd__")) := _root_.PySem.seqSlot_of look_iadd (by decide +kernel)
end FA

section
variable {M : Model} {A : Around} {E : Value → Shared → Prop} {s : Shared}
theorem binaryOp1_two {a b : Value} {T U nm : String} {Q : Option Value → Shared → Prop} (ha : s.TypeIs a T) (hb : s.TypeIs b U) (hTU : (Value.type T == Value.type U) = false)
    (h1 : fillsNumberSlot (.type T) nm = pure false) (h2 : fillsNumberSlot (.type U) nm = pure false) (h : Q none s) : wpAny M A (binaryOp1 nm a b) Q E s := by
  simp only [binaryOp1]
  refine wpAny_bind (wpAny_typeOf ha (wpAny_bind (wpAny_typeOf hb (wpAny_bind (wpAny_of_eq h1 ?_)))))
  simp only [hTU, Bool.false_eq_true, if_false]
  refine wpAny_bind (wpAny_of_eq h2 ?_)
  simp only [pure_bind, Bool.false_and, Bool.false_eq_true, if_false]
  exact wpAny_pure h
theorem takeQuiet_bytes {id : String} {c : Array UInt8} {t : Tok} : Builtin.Bytes.takeBufferQuiet? id (.bytes c t) 0 = pure (some (c, none)) := by
  unfold Builtin.Bytes.takeBufferQuiet? Builtin.Bytes.takeBuffer?
  rw [KBy.special_eq KBy.look_buffer, KBy.own_buffer]
  show Sem.attempt (do
    let r ← Builtin.Bytes.buffer? id (.bytes c t) (full := (0 : Int) == Builtin.Bytes.fullReadOnly)
    pure (r.map (·, none))) >>= _ = _
  have e : Builtin.Bytes.buffer? id (.bytes c t) (full := (0 : Int) == Builtin.Bytes.fullReadOnly) = pure (some c) := by
    rw [show ((0 : Int) == Builtin.Bytes.fullReadOnly) = false by decide]; exact KBy.buffer_eq
  rw [e]; rfl
theorem checkResize_ok {a : Addr} {b : Array UInt8} {Q : Unit → Shared → Prop} (e : s.heap.get? a = some (baObj b)) (h : Q () s) : wpN M A (Builtin.Bytes.checkResize (.ref a)) Q E s := by
  unfold Builtin.Bytes.checkResize
  refine wpN_bind ?_
  show wpN _ _ (Builtin.Bytes.exported (.ref a) >>= _) _ _ _
  refine wpN_bind (exported_none ?_)
  show wpN _ _ (Builtin.Bytes.exportsOf (.ref a) >>= _) _ _ _
  exact wpN_first ((exportsBa e).here (wpN_pure (wpN_pure h)))
end

section
variable {prog : Program} {w : World} {A : Around} {E : Value → Shared → Prop} {s : Shared}
theorem iadd_body {a : Addr} {b c : Array UInt8} {t : Tok} {R : Fin → Shared → Prop} (e : s.heap.get? a = some (baObj b)) (hz : b.size + c.size ≤ sizeLine)
    (h : ∀ h', Heap.SameBut a s.heap h' → h'.get? a = some (baObj (b ++ c)) → R (.done (.ret (.ref a))) { s with heap := h' }) :
    wpN (model prog w) A (Builtin.«bytearray.__iadd__» ⟨[.ref a, .bytes c t], []⟩) R E s := by
  unfold Builtin.«bytearray.__iadd__»
  refine wpN_first (wpAny_of_eq (a := (.ref a, [.bytes c t])) rfl ?_)
  show wpN _ _ (Builtin.Bytes.takeBufferQuiet? "bytearray.__iadd__" (.bytes c t) 0 >>= _) _ _ _
  refine wpN_first (wpAny_of_eq takeQuiet_bytes ?_)
  have rest : wpN (model prog w) A (do
      let n ← Builtin.Bytes.payload (.ref a)
      if Builtin.Bytes.tooLong (n.size + c.size) = true then unsupported "bytearray.__iadd__:memory"
      Builtin.Bytes.write (.ref a) (· ++ c)
      ret (.ref a)) R E s := by
    refine wpN_first ((payloadBa e).here ?_)
    have hl : Builtin.Bytes.tooLong (b.size + c.size) = false := decide_eq_false (Nat.not_lt.mpr hz)
    show wpN _ _ (if Builtin.Bytes.tooLong (b.size + c.size) = true then _ else _) _ _ _
    rw [hl, if_neg Bool.false_ne_true]
    refine wpN_any (wpAny_bind (write_ba (f := (· ++ c)) e (by rw [Array.size_append]; exact hz) fun h' hs e' => ?_))
    exact wpAny_pure (h h' hs e')
  show wpN _ _ (if (!c.isEmpty) = true then (if Builtin.Bytes.sameRef (.ref a) (.bytes c t) = true then _ else _) else _) _ _ _
  by_cases hc : (!c.isEmpty) = true
  · rw [if_pos hc]
    show wpN _ _ (Builtin.Bytes.checkResize (.ref a) >>= _) _ _ _
    exact wpN_bind (checkResize_ok e rest)
  · rw [if_neg hc]
    exact rest
theorem iadd_baN {a : Addr} {b c : Array UInt8} {t : Tok} {Q : Value → Shared → Prop} (e : s.heap.get? a = some (baObj b)) (hz : b.size + c.size ≤ sizeLine)
    (h : ∀ h', Heap.SameBut a s.heap h' → h'.get? a = some (baObj (b ++ c)) → Q (.ref a) { s with heap := h' }) :
    wpN (model prog w) A (inplaceOp .Add (.ref a) (.bytes c t)) Q E s := by
  unfold inplaceOp
  refine wpN_holding ?_
  have ha : s.TypeIs (.ref a) "bytearray" := ⟨_, e, rfl⟩
  have hfi : fillsInplaceSlot (.type "bytearray") "add" (Operator.Add == .Add) = pure false := by
    unfold fillsInplaceSlot
    show (typeLookup (.type "bytearray") (dunderI "add") >>= fun fi => pure (fi.isSome && !isSeqSlot fi)) = pure false
    rw [FA.look_iadd]
    show (pure (true && !isSeqSlot (some (.builtin "bytearray.__iadd__"))) : Sem Bool) = pure false
    rw [show isSeqSlot (some (.builtin "bytearray.__iadd__")) = true by decide +kernel]; rfl
  refine wpN_first (wpAny_typeOf ha (wpN_first (wpAny_of_eq hfi ?_)))
  show wpN _ A (if false = true then _ else _) Q E s
  rw [if_neg Bool.false_ne_true]
  refine wpN_first (binaryOp1_two (nm := "add") ha (typeIs_bytes s c t) (by decide) FA.noFill_ba_add KBy.noFill_bytes_add ?_)
  refine wpN_first (wpAny_of_eq FA.seq_ba_iadd ?_)
  refine wpN_first (wpAny_rule ?_)
  refine wpN_call (codeN_call_builtin (plainId_quiet FA.slot_bytearray_iadd.plain _) (by decide +kernel) FA.entry_bytearray_iadd (FA.slot_bytearray_iadd.check _ _ _ _ _ _ _ _ ha (FA.args_bytearray_iadd_2 _ _) ?_))
  exact iadd_body e hz h
end
end Mine
end

section
open PySem PySem.W PyProof.Rows PySem.Spec PySem.Calls
namespace Mine
open Sem (wp)
section
variable {prog : Program} {w : World} {A : Around} {s : Shared} {env : Env} {h₀ : Heap} {x : Str} {px : Pos} {body : List Stmt}

/-- what a turn hands back: the loop's own two objects untouched, the word at the next number -/
def TurnEnd (h₀ : Heap) (L : Addr) (J : (Str → Option Value) → List (Addr × Obj) → Prop) (own : List (Addr × Obj)) (s₁ : Shared) (f : Flow) (s₂ : Shared) : Prop :=
  f = .next ∧ ∃ h' tk m' news', s₂ = { s₁ with heap := h', toks := tk } ∧ Fr h₀ L h' m' ∧ News h₀ L h' (news' ++ own) ∧ (∀ p ∈ news', ∀ q ∈ own, p.1 ≠ q.1) ∧ J m' news'

theorem loop_code {R : Result → Shared → Prop} {I l : Addr} {ol : Obj} {vs : List Value} {ns : List Int} (hh : A.handled = none) (hx : env.kindOf x = some .local)
    (hp : (env.scope.kind == .class || (env.scope.kind == .module && env.locals != env.globals)) = false) (hIl : I ≠ l) (hi : IntsAre vs ns) (hol : ol.cls = .type "list") (hod : ∃ n, ol.data = .seq vs.toArray n)
    (J : Nat → (Str → Option Value) → List (Addr × Obj) → Prop)
    (turn : ∀ i n t m₁ news₁ oI s₁, (∃ h tk, s₁ = { s with heap := h, toks := tk }) → ns[i]? = some n → J i m₁ news₁ → (∀ p ∈ news₁, ∀ q ∈ [(I, oI), (l, ol)], p.1 ≠ q.1) →
      Fr h₀ env.locals s₁.heap (fun y => if y = x then some (.int n t) else m₁ y) → News h₀ env.locals s₁.heap (news₁ ++ [(I, oI), (l, ol)]) →
      wpN (model prog w) A (execs body env) (TurnEnd h₀ env.locals (J (i + 1)) [(I, oI), (l, ol)] s₁) (fun _ _ => False) s₁)
    (done : ∀ m₁ news₁ h tk, J ns.length m₁ news₁ → Fr h₀ env.locals h m₁ → News h₀ env.locals h news₁ → R (.ok .next) { s with heap := h, toks := tk }) :
    ∀ k i m₁ news₁ oI s₁, i + k = ns.length → (∃ h tk, s₁ = { s with heap := h, toks := tk }) → s₁.heap.IsListIter I l i → J i m₁ news₁ → (∀ p ∈ news₁, p.1 ≠ I ∧ p.1 ≠ l) →
      Fr h₀ env.locals s₁.heap m₁ → News h₀ env.locals s₁.heap (news₁ ++ [(I, oI), (l, ol)]) → codeN (model prog w) A (.forLoop (.Name x px) (.ref I) body [] env) R s₁ := by
  have hlen := hi.length
  intro k
  induction k with
  | zero =>
    intro i m₁ news₁ oI s₁ hik hs hit hJ hoff F N
    obtain ⟨h, tk, rfl⟩ := hs
    have zl := N (l, ol) (by simp)
    have zI := N (I, oI) (by simp)
    have hl : h.IsList l vs.toArray := ⟨ol, zl.1, hol, hod⟩
    refine codeN_of_tree ?_
    show wpN _ _ ((forTurn (.Name x px) (.ref I) body [] env).onRaise (fun x => do noteFrame x env; theTreesLotGoes x)) _ _ _
    refine wpN_onRaise (wpN_mono (E := fun _ _ => False) ?_ (fun _ _ z => z) fun _ _ z => z.elim)
    simp only [forTurn]
    refine wpN_any (wpAny_bind (wpAny_standAt (wpAny_bind (wpAny_onRaise (wpAny_pyNext_list_end hh hit hl (by simp; omega) fun h' he' => ?_)))))
    refine wpAny_pure (And.intro rfl (And.intro rfl (codeN_any (codeAny_block ?_))))
    refine wpAny_execs_nil ?_
    have hi0 : i = ns.length := by omega
    subst hi0
    refine done m₁ news₁ h' tk hJ ⟨F.ns.at' fun o e => he' _ o (fun q => zI.2.1 q.symm) e, fun b o e => he' b o (fun q => ?_) (F.keep b o e), F.above⟩ fun p hp => ?_
    · have := zI.2.2; rw [← q, e] at this; cases this
    · have z := N p (List.mem_append_left _ hp)
      exact ⟨he' _ _ (hoff p hp).1 z.1, z.2⟩
  | succ k ih =>
    intro i m₁ news₁ oI s₁ hik hs hit hJ hoff F N
    obtain ⟨h, tk, rfl⟩ := hs
    have zl := N (l, ol) (by simp)
    have zI := N (I, oI) (by simp)
    have hl : h.IsList l vs.toArray := ⟨ol, zl.1, hol, hod⟩
    have hlt : i < ns.length := by omega
    obtain ⟨t, hxv⟩ := hi.get i ns[i] (by simp [hlt])
    refine codeN_of_tree ?_
    show wpN _ _ ((forTurn (.Name x px) (.ref I) body [] env).onRaise (fun x => do noteFrame x env; theTreesLotGoes x)) _ _ _
    refine wpN_onRaise (wpN_mono (E := fun _ _ => False) ?_ (fun _ _ z => z) fun _ _ z => z.elim)
    simp only [forTurn]
    refine wpN_first (wpAny_standAt (wpN_first (wpAny_onRaise (wpAny_pyNext_list_item hit hl (x := .int ns[i] t) (by simpa using hxv) fun h' hit' hs' => ?_))))
    refine wpN_first (wpAny_of_eq (a := ()) rfl ?_)
    have F1 : Fr h₀ env.locals h' m₁ := F.change hs' zI.2.1 zI.2.2
    obtain ⟨oI', hoI', hcI', hdI'⟩ := id hit'
    have N1 : News h₀ env.locals h' (news₁ ++ [(I, oI'), (l, ol)]) := news_set N (fun p hp => (hoff p hp).1) (fun p hp => by rw [List.mem_singleton.mp hp]; exact hIl.symm) hs' hoI'
    refine wpN_first (wpAny_assign_Name (wpAny_storeName_local hx F1.ns (fun h₂ hn₂ hs₂ => ?_) hp))
    have F2 := F1.set hn₂ hs₂
    have N2 := N1.set hs₂
    have off2 : ∀ p ∈ news₁, ∀ q ∈ [(I, oI'), (l, ol)], p.1 ≠ q.1 := fun p hp q hq => by
      rcases List.mem_cons.mp hq with rfl | hq
      · exact (hoff p hp).1
      · rw [List.mem_singleton.mp hq]; exact (hoff p hp).2
    refine wpN_bind (wpN_mono (turn i ns[i] t m₁ news₁ oI' ⟨h₂, s.gens, s.drawn, tk + 1, s.os⟩ ⟨h₂, _, rfl⟩ (by simp [hlt]) hJ off2 F2 N2) (fun f s₃ h₃ => ?_) fun _ _ z => z)
    obtain ⟨rfl, h₃', tk₃, m₃, news₃, rfl, F₃, N₃, off₃, hJ₃⟩ := h₃
    refine wpN_pure (And.intro rfl (And.intro rfl ?_))
    refine ih (i + 1) m₃ news₃ oI' _ (by omega) ⟨_, _, rfl⟩ ⟨oI', (N₃ (I, oI') (by simp)).1, hcI', hdI'⟩ hJ₃ (fun p hp => ⟨off₃ p hp _ (.head _), off₃ p hp _ (.tail _ (.head _))⟩) F₃ N₃
end
section
variable {prog : Program} {w : World} {A : Around} {s : Shared} {env : Env} {h₀ : Heap} {x : Str} {px pos : Pos} {iter : Expr} {body : List Stmt} {Q : Flow → Shared → Prop}
/-- what the loop's own list is: new, of ints -/
def IterIs (h₀ : Heap) (L : Addr) (P : List Int → (Str → Option Value) → List (Addr × Obj) → Shared → Prop) (v : Value) (s₁ : Shared) : Prop :=
  ∃ l c vs ns m news, v = .ref l ∧ IntsAre vs ns ∧ Fr h₀ L s₁.heap m ∧ News h₀ L s₁.heap (news ++ [(l, listOf vs.toArray c)]) ∧ (∀ p ∈ news, p.1 ≠ l) ∧ P ns m news s₁
theorem wpN_For {P : List Int → (Str → Option Value) → List (Addr × Obj) → Shared → Prop} (J : List Int → Nat → (Str → Option Value) → List (Addr × Obj) → Prop)
    (hh : A.handled = none) (hx : env.kindOf x = some .local) (hp : (env.scope.kind == .class || (env.scope.kind == .module && env.locals != env.globals)) = false)
    (h : wpAny (model prog w) A (eval iter env) (IterIs h₀ env.locals P) (fun _ _ => False) s)
    (start : ∀ ns m news s₁, P ns m news s₁ → J ns 0 m news)
    (turn : ∀ ns m₀ news₀ s₁, P ns m₀ news₀ s₁ → ∀ I l oI ol i n t m₁ news₁ s₂, (∃ h tk, s₂ = { s₁ with heap := h, toks := tk }) → ns[i]? = some n → J ns i m₁ news₁ → (∀ p ∈ news₁, ∀ q ∈ [(I, oI), (l, ol)], p.1 ≠ q.1) →
      Fr h₀ env.locals s₂.heap (fun y => if y = x then some (.int n t) else m₁ y) → News h₀ env.locals s₂.heap (news₁ ++ [(I, oI), (l, ol)]) →
      wpN (model prog w) A (execs body env) (TurnEnd h₀ env.locals (J ns (i + 1)) [(I, oI), (l, ol)] s₂) (fun _ _ => False) s₂)
    (done : ∀ ns m₀ news₀ s₁, P ns m₀ news₀ s₁ → ∀ m₁ news₁ h tk, J ns ns.length m₁ news₁ → Fr h₀ env.locals h m₁ → News h₀ env.locals h news₁ → Q .next { s₁ with heap := h, toks := tk })
    (hs : ∀ x, foldedSetIterable iter env x = pure x := by intro _; rfl) :
    wpN (model prog w) A (exec (.For (.Name x px) iter body [] pos) env) Q (fun _ _ => False) s := by
  rw [exec_For]
  refine wpN_first (wpAny_standAt (wpN_first (wpAny_mono h (fun v s₁ hv => ?_) fun _ _ z => z)))
  obtain ⟨l, c, vs, ns, m, news, rfl, hi, F, N, hoff, hP⟩ := hv
  refine wpN_first (wpAny_of_eq (hs _) ?_)
  refine wpN_first (wpAny_standAt ?_)
  have zl := N (l, listOf vs.toArray c) (by simp)
  have hls : s₁.heap.IsList l vs.toArray := ⟨_, zl.1, rfl, _, rfl⟩
  refine wpN_first (wpAny_holding (wpAny_pyIter_list hls ?_))
  have hIl : s₁.heap.objs.size ≠ l := Nat.ne_of_gt (Heap.lt_size zl.1)
  unfold runOwn
  refine wpN_onRaise (wpN_mono (E := fun _ _ => False) (wpN_run ?_ rfl) (fun _ _ z => z) fun _ _ z => z.elim)
  have F1 := F.push { cls := .type "list_iterator", data := .fields #[.ref l, .int 0 0] }
  have N1 := N.push F { cls := .type "list_iterator", data := .fields #[.ref l, .int 0 0] }
  refine loop_code (s := s₁) (A := A) (R := fun r s' => match r with | .ok f => Q f s' | .error e => False) (I := s₁.heap.objs.size) (ol := listOf vs.toArray c) hh hx hp hIl hi rfl ⟨_, rfl⟩ (J ns) (fun i n t m₁ news₁ oI s₂ hs₂ hn hJ off F₂ N₂ => turn ns m news s₁ hP _ l oI _ i n t m₁ news₁ s₂ hs₂ hn hJ off F₂ N₂)
    (fun m₁ news₁ h tk hJ F₂ N₂ => done ns m news s₁ hP m₁ news₁ h tk hJ F₂ N₂) ns.length 0 m news { cls := .type "list_iterator", data := .fields #[.ref l, .int 0 0] } { s₁ with heap := s₁.heap.push { cls := .type "list_iterator", data := .fields #[.ref l, .int 0 0] } } (Nat.zero_add _) ⟨_, _, rfl⟩ ⟨_, Heap.get?_push_size _ rfl, rfl, rfl⟩ (start ns m news s₁ hP)
    (fun (p : Addr × Obj) hp => ⟨Nat.ne_of_lt (Heap.lt_size (N p (List.mem_append_left _ hp)).1), hoff p hp⟩) F1 (fun (p : Addr × Obj) hp => ?_)
  rcases List.mem_append.mp hp with hp | hp
  · exact N1 p (List.mem_cons_of_mem _ (List.mem_append_left _ hp))
  · rcases List.mem_cons.mp hp with rfl | hp
    · exact N1 _ (.head _)
    · exact N1 p (List.mem_cons_of_mem _ (List.mem_append_right _ hp))
end
end Mine
namespace Mine
theorem wpN_execs_last {M : Model} {A : Around} {E : Value → Shared → Prop} {s : Shared} {env : Env} {st rest} {Q : Flow → Shared → Prop}
    (h : wpN M A (exec st env) (fun f s' => match f with | .next => wpAny M A (execs rest env) Q E s' | f => Q f s') E s) :
    wpN M A (execs (st :: rest) env) Q E s :=
  wpN_execs_cons (wpN_mono h (fun f s' x => by cases f <;> first | exact wpN_any x | exact x) fun _ _ x => x)
end Mine
end

section
open PySem PySem.W PyProof.Rows PySem.Spec PySem.Calls
namespace Mine
/-- no CR LF ends within the first a octets -/
def NoEol (d : List UInt8) (a : Nat) : Prop := ∀ i, i + 2 ≤ a → ¬ (d[i]? = some 13 ∧ d[i + 1]? = some 10)
/-- no blank line's mark (LF LF or LF CR LF) begins below b -/
def NoBlank (d : List UInt8) (b : Nat) : Prop := ∀ i, i < b → ¬ ((d[i]? = some 10 ∧ d[i + 1]? = some 10) ∨ (d[i]? = some 10 ∧ d[i + 1]? = some 13 ∧ d[i + 2]? = some 10))
abbrev bufDict (P : Params) (t1 t2 t3 ta tb : Tok) (q : Addr) (a b : Int) : Obj :=
  dictOf [⟨PyData.keyHash P "_data", .str "_data" t1, .ref q⟩, ⟨PyData.keyHash P "_next_line_search", .str "_next_line_search" t2, .int a ta⟩, ⟨PyData.keyHash P "_multiple_lines_search", .str "_multiple_lines_search" t3, .int b tb⟩] 3
def Inv (P : Params) (C x d : Addr) (i : Nat) (m : Str → Option Value) (news : List (Addr × Obj)) : Prop :=
  ∃ (dat : List UInt8) (a b : Nat) (q : Addr) (tr t1 t2 t3 ta tb : Tok), m "buffer" = some (.ref x) ∧ m "rest" = some (.bytes dat.toArray tr) ∧
    news = [(q, baObj dat.toArray), (x, instObj C d), (d, bufDict P t1 t2 t3 ta tb q (a : Int) (b : Int))] ∧ (q ≠ x ∧ q ≠ d ∧ x ≠ d) ∧ dat.length ≤ 6 * i ∧ a ≤ dat.length ∧ b ≤ dat.length ∧ NoEol dat a ∧ NoBlank dat b ∧ (b = 0 ∨ b + 2 ≤ dat.length)
end Mine
namespace Mine
theorem iterIs_intro {h₀ : Heap} {L l : Addr} {P : List Int → (Str → Option Value) → List (Addr × Obj) → Shared → Prop} {c : Nat} {vs : List Value} {ns : List Int} {m : Str → Option Value} {z : Addr × Obj} {news : List (Addr × Obj)} {s₁ : Shared}
    (F : Fr h₀ L s₁.heap m) (N : News h₀ L s₁.heap ((l, listOf vs.toArray c) :: z :: news)) (hi : IntsAre vs ns) (hoff : ∀ p ∈ news, p.1 ≠ l) (hP : P ns m news s₁) : IterIs h₀ L P (.ref l) s₁ :=
  ⟨l, c, vs, ns, m, news, rfl, hi, F, fun p hp => by
    rcases List.mem_append.mp hp with hp | hp
    · exact N p (.tail _ (.tail _ hp))
    · rw [List.mem_singleton.mp hp]; exact N _ (.head _), hoff, hP⟩
theorem inv_start {P : Params} {C x d q : Addr} {m : Str → Option Value} {tr t1 t2 t3 ta tb : Tok} (h1 : m "buffer" = some (.ref x)) (h2 : m "rest" = some (.bytes #[] tr)) (h3 : q ≠ x ∧ q ≠ d ∧ x ≠ d) :
    Inv P C x d 0 m [(q, baObj #[]), (x, instObj C d), (d, bufDict P t1 t2 t3 ta tb q 0 0)] :=
  ⟨[], 0, 0, q, tr, t1, t2, t3, ta, tb, h1, h2, rfl, h3, Nat.zero_le _, Nat.zero_le _, Nat.zero_le _, fun i h => by omega, fun i h => by omega, .inl rfl⟩
end Mine
namespace Mine
theorem fr_turn {h₀ : Heap} {L x : Addr} {h : Heap} {m : Str → Option Value} {v r : Value} (F : Fr h₀ L h (fun y => if y = Str.ofString "number" then some v else m y)) (h1 : m "buffer" = some (.ref x)) (h2 : m "rest" = some r) :
    Fr h₀ L h (fun y => if y = Str.ofString "number" then some v else if y = Str.ofString "buffer" then some (.ref x) else if y = Str.ofString "rest" then some r else m y) := by
  have e : (fun y => if y = Str.ofString "number" then some v else m y) = (fun y => if y = Str.ofString "number" then some v else if y = Str.ofString "buffer" then some (.ref x) else if y = Str.ofString "rest" then some r else m y) := by
    funext y
    by_cases e0 : y = Str.ofString "number"
    · simp only [if_pos e0]
    · simp only [if_neg e0]
      by_cases e1 : y = Str.ofString "buffer"
      · simp only [if_pos e1]; rw [e1]; exact h1
      · simp only [if_neg e1]
        by_cases e2 : y = Str.ofString "rest"
        · simp only [if_pos e2]; rw [e2]; exact h2
        · simp only [if_neg e2]
  rw [e] at F; exact F
theorem neNat {a b : Addr} (h : a ≠ b) : @Ne Nat a b := h
end Mine
namespace Mine
theorem wpN_execs_mid {M : Model} {A : Around} {E : Value → Shared → Prop} {s : Shared} {env : Env} {st : Stmt} {rest : List Stmt} {Q : Flow → Shared → Prop} (Mid : Shared → Prop)
    (h1 : wpN M A (exec st env) (fun f s' => f = .next ∧ Mid s') E s) (h2 : ∀ s', Mid s' → wpN M A (execs rest env) Q E s') : wpN M A (execs (st :: rest) env) Q E s :=
  wpN_execs_cons (wpN_mono h1 (fun f s' h => by obtain ⟨rfl, h⟩ := h; exact h2 s' h) fun _ _ x => x)
theorem fr_two {h₀ : Heap} {L x : Addr} {h : Heap} {m : Str → Option Value} {r : Value} (F : Fr h₀ L h m) (h1 : m "buffer" = some (.ref x)) (h2 : m "rest" = some r) :
    Fr h₀ L h (fun y => if y = Str.ofString "buffer" then some (.ref x) else if y = Str.ofString "rest" then some r else m y) := by
  have e : m = (fun y => if y = Str.ofString "buffer" then some (.ref x) else if y = Str.ofString "rest" then some r else m y) := by
    funext y
    by_cases e1 : y = Str.ofString "buffer"
    · simp only [if_pos e1]; rw [e1]; exact h1
    · simp only [if_neg e1]
      by_cases e2 : y = Str.ofString "rest"
      · simp only [if_pos e2]; rw [e2]; exact h2
      · simp only [if_neg e2]
  rw [e] at F; exact F
end Mine
end

section
open PySem PySem.W PyProof.Rows PySem.Spec PySem.Calls
namespace Mine
def JJ (P : Params) (C x d : Addr) (ns : List Int) (i : Nat) (m : Str → Option Value) (news : List (Addr × Obj)) : Prop := ns.length ≤ 63 ∧ i ≤ ns.length ∧ Inv P C x d i m news
theorem turn_close {h₀ h' : Heap} {L C x d q I l : Addr} {oI ol : Obj} {m : Str → Option Value} {news : List (Addr × Obj)} {P : Params} {ns : List Int} {i : Nat} {dat rst : List UInt8} {a b : Int} {tr t1 t2 t3 ta tb : Tok} {s₁ : Shared} {tk : Nat}
    (F : Fr h₀ L h' m) (N : News h₀ L h' news) (m3 : (d, bufDict P t1 t2 t3 ta tb q a b) ∈ news) (m1 : (q, baObj dat.toArray) ∈ news) (m2 : (x, instObj C d) ∈ news) (m4 : (I, oI) ∈ news) (m5 : (l, ol) ∈ news)
    (hb : m "buffer" = some (.ref x)) (hr : m "rest" = some (.bytes rst.toArray tr)) (hrd : rst = dat) (e1 : q ≠ I) (e2 : q ≠ l) (e3 : x ≠ I) (e4 : x ≠ l) (e5 : d ≠ I) (e6 : d ≠ l) (e7 : q ≠ x) (e8 : q ≠ d) (e9 : x ≠ d)
    (h1 : ns.length ≤ 63) (h2 : i ≤ ns.length) (h3 : dat.length ≤ 6 * i) (ha0 : 0 ≤ a) (ha : a ≤ dat.length) (hE : NoEol dat a.toNat) (hb0 : 0 ≤ b) (hb1 : b = 0 ∨ b + 2 ≤ dat.length) (hB : NoBlank dat b.toNat) :
    TurnEnd h₀ L (JJ P C x d ns i) [(I, oI), (l, ol)] s₁ .next ⟨h', s₁.gens, s₁.drawn, tk, s₁.os⟩ := by
  rw [hrd] at hr
  refine ⟨rfl, h', tk, m, [(q, baObj dat.toArray), (x, instObj C d), (d, bufDict P t1 t2 t3 ta tb q a b)], rfl, F, ?_, ?_, h1, h2, dat, a.toNat, b.toNat, q, tr, t1, t2, t3, ta, tb, hb, hr, ?_, ⟨e7, e8, e9⟩, h3, by omega, by omega, hE, hB, by omega⟩
  · intro p hp
    simp only [List.cons_append, List.nil_append, List.mem_cons, List.not_mem_nil, or_false] at hp
    rcases hp with rfl | rfl | rfl | rfl | rfl <;> exact N _ (by assumption)
  · intro p hp p' hp'
    simp only [List.mem_cons, List.not_mem_nil, or_false] at hp hp'
    rcases hp with rfl | rfl | rfl <;> rcases hp' with rfl | rfl <;> assumption
  · rw [Int.toNat_of_nonneg ha0, Int.toNat_of_nonneg hb0]
theorem beq_cons_nil (c : UInt8) (r : List UInt8) : ((c :: r) == ([] : List UInt8)) = false := rfl
theorem len_cons_eq (c : UInt8) (r : List UInt8) : ((((c :: r).length : Nat) : Int) = 0) = False := by
  rw [List.length_cons]; exact eq_false (by omega)
end Mine
end

section
open PySem PySem.W PyProof.Rows
namespace Mine
set_option maxRecDepth 100000 in
set_option maxHeartbeats 8000000 in
open_top hd for PySem.Challenge.rw_jr0005_01
end Mine
end

section
open PySem PySem.W PyProof.Rows PySem.Spec PySem.Calls
namespace Mine
section
variable {prog : Program} {w : World} {A : Around} {E : Value → Shared → Prop} {s : Shared} {a : Addr} {b : Array UInt8}

theorem tyBa (e : s.heap.get? a = some (baObj b)) : s.TypeIs (.ref a) "bytearray" := ⟨_, e, rfl⟩

theorem ba_len_slot {Q : Value → Shared → Prop} (e : s.heap.get? a = some (baObj b)) (h : Q (.int b.size s.toks) { s with toks := s.toks + 1 }) :
    wpAny (model prog w) A (call (.builtin "bytearray.__len__") [.ref a]) Q E s := by
  refine wpAny_call_entry FA.slot_bytearray_len (tyBa e) FA.entry_bytearray_len ?_ (FA.args_bytearray_len_1 _)
  unfold Builtin.«bytearray.__len__»
  refine wpAny_bind (wpAny_of_eq (a := (.ref a, [])) rfl ?_)
  refine wpAny_bind ((payloadBa e).here ?_)
  exact wpAny_bind (wpAny_mkInt (wpAny_pure ⟨_, rfl, h⟩))
theorem ba_len_body {Q : Value → Shared → Prop} (e : s.heap.get? a = some (baObj b)) (hfit : (b.size : Int) < 2 ^ 63) (h : Q (.int b.size (s.toks + 1)) { s with toks := s.toks + 1 + 1 }) :
    wpAny (model prog w) A (Builtin.«len» ⟨[.ref a], []⟩) (fun fin s' => ∃ r, fin = .done (.ret r) ∧ Q r s') E s := by
  unfold Builtin.«len»
  refine wpAny_bind (m := oneArg "len" _) (wpAny_pure ?_)
  refine wpAny_bind (m := callSpecial? (.ref a) (Str.ofString "__len__")) (wpAny_callSpecial?_slot (name := Str.ofString "__len__") (tyBa e) FA.slot_bytearray_len (ba_len_slot e ?_))
  refine wpAny_bind (wpAny_holding (wpAny_pure ?_))
  refine wpAny_bind (wpAny_letGo ?_)
  show wpAny _ _ (if ((b.size : Nat) : Int) < 0 then _ else _) _ _ _
  rw [if_neg (by omega)]
  show wpAny _ _ (if ((b.size : Nat) : Int) ≥ 2 ^ 63 then _ else _) _ _ _
  rw [if_neg (by omega)]
  exact wpAny_bind (wpAny_mkInt (wpAny_pure ⟨_, rfl, h⟩))
theorem ba_len {Q : Value → Shared → Prop} (e : s.heap.get? a = some (baObj b)) (hfit : (b.size : Int) < 2 ^ 63) (h : Q (.int b.size (s.toks + 1)) { s with toks := s.toks + 1 + 1 }) :
    wpAny (model prog w) A (call (.builtin "len") [.ref a]) Q E s :=
  call_function_entry kind_len plain_len entry_len (args_len1 _) (ba_len_body e hfit h)
theorem ba_truthy {Q : Bool → Shared → Prop} (e : s.heap.get? a = some (baObj b)) (hfit : (b.size : Int) < 2 ^ 63) (h : Q ((b.size : Int) != 0) { s with toks := s.toks + 1 + 1 }) :
    wpAny (model prog w) A (truthy (.ref a)) Q E s := by
  have key : wpAny (model prog w) A (runValue (.builtin "len" ⟨[.ref a], []⟩)) (fun r s' => r = .int b.size (s.toks + 1) ∧ Q ((b.size : Int) != 0) s') E s := by
    refine wpAny_runValue (codeAny_builtin entry_len ?_)
    rw [Around.under_plainId plain_len _]
    exact wpAny_mono (ba_len_body (Q := fun r s' => r = .int b.size (s.toks + 1) ∧ Q ((b.size : Int) != 0) s') e hfit ⟨rfl, h⟩)
      (fun fin s' h' => by obtain ⟨r, rfl, hq⟩ := h'; exact hq) fun _ _ e => e
  unfold truthy
  first
    | refine wpAny_bind (wpAny_callSpecial?_none (name := Str.ofString "__bool__") (tyBa e) FA.look_bool ?_)
    | refine wpAny_bind (wpAny_pure (wpAny_bind (wpAny_callSpecial?_none (name := Str.ofString "__bool__") (tyBa e) FA.look_bool ?_)))
  first
    | refine wpAny_bind (wpAny_specialOf (name := Str.ofString "__len__") (tyBa e) FA.slot_bytearray_len.lookup ?_)
    | refine wpAny_bind (wpAny_pure (wpAny_bind (wpAny_specialOf (name := Str.ofString "__len__") (tyBa e) FA.slot_bytearray_len.lookup ?_)))
  first
    | exact wpAny_bind (wpAny_mono key (fun r s' h' => by obtain ⟨rfl, hq⟩ := h'; exact wpAny_pure hq) fun _ _ e => e)
    | exact wpAny_bind (wpAny_pure (wpAny_bind (wpAny_mono key (fun r s' h' => by obtain ⟨rfl, hq⟩ := h'; exact wpAny_pure hq) fun _ _ e => e)))

set_option maxHeartbeats 800000 in
theorem ba_slice_get {sl : Addr} {l u : Value} {lo hi : Option Int} {Q : Value → Shared → Prop} (e : s.heap.get? a = some (baObj b)) (hS : s.heap.IsSliceOf sl l u .none) (hl : IsPart l lo) (hu : IsPart u hi)
    (hz : (KBy.picked b lo hi).size ≤ sizeLine)
    (h : Q (.ref s.heap.objs.size) { s with heap := s.heap.push (baObj (KBy.picked b lo hi)) }) : wpAny (model prog w) A (getItem (.ref a) (.ref sl)) Q E s := by
  obtain ⟨o, ho, hc, hd⟩ := hS
  have hT : s.TypeIs (.ref sl) "slice" := ⟨o, ho, hc⟩
  refine wpAny_getItem_slot (tyBa e) (by decide) FA.slot_bytearray_getitem (wpAny_call_entry FA.slot_bytearray_getitem (tyBa e) FA.entry_bytearray_getitem ?_ (FA.args_bytearray_getitem_2 _ _))
  unfold Builtin.«bytearray.__getitem__»
  refine wpAny_bind (wpAny_of_eq (a := (.ref a, [.ref sl])) rfl ?_)
  show wpAny _ _ (Builtin.Bytes.subscript? (.ref sl) >>= fun r => _) _ _ s
  refine wpAny_bind ?_
  unfold Builtin.Bytes.subscript?
  refine wpAny_bind (wpAny_specialOf hT slice_no_index (wpAny_pure ?_))
  refine wpAny_bind (wpAny_typeOf hT ?_)
  show wpAny _ _ (Builtin.Bytes.sliceParts (.ref sl) >>= fun r => _) _ _ s
  refine wpAny_bind ?_
  unfold Builtin.Bytes.sliceParts
  refine wpAny_bind (wpAny_field (x := .none) ho hd rfl ?_)
  kby_none
  refine wpAny_ite (KBy.ite_no (show ¬ ((Value.none == rawInt 0) = true) from Bool.false_ne_true) ?_)
  refine wpAny_bind (wpAny_field (x := l) ho hd rfl ?_)
  have go : wpAny (model prog w) A.in1 (sliceIndices (rawPart lo) (rawPart hi) (rawPart none) b.size) (fun r s' => r = sliceBounds lo hi none b.size ∧ s' = s) (fun _ _ => False) s :=
    wpAny_of_eq (sliceIndices_raw lo hi none b.size (fun e => nomatch e)) ⟨rfl, rfl⟩
  generalize hp : sliceBounds lo hi none b.size = p at go
  obtain ⟨x, y, z⟩ := p
  have hpk : KBy.picked b lo hi = Builtin.Bytes.sliced b x y z := by unfold KBy.picked; rw [hp]
  rw [hpk] at h hz
  clear hp hpk
  cases hl <;> cases hu <;> (first
    | (kby_none; (refine wpAny_bind (wpAny_field (x := .none) ho hd rfl ?_)); kby_none)
    | (kby_none; (refine wpAny_bind (wpAny_field (x := .int _ _) ho hd rfl ?_)); kby_int)
    | (kby_int; (refine wpAny_bind (wpAny_field (x := .none) ho hd rfl ?_)); kby_none)
    | (kby_int; (refine wpAny_bind (wpAny_field (x := .int _ _) ho hd rfl ?_)); kby_int)) <;> refine wpAny_pure ?_
  all_goals
    refine wpAny_bind ((payloadBa e).here ?_)
    refine wpAny_bind (wpAny_mono go (fun r s' hr => ?_) fun _ _ e => e.elim)
    obtain ⟨hr1, hr2⟩ := hr
    subst hr1 hr2
    refine wpAny_bind (m := Builtin.Bytes.newBytearray (Builtin.Bytes.sliced b x y z)) ?_
    unfold Builtin.Bytes.newBytearray
    exact wpAny_newObj_type (wpAny_pure ⟨_, rfl, h⟩) hz
end
end Mine
end

section
open PySem PySem.W PyProof.Rows PySem.Spec PySem.Calls
namespace Mine
def findFrom (d sub : List UInt8) (i : Nat) : Option Nat := ((List.range (d.length + 1 - (i + sub.length))).map (· + i)).find? fun j => ((d.drop j).take sub.length == sub)
def findI (d sub : List UInt8) (i : Nat) : Int := match findFrom d sub i with
  | some j => (j : Int)
  | none => -1
theorem find?_eq (d sub : List UInt8) (i : Nat) : Builtin.Bytes.find? d.toArray sub.toArray i d.length = findFrom d sub i := by
  unfold Builtin.Bytes.find? findFrom
  rw [List.size_toArray]
  congr 1
  funext j
  have : d.toArray.extract j (j + sub.length) = ((d.drop j).take sub.length).toArray := by
    rw [List.extract_toArray, List.extract_eq_take_drop, Nat.add_sub_cancel_left]
  rw [this]
  rw [Bool.eq_iff_iff]
  simp
theorem picked_list (d : List UInt8) (lo hi : Option Int) : KBy.picked d.toArray lo hi = ((d.drop (lo.elim 0 (clipAt d.length))).take (hi.elim d.length (clipAt d.length) - lo.elim 0 (clipAt d.length))).toArray := by
  rw [KBc.picked_eq]; simp only [List.size_toArray]
theorem clip_nn {n : Nat} {c : Int} (h : 0 ≤ c) : clipAt n c = min c.toNat n := by
  obtain ⟨k, rfl⟩ := Int.eq_ofNat_of_zero_le h
  exact clipAt_nat n k
theorem picked_upto {d : List UInt8} {c : Int} (h : 0 ≤ c) : KBy.picked d.toArray none (some c) = (d.take c.toNat).toArray := by
  rw [picked_list]
  simp only [Option.elim, clip_nn h, List.drop_zero, Nat.sub_zero]
  congr 1
  rcases Nat.le_total c.toNat d.length with q | q
  · rw [Nat.min_eq_left q]
  · rw [Nat.min_eq_right q, List.take_length, List.take_of_length_le q]
theorem picked_from {d : List UInt8} {c : Int} (h : 0 ≤ c) : KBy.picked d.toArray (some c) none = (d.drop c.toNat).toArray := by
  rw [picked_list]
  simp only [Option.elim, clip_nn h]
  congr 1
  rcases Nat.le_total c.toNat d.length with q | q
  · rw [Nat.min_eq_left q, List.take_of_length_le (by simp)]
  · rw [Nat.min_eq_right q, List.drop_of_length_le (Nat.le_refl _), List.drop_of_length_le q]; simp
theorem picked_mid {d : List UInt8} {a c : Int} (ha : 0 ≤ a) (hc : 0 ≤ c) : KBy.picked d.toArray (some a) (some c) = ((d.take c.toNat).drop a.toNat).toArray := by
  rw [picked_list]
  simp only [Option.elim, clip_nn ha, clip_nn hc]
  congr 1
  rw [List.drop_take]
  rcases Nat.le_total a.toNat d.length with q | q
  · rw [Nat.min_eq_left q]
    rcases Nat.le_total c.toNat d.length with p | p
    · rw [Nat.min_eq_left p]
    · rw [Nat.min_eq_right p, List.take_of_length_le (by simp), List.take_of_length_le (by simp; omega)]
  · rw [Nat.min_eq_right q, List.drop_of_length_le (Nat.le_refl _), List.drop_of_length_le q]; simp
theorem picked_init {d : List UInt8} : KBy.picked d.toArray none (some (-1)) = d.dropLast.toArray := by
  rw [picked_list]
  have : clipAt d.length (-1) = d.length - 1 := clipAt_neg d.length 1 (Nat.le_refl _)
  simp only [Option.elim, this, List.drop_zero, Nat.sub_zero, List.dropLast_eq_take]
theorem picked_last {d : List UInt8} : KBy.picked d.toArray (some (-1)) none = (d.drop (d.length - 1)).toArray := by
  rw [picked_list]
  have : clipAt d.length (-1) = d.length - 1 := clipAt_neg d.length 1 (Nat.le_refl _)
  simp only [Option.elim, this]
  rw [List.take_of_length_le (by simp)]
theorem picked_le {d X : List UInt8} {lo hi : Option Int} (h : KBy.picked d.toArray lo hi = X.toArray) : X.length ≤ d.length := by
  have := KBc.size_picked_le d.toArray lo hi
  rw [h] at this
  simpa using this

section
variable {prog : Program} {w : World} {A : Around} {E : Value → Shared → Prop} {s : Shared} {h₀ : Heap} {L : Addr} {m : Str → Option Value} {news : List (Addr × Obj)} {value slice : Expr} {l u : Value} {lo hi : Option Int} {Q : Value → Shared → Prop}
theorem ba_slice {a : Addr} {d X : List UInt8} (F : Fr h₀ L s.heap m) (N : News h₀ L s.heap news) (hm : (a, baObj d.toArray) ∈ news) (hl : IsPart l lo) (hu : IsPart u hi) (hp : KBy.picked d.toArray lo hi = X.toArray) (hz : d.length ≤ 16777216)
    (h : ∀ q h', Fr h₀ L h' m → News h₀ L h' ((q, baObj X.toArray) :: news) → (∀ p ∈ news, p.1 < q) → Q (.ref q) { s with heap := h' })
    (hs : subscripted slice false (.ref a) (.ref s.heap.objs.size) = operate [.ref s.heap.objs.size, .ref a] (getItem (.ref a) (.ref s.heap.objs.size)) := by with_unfolding_all rfl) :
    wpAny (model prog w) A (subscriptTail value slice (.ref a) (.ref s.heap.objs.size)) Q E { s with heap := s.heap.push { cls := .type "slice", data := .fields #[l, u, .none] } } := by
  have F1 := F.push { cls := .type "slice", data := .fields #[l, u, .none] }
  have N1 : News h₀ L (s.heap.push { cls := .type "slice", data := .fields #[l, u, .none] }) news := fun p hp => (N.push F { cls := .type "slice", data := .fields #[l, u, .none] }) p (.tail _ hp)
  have e1 := (N1 _ hm).1
  refine tail_any (tyBa (s := { s with heap := s.heap.push { cls := .type "slice", data := .fields #[l, u, .none] } }) e1) FA.slot_bytearray_getitem.lookup (ba_slice_get e1 (Heap.IsSliceOf.new _ _ _ _) hl hu ?_ ?_) hs
  · rw [hp, List.size_toArray, sizeLine_eq]; exact Nat.le_trans (picked_le hp) hz
  · rw [hp]
    exact h _ _ (F1.push _) (N1.push F1 _) fun p hp => Heap.lt_size (N1 p hp).1
theorem by_slice {d X : List UInt8} {t : Tok} (F : Fr h₀ L s.heap m) (N : News h₀ L s.heap news) (hl : IsPart l lo) (hu : IsPart u hi) (hp : KBy.picked d.toArray lo hi = X.toArray) (hz : d.length ≤ 16777216)
    (h : ∀ h' t' k, Fr h₀ L h' m → News h₀ L h' news → Q (.bytes X.toArray t') { s with heap := h', toks := k })
    (hs : subscripted slice false (.bytes d.toArray t) (.ref s.heap.objs.size) = operate [.ref s.heap.objs.size, .bytes d.toArray t] (getItem (.bytes d.toArray t) (.ref s.heap.objs.size)) := by with_unfolding_all rfl)
    (ht : ∀ r, letTemporaryGo value (.bytes d.toArray t) r = pure () := by intro _; with_unfolding_all rfl) :
    wpAny (model prog w) A (subscriptTail value slice (.bytes d.toArray t) (.ref s.heap.objs.size)) Q E { s with heap := s.heap.push { cls := .type "slice", data := .fields #[l, u, .none] } } :=
  tail_of_ItemOn ⟨"bytes", _, FB.slot_bytes_getitem.lookup, typeIs_bytes _ _ _, getItem_meets (typeIs_bytes _ _ _) (by decide) FB.slot_bytes_getitem FB.entry_bytes_getitem (FB.args_bytes_getitem_2 _ _) (KBc.meets_slice2 d.toArray t _ hl hu)
    ⟨Heap.IsSliceOf.new _ _ _ _, by rw [hp, List.size_toArray, sizeLine_eq]; exact Nat.le_trans (picked_le hp) hz, fun t' k => by rw [hp]; exact h _ _ _ (F.push _) (News.pushKeep N _)⟩⟩ hs ht

theorem window_find {d sub : List UInt8} {lo : Nat} : ((if (((min (d.length : Int) (d.length : Int)) - (lo : Int)) < (sub.length : Int)) then none else some (lo, d.length)).bind fun (x : Nat × Nat) => Builtin.Bytes.find? d.toArray sub.toArray x.1 x.2) = findFrom d sub lo := by
  split
  · rename_i hlt
    have : d.length + 1 - (lo + sub.length) = 0 := by omega
    unfold findFrom; rw [this]; rfl
  · exact find?_eq d sub lo
end
end Mine
end

section
open PySem PySem.W PyProof.Rows PySem.Spec PySem.Calls
namespace Mine
theorem bound_int {i : Int} {u : Tok} : Builtin.Bytes.bound? (some (.int i u)) = pure (some i) := by
  unfold Builtin.Bytes.bound?
  show (specialOf (.int i u) "__index__" >>= fun r => _) = _
  have e : specialOf (.int i u) "__index__" = typeLookup (.type "int") "__index__" := rfl
  rw [e, PySem.F.slot_int_index.lookup]
  rfl
section
variable {prog : Program} {w : World} {A : Around} {E : Value → Shared → Prop} {s : Shared}
theorem window_nat {n i : Nat} : Builtin.Bytes.window n (some (i : Int)) none = ((i : Int), (n : Int)) := by
  unfold Builtin.Bytes.window
  simp only [Option.getD_some, Option.getD_none]
  rw [if_neg (by omega), if_neg (by omega)]
  simp
theorem window_none {n : Nat} : Builtin.Bytes.window n none none = (((0 : Nat) : Int), (n : Int)) := by
  unfold Builtin.Bytes.window
  simp only [Option.getD_none]
  rw [if_neg (by omega), if_neg (by omega)]
  simp

theorem search_end {k : Builtin.Bytes.Kind} {name : String} {d sub : List UInt8} {i : Nat} {R : PySem.Fin → Shared → Prop} (h : ∀ v, v = findI d sub i → R (.done (.ret (.int v s.toks))) { s with toks := s.toks + 1 }) :
    wpAny (model prog w) A (match (if ((d.length : Int) - (i : Int)) < (sub.length : Int) then none else some ((i : Int).toNat, (d.length : Int).toNat)).bind fun (x : Nat × Nat) => Builtin.Bytes.find? d.toArray sub.toArray x.1 x.2 with
      | some j => retInt j
      | none => do rule s!"{k.name}.{name}.not-found"; retInt (-1)) R E s := by
  have e : ((if ((d.length : Int) - (i : Int)) < (sub.length : Int) then none else some ((i : Int).toNat, (d.length : Int).toNat)).bind fun (x : Nat × Nat) => Builtin.Bytes.find? d.toArray sub.toArray x.1 x.2) = findFrom d sub i := by
    have := window_find (d := d) (sub := sub) (lo := i)
    rw [Int.min_self] at this
    simpa using this
  rw [e]
  unfold findI at h
  cases hf : findFrom d sub i with
  | some j => rw [hf] at h; exact wpAny_bind (wpAny_mkInt (wpAny_pure (h _ rfl)))
  | none => rw [hf] at h; exact wpAny_bind (wpAny_rule (wpAny_bind (wpAny_mkInt (wpAny_pure (h _ rfl)))))

theorem search_run3 {k : Builtin.Bytes.Kind} {name : String} {self : Value} {d sub : List UInt8} {t u : Tok} {i : Nat} {R : PySem.Fin → Shared → Prop} (hp : Looks (model prog w) s.heap (Builtin.Bytes.payload self) d.toArray)
    (h : ∀ v, v = findI d sub i → R (.done (.ret (.int v s.toks))) { s with toks := s.toks + 1 }) :
    wpAny (model prog w) A (Builtin.Bytes.searchM k name false false ⟨[self, .bytes sub.toArray t, .int (i : Int) u], []⟩) R E s := by
  unfold Builtin.Bytes.searchM
  refine wpAny_bind ?_
  unfold Builtin.Bytes.searchArgs
  refine wpAny_bind (wpAny_of_eq (a := (self, [.bytes sub.toArray t, .int (i : Int) u])) rfl ?_)
  refine wpAny_bind (wpAny_of_eq (a := some (i : Int)) bound_int ?_)
  refine wpAny_bind (wpAny_of_eq (a := none) rfl ?_)
  refine wpAny_bind (wpAny_of_eq (a := some sub.toArray) KBy.buffer_eq ?_)
  refine wpAny_bind (wpAny_pure ?_)
  refine wpAny_bind (hp.here ?_)
  rw [List.size_toArray, window_nat, List.size_toArray]
  exact wpAny_pure (search_end h)
theorem search_run2 {k : Builtin.Bytes.Kind} {name : String} {self : Value} {d sub : List UInt8} {t : Tok} {R : PySem.Fin → Shared → Prop} (hp : Looks (model prog w) s.heap (Builtin.Bytes.payload self) d.toArray)
    (h : ∀ v, v = findI d sub 0 → R (.done (.ret (.int v s.toks))) { s with toks := s.toks + 1 }) :
    wpAny (model prog w) A (Builtin.Bytes.searchM k name false false ⟨[self, .bytes sub.toArray t], []⟩) R E s := by
  unfold Builtin.Bytes.searchM
  refine wpAny_bind ?_
  unfold Builtin.Bytes.searchArgs
  refine wpAny_bind (wpAny_of_eq (a := (self, [.bytes sub.toArray t])) rfl ?_)
  refine wpAny_bind (wpAny_of_eq (a := none) rfl ?_)
  refine wpAny_bind (wpAny_of_eq (a := none) rfl ?_)
  refine wpAny_bind (wpAny_of_eq (a := some sub.toArray) KBy.buffer_eq ?_)
  refine wpAny_bind (wpAny_pure ?_)
  refine wpAny_bind (hp.here ?_)
  rw [List.size_toArray, window_none, List.size_toArray]
  exact wpAny_pure (search_end (i := 0) h)
theorem payload_bytes {M : Model} {h : Heap} {b : Array UInt8} {t : Tok} : Looks M h (Builtin.Bytes.payload (.bytes b t)) b := Looks.of_pure rfl

variable {Q : Value → Shared → Prop}
theorem ba_find3 {a : Addr} {d sub : List UInt8} {t u : Tok} {i : Nat} (e : s.heap.get? a = some (baObj d.toArray)) (h : ∀ v, v = findI d sub i → Q (.int v s.toks) { s with toks := s.toks + 1 }) :
    wpAny (model prog w) A (call (.builtin "bytearray.find") [.ref a, .bytes sub.toArray t, .int (i : Int) u]) Q E s :=
  wpAny_call_entry FA.slot_bytearray_find (tyBa e) FA.entry_bytearray_find (search_run3 (payloadBa e) fun v hv => ⟨_, rfl, h v hv⟩) (FA.args_bytearray_find_3 _ _ _)
theorem by_find3 {d sub : List UInt8} {tb t u : Tok} {i : Nat} (h : ∀ v, v = findI d sub i → Q (.int v s.toks) { s with toks := s.toks + 1 }) :
    wpAny (model prog w) A (call (.builtin "bytes.find") [.bytes d.toArray tb, .bytes sub.toArray t, .int (i : Int) u]) Q E s :=
  wpAny_call_entry FA.slot_bytes_find (typeIs_bytes s _ tb) FA.entry_bytes_find (search_run3 payload_bytes fun v hv => ⟨_, rfl, h v hv⟩) (FA.args_bytes_find_3 _ _ _)
theorem by_find2 {d sub : List UInt8} {tb t : Tok} (h : ∀ v, v = findI d sub 0 → Q (.int v s.toks) { s with toks := s.toks + 1 }) :
    wpAny (model prog w) A (call (.builtin "bytes.find") [.bytes d.toArray tb, .bytes sub.toArray t]) Q E s :=
  wpAny_call_entry FA.slot_bytes_find (typeIs_bytes s _ tb) FA.entry_bytes_find (search_run2 payload_bytes fun v hv => ⟨_, rfl, h v hv⟩) (FA.args_bytes_find_2 _ _)
end
end Mine
end

section
open PySem PySem.W PyProof.Rows PySem.Spec PySem.Calls
namespace Mine
namespace FA
theorem sub_by_ba : isSubtype (.type "bytes") (.type "bytearray") = pure false := by rw [isSubtype_type]; kernel_rfl
theorem look_dbytes : typeLookup (.type "bytearray") "__bytes__" = pure none := by rw [typeLookup_type, builtinLookup_eq_fast]; kernel_rfl
end FA
section
variable {prog : Program} {w : World} {A : Around} {E : Value → Shared → Prop} {s : Shared} {a : Addr} {d : List UInt8}
theorem bufferBaF {h : Heap} {b : Array UInt8} {M : Model} {id : String} {full : Bool} (e : h.get? a = some (baObj b)) : Looks M h (Builtin.Bytes.buffer? id (.ref a) full) (some b) := by
  unfold Builtin.Bytes.buffer?
  refine (specialBa e FA.look_buffer).andThen ?_
  refine (ownBuffer e).andThen ?_
  refine (specialBa e FA.look_buffer).andThen ?_
  refine (ownRel e).andThen ?_
  exact (payloadBa e).andThen .now
theorem quietBa {b : Array UInt8} {id : String} {Q : Option (Array UInt8) → Shared → Prop} {M : Model} (e : s.heap.get? a = some (baObj b)) (h : Q (some b) s) : wpAny M A (Builtin.Bytes.bufferQuiet? id (.ref a)) Q E s := by
  unfold Builtin.Bytes.bufferQuiet?
  exact wpAny_bind (wpAny_attempt ((bufferBaF e).here (wpAny_pure h)))

/-- == of a bytearray and a bytes -/
theorem ba_eq_bytes {c : List UInt8} {t : Tok} {Q : Value → Shared → Prop} (hu : A.units < cLine) (e : s.heap.get? a = some (baObj d.toArray)) (h : Q (.bool (d == c)) s) :
    wpAny (model prog w) A (richCompare .Eq (.ref a) (.bytes c.toArray t)) Q E s := by
  unfold richCompare
  refine wpAny_holding (wpAny_bind (wpAny_cRoomFor hu ?_))
  refine wpAny_bind (wpAny_typeOf (tyBa e) (wpAny_bind (wpAny_typeOf (typeIs_bytes s _ t) ?_)))
  show wpAny _ _ (isSubtype (.type "bytes") (.type "bytearray") >>= _) _ _ _
  refine wpAny_bind (wpAny_of_eq FA.sub_by_ba ?_)
  show wpAny _ _ (tryCompare (.ref a) (cmpInfo .Eq).2.1 (.bytes c.toArray t) >>= _) _ _ _
  refine wpAny_bind ?_
  unfold tryCompare
  refine wpAny_bind (wpAny_callSpecialIfBound?_slot (tyBa e) FA.slot_bytearray_eq (wpAny_call_entry FA.slot_bytearray_eq (tyBa e) FA.entry_bytearray_eq ?_ (FA.args_bytearray_eq_2 _ _)))
  unfold Builtin.«bytearray.__eq__»
  show wpAny _ _ (slotArgs "__eq__" 1 ⟨[.ref a, .bytes c.toArray t], []⟩ >>= _) _ _ _
  refine wpAny_bind (wpAny_of_eq (a := (.ref a, [.bytes c.toArray t])) rfl ?_)
  refine wpAny_bind ((bufferBaF e).here ?_)
  refine wpAny_bind (wpAny_of_eq KBy.quiet_eq ?_)
  refine wpAny_pure ⟨_, rfl, ?_⟩
  refine wpAny_pure (wpAny_pure ?_)
  have : Builtin.Bytes.holds "__eq__" (Builtin.Bytes.order d.toArray.toList c.toArray.toList) = (d == c) := order_eq d c
  rw [this]; exact h
/-- == of two bytearrays -/
theorem ba_eq_ba {a' : Addr} {c : List UInt8} {Q : Value → Shared → Prop} (hu : A.units < cLine) (e : s.heap.get? a = some (baObj d.toArray)) (e' : s.heap.get? a' = some (baObj c.toArray)) (h : Q (.bool (d == c)) s) :
    wpAny (model prog w) A (richCompare .Eq (.ref a) (.ref a')) Q E s := by
  unfold richCompare
  refine wpAny_holding (wpAny_bind (wpAny_cRoomFor hu ?_))
  simp only [oneThing_ref]
  refine wpAny_bind (wpAny_typeOf (tyBa e) (wpAny_bind (wpAny_typeOf (tyBa e') ?_)))
  refine wpAny_bind (wpAny_of_eq (a := false) rfl ?_)
  show wpAny _ _ (tryCompare (.ref a) (cmpInfo .Eq).2.1 (.ref a') >>= _) _ _ _
  refine wpAny_bind ?_
  unfold tryCompare
  refine wpAny_bind (wpAny_callSpecialIfBound?_slot (tyBa e) FA.slot_bytearray_eq (wpAny_call_entry FA.slot_bytearray_eq (tyBa e) FA.entry_bytearray_eq ?_ (FA.args_bytearray_eq_2 _ _)))
  unfold Builtin.«bytearray.__eq__»
  show wpAny _ _ (slotArgs "__eq__" 1 ⟨[.ref a, .ref a'], []⟩ >>= _) _ _ _
  refine wpAny_bind (wpAny_of_eq (a := (.ref a, [.ref a'])) rfl ?_)
  refine wpAny_bind ((bufferBaF e).here ?_)
  refine wpAny_bind (quietBa e' ?_)
  refine wpAny_pure ⟨_, rfl, ?_⟩
  refine wpAny_pure (wpAny_pure ?_)
  have : Builtin.Bytes.holds "__eq__" (Builtin.Bytes.order d.toArray.toList c.toArray.toList) = (d == c) := order_eq d c
  rw [this]; exact h

theorem tail_match {k : Builtin.Bytes.Kind} {name : String} {self : Value} {sub : List UInt8} {t : Tok} {R : PySem.Fin → Shared → Prop} (hp : Looks (model prog w) s.heap (Builtin.Bytes.payload self) d.toArray)
    (h : ∀ r : Bool, r = (if d.length < sub.length then false else d.drop (d.length - sub.length) == sub) → R (.done (.ret (.bool r))) s) :
    wpAny (model prog w) A (Builtin.Bytes.tailMatchM k name true ⟨[self, .bytes sub.toArray t], []⟩) R E s := by
  unfold Builtin.Bytes.tailMatchM
  refine wpAny_bind (wpAny_of_eq (a := (self, [.bytes sub.toArray t])) rfl ?_)
  refine wpAny_bind (wpAny_of_eq (a := none) rfl ?_)
  refine wpAny_bind (wpAny_of_eq (a := none) rfl ?_)
  refine wpAny_bind (hp.here ?_)
  rw [List.size_toArray, window_none]
  have hi : isInstance (.bytes sub.toArray t) (.type "tuple") = pure false := by
    have e : isInstance (.bytes sub.toArray t) (.type "tuple") = isSubtype (.type "bytes") (.type "tuple") := rfl
    rw [e, isSubtype_type]; kernel_rfl
  refine wpAny_bind (wpAny_of_eq hi ?_)
  show wpAny _ _ (Builtin.Bytes.buffer? _ (.bytes sub.toArray t) >>= _) _ _ _
  refine wpAny_bind (wpAny_of_eq KBy.buffer_eq ?_)
  refine wpAny_pure (h _ ?_)
  dsimp only
  rw [List.size_toArray]
  by_cases hlt : d.length < sub.length
  · rw [if_pos hlt, if_pos (by omega)]
  · rw [if_neg hlt, if_neg (by omega)]
    have e1 : ((d.length : Int).toNat) = d.length := by omega
    simp only [e1, if_true]
    have : d.toArray.extract (d.length - sub.length) d.length = (d.drop (d.length - sub.length)).toArray := by
      rw [List.extract_toArray, List.extract_eq_take_drop, List.take_of_length_le (by simp)]
    rw [this]
    rw [Bool.eq_iff_iff]; simp
theorem ba_endswith {sub : List UInt8} {t : Tok} {Q : Value → Shared → Prop} (e : s.heap.get? a = some (baObj d.toArray)) (h : ∀ r : Bool, r = (if d.length < sub.length then false else d.drop (d.length - sub.length) == sub) → Q (.bool r) s) :
    wpAny (model prog w) A (call (.builtin "bytearray.endswith") [.ref a, .bytes sub.toArray t]) Q E s :=
  wpAny_call_entry FA.slot_bytearray_endswith (tyBa e) FA.entry_bytearray_endswith (tail_match (payloadBa e) fun r hr => ⟨_, rfl, h r hr⟩) (FA.args_bytearray_endswith_2 _ _)

theorem bytes_new_ba {Q : Value → Shared → Prop} (e : s.heap.get? a = some (baObj d.toArray)) (hz : d.length ≤ sizeLine) (hQ : Q (.bytes d.toArray s.toks) { s with toks := s.toks + 1 }) :
    codeAny (model prog w) A (.call (.builtin "bytes.__new__") ⟨[.type "bytes", .ref a], []⟩) (wants Q E) s := by
  refine codeAny_of_tree ?_
  show wpAny _ A.in1 (do checkBuiltinCall "bytes.__new__" ⟨[.type "bytes", .ref a], []⟩; again (.builtin "bytes.__new__" ⟨[.type "bytes", .ref a], []⟩)) _ _ s
  refine wpAny_bind (wpAny_of_eq (PySem.F.bm_newCall _) (wpAny_pure ⟨plainId_quiet PySem.F.bm_plain _, codeAny_builtin PySem.F.bm_entry ?_⟩))
  rw [Around.under_plainId PySem.F.bm_plain _]
  unfold Builtin.«bytes.__new__»
  refine wpAny_bind (wpAny_of_eq (a := true) rfl ?_)
  refine bm_if_false rfl ?_
  refine wpAny_bind (wpAny_of_eq PySem.F.bm_sub ?_)
  refine bm_if_false rfl ?_
  refine wpAny_bind (wpAny_of_eq (PySem.F.bm_bind _) ?_)
  refine wpAny_bind (wpAny_of_eq (a := ()) rfl ?_)
  refine wpAny_bind (wpAny_of_eq (a := ()) rfl ?_)
  refine bm_if_false rfl ?_
  refine wpAny_bind ((specialBa e FA.look_dbytes).here ?_)
  refine wpAny_bind (wpAny_bind ?_)
  show wpAny _ _ (load a >>= _) _ _ _
  refine wpAny_bind (wpAny_load e ?_)
  refine wpAny_pure (wpAny_pure ?_)
  refine bm_if_false rfl ?_
  refine wpAny_bind ((specialBa e FA.look_index).here ?_)
  refine bm_if_true rfl ?_
  first
    | show wpAny _ _ (Builtin.Bytes.buffer? "bytes.__new__" (.ref a) true >>= _) _ _ _
    | (refine wpAny_bind ?_; show wpAny _ _ (Builtin.Bytes.buffer? "bytes.__new__" (.ref a) true >>= _) _ _ _)
  refine wpAny_bind ((bufferBaF e).here ?_)
  refine wpAny_bind (wpAny_rule ?_)
  refine wpAny_bind (wpAny_mkBytes ?_ (by rw [List.size_toArray]; exact hz))
  show wpAny _ _ (if (Value.type "bytes" == Value.type "bytes") = true then _ else _) _ _ _
  refine bm_if_true (by decide) ?_
  first
    | exact wpAny_pure hQ
    | exact wpAny_bind (wpAny_pure (wpAny_pure hQ))
    | exact wpAny_pure (wpAny_pure hQ)
/-- bytes(x) of a bytearray -/
theorem bytes_of_ba {Q : Value → Shared → Prop} (e : s.heap.get? a = some (baObj d.toArray)) (hz : d.length ≤ sizeLine) (hQ : Q (.bytes d.toArray s.toks) { s with toks := s.toks + 1 }) :
    wpAny (model prog w) A (call (.type "bytes") [.ref a]) Q E s := by
  refine callType_codes (Q₁ := fun obj s₁ => s₁.TypeIs obj "bytes" ∧ Q obj s₁) PySem.F.bm_called (PySem.F.bm_typeCall _) PySem.F.entry_object_init
    (bytes_new_ba e hz ⟨typeIs_bytes _ _ _, hQ⟩) fun obj s₁ h₁ => ?_
  exact ⟨h₁.1, PySem.F.args_object_init_2 obj _, object_init_meets PySem.F.bm_called.init.lookup PySem.F.bm_called.made (by decide) prog w A.in1 _ s₁ ⟨h₁.1, rfl, h₁.2⟩⟩
end
end Mine
end

section
open PySem PySem.W PyProof.Rows PySem.Spec PySem.Calls
namespace Mine
section
variable {prog : Program} {w : World} {A : Around} {E : Value → Shared → Prop} {s : Shared} {a : Addr} {d : List UInt8} {value slice : Expr} {Q : Value → Shared → Prop}
theorem subscript_int {M : Model} {h : Heap} {i : Int} {u : Tok} (hr : Builtin.Bytes.fitsIndex i = true) : Looks M h (Builtin.Bytes.subscript? (.int i u)) (some i) := by
  have e : Builtin.Bytes.subscript? (.int i u) = pure (some i) := by
    unfold Builtin.Bytes.subscript?
    have e : specialOf (.int i u) "__index__" = typeLookup (.type "int") "__index__" := rfl
    rw [e, PySem.F.slot_int_index.lookup]
    show (if (!Builtin.Bytes.fitsIndex i) = true then _ else pure (some i)) = _
    rw [hr]; rfl
  exact Looks.of_pure e
theorem ba_item0 {u : Tok} {c : UInt8} {r : List UInt8} (hd : d = c :: r) (e : s.heap.get? a = some (baObj d.toArray)) (h : Q (.int c.toNat s.toks) { s with toks := s.toks + 1 })
    (hs : subscripted slice false (.ref a) (.int 0 u) = operate [.ref a, .int 0 u] (getItem (.ref a) (.int 0 u)) := by with_unfolding_all rfl) :
    wpAny (model prog w) A (subscriptTail value slice (.ref a) (.int 0 u)) Q E s := by
  refine tail_any (tyBa e) FA.slot_bytearray_getitem.lookup (wpAny_getItem_slot (tyBa e) (by decide) FA.slot_bytearray_getitem (wpAny_call_entry FA.slot_bytearray_getitem (tyBa e) FA.entry_bytearray_getitem ?_ (FA.args_bytearray_getitem_2 _ _))) hs
  unfold Builtin.«bytearray.__getitem__»
  refine wpAny_bind (wpAny_of_eq (a := (.ref a, [.int 0 u])) rfl ?_)
  refine wpAny_bind ((subscript_int (by decide)).here ?_)
  refine wpAny_bind ((payloadBa e).here ?_)
  subst hd
  show wpAny _ _ (match (seqIndex? 0 (c :: r).toArray.size).bind ((c :: r).toArray[·]?) with | some x => retInt x.toNat | none => _) _ _ _
  have : (seqIndex? 0 (c :: r).toArray.size).bind ((c :: r).toArray[·]?) = some c := by
    have hz : seqIndex? 0 (c :: r).toArray.size = some 0 := by simp [seqIndex?]
    rw [hz]; rfl
  rw [this]
  exact wpAny_bind (wpAny_mkInt (wpAny_pure ⟨_, rfl, h⟩))
theorem ba_item_out {u : Tok} (hA : A.handled = none) (hd : d = []) (e : s.heap.get? a = some (baObj d.toArray))
    (hE : ∀ h' tk x, Heap.NewExc s.heap h' x "IndexError" → E (.ref x) { s with heap := h', toks := tk })
    (hs : subscripted slice false (.ref a) (.int 0 u) = operate [.ref a, .int 0 u] (getItem (.ref a) (.int 0 u)) := by with_unfolding_all rfl) :
    wpAny (model prog w) A (subscriptTail value slice (.ref a) (.int 0 u)) Q E s := by
  refine tail_any (tyBa e) FA.slot_bytearray_getitem.lookup (wpAny_getItem_slot (tyBa e) (by decide) FA.slot_bytearray_getitem (wpAny_call_entry FA.slot_bytearray_getitem (tyBa e) FA.entry_bytearray_getitem ?_ (FA.args_bytearray_getitem_2 _ _))) hs
  unfold Builtin.«bytearray.__getitem__»
  refine wpAny_bind (wpAny_of_eq (a := (.ref a, [.int 0 u])) rfl ?_)
  refine wpAny_bind ((subscript_int (by decide)).here ?_)
  refine wpAny_bind ((payloadBa e).here ?_)
  subst hd
  have hz : (seqIndex? 0 ([] : List UInt8).toArray.size).bind (([] : List UInt8).toArray[·]?) = none := rfl
  clear hs
  first
    | exact wpAny_bind (wpAny_rule (by exact_raiseError plainExc_IndexError hA hE))
    | exact wpAny_bind (wpAny_rule (wpAny_bind (by exact_raiseError plainExc_IndexError hA hE)))
    | exact wpAny_bind (wpAny_bind (wpAny_rule (by exact_raiseError plainExc_IndexError hA hE)))
    | exact wpAny_bind (wpAny_bind (wpAny_bind (wpAny_rule (by exact_raiseError plainExc_IndexError hA hE))))
    | exact wpAny_rule (by exact_raiseError plainExc_IndexError hA hE)
end
end Mine
end

section
open PySem PySem.W PyProof.Rows PySem.Spec PySem.Calls
namespace Mine
section
variable {prog : Program} {w : World} {A : Around} {E : Value → Shared → Prop} {s : Shared} {h₀ : Heap} {L a : Addr} {m : Str → Option Value} {news : List (Addr × Obj)} {d : List UInt8}
theorem truthyN {Q : Bool → Shared → Prop} (N : News h₀ L s.heap news) (hm : (a, baObj d.toArray) ∈ news) (hz : d.length ≤ 16777216) (h : ∀ k, Q (!d.isEmpty) { s with toks := k }) : wpAny (model prog w) A (truthy (.ref a)) Q E s := by
  refine ba_truthy (N _ hm).1 (by rw [List.size_toArray]; omega) ?_
  have : ((d.toArray.size : Int) != 0) = !d.isEmpty := by cases d <;> simp <;> omega
  rw [this]; exact h _
theorem lenN {Q : Value → Shared → Prop} (N : News h₀ L s.heap news) (hm : (a, baObj d.toArray) ∈ news) (hz : d.length ≤ 16777216) (h : ∀ t k, Q (.int (d.length : Int) t) { s with toks := k }) : wpAny (model prog w) A (call (.builtin "len") [.ref a]) Q E s := by
  refine ba_len (N _ hm).1 (by rw [List.size_toArray]; omega) ?_
  rw [List.size_toArray]; exact h _ _
theorem getMethodN {name : Str} {id : String} {pl : Sem Bool} {Q : Value × List Value → Shared → Prop} (N : News h₀ L s.heap news) (hm : (a, baObj d.toArray) ∈ news) (slot : Slot "bytearray" name id) (hty : typeOf (.builtin id) = pure (.type "method_descriptor"))
    (h : Q (.builtin id, [.ref a]) s) : wpAny (model prog w) A (getMethod (.ref a) name pl) Q E s :=
  getMethod_builtin (tyBa (N _ hm).1) FA.plainAttrs_bytearray slot hty (fun b e => by cases e; exact ⟨_, (N _ hm).1, rfl⟩) h
theorem getMethodB {name : Str} {id : String} {pl : Sem Bool} {b : Array UInt8} {t : Tok} {Q : Value × List Value → Shared → Prop} (slot : Slot "bytes" name id) (hty : typeOf (.builtin id) = pure (.type "method_descriptor"))
    (h : Q (.builtin id, [.bytes b t]) s) : wpAny (model prog w) A (getMethod (.bytes b t) name pl) Q E s :=
  getMethod_builtin (typeIs_bytes s b t) FB.plainAttrs_bytes slot hty (fun b e => by cases e) h
theorem find3N {sub : List UInt8} {t u : Tok} {i : Int} {Q : Value → Shared → Prop} (N : News h₀ L s.heap news) (hm : (a, baObj d.toArray) ∈ news) (hi : 0 ≤ i) (h : ∀ v t' k, v = findI d sub i.toNat → Q (.int v t') { s with toks := k }) :
    wpAny (model prog w) A (call (.builtin "bytearray.find") [.ref a, .bytes sub.toArray t, .int i u]) Q E s := by
  obtain ⟨j, rfl⟩ := Int.eq_ofNat_of_zero_le hi
  exact ba_find3 (N _ hm).1 fun v hv => h v _ _ hv
theorem find3B {sub : List UInt8} {tb t u : Tok} {i : Int} {Q : Value → Shared → Prop} (hi : 0 ≤ i) (h : ∀ v t' k, v = findI d sub i.toNat → Q (.int v t') { s with toks := k }) :
    wpAny (model prog w) A (call (.builtin "bytes.find") [.bytes d.toArray tb, .bytes sub.toArray t, .int i u]) Q E s := by
  obtain ⟨j, rfl⟩ := Int.eq_ofNat_of_zero_le hi
  exact by_find3 fun v hv => h v _ _ hv
theorem find2B {sub : List UInt8} {tb t : Tok} {Q : Value → Shared → Prop} (h : ∀ v t' k, v = findI d sub 0 → Q (.int v t') { s with toks := k }) :
    wpAny (model prog w) A (call (.builtin "bytes.find") [.bytes d.toArray tb, .bytes sub.toArray t]) Q E s := by_find2 fun v hv => h v _ _ hv
theorem eqN {c : List UInt8} {t : Tok} {Q : Value → Shared → Prop} (hu : A.units < cLine) (N : News h₀ L s.heap news) (hm : (a, baObj d.toArray) ∈ news) (h : Q (.bool (d == c)) s) :
    wpAny (model prog w) A (compareOp .Eq (.ref a) (.bytes c.toArray t)) Q E s := ba_eq_bytes hu (N _ hm).1 h
theorem eqNN {a' : Addr} {c : List UInt8} {Q : Value → Shared → Prop} (hu : A.units < cLine) (N : News h₀ L s.heap news) (hm : (a, baObj d.toArray) ∈ news) (hm' : (a', baObj c.toArray) ∈ news) (h : Q (.bool (d == c)) s) :
    wpAny (model prog w) A (compareOp .Eq (.ref a) (.ref a')) Q E s := ba_eq_ba hu (N _ hm).1 (N _ hm').1 h
theorem bytesN {Q : Value → Shared → Prop} (N : News h₀ L s.heap news) (hm : (a, baObj d.toArray) ∈ news) (hz : d.length ≤ 16777216) (h : ∀ t k, Q (.bytes d.toArray t) { s with toks := k }) :
    wpAny (model prog w) A (call (.type "bytes") [.ref a]) Q E s := bytes_of_ba (N _ hm).1 (by rw [sizeLine_eq]; exact hz) (h _ _)
theorem endsN {sub : List UInt8} {t : Tok} {Q : Value → Shared → Prop} (N : News h₀ L s.heap news) (hm : (a, baObj d.toArray) ∈ news) (h : ∀ r : Bool, r = (if d.length < sub.length then false else d.drop (d.length - sub.length) == sub) → Q (.bool r) s) :
    wpAny (model prog w) A (call (.builtin "bytearray.endswith") [.ref a, .bytes sub.toArray t]) Q E s := ba_endswith (N _ hm).1 h
theorem eqB {c : List UInt8} {t u : Tok} {Q : Value → Shared → Prop} (h : Q (.bool (d == c)) s) : wpAny (model prog w) A (compareOp .Eq (.bytes d.toArray t) (.bytes c.toArray u)) Q E s := eq_bytes h
theorem neB {c : List UInt8} {t u : Tok} {Q : Value → Shared → Prop} (h : Q (.bool (!(d == c))) s) : wpAny (model prog w) A (compareOp .NotEq (.bytes d.toArray t) (.bytes c.toArray u)) Q E s := ne_bytes h
theorem lenB {t : Tok} {Q : Value → Shared → Prop} (hz : d.length ≤ 16777216) (h : ∀ t k, Q (.int (d.length : Int) t) { s with toks := k }) : wpAny (model prog w) A (call (.builtin "len") [.bytes d.toArray t]) Q E s := by
  refine len_bytes (by rw [List.size_toArray]; omega) ?_
  rw [List.size_toArray]; exact h _ _
theorem addB {c : List UInt8} {t u : Tok} {Q : Value → Shared → Prop} (hz : d.length + c.length ≤ 16777216) (h : ∀ t' k, Q (.bytes (d ++ c).toArray t') { s with toks := k }) : wpAny (model prog w) A (binaryOp .Add (.bytes d.toArray t) (.bytes c.toArray u)) Q E s := by
  refine KBy.add_bytes (by simpa using hz) fun t' k => ?_
  have : d.toArray ++ c.toArray = (d ++ c).toArray := by simp
  rw [this]; exact h _ _
end
end Mine
end

section
open PySem PySem.W PyProof.Rows PySem.Spec PySem.Calls
namespace Mine
section
variable {prog : Program} {w : World} {A : Around} {E : Value → Shared → Prop} {s : Shared} {h₀ : Heap} {L a : Addr} {m : Str → Option Value} {news : List (Addr × Obj)} {value slice : Expr} {Q : Value → Shared → Prop}
theorem itemN0 {u : Tok} {c : UInt8} {r : List UInt8} (N : News h₀ L s.heap news) (hm : (a, baObj (c :: r).toArray) ∈ news) (h : ∀ t k, Q (.int c.toNat t) { s with toks := k })
    (hs : subscripted slice false (.ref a) (.int 0 u) = operate [.ref a, .int 0 u] (getItem (.ref a) (.int 0 u)) := by with_unfolding_all rfl) :
    wpAny (model prog w) A (subscriptTail value slice (.ref a) (.int 0 u)) Q E s := ba_item0 rfl (N _ hm).1 (h _ _) hs
theorem itemN_out {u : Tok} (hA : A.handled = none) (N : News h₀ L s.heap news) (hm : (a, baObj ([] : List UInt8).toArray) ∈ news)
    (hE : ∀ h' tk x, Heap.NewExc s.heap h' x "IndexError" → E (.ref x) { s with heap := h', toks := tk })
    (hs : subscripted slice false (.ref a) (.int 0 u) = operate [.ref a, .int 0 u] (getItem (.ref a) (.int 0 u)) := by with_unfolding_all rfl) :
    wpAny (model prog w) A (subscriptTail value slice (.ref a) (.int 0 u)) Q E s := ba_item_out hA rfl (N _ hm).1 hE hs
theorem itemB0 {u t : Tok} {c : UInt8} {r : List UInt8} (hz : (c :: r).length ≤ 16777216) (h : ∀ t k, Q (.int c.toNat t) { s with toks := k })
    (hs : subscripted slice false (.bytes (c :: r).toArray t) (.int 0 u) = operate [.bytes (c :: r).toArray t, .int 0 u] (getItem (.bytes (c :: r).toArray t) (.int 0 u)) := by with_unfolding_all rfl)
    (ht : ∀ x, letTemporaryGo value (.bytes (c :: r).toArray t) x = pure () := by intro _; with_unfolding_all rfl) :
    wpAny (model prog w) A (subscriptTail value slice (.bytes (c :: r).toArray t) (.int 0 u)) Q E s :=
  KBy.item_N (x := c :: r) (by omega) (by omega) (by rw [List.length_cons]; omega) (h _ _) hs ht
end
end Mine
end

section
open PySem PySem.W PyProof.Rows PySem.Spec PySem.Calls
namespace Mine
theorem picked_uptoE {d X : List UInt8} {c : Int} (h : 0 ≤ c) (e : d.take c.toNat = X) : KBy.picked d.toArray none (some c) = X.toArray := by rw [← e]; exact picked_upto h
theorem picked_fromE {d X : List UInt8} {c : Int} (h : 0 ≤ c) (e : d.drop c.toNat = X) : KBy.picked d.toArray (some c) none = X.toArray := by rw [← e]; exact picked_from h
theorem drop_len {d T : List UInt8} {c : Nat} (e : d.take c = T) : d.drop ((T.length : Nat) : Int).toNat = d.drop c := by
  subst e
  rw [Int.toNat_natCast, List.length_take]
  rcases Nat.le_total c d.length with q | q
  · rw [Nat.min_eq_left q]
  · rw [Nat.min_eq_right q, List.drop_eq_nil_of_le (Nat.le_refl _), List.drop_eq_nil_of_le q]
theorem noEol_zero (d : List UInt8) : NoEol d 0 := fun i h => by omega
theorem noBlank_zero (d : List UInt8) : NoBlank d 0 := fun i h => by omega
section
variable {prog : Program} {w : World} {A : Around} {E : Value → Shared → Prop} {s : Shared} {h₀ : Heap} {L a : Addr} {m : Str → Option Value} {news : List (Addr × Obj)} {d : List UInt8}
theorem find3NE {sub : List UInt8} {t u : Tok} {i v : Int} {Q : Value → Shared → Prop} (N : News h₀ L s.heap news) (hm : (a, baObj d.toArray) ∈ news) (hi : 0 ≤ i) (hf : findI d sub i.toNat = v) (h : ∀ t' k, Q (.int v t') { s with toks := k }) :
    wpAny (model prog w) A (call (.builtin "bytearray.find") [.ref a, .bytes sub.toArray t, .int i u]) Q E s := find3N N hm hi fun v' t' k e => by rw [e, hf]; exact h _ _
theorem find3BE {sub : List UInt8} {tb t u : Tok} {i v : Int} {Q : Value → Shared → Prop} (hi : 0 ≤ i) (hf : findI d sub i.toNat = v) (h : ∀ t' k, Q (.int v t') { s with toks := k }) :
    wpAny (model prog w) A (call (.builtin "bytes.find") [.bytes d.toArray tb, .bytes sub.toArray t, .int i u]) Q E s := find3B hi fun v' t' k e => by rw [e, hf]; exact h _ _
theorem find2BE {sub : List UInt8} {tb t : Tok} {v : Int} {Q : Value → Shared → Prop} (hf : findI d sub 0 = v) (h : ∀ t' k, Q (.int v t') { s with toks := k }) :
    wpAny (model prog w) A (call (.builtin "bytes.find") [.bytes d.toArray tb, .bytes sub.toArray t]) Q E s := find2B fun v' t' k e => by rw [e, hf]; exact h _ _
end
end Mine
namespace Mine
theorem picked_midE {d X : List UInt8} {a c : Int} (ha : 0 ≤ a) (hc : 0 ≤ c) (e : (d.take c.toNat).drop a.toNat = X) : KBy.picked d.toArray (some a) (some c) = X.toArray := by rw [← e]; exact picked_mid ha hc
theorem picked_initE {d X : List UInt8} (e : d.dropLast = X) : KBy.picked d.toArray none (some (-1)) = X.toArray := by rw [← e]; exact picked_init
theorem picked_lastE {d X : List UInt8} (e : d.drop (d.length - 1) = X) : KBy.picked d.toArray (some (-1)) none = X.toArray := by rw [← e]; exact picked_last
end Mine
end

section
open PySem PySem.W PyProof.Rows PySem.Spec PySem.Calls
namespace Mine
def At (d sub : List UInt8) (j : Nat) : Prop := (d.drop j).take sub.length = sub
theorem At.le {d sub : List UInt8} {j : Nat} (h : At d sub j) (hs : sub ≠ []) : j + sub.length ≤ d.length := by
  have := congrArg List.length h
  rw [List.length_take, List.length_drop] at this
  have : 0 < sub.length := List.length_pos_iff.mpr hs
  omega
theorem at_two {d : List UInt8} {a b : UInt8} {j : Nat} : At d [a, b] j ↔ (d[j]? = some a ∧ d[j + 1]? = some b) := by
  have e0 : d[j]? = (d.drop j)[0]? := by rw [List.getElem?_drop, Nat.add_zero]
  have e1 : d[j + 1]? = (d.drop j)[1]? := by rw [List.getElem?_drop]
  rw [e0, e1]
  unfold At
  generalize d.drop j = r
  rcases r with _ | ⟨x, _ | ⟨y, r⟩⟩ <;> simp
theorem at_three {d : List UInt8} {a b c : UInt8} {j : Nat} : At d [a, b, c] j ↔ (d[j]? = some a ∧ d[j + 1]? = some b ∧ d[j + 2]? = some c) := by
  have e0 : d[j]? = (d.drop j)[0]? := by rw [List.getElem?_drop, Nat.add_zero]
  have e1 : d[j + 1]? = (d.drop j)[1]? := by rw [List.getElem?_drop]
  have e2 : d[j + 2]? = (d.drop j)[2]? := by rw [List.getElem?_drop]
  rw [e0, e1, e2]
  unfold At
  generalize d.drop j = r
  rcases r with _ | ⟨x, _ | ⟨y, _ | ⟨z, r⟩⟩⟩ <;> simp
theorem at_one {d : List UInt8} {a : UInt8} {j : Nat} : At d [a] j ↔ d[j]? = some a := by
  have e0 : d[j]? = (d.drop j)[0]? := by rw [List.getElem?_drop, Nat.add_zero]
  rw [e0]
  unfold At
  generalize d.drop j = r
  rcases r with _ | ⟨x, r⟩ <;> simp
theorem findFrom_none {d sub : List UInt8} {i : Nat} (hs : sub ≠ []) : findFrom d sub i = none ↔ ∀ j, i ≤ j → ¬ At d sub j := by
  unfold findFrom
  rw [List.find?_eq_none]
  constructor
  · intro h j hj ha
    have hle := ha.le hs
    refine h j (List.mem_map.mpr ⟨j - i, List.mem_range.mpr (by omega), by omega⟩) ?_
    simpa [At] using ha
  · intro h x hx
    obtain ⟨k, hk, rfl⟩ := List.mem_map.mp hx
    have := h (k + i) (by omega)
    simpa [At] using this
theorem findFrom_some {d sub : List UInt8} {i j : Nat} (hs : sub ≠ []) : findFrom d sub i = some j ↔ (i ≤ j ∧ At d sub j ∧ ∀ k, i ≤ k → k < j → ¬ At d sub k) := by
  have key : ∀ n a, (((List.range' a n)).find? fun j => ((d.drop j).take sub.length == sub)) = some j ↔ (a ≤ j ∧ j < a + n ∧ At d sub j ∧ ∀ k, a ≤ k → k < j → ¬ At d sub k) := by
    intro n
    induction n with
    | zero => intro a; simp; omega
    | succ n ih =>
      intro a
      rw [List.range'_succ, List.find?_cons]
      by_cases hb : At d sub a
      · have : ((d.drop a).take sub.length == sub) = true := by simpa [At] using hb
        rw [this]
        constructor
        · intro h
          obtain rfl : a = j := Option.some.inj h
          exact ⟨Nat.le_refl _, by omega, hb, fun k h1 h2 => by omega⟩
        · rintro ⟨h1, h2, h3, h4⟩
          rcases Nat.lt_or_ge a j with q | q
          · exact absurd hb (h4 a (Nat.le_refl _) q)
          · have : a = j := by omega
            rw [this]
      · have : ((d.drop a).take sub.length == sub) = false := by simpa [At] using hb
        rw [this]
        show (List.find? _ (List.range' (a + 1) n)) = some j ↔ _
        rw [ih]
        constructor
        · rintro ⟨h1, h2, h3, h4⟩
          refine ⟨by omega, by omega, h3, fun k h5 h6 => ?_⟩
          rcases Nat.eq_or_lt_of_le h5 with rfl | h7
          · exact hb
          · exact h4 k h7 h6
        · rintro ⟨h1, h2, h3, h4⟩
          have : a ≠ j := fun e => hb (e ▸ h3)
          exact ⟨by omega, by omega, h3, fun k h5 h6 => h4 k (by omega) h6⟩
  unfold findFrom
  have e : (List.range (d.length + 1 - (i + sub.length))).map (· + i) = List.range' i (d.length + 1 - (i + sub.length)) := by
    rw [show (fun x => x + i) = (fun x => i + x) from funext fun x => Nat.add_comm x i, List.range_eq_range', List.map_add_range', Nat.add_zero]
  have e' : (List.range (d.length + 1 - (i + sub.length))).map (· + i) = List.range' i (d.length + 1 - (i + sub.length)) := e
  rw [e', key]
  constructor
  · rintro ⟨h1, _, h3, h4⟩; exact ⟨h1, h3, h4⟩
  · rintro ⟨h1, h3, h4⟩
    have := h3.le hs
    exact ⟨h1, by omega, h3, h4⟩
theorem findI_skip {d sub : List UInt8} {i : Nat} (hs : sub ≠ []) (h : ∀ k, k < i → ¬ At d sub k) : findI d sub i = findI d sub 0 := by
  unfold findI
  rcases e : findFrom d sub i with _ | j
  · rw [findFrom_none hs] at e
    rw [(findFrom_none (i := 0) hs).mpr fun j _ => by
      rcases Nat.lt_or_ge j i with q | q
      · exact h j q
      · exact e j q]
  · rw [findFrom_some hs] at e
    obtain ⟨e1, e2, e3⟩ := e
    rw [(findFrom_some (i := 0) (j := j) hs).mpr ⟨Nat.zero_le _, e2, fun k _ hk => by
      rcases Nat.lt_or_ge k i with q | q
      · exact h k q
      · exact e3 k q hk⟩]
theorem findI_cases {d sub : List UInt8} {i : Nat} (hs : sub ≠ []) : (findI d sub i = -1 ∧ ∀ j, i ≤ j → ¬ At d sub j) ∨ ∃ j : Nat, findI d sub i = (j : Int) ∧ i ≤ j ∧ At d sub j ∧ (∀ k, i ≤ k → k < j → ¬ At d sub k) ∧ j + sub.length ≤ d.length := by
  unfold findI
  rcases e : findFrom d sub i with _ | j
  · exact .inl ⟨rfl, (findFrom_none hs).mp e⟩
  · obtain ⟨e1, e2, e3⟩ := (findFrom_some hs).mp e
    exact .inr ⟨j, rfl, e1, e2, e3, e2.le hs⟩
theorem next_ix {d : List UInt8} {sa : Nat} (h : NoEol d sa) : findI d [13, 10] (if (sa : Int) - 1 > 0 then (sa : Int) - 1 else 0).toNat = findI d [13, 10] 0 := by
  refine findI_skip (by simp) fun k hk ha => h k ?_ (at_two.mp ha)
  split at hk <;> omega
theorem next_nn (sa : Nat) : 0 ≤ (if (sa : Int) - 1 > 0 then (sa : Int) - 1 else 0) := by split <;> omega
theorem noEol_of {d : List UInt8} (h : ∀ j, 0 ≤ j → ¬ At d [13, 10] j) (n : Nat) : NoEol d n := fun i _ ha => h i (Nat.zero_le _) (at_two.mpr ha)
end Mine
end

section
open PySem PySem.W PyProof.Rows PySem.Spec PySem.Calls
namespace Mine
def AllP : List Value → Prop
  | [] => True
  | v :: r => (∃ p t, v = .bytes (List.toArray p) t ∧ p.length ≤ 6) ∧ AllP r
theorem AllP.get : ∀ {l : List Value} {j : Nat}, AllP l → j < l.length → ∃ v, l[j]? = some v ∧ ∃ p t, v = .bytes (List.toArray p) t ∧ p.length ≤ 6
  | [], _, _, h => by simp at h
  | v :: r, 0, h, _ => ⟨v, rfl, h.1⟩
  | v :: r, j + 1, h, hj => by
    obtain ⟨u, hu, hp⟩ := AllP.get (l := r) (j := j) h.2 (by simpa using hj)
    exact ⟨u, by simpa using hu, hp⟩
section
variable {prog : Program} {w : World} {A : Around} {E : Value → Shared → Prop} {s : Shared} {h₀ : Heap} {L a : Addr} {m : Str → Option Value} {news : List (Addr × Obj)} {value slice : Expr} {Q : Value → Shared → Prop}
theorem item_piece {l : Addr} {items : List Value} {i : Int} {u : Tok} (hl : s.heap.IsList l items.toArray) (hall : AllP items) (h0 : 0 ≤ i) (h1 : i < (items.length : Int)) (h2 : i < 2 ^ 63) (h : ∀ p t, p.length ≤ 6 → Q (.bytes (List.toArray p) t) s)
    (hs : subscripted slice false (.ref l) (.int i u) = operate [.ref l, .int i u] (getItem (.ref l) (.int i u)) := by with_unfolding_all rfl) :
    wpAny (model prog w) A (subscriptTail value slice (.ref l) (.int i u)) Q E s := by
  obtain ⟨v, hv, p, t, rfl, hp⟩ := hall.get (j := i.toNat) (by omega)
  exact tail_any hl.typeIs slot_list_getitem.lookup (wpAny_getItem_list hl h0 h2 (by simpa using hv) (h p t hp)) hs
theorem fr_piece {x : Addr} {h : Heap} {r p : Value} (F : Fr h₀ L h m) (h0 : m "piece" = some p) (h1 : m "buffer" = some (.ref x)) (h2 : m "rest" = some r) :
    Fr h₀ L h (fun y => if y = Str.ofString "piece" then some p else if y = Str.ofString "buffer" then some (.ref x) else if y = Str.ofString "rest" then some r else m y) := by
  have F := fr_two F h1 h2
  have e : (fun y => if y = Str.ofString "buffer" then some (.ref x) else if y = Str.ofString "rest" then some r else m y) = (fun y => if y = Str.ofString "piece" then some p else if y = Str.ofString "buffer" then some (.ref x) else if y = Str.ofString "rest" then some r else m y) := by
    funext y
    by_cases e1 : y = Str.ofString "piece"
    · simp only [if_pos e1]; subst e1; rw [if_neg (by decide), if_neg (by decide)]; exact h0
    · simp only [if_neg e1]
  rw [e] at F; exact F
def PieceIs (h₀ : Heap) (L x : Addr) (r : Value) (news : List (Addr × Obj)) (s₂ s' : Shared) : Prop :=
  ∃ h tk p tp m₃, s' = ⟨h, s₂.gens, s₂.drawn, tk, s₂.os⟩ ∧ Fr h₀ L h m₃ ∧ News h₀ L h news ∧ m₃ "piece" = some (.bytes (List.toArray p) tp) ∧ m₃ "buffer" = some (.ref x) ∧ m₃ "rest" = some r ∧ p.length ≤ 6
theorem piece_is {x : Addr} {r : Value} {news' : List (Addr × Obj)} {h : Heap} {tk : Nat} {p : List UInt8} {tp : Tok} {s₂ : Shared} (F : Fr h₀ L h m) (N : News h₀ L h news') (hs : ∀ z ∈ news, z ∈ news')
    (h0 : m "piece" = some (.bytes (List.toArray p) tp)) (h1 : m "buffer" = some (.ref x)) (h2 : m "rest" = some r) (h3 : p.length ≤ 6) : PieceIs h₀ L x r news s₂ ⟨h, s₂.gens, s₂.drawn, tk, s₂.os⟩ :=
  ⟨h, tk, p, tp, m, rfl, F, fun z hz => N z (hs z hz), h0, h1, h2, h3⟩
end
end Mine
end

section
open PySem PySem.W PyProof.Rows PySem.Spec PySem.Calls
namespace Mine
section
variable {prog : Program} {w : World} {A : Around} {E : Value → Shared → Prop} {s : Shared} {env : Env}
theorem wpN_Expr {e pos} {Q : Flow → Shared → Prop} (h : wpN (model prog w) A (eval e env) (fun _ => Q .next) E s)
    (hi : interactive env = false := by rfl) (hs : swapsWith e none pos.line env = pure false := by rfl) :
    wpN (model prog w) A (exec (.Expr e pos) env) Q E s := by
  rw [exec_Expr env e pos hi hs]
  exact wpN_first (wpAny_standAt (wpN_bind (wpN_mono h (fun v s' h' => wpN_any (wpAny_dropValue h')) fun _ _ x => x)))
end
section
variable {prog : Program} {w : World} {A : Around} {E : Value → Shared → Prop} {s : Shared} {h₀ : Heap} {L q : Addr} {m : Str → Option Value} {news : List (Addr × Obj)}
theorem iaddN {d c : List UInt8} {t : Tok} {Q : Value → Shared → Prop} (F : Fr h₀ L s.heap m) (N : News h₀ L s.heap ((q, baObj d.toArray) :: news)) (hne : ∀ z ∈ news, z.1 ≠ q) (hz : d.length + c.length ≤ 16777216)
    (h : ∀ h', Fr h₀ L h' m → News h₀ L h' ((q, baObj (d ++ c).toArray) :: news) → Q (.ref q) { s with heap := h' }) :
    wpN (model prog w) A (inplaceOp .Add (.ref q) (.bytes c.toArray t)) Q E s := by
  have z := N _ (.head _)
  refine iadd_baN z.1 (by rw [sizeLine_eq, List.size_toArray, List.size_toArray]; exact hz) fun h' hs hg => ?_
  have hg' : h'.get? q = some (baObj (d ++ c).toArray) := by
    rw [hg]
    have : d.toArray ++ c.toArray = (d ++ c).toArray := by simp
    rw [this]
  refine h h' (F.change hs z.2.1 z.2.2) fun p hp => ?_
  rcases List.mem_cons.mp hp with rfl | hp
  · exact ⟨hg', z.2⟩
  · have y := N p (.tail _ hp)
    exact ⟨(hs.2 _ (hne p hp)).trans y.1, y.2⟩
end
theorem noEol_app {d p : List UInt8} {a : Nat} (h : NoEol d a) (ha : a ≤ d.length) : NoEol (d ++ p) a := fun i hi => by
  rw [List.getElem?_append_left (by omega), List.getElem?_append_left (by omega)]; exact h i hi
theorem noBlank_app {d p : List UInt8} {b : Nat} (h : NoBlank d b) (hb : b = 0 ∨ b + 2 ≤ d.length) : NoBlank (d ++ p) b := fun i hi => by
  rw [List.getElem?_append_left (by omega), List.getElem?_append_left (by omega), List.getElem?_append_left (by omega)]; exact h i hi
end Mine
end

section
open PySem PySem.W PyProof.Rows PySem.Spec PySem.Calls
namespace Mine
/-- a line without the one CR at its end -/
def strip (l : List UInt8) : List UInt8 := if l.getLast? = some 13 then l.dropLast else l
/-- the lines up to the first blank one, and how many octets they take; cur: the line begun -/
def due1 : List UInt8 → List UInt8 → Option (List (List UInt8) × Nat)
  | _, [] => none
  | cur, c :: r => if c = 10 then (if strip cur = [] then some ([], 1) else (due1 [] r).map fun z => (strip cur :: z.1, z.2 + 1)) else (due1 (cur ++ [c]) r).map fun z => (z.1, z.2 + 1)
/-- the pieces between the LFs -/
def sp : List UInt8 → List UInt8 → List (List UInt8)
  | cur, [] => [cur]
  | cur, c :: r => if c = 10 then cur :: sp [] r else sp (cur ++ [c]) r
/-- the first blank line's mark: its place and width -/
def bk : List UInt8 → Option (Nat × Nat)
  | [] => none
  | c :: r => if c = 10 ∧ r[0]? = some 10 then some (0, 2) else if c = 10 ∧ r[0]? = some 13 ∧ r[1]? = some 10 then some (0, 3) else (bk r).map fun z => (z.1 + 1, z.2)
theorem due1_le {d : List UInt8} : ∀ {cur ls e}, due1 cur d = some (ls, e) → e ≤ d.length ∧ 0 < e := by
  induction d with
  | nil => intro cur ls e h; simp [due1] at h
  | cons c r ih =>
    intro cur ls e h
    rw [due1] at h
    split at h
    · split at h
      · simp only [Option.some.injEq, Prod.mk.injEq] at h
        simp; omega
      · rcases h2 : due1 [] r with _ | ⟨l2, e2⟩ <;> rw [h2] at h <;> simp at h
        have := ih h2
        simp; omega
    · rcases h2 : due1 (cur ++ [c]) r with _ | ⟨l2, e2⟩ <;> rw [h2] at h <;> simp at h
      have := ih h2
      simp; omega
theorem due1_sp {d : List UInt8} : ∀ {cur ls e}, due1 cur d = some (ls, e) → ∃ ps x, sp cur (d.take e) = ps ++ [x, []] ∧ ps.map strip = ls ∧ strip x = [] := by
  induction d with
  | nil => intro cur ls e h; simp [due1] at h
  | cons c r ih =>
    intro cur ls e h
    rw [due1] at h
    split at h
    · rename_i hc
      split at h
      · rename_i hs
        simp only [Option.some.injEq, Prod.mk.injEq] at h
        obtain ⟨rfl, rfl⟩ := h
        exact ⟨[], cur, by simp [sp, hc], rfl, hs⟩
      · rcases h2 : due1 [] r with _ | ⟨l2, e2⟩ <;> rw [h2] at h <;> simp at h
        obtain ⟨rfl, rfl⟩ := h
        obtain ⟨ps, x, h3, h4, h5⟩ := ih h2
        refine ⟨cur :: ps, x, ?_, by simp [h4], h5⟩
        rw [List.take_succ_cons, sp, if_pos hc, h3]; rfl
    · rename_i hc
      rcases h2 : due1 (cur ++ [c]) r with _ | ⟨l2, e2⟩ <;> rw [h2] at h <;> simp at h
      obtain ⟨rfl, rfl⟩ := h
      obtain ⟨ps, x, h3, h4, h5⟩ := ih h2
      refine ⟨ps, x, ?_, h4, h5⟩
      rw [List.take_succ_cons, sp, if_neg hc, h3]
/-- the line begun is not blank: neither as it stands with a LF next, nor with CR LF next -/
def Solid (cur d : List UInt8) : Prop := ¬ (strip cur = [] ∧ d[0]? = some 10) ∧ ¬ (cur = [] ∧ d[0]? = some 13 ∧ d[1]? = some 10)
theorem strip_nil : strip [] = [] := rfl
theorem strip_cr : strip [13] = [] := rfl
theorem strip_eq_nil {l : List UInt8} (h : strip l = []) : l = [] ∨ l = [13] := by
  unfold strip at h
  split at h
  · rename_i hl
    rcases l.eq_nil_or_concat with rfl | ⟨a, b, rfl⟩
    · exact .inl rfl
    · simp at h hl
      subst h; subst hl; exact .inr rfl
  · exact .inl h
theorem due1_bk {d : List UInt8} : ∀ {cur}, Solid cur d → (due1 cur d).map (·.2) = (bk d).map fun z => z.1 + z.2 := by
  induction d with
  | nil => intro cur _; rfl
  | cons c r ih =>
    intro cur hs
    rw [due1, bk]
    by_cases hc : c = 10
    · subst hc
      have hn : strip cur ≠ [] := fun e => hs.1 ⟨e, rfl⟩
      rw [if_pos rfl, if_neg hn]
      rcases r with _ | ⟨c1, r1⟩
      · simp [due1, bk]
      · by_cases h1 : c1 = 10
        · subst h1; simp [due1, strip_nil]
        · by_cases h2 : c1 = 13 ∧ r1[0]? = some 10
          · obtain ⟨rfl, h3⟩ := h2
            rcases r1 with _ | ⟨c2, r2⟩
            · simp at h3
            · simp at h3; subst h3
              simp [due1, strip_cr]
          · have := ih (cur := []) ⟨by rintro ⟨_, e⟩; simp at e; exact h1 e, by rintro ⟨_, e, e'⟩; simp at e e'; exact h2 ⟨e, by simpa using e'⟩⟩
            rw [if_neg (by simp; exact h1), if_neg (by simp; intro e e'; exact h2 ⟨e, by simpa using e'⟩)]
            rw [Option.map_map, Option.map_map]
            have e2 : ((due1 [] (c1 :: r1)).map fun z => z.2 + 1) = ((due1 [] (c1 :: r1)).map (·.2)).map (· + 1) := by rw [Option.map_map]; rfl
            show (due1 [] (c1 :: r1)).map (fun z => z.2 + 1) = _
            rw [e2, this, Option.map_map]
            congr 1
            funext z; simp only [Function.comp]; omega
    · rw [if_neg hc, if_neg (fun e => hc e.1), if_neg (fun e => hc e.1)]
      rw [Option.map_map, Option.map_map]
      have := ih (cur := cur ++ [c]) ⟨?_, ?_⟩
      · have e2 : ((due1 (cur ++ [c]) r).map fun z => z.2 + 1) = ((due1 (cur ++ [c]) r).map (·.2)).map (· + 1) := by rw [Option.map_map]; rfl
        show (due1 (cur ++ [c]) r).map (fun z => z.2 + 1) = _
        rw [e2, this, Option.map_map]
        congr 1
        funext z; simp only [Function.comp]; omega
      · rintro ⟨e, e'⟩
        rcases strip_eq_nil e with h | h
        · simp at h
        · have h' : cur = [] ∧ c = 13 := by
            rcases cur with _ | ⟨a, b⟩
            · simp at h; exact ⟨rfl, h⟩
            · simp at h
          exact hs.2 ⟨h'.1, by simp [h'.2], by simpa using e'⟩
      · rintro ⟨e, _⟩; simp at e
theorem bk_none {d : List UInt8} (h : bk d = none) : ∀ k, ¬ At d [10, 10] k ∧ ¬ At d [10, 13, 10] k := by
  induction d with
  | nil => intro k; simp [At]
  | cons c r ih =>
    rw [bk] at h
    split at h
    · simp at h
    · split at h
      · simp at h
      · rename_i h1 h2
        simp at h
        intro k
        rcases k with _ | k
        · rw [at_two, at_three]
          constructor
          · rintro ⟨e, e'⟩; simp at e e'; exact h1 ⟨e, by simpa using e'⟩
          · rintro ⟨e, e', e''⟩; simp at e e' e''; exact h2 ⟨e, by simpa using e', by simpa using e''⟩
        · exact ih h k
theorem bk_some {d : List UInt8} : ∀ {i w}, bk d = some (i, w) → ((w = 2 ∧ At d [10, 10] i) ∨ (w = 3 ∧ At d [10, 13, 10] i)) ∧ ∀ k, k < i → ¬ At d [10, 10] k ∧ ¬ At d [10, 13, 10] k := by
  induction d with
  | nil => intro i w h; simp [bk] at h
  | cons c r ih =>
    intro i w h
    rw [bk] at h
    split at h
    · rename_i h1
      simp at h; obtain ⟨rfl, rfl⟩ := h
      exact ⟨.inl ⟨rfl, at_two.mpr ⟨by simp [h1.1], by simpa using h1.2⟩⟩, fun k hk => by omega⟩
    · split at h
      · rename_i h1
        simp at h; obtain ⟨rfl, rfl⟩ := h
        exact ⟨.inr ⟨rfl, at_three.mpr ⟨by simp [h1.1], by simpa using h1.2.1, by simpa using h1.2.2⟩⟩, fun k hk => by omega⟩
      · rename_i h1 h2
        rcases h3 : bk r with _ | ⟨i2, w2⟩ <;> rw [h3] at h <;> simp at h
        obtain ⟨rfl, rfl⟩ := h
        obtain ⟨a, b⟩ := ih h3
        refine ⟨a, fun k hk => ?_⟩
        rcases k with _ | k
        · rw [at_two, at_three]
          constructor
          · rintro ⟨e, e'⟩; simp at e e'; exact h1 ⟨e, by simpa using e'⟩
          · rintro ⟨e, e', e''⟩; simp at e e' e''; exact h2 ⟨e, by simpa using e', by simpa using e''⟩
        · exact b k (by omega)
end Mine
end

section
open PySem PySem.W PyProof.Rows PySem.Spec PySem.Calls
namespace Mine
theorem due1_app : ∀ {a : List UInt8} {cur r : List UInt8}, (∀ c ∈ a, c ≠ 10) → due1 cur (a ++ 10 :: r) = if strip (cur ++ a) = [] then some ([], a.length + 1) else (due1 [] r).map fun z => (strip (cur ++ a) :: z.1, z.2 + (a.length + 1))
  | [], cur, r, _ => by rw [List.nil_append, due1, if_pos rfl, List.append_nil]; rfl
  | c :: a, cur, r, h => by
    have hc : c ≠ 10 := h c (.head _)
    have ih := due1_app (a := a) (cur := cur ++ [c]) (r := r) fun x hx => h x (.tail _ hx)
    rw [List.cons_append, due1, if_neg hc, ih]
    have e : cur ++ [c] ++ a = cur ++ c :: a := by simp
    rw [e]
    by_cases hs : strip (cur ++ c :: a) = []
    · rw [if_pos hs, if_pos hs]; rfl
    · rw [if_neg hs, if_neg hs, Option.map_map]
      congr 1
theorem due1_no : ∀ {a : List UInt8} {cur : List UInt8}, (∀ c ∈ a, c ≠ 10) → due1 cur a = none
  | [], _, _ => rfl
  | c :: a, cur, h => by
    rw [due1, if_neg (h c (.head _)), due1_no fun x hx => h x (.tail _ hx)]; rfl
theorem lf_none {d : List UInt8} {st : Nat} (h : ∀ j, st ≤ j → ¬ At d [10] j) : ∀ c ∈ d.drop st, c ≠ 10 := fun c hc e => by
  obtain ⟨j, hj, rfl⟩ := List.mem_iff_getElem.mp hc
  refine h (st + j) (by omega) (at_one.mpr ?_)
  rw [← List.getElem?_drop, List.getElem?_eq_getElem hj, e]
theorem lf_some {d : List UInt8} {st p : Nat} (h1 : st ≤ p) (h2 : At d [10] p) (h3 : ∀ k, st ≤ k → k < p → ¬ At d [10] k) :
    d.drop st = (d.take p).drop st ++ 10 :: d.drop (p + 1) ∧ (∀ c ∈ (d.take p).drop st, c ≠ 10) ∧ ((d.take p).drop st).length = p - st := by
  have h4 := at_one.mp h2
  obtain ⟨hp, h5⟩ := List.getElem?_eq_some_iff.mp h4
  refine ⟨?_, ?_, by rw [List.length_drop, List.length_take]; omega⟩
  · have e : d = d.take p ++ 10 :: d.drop (p + 1) := by
      rw [← h5, List.getElem_cons_drop, List.take_append_drop]
    conv => lhs; rw [e]
    rw [List.drop_append_of_le_length (by rw [List.length_take]; omega)]
  · intro c hc e
    obtain ⟨j, hj, rfl⟩ := List.mem_iff_getElem.mp hc
    have hj' := hj
    rw [List.length_drop, List.length_take] at hj'
    refine h3 (st + j) (by omega) (by omega) (at_one.mpr ?_)
    have : ((d.take p).drop st)[j]? = some 10 := by rw [List.getElem?_eq_getElem hj, e]
    rw [List.getElem?_drop, List.getElem?_take] at this
    split at this
    · exact this
    · cases this
/-- the word of the law's loop over the lines -/
def LoopIs (d : List UInt8) (acc : List (List UInt8)) (st : Nat) : Prop := st ≤ d.length ∧ due1 [] d = (due1 [] (d.drop st)).map fun z => (acc ++ z.1, z.2 + st)
theorem loop_start (d : List UInt8) : LoopIs d [] 0 := ⟨Nat.zero_le _, by
  rw [List.drop_zero]
  rcases due1 [] d with _ | ⟨a, b⟩ <;> rfl⟩
theorem loop_end {d acc st} (h : LoopIs d acc st) (hn : ∀ j, st ≤ j → ¬ At d [10] j) : due1 [] d = none := by
  rw [h.2, due1_no (lf_none hn)]; rfl
theorem loop_ret {d acc st p} (h : LoopIs d acc st) (h1 : st ≤ p) (h2 : At d [10] p) (h3 : ∀ k, st ≤ k → k < p → ¬ At d [10] k) (hs : strip ((d.take p).drop st) = []) : due1 [] d = some (acc, p + 1) := by
  obtain ⟨e, hl, hn⟩ := lf_some h1 h2 h3
  rw [h.2, e, due1_app hl, List.nil_append, if_pos hs, hn]
  show some _ = some _
  congr 1
  refine Prod.ext (List.append_nil _) ?_
  show p - st + 1 + st = p + 1
  omega
theorem loop_go {d acc st p} (h : LoopIs d acc st) (h1 : st ≤ p) (h2 : At d [10] p) (h3 : ∀ k, st ≤ k → k < p → ¬ At d [10] k) (hs : strip ((d.take p).drop st) ≠ []) : LoopIs d (acc ++ [strip ((d.take p).drop st)]) (p + 1) := by
  obtain ⟨e, hl, hn⟩ := lf_some h1 h2 h3
  have hp := h2.le (by simp)
  refine ⟨by simpa using hp, ?_⟩
  rw [h.2, e, due1_app hl, List.nil_append, if_neg hs, hn, Option.map_map]
  congr 1
  funext z
  refine Prod.ext (by simp) ?_
  show z.2 + (p - st + 1) + st = z.2 + (p + 1)
  omega
/-- what the code of the lines meets -/
theorem lines_cases {d : List UInt8} {b : Nat} (hB : NoBlank d b) :
    (d.take 1 = [10] ∧ due1 [] d = some ([], 1)) ∨
    (d.take 1 ≠ [10] ∧ d.take 2 = [13, 10] ∧ due1 [] d = some ([], 2)) ∨
    (d.take 1 ≠ [10] ∧ d.take 2 ≠ [13, 10] ∧ findI d [10, 10] b = -1 ∧ findI d [10, 13, 10] b = -1 ∧ due1 [] d = none ∧ ∀ n, NoBlank d n) ∨
    (d.take 1 ≠ [10] ∧ d.take 2 ≠ [13, 10] ∧ ∃ (ls : List (List UInt8)) (i e : Nat) (v1 v2 : Int), due1 [] d = some (ls, e) ∧ findI d [10, 10] b = v1 ∧ findI d [10, 13, 10] b = v2 ∧
      ((v1 = i ∧ e = i + 2 ∧ (v2 = -1 ∨ v1 < v2)) ∨ (v2 = i ∧ e = i + 3 ∧ (v1 = -1 ∨ v2 < v1)))) := by
  have k1 : findI d [10, 10] b = findI d [10, 10] 0 := findI_skip (by simp) fun k hk ha => hB k hk (.inl (at_two.mp ha))
  have k2 : findI d [10, 13, 10] b = findI d [10, 13, 10] 0 := findI_skip (by simp) fun k hk ha => hB k hk (.inr (at_three.mp ha))
  by_cases c1 : d.take 1 = [10]
  · refine .inl ⟨c1, ?_⟩
    rcases d with _ | ⟨c, r⟩
    · simp at c1
    · simp at c1; subst c1; simp [due1, strip_nil]
  refine .inr ?_
  by_cases c2 : d.take 2 = [13, 10]
  · refine .inl ⟨c1, c2, ?_⟩
    rcases d with _ | ⟨c, _ | ⟨c', r⟩⟩
    · simp at c2
    · simp at c2
    · simp at c2; obtain ⟨rfl, rfl⟩ := c2; simp [due1, strip_cr]
  refine .inr ?_
  have hS : Solid [] d := by
    constructor
    · rintro ⟨_, e⟩
      refine c1 ?_
      rcases d with _ | ⟨c, r⟩
      · simp at e
      · simp at e; subst e; rfl
    · rintro ⟨_, e, e'⟩
      refine c2 ?_
      rcases d with _ | ⟨c, _ | ⟨c', r⟩⟩
      · simp at e
      · simp at e'
      · simp at e e'; subst e; subst e'; rfl
  have hk := due1_bk hS
  rcases hb : bk d with _ | ⟨i, wd⟩
  · have hn := bk_none hb
    rw [hb] at hk
    refine .inl ⟨c1, c2, ?_, ?_, ?_, ?_⟩
    · rw [k1]; rcases findI_cases (d := d) (sub := [10, 10]) (i := 0) (by simp) with h | ⟨j, _, _, h, _⟩
      · exact h.1
      · exact absurd h (hn j).1
    · rw [k2]; rcases findI_cases (d := d) (sub := [10, 13, 10]) (i := 0) (by simp) with h | ⟨j, _, _, h, _⟩
      · exact h.1
      · exact absurd h (hn j).2
    · rcases hd : due1 [] d with _ | z
      · rfl
      · rw [hd] at hk; simp at hk
    · intro n i _ h
      rcases h with h | h
      · exact (hn i).1 (at_two.mpr h)
      · exact (hn i).2 (at_three.mpr h)
  · obtain ⟨ha, hlt⟩ := bk_some hb
    rw [hb] at hk
    rcases hd : due1 [] d with _ | ⟨ls, e⟩
    · rw [hd] at hk; simp at hk
    · rw [hd] at hk
      simp at hk
      refine .inr ⟨c1, c2, ls, i, e, _, _, rfl, k1, k2, ?_⟩
      rcases ha with ⟨rfl, ha⟩ | ⟨rfl, ha⟩
      · refine .inl ⟨?_, by omega, ?_⟩
        · rcases findI_cases (d := d) (sub := [10, 10]) (i := 0) (by simp) with h | ⟨j, h1, _, h2, h3, _⟩
          · exact absurd ha (h.2 i (Nat.zero_le _))
          · rw [h1]
            have : j = i := by
              rcases Nat.lt_trichotomy j i with q | q | q
              · exact absurd h2 (hlt j q).1
              · exact q
              · exact absurd ha (h3 i (Nat.zero_le _) q)
            rw [this]
        · rcases findI_cases (d := d) (sub := [10, 10]) (i := 0) (by simp) with h | ⟨j, h1, _, h2, h3, _⟩
          · exact absurd ha (h.2 i (Nat.zero_le _))
          · have hj : j = i := by
              rcases Nat.lt_trichotomy j i with q | q | q
              · exact absurd h2 (hlt j q).1
              · exact q
              · exact absurd ha (h3 i (Nat.zero_le _) q)
            rcases findI_cases (d := d) (sub := [10, 13, 10]) (i := 0) (by simp) with h | ⟨j', h1', _, h2', h3', _⟩
            · exact .inl h.1
            · refine .inr ?_
              rw [h1, h1', hj]
              have : ¬ j' < i := fun q => (hlt j' q).2 h2'
              have : j' ≠ i := fun q => by
                subst q
                have a1 := (at_two.mp ha).2
                have a2 := (at_three.mp h2').2.1
                rw [a1] at a2; cases a2
              omega
      · refine .inr ⟨?_, by omega, ?_⟩
        · rcases findI_cases (d := d) (sub := [10, 13, 10]) (i := 0) (by simp) with h | ⟨j, h1, _, h2, h3, _⟩
          · exact absurd ha (h.2 i (Nat.zero_le _))
          · rw [h1]
            have : j = i := by
              rcases Nat.lt_trichotomy j i with q | q | q
              · exact absurd h2 (hlt j q).2
              · exact q
              · exact absurd ha (h3 i (Nat.zero_le _) q)
            rw [this]
        · rcases findI_cases (d := d) (sub := [10, 13, 10]) (i := 0) (by simp) with h | ⟨j, h1, _, h2, h3, _⟩
          · exact absurd ha (h.2 i (Nat.zero_le _))
          · have hj : j = i := by
              rcases Nat.lt_trichotomy j i with q | q | q
              · exact absurd h2 (hlt j q).2
              · exact q
              · exact absurd ha (h3 i (Nat.zero_le _) q)
            rcases findI_cases (d := d) (sub := [10, 10]) (i := 0) (by simp) with h | ⟨j', h1', _, h2', h3', _⟩
            · exact .inl h.1
            · refine .inr ?_
              rw [h1, h1', hj]
              have : ¬ j' < i := fun q => (hlt j' q).1 h2'
              have : j' ≠ i := fun q => by
                subst q
                have a1 := (at_two.mp h2').2
                have a2 := (at_three.mp ha).2.1
                rw [a1] at a2; cases a2
              omega
end Mine
end

section
open PySem PySem.W PyProof.Rows PySem.Spec PySem.Calls
namespace Mine
def occ : Nat → List UInt8 → List Nat
  | _, [] => []
  | k, c :: r => if c = 10 then k :: occ (k + 1) r else occ (k + 1) r
theorem occ_length : ∀ {k : Nat} {r : List UInt8}, (occ k r).length ≤ r.length
  | _, [] => Nat.le_refl _
  | k, c :: r => by
    have := occ_length (k := k + 1) (r := r)
    rw [occ]
    split
    · simp only [List.length_cons]; omega
    · simp only [List.length_cons]; omega
theorem extract_list (d : List UInt8) (a b : Nat) : d.toArray.extract a b = ((d.take b).drop a).toArray := by
  rw [List.extract_toArray, List.extract_eq_take_drop, List.drop_take]
theorem occ_fold (d : List UInt8) : ∀ (n k : Nat) (acc : List Nat) (m : Nat), k + n = d.length → m ≤ k →
    ((List.range' k n).foldl (fun (acc : List Nat × Nat) i => if (i ≥ acc.2 && d.toArray.extract i (i + 1) == #[10]) = true then (i :: acc.1, i + 1) else acc) (acc, m)).1.reverse = acc.reverse ++ occ k (d.drop k)
  | 0, k, acc, m, h, _ => by
    rw [List.drop_eq_nil_of_le (by omega)]; simp [occ]
  | n + 1, k, acc, m, h, hm => by
    have hk : k < d.length := by omega
    rw [List.range'_succ, List.foldl_cons]
    have hd : d.drop k = d[k] :: d.drop (k + 1) := (List.drop_eq_getElem_cons hk)
    have he : d.toArray.extract k (k + 1) = #[d[k]] := by
      rw [extract_list, List.drop_take, hd]
      have : k + 1 - k = 1 := by omega
      rw [this]; rfl
    rw [hd, occ]
    by_cases hc : d[k] = 10
    · have ht : ((k ≥ m && d.toArray.extract k (k + 1) == #[10]) = true) := by rw [he, hc]; simp; exact hm
      rw [if_pos ht, occ_fold d n (k + 1) (k :: acc) (k + 1) (by omega) (Nat.le_refl _), if_pos hc]
      simp
    · have ht : ¬ ((k ≥ m && d.toArray.extract k (k + 1) == #[10]) = true) := by rw [he]; simp; intro _; exact hc
      rw [if_neg ht, occ_fold d n (k + 1) acc m (by omega) (by omega), if_neg hc]
theorem occurrences_lf (d : List UInt8) : Builtin.Bytes.occurrences d.toArray #[10] 0 d.length = occ 0 d := by
  unfold Builtin.Bytes.occurrences
  have e : (List.range (d.length + 1 - (0 + (#[10] : Array UInt8).size))).map (· + 0) = List.range' 0 d.length := by
    rw [List.range_eq_range']
    show (List.range' 0 (d.length + 1 - (0 + 1))).map (fun x => x) = _
    rw [List.map_id']; rfl
  have := occ_fold d d.length 0 [] 0 (by omega) (Nat.le_refl _)
  rw [List.drop_zero] at this
  show (List.foldl _ ([], 0) ((List.range (d.length + 1 - (0 + (#[10] : Array UInt8).size))).map (· + 0))).1.reverse = _
  rw [e]
  exact this
theorem between_sp (d : List UInt8) : ∀ (r : List UInt8) (k last : Nat) (parts : Array (Array UInt8)), d.drop k = r → last ≤ k →
    (((occ k r).foldl (fun (z : Array (Array UInt8) × Nat) p => (z.1.push (d.toArray.extract z.2 p), p + 1)) (parts, last)).1.push (d.toArray.extract ((occ k r).foldl (fun (z : Array (Array UInt8) × Nat) p => (z.1.push (d.toArray.extract z.2 p), p + 1)) (parts, last)).2 d.toArray.size)).toList
      = parts.toList ++ (sp ((d.take k).drop last) r).map List.toArray
  | [], k, last, parts, h, hl => by
    have hk : d.length ≤ k := by
      have := congrArg List.length h
      rw [List.length_drop, List.length_nil] at this; omega
    simp only [occ, List.foldl_nil, sp, List.map_cons, List.map_nil, Array.toList_push]
    rw [extract_list, List.size_toArray, List.take_of_length_le (Nat.le_refl _), List.take_of_length_le hk]
  | c :: r, k, last, parts, h, hl => by
    have hk : k < d.length := by
      have := congrArg List.length h
      rw [List.length_drop, List.length_cons] at this; omega
    have hd : d.drop k = d[k] :: d.drop (k + 1) := (List.drop_eq_getElem_cons hk)
    rw [hd] at h
    injection h with hc hr
    rw [occ, sp]
    by_cases h10 : c = 10
    · rw [if_pos h10, if_pos h10, List.foldl_cons]
      rw [between_sp d r (k + 1) (k + 1) _ hr (Nat.le_refl _)]
      have hz : (d.take (k + 1)).drop (k + 1) = [] := List.drop_eq_nil_of_le (by rw [List.length_take]; omega)
      rw [extract_list, Array.toList_push, hz]
      simp
    · rw [if_neg h10, if_neg h10]
      rw [between_sp d r (k + 1) last _ hr (by omega)]
      have : (d.take (k + 1)).drop last = (d.take k).drop last ++ [c] := by
        rw [List.take_add_one, List.getElem?_eq_getElem hk, hc]
        show (List.take k d ++ [c]).drop last = _
        rw [List.drop_append_of_le_length (by rw [List.length_take, Nat.min_eq_left (by omega)]; exact hl)]
      rw [this]
theorem split_plain (d : List UInt8) : Builtin.Bytes.between d.toArray 1 ((Builtin.Bytes.occurrences d.toArray #[10] 0 d.length).take (d.length + 1)) = (sp [] d).map List.toArray := by
  rw [occurrences_lf, List.take_of_length_le (by have := occ_length (k := 0) (r := d); omega)]
  have := between_sp d d 0 0 #[] rfl (Nat.le_refl _)
  rw [List.take_zero, List.drop_nil] at this
  exact this
theorem occ_nil {d : List UInt8} : ∀ {cur k}, occ k d = [] → sp cur d = [cur ++ d] := by
  induction d with
  | nil => intro cur k _; simp [sp]
  | cons c r ih =>
    intro cur k h
    rw [occ] at h
    split at h
    · cases h
    · rename_i hc
      rw [sp, if_neg hc, ih h]; simp
theorem sp_length : ∀ {d cur : List UInt8}, (sp cur d).length ≤ d.length + 1
  | [], cur => by simp [sp]
  | c :: r, cur => by
    rw [sp]
    split
    · have := sp_length (d := r) (cur := []); simp; omega
    · have := sp_length (d := r) (cur := cur ++ [c]); simp; omega
theorem sp_bound : ∀ {d cur : List UInt8}, ∀ l ∈ sp cur d, l.length ≤ cur.length + d.length
  | [], cur, l, h => by simp [sp] at h; subst h; simp
  | c :: r, cur, l, h => by
    rw [sp] at h
    split at h
    · rcases List.mem_cons.mp h with rfl | h
      · simp
      · have := sp_bound (d := r) (cur := []) l h; simp at this ⊢; omega
    · have := sp_bound (d := r) (cur := cur ++ [c]) l h; simp at this ⊢; omega
end Mine
end

section
open PySem PySem.W PyProof.Rows PySem.Spec PySem.Calls
namespace Mine
def RefsTo (O : List (Addr × Obj)) : List Value → List (List UInt8) → Prop
  | [], [] => True
  | v :: vs, l :: ls => (∃ a, v = .ref a ∧ (a, baObj l.toArray) ∈ O) ∧ RefsTo O vs ls
  | [], _ :: _ => False
  | _ :: _, [] => False
theorem RefsTo.mono {O O' : List (Addr × Obj)} (h : ∀ p ∈ O, p ∈ O') : ∀ {vs ls}, RefsTo O vs ls → RefsTo O' vs ls
  | [], [], _ => trivial
  | _ :: _, _ :: _, ⟨⟨a, e, m⟩, r⟩ => ⟨⟨a, e, h _ m⟩, RefsTo.mono h r⟩
  | [], _ :: _, r => r.elim
  | _ :: _, [], r => r.elim
theorem RefsTo.length {O : List (Addr × Obj)} : ∀ {vs ls}, RefsTo O vs ls → vs.length = ls.length
  | [], [], _ => rfl
  | _ :: _, _ :: _, ⟨_, r⟩ => congrArg (· + 1) (RefsTo.length r)
  | [], _ :: _, r => r.elim
  | _ :: _, [], r => r.elim
theorem RefsTo.get {O : List (Addr × Obj)} : ∀ {vs ls} {j : Nat} {l : List UInt8}, RefsTo O vs ls → ls[j]? = some l → ∃ a, vs[j]? = some (.ref a) ∧ (a, baObj l.toArray) ∈ O
  | [], [], _, _, _, h => by simp at h
  | v :: _, l :: _, 0, _, ⟨⟨a, e, m⟩, _⟩, h => by
    obtain rfl := Option.some.inj h
    exact ⟨a, by rw [e]; rfl, m⟩
  | _ :: vs, _ :: ls, j + 1, l, ⟨_, r⟩, h => by
    obtain ⟨a, e, m⟩ := RefsTo.get (vs := vs) (ls := ls) (j := j) (l := l) r (by simpa using h)
    exact ⟨a, by simpa using e, m⟩
  | [], _ :: _, _, _, r, _ => r.elim
  | _ :: _, [], _, _, r, _ => r.elim
theorem RefsTo.take {O : List (Addr × Obj)} : ∀ {n : Nat} {vs ls}, RefsTo O vs ls → RefsTo O (vs.take n) (ls.take n)
  | 0, _, _, _ => by simp [RefsTo]
  | _ + 1, [], [], _ => trivial
  | n + 1, _ :: _, _ :: _, ⟨h, r⟩ => ⟨h, RefsTo.take (n := n) r⟩
  | _, [], _ :: _, r => r.elim
  | _, _ :: _, [], r => r.elim
section
variable {prog : Program} {w : World} {A : Around} {E : Value → Shared → Prop} {h₀ : Heap} {L : Addr} {m : Str → Option Value}
theorem news_snoc {h : Heap} {news : List (Addr × Obj)} {o : Obj} (F : Fr h₀ L h m) (N : News h₀ L h news) (hfree : o.isFreed = false := by rfl) : News h₀ L (h.push o) (news ++ [(h.objs.size, o)]) := fun p hp => by
  rcases List.mem_append.mp hp with hp | hp
  · exact (N.push F o hfree) p (.tail _ hp)
  · rw [List.mem_singleton.mp hp]; exact (N.push F o hfree) _ (.head _)
theorem wpAny_news : ∀ (ls : List (List UInt8)) {s : Shared} {news : List (Addr × Obj)} {Q : List Value → Shared → Prop}, Fr h₀ L s.heap m → News h₀ L s.heap news → (∀ l ∈ ls, l.length ≤ 16777216) →
    (∀ h' vs objs, Fr h₀ L h' m → News h₀ L h' (news ++ objs) → RefsTo objs vs ls → Q vs { s with heap := h' }) → wpAny (model prog w) A ((ls.map List.toArray).mapM (Builtin.Bytes.Kind.new .bytearray)) Q E s
  | [], s, news, Q, F, N, _, h => by
    rw [List.map_nil, List.mapM_nil]
    exact wpAny_pure (h s.heap [] [] F (by rw [List.append_nil]; exact N) trivial)
  | l :: ls, s, news, Q, F, N, hz, h => by
    rw [List.map_cons, List.mapM_cons]
    refine wpAny_bind ?_
    show wpAny _ _ (newObj (.type "bytearray") (.bytearray l.toArray)) _ _ _
    refine wpAny_newObj_type ?_ (by show l.toArray.size ≤ sizeLine; rw [List.size_toArray, sizeLine_eq]; exact hz l (.head _))
    refine wpAny_bind ?_
    refine wpAny_news ls (s := { s with heap := s.heap.push (baObj l.toArray) }) (F.push _) (news_snoc F N) (fun x hx => hz x (.tail _ hx)) fun h' vs objs F' N' R => ?_
    refine wpAny_pure (h h' (.ref s.heap.objs.size :: vs) ((s.heap.objs.size, baObj l.toArray) :: objs) F' (by rw [List.append_assoc] at N'; exact N') ⟨⟨_, rfl, .head _⟩, RefsTo.mono (fun p hp => .tail _ hp) R⟩)
variable {s : Shared} {news : List (Addr × Obj)} {a : Addr} {d : List UInt8}
theorem split_run {t : Tok} {R : PySem.Fin → Shared → Prop} (F : Fr h₀ L s.heap m) (N : News h₀ L s.heap news) (hm : (a, baObj d.toArray) ∈ news) (hz : d.length ≤ 100000)
    (h : ∀ h' l vs objs, Fr h₀ L h' m → News h₀ L h' ((l, { cls := .type "list", data := .seq vs.toArray }) :: (news ++ objs)) → RefsTo objs vs (sp [] d) → R (.done (.ret (.ref l))) { s with heap := h' }) :
    wpAny (model prog w) A (Builtin.Bytes.splitM .bytearray "split" false ⟨[.ref a, .bytes #[10] t], []⟩) R E s := by
  have hend : ∀ h' vs objs, Fr h₀ L h' m → News h₀ L h' (news ++ objs) → RefsTo objs vs (sp [] d) → wpAny (model prog w) A (newList vs) (fun v s' => wpAny (model prog w) A (ret v) R E s') E { s with heap := h' } := fun h' vs objs F' N' hR => by
    refine wpAny_newList (wpAny_pure ?_) ?_
    · have hF := F'.push { cls := .type "list", data := .seq vs.toArray }
      exact h _ _ _ _ hF (N'.push F' _) hR
    · have := hR.length
      have := sp_length (d := d) (cur := [])
      rw [sizeLine_eq]; omega
  unfold Builtin.Bytes.splitM
  refine wpAny_bind (wpAny_of_eq (a := [some (.bytes #[10] t), none]) rfl ?_)
  refine wpAny_bind (wpAny_of_eq (a := -1) rfl ?_)
  refine wpAny_bind ((payloadBa (N _ hm).1).here ?_)
  show wpAny _ _ (Builtin.Bytes.bytesLike _ (.bytes #[10] t) >>= _) _ _ _
  unfold Builtin.Bytes.bytesLike
  refine wpAny_bind (wpAny_bind (wpAny_of_eq (a := some #[10]) KBy.buffer_eq (wpAny_pure ?_)))
  dsimp only
  have hl : (occ 0 d).length ≤ d.length + 1 := by have := occ_length (k := 0) (r := d); omega
  have hsz : ∀ l ∈ sp [] d, l.length ≤ 16777216 := fun l h => by have := sp_bound l h; simp at this; omega
  rw [if_neg (show ¬ (#[10] : Array UInt8).isEmpty = true by decide)]
  simp only [Bool.false_eq_true, if_false, show ((-1 : Int) < 0) from by decide, if_true, List.size_toArray, occurrences_lf, List.take_of_length_le hl]
  by_cases ho : occ 0 d = []
  · rw [if_pos (by rw [ho]; rfl)]
    have hsp : sp [] d = [d] := by rw [occ_nil ho]; rfl
    refine wpAny_bind (wpAny_rule (wpAny_bind ?_))
    show wpAny _ _ (Builtin.Bytes.payload (.ref a) >>= Builtin.Bytes.Kind.new .bytearray) _ _ _
    refine wpAny_bind ((payloadBa (N _ hm).1).here ?_)
    show wpAny _ _ (newObj (.type "bytearray") (.bytearray d.toArray)) _ _ _
    refine wpAny_newObj_type ?_ (by show d.toArray.size ≤ sizeLine; rw [List.size_toArray, sizeLine_eq]; omega)
    refine wpAny_bind (hend _ [.ref s.heap.objs.size] [(s.heap.objs.size, baObj d.toArray)] (F.push _) (news_snoc F N) ?_)
    rw [hsp]
    exact ⟨⟨_, rfl, .head _⟩, trivial⟩
  · rw [if_neg (by simp only [List.isEmpty_iff]; exact ho)]
    have hb : Builtin.Bytes.between d.toArray ([10] : List UInt8).length (occ 0 d) = (sp [] d).map List.toArray := by
      have := split_plain d
      rw [occurrences_lf, List.take_of_length_le hl] at this
      exact this
    rw [hb]
    refine wpAny_bind (wpAny_news (sp [] d) F N hsz fun h' vs objs F' N' hR => ?_)
    exact wpAny_bind (hend h' vs objs F' N' hR)
theorem splitN {t : Tok} {Q : Value → Shared → Prop} (F : Fr h₀ L s.heap m) (N : News h₀ L s.heap news) (hm : (a, baObj d.toArray) ∈ news) (hz : d.length ≤ 100000)
    (h : ∀ h' l vs objs, Fr h₀ L h' m → News h₀ L h' ((l, { cls := .type "list", data := .seq vs.toArray }) :: (news ++ objs)) → RefsTo objs vs (sp [] d) → Q (.ref l) { s with heap := h' }) :
    wpAny (model prog w) A (call (.builtin "bytearray.split") [.ref a, .bytes #[10] t]) Q E s :=
  wpAny_call_entry FA.slot_bytearray_split (tyBa (N _ hm).1) FA.entry_bytearray_split (split_run F N hm hz fun h' l vs objs F' N' hR => ⟨_, rfl, h h' l vs objs F' N' hR⟩) (FA.args_bytearray_split_2 _ _)
end
end Mine
end

section
open PySem PySem.W PyProof.Rows PySem.Spec PySem.Calls
namespace Mine
section
variable {prog : Program} {w : World} {A : Around} {R : Result → Shared → Prop} {s : Shared} {K : Frag}
/-- a call of a def that touches nothing of what stands: its base is the whole heap -/
theorem code_fresh {name qual : Str} {params : Arguments} {body : List Stmt} {scope : Scope} {dV kV doc pm cdv ct oc : Value} {an od : Option Addr} {osl : Array (Option Value)} {f : Addr} {args : Args} {binds : List (Str × Value)}
    (X : K.In s.heap) (hlim : s.heap.NoLimit)
    (ho : K.lookup f = some ⟨oc, od, .func (fnOf name qual params body scope dV kV doc pm an cdv ct), osl⟩) (hcd : codeIn K cdv qual = true) (hroom : A.depth < recursionLimit)
    (hbind : BindsTo s (fnOf name qual params body scope dV kV doc pm an cdv ct) args binds) (hloc : ∀ y ∈ binds, scope.names.lookup y.1 = some .local)
    (h : ∀ h₁, Fr s.heap s.heap.objs.size h₁ (fun y => binds.reverse.lookup y) → News s.heap s.heap.objs.size h₁ [] →
      wpAny (model prog w) (A.deeper (envOf qual scope s.heap.objs.size f cdv)) (execs body (envOf qual scope s.heap.objs.size f cdv))
        (fun fl s' => R (.ok (.ret (match fl with | .ret v => v | _ => .none))) s')
        (fun e s' => wpAny (model prog w) (A.deeper (envOf qual scope s.heap.objs.size f cdv)) (leaving (envOf qual scope s.heap.objs.size f cdv) e) (fun _ s'' => R (.error e) s'') (fun e' s'' => R (.error e') s'') s')
        { s with heap := h₁, toks := s.toks + binds.length })
    (hco : scope.isCoroutine = false := by rfl) (hgen : scope.isGenerator = false := by rfl) (hk : scope.kind = .function := by rfl)
    (hcell : ∀ x ∈ scope.names, x.2 ≠ .cell := by decide) : codeAny (model prog w) A (.call (.ref f) args) R s := by
  refine codeAny_call_def (fd := fnOf name qual params body scope dV kV doc pm an cdv ct) (body := body) (binds := binds) hroom (X _ _ ho) rfl hlim (codeRec_of X hcd) rfl hbind hcell hloc (fun h₁ hns hk₁ => ?_) hco hgen hk
  exact h h₁ ⟨hns, hk₁, Nat.le_refl _⟩ fun p hp => nomatch hp
end
end Mine
end

section
open PySem PySem.W PyProof.Rows PySem.Spec PySem.Calls
namespace Mine
def BytesAre : List Value → List (List UInt8) → Prop
  | [], [] => True
  | v :: vs, l :: ls => (∃ t, v = .bytes l.toArray t) ∧ BytesAre vs ls
  | [], _ :: _ => False
  | _ :: _, [] => False
theorem BytesAre.snoc : ∀ {vs ls} {l : List UInt8} {t : Tok}, BytesAre vs ls → BytesAre (vs ++ [.bytes l.toArray t]) (ls ++ [l])
  | [], [], l, t, _ => ⟨⟨t, rfl⟩, trivial⟩
  | _ :: _, _ :: _, _, _, ⟨h, r⟩ => ⟨h, BytesAre.snoc r⟩
  | [], _ :: _, _, _, r => r.elim
  | _ :: _, [], _, _, r => r.elim
theorem BytesAre.length : ∀ {vs ls}, BytesAre vs ls → vs.length = ls.length
  | [], [], _ => rfl
  | _ :: _, _ :: _, ⟨_, r⟩ => congrArg (· + 1) (BytesAre.length r)
  | [], _ :: _, r => r.elim
  | _ :: _, [], r => r.elim
/-- the state ahead of a turn of the law's loop -/
def LLInv (g : Heap) (L : Addr) (d : List UInt8) (t0 : Tok) (s : Shared) (n : Nat) (s' : Shared) : Prop :=
  ∃ (h : Heap) (tk : Nat) (acc : List (List UInt8)) (st : Nat) (vs : List Value) (c : Nat) (m : Str → Option Value) (l : Addr) (v : Int) (tst tpl : Tok), s' = ⟨h, s.gens, s.drawn, tk, s.os⟩ ∧ Fr g L h m ∧ News g L h [(l, W.listOf (List.toArray vs) c)] ∧ m "octets" = some (.bytes d.toArray t0) ∧ m "lines" = some (.ref l) ∧ m "start" = some (.int (st : Int) tst) ∧ m "place" = some (.int v tpl) ∧
    findI d [10] st = v ∧ LoopIs d acc st ∧ BytesAre vs acc ∧ n = d.length + 1 - st ∧ acc.length ≤ st
theorem ll_inv {g : Heap} {L : Addr} {d : List UInt8} {t0 : Tok} {s : Shared} {n : Nat} {h : Heap} {tk : Nat} {acc : List (List UInt8)} {st : Nat} {vs : List Value} {c : Nat} {m : Str → Option Value} {l : Addr} {v : Int} {tst tpl : Tok}
    {arr : Array Value} (F : Fr g L h m) (N : News g L h [(l, W.listOf arr c)]) (ha : arr = List.toArray vs) (h1 : m "octets" = some (.bytes d.toArray t0)) (h2 : m "lines" = some (.ref l)) (h3 : m "start" = some (.int (st : Int) tst)) (h4 : m "place" = some (.int v tpl))
    (h5 : findI d [10] st = v) (h6 : LoopIs d acc st) (h7 : BytesAre vs acc) (h8 : n = d.length + 1 - st) (h9 : acc.length ≤ st) : LLInv g L d t0 s n ⟨h, s.gens, s.drawn, tk, s.os⟩ := by
  subst ha
  exact ⟨h, tk, acc, st, vs, c, m, l, v, tst, tpl, rfl, F, N, h1, h2, h3, h4, h5, h6, h7, h8, h9⟩
theorem fr_ll {g : Heap} {L : Addr} {h : Heap} {m : Str → Option Value} {o l a p : Value} (F : Fr g L h m) (h1 : m "octets" = some o) (h2 : m "lines" = some l) (h3 : m "start" = some a) (h4 : m "place" = some p) :
    Fr g L h (fun y => if y = Str.ofString "octets" then some o else if y = Str.ofString "lines" then some l else if y = Str.ofString "start" then some a else if y = Str.ofString "place" then some p else m y) := by
  have e : m = (fun y => if y = Str.ofString "octets" then some o else if y = Str.ofString "lines" then some l else if y = Str.ofString "start" then some a else if y = Str.ofString "place" then some p else m y) := by
    funext y
    by_cases e1 : y = Str.ofString "octets"
    · simp only [if_pos e1]; rw [e1]; exact h1
    · simp only [if_neg e1]
      by_cases e2 : y = Str.ofString "lines"
      · simp only [if_pos e2]; rw [e2]; exact h2
      · simp only [if_neg e2]
        by_cases e3 : y = Str.ofString "start"
        · simp only [if_pos e3]; rw [e3]; exact h3
        · simp only [if_neg e3]
          by_cases e4 : y = Str.ofString "place"
          · simp only [if_pos e4]; rw [e4]; exact h4
          · simp only [if_neg e4]
  rw [e] at F; exact F
theorem strip_yes {l : List UInt8} (h : l.drop (l.length - 1) = [13]) : strip l = l.dropLast := by
  rcases l.eq_nil_or_concat with rfl | ⟨a, b, rfl⟩
  · simp at h
  · simp at h; subst h; simp [strip]
theorem strip_no {l : List UInt8} (h : l.drop (l.length - 1) ≠ [13]) : strip l = l := by
  rcases l.eq_nil_or_concat with rfl | ⟨a, b, rfl⟩
  · rfl
  · simp at h; simp [strip, h]
end Mine
end

section
open PySem PySem.W PyProof.Rows PySem.Spec PySem.Calls
namespace Mine
local macro_rules | `(tactic| k_steps) => `(tactic| repeat' ((fail_if_success (with_reducible show wpN _ _ _ _ _ _)); (first | (k_unfold; (try dsimp only)) | walk1 | (dsimp only; walk1) | (leave1; walk_say "STEP leave1"; try dsimp only))))
local macro_rules | `(tactic| walk_at "subscriptTail") => `(tactic| (k_here; (with_reducible show wpAny _ _ (subscriptTail _ (Expr.Slice _ _ none _) (Value.ref _) (Value.ref _)) _ _ _); (with_reducible rename Fr _ _ _ _ => F'); (with_reducible rename News _ _ _ _ => N'); (refine' ba_slice (s := ⟨_, _, _, _, _⟩) F' N' ?bm ?bl ?bu ?bp ?bz ?_ ?bs; (case bm => k_mem); (case bl => constructor); (case bu => constructor); (case bp => first | exact picked_uptoE (by first | decide | omega) (by assumption) | exact picked_fromE (by first | decide | omega) (by assumption) | exact picked_midE (by first | decide | omega) (by first | decide | omega) (by assumption) | exact picked_initE (by assumption) | exact picked_lastE (by assumption) | exact picked_upto (by first | decide | omega) | exact picked_from (by first | decide | omega) | exact picked_mid (by first | decide | omega) (by first | decide | omega) | exact picked_init | exact picked_last); (case bz => first | omega | (simp only [List.length_take, List.length_drop]; omega)); (case bs => with_unfolding_all rfl)); intro q' h' F' N' l1; (try k_lt l1); (try k_sweep)))
local macro_rules | `(tactic| walk_at "subscriptTail") => `(tactic| (k_here; (with_reducible show wpAny _ _ (subscriptTail _ (Expr.Slice _ _ none _) (Value.bytes _ _) (Value.ref _)) _ _ _); (with_reducible rename Fr _ _ _ _ => F'); (with_reducible rename News _ _ _ _ => N'); (refine' by_slice (s := ⟨_, _, _, _, _⟩) F' N' ?bl ?bu ?bp ?bz ?_ ?bs ?bt; (case bl => constructor); (case bu => constructor); (case bp => first | exact picked_uptoE (by first | decide | omega) (by assumption) | exact picked_fromE (by first | decide | omega) (by assumption) | exact picked_midE (by first | decide | omega) (by first | decide | omega) (by assumption) | exact picked_initE (by assumption) | exact picked_lastE (by assumption) | exact picked_upto (by first | decide | omega) | exact picked_from (by first | decide | omega) | exact picked_mid (by first | decide | omega) (by first | decide | omega) | exact picked_init | exact picked_last); (case bz => first | omega | (simp only [List.length_take, List.length_drop]; omega)); (case bs => with_unfolding_all rfl); (case bt => intro _; with_unfolding_all rfl)); intro h' t' k' F' N'; (try k_sweep)))
local macro_rules | `(tactic| walk_at "truthy ref") => `(tactic| (k_here; (with_reducible show wpAny _ _ (truthy (Value.ref _)) _ _ _); (refine' truthyN ?bN ?bm ?bz ?_; (case bN => k_asm); (case bm => k_mem); (case bz => first | omega | (simp only [List.length_take, List.length_drop]; omega))); intro k'))
local macro_rules | `(tactic| walk_at "call builtin:len") => `(tactic| (k_here; (with_reducible show wpAny _ _ (call (Value.builtin "len") [Value.ref _]) _ _ _); (refine' lenN ?bN ?bm ?bz ?_; (case bN => k_asm); (case bm => k_mem); (case bz => first | omega | (simp only [List.length_take, List.length_drop]; omega))); intro t' k'))
local macro_rules | `(tactic| walk_at "call builtin:len") => `(tactic| (k_here; (with_reducible show wpAny _ _ (call (Value.builtin "len") [Value.bytes _ _]) _ _ _); (refine' lenB ?bz ?_; (case bz => first | omega | (simp only [List.length_take, List.length_drop]; omega))); intro t' k'))
local macro_rules | `(tactic| walk_at "call type:bytes") => `(tactic| (k_here; (with_reducible show wpAny _ _ (call (Value.type "bytes") [Value.ref _]) _ _ _); (refine' bytesN ?bN ?bm ?bz ?_; (case bN => k_asm); (case bm => k_mem); (case bz => first | omega | (simp only [List.length_take, List.length_drop]; omega))); intro t' k'))
local macro_rules | `(tactic| walk_at "compareOp Eq ref bytes") => `(tactic| (k_here; (with_reducible show wpAny _ _ (compareOp CmpOp.Eq (Value.ref _) (Value.bytes _ _)) _ _ _); (refine' eqN ?bu ?bN ?bm ?_; (case bu => k_units); (case bN => k_asm); (case bm => k_mem))))
local macro_rules | `(tactic| walk_at "compareOp Eq bytes bytes") => `(tactic| (k_here; (with_reducible show wpAny _ _ (compareOp CmpOp.Eq (Value.bytes _ _) (Value.bytes _ _)) _ _ _); refine eqB ?_))
local macro_rules | `(tactic| walk_at "compareOp NotEq bytes bytes") => `(tactic| (k_here; (with_reducible show wpAny _ _ (compareOp CmpOp.NotEq (Value.bytes _ _) (Value.bytes _ _)) _ _ _); refine neB ?_))
local macro_rules | `(tactic| walk_at "getMethod ref") => `(tactic| (k_here; (with_reducible show wpAny _ _ (getMethod (Value.ref _) (PySem.Str.ofString "find") _) _ _ _); (refine' getMethodN ?bN ?bm FA.slot_bytearray_find FA.type_bytearray_find ?_; (case bN => k_asm); (case bm => k_mem))))
local macro_rules | `(tactic| walk_at "getMethod ref") => `(tactic| (k_here; (with_reducible show wpAny _ _ (getMethod (Value.ref _) (PySem.Str.ofString "split") _) _ _ _); (refine' getMethodN ?bN ?bm FA.slot_bytearray_split FA.type_bytearray_split ?_; (case bN => k_asm); (case bm => k_mem))))
local macro_rules | `(tactic| walk_at "getMethod ref") => `(tactic| (k_here; (with_reducible show wpAny _ _ (getMethod (Value.ref _) (PySem.Str.ofString "endswith") _) _ _ _); (refine' getMethodN ?bN ?bm FA.slot_bytearray_endswith FA.type_bytearray_endswith ?_; (case bN => k_asm); (case bm => k_mem))))
local macro_rules | `(tactic| walk_at "getMethod bytes") => `(tactic| (k_here; (with_reducible show wpAny _ _ (getMethod (Value.bytes _ _) (PySem.Str.ofString "find") _) _ _ _); refine getMethodB FA.slot_bytes_find FA.type_bytes_find ?_))
local macro_rules | `(tactic| walk_at "ite") => `(tactic| first | (refine ite_neg (by assumption) ?_) | (refine ite_pos (by assumption) ?_) | (refine ite_neg (by simp only [beq_cons_nil, len_cons_eq, beq_self_eq_true, bne_self_eq_false, Bool.not_true, Bool.false_eq_true, not_false_eq_true, ne_eq, not_true_eq_false, decide_false, decide_true, List.isEmpty_nil, List.isEmpty_cons, Bool.not_false, List.length_nil]; done) ?_) | (refine ite_pos (by simp only [bne_iff_ne, ne_eq, decide_eq_true_eq, not_false_eq_true, decide_true, beq_cons_nil, len_cons_eq, len_cons_eq, beq_self_eq_true, List.isEmpty_nil, List.isEmpty_cons, Bool.not_false, Bool.not_true]; done) ?_) | (refine ite_neg (by (simp only [beq_iff_eq, bne_iff_ne, decide_eq_true_eq, ge_iff_le, gt_iff_lt, ne_eq, Bool.not_eq_true', decide_eq_false_iff_not, Int.not_le, Int.not_lt]); omega) ?_) | (refine ite_pos (by (simp only [beq_iff_eq, bne_iff_ne, decide_eq_true_eq, ge_iff_le, gt_iff_lt, ne_eq, Bool.not_eq_true', decide_eq_false_iff_not, Int.not_le, Int.not_lt]); omega) ?_))
local macro_rules | `(tactic| walk_at "subscriptTail") => `(tactic| (k_here; (with_reducible show wpAny _ _ (subscriptTail _ _ (Value.ref _) (Value.int _ _)) _ _ _); k_dflt (first | (refine' itemN0 ?bN ?bm ?_ ?bs; (case bN => k_asm); (case bm => k_mem); (case bs => with_unfolding_all rfl); intro t' k') | (refine' itemN_out ?bh ?bN ?bm ?_ ?bs; (case bh => exact rfl); (case bN => k_asm); (case bm => k_mem); (case bs => with_unfolding_all rfl)))))
local macro_rules | `(tactic| walk_at "call ref") => `(tactic| (k_here; (with_reducible show wpAny _ (Around.deeper callerA _) _ _ _ _); (fail_if_success (with_reducible rename TI.Caller _ _ _ _ => tiC')); tlg_look; k_dflt (first | (refine call_meth (by k_asm) (by k_mem) ?_; tlg_enter) | (refine wpAny_call ?_; tlg_enter))))
local macro_rules | `(tactic| walk_at "subscriptTail") => `(tactic| (k_here; (with_reducible show wpAny _ _ (subscriptTail _ _ (Value.bytes (List.toArray (List.cons _ _)) _) (Value.int _ _)) _ _ _); k_dflt (refine' itemB0 ?bz ?_ ?bs ?bt; (case bz => first | omega | (simp only [List.length_take, List.length_drop]; omega)); (case bs => with_unfolding_all rfl); (case bt => intro _; with_unfolding_all rfl)); intro t' k'))
local macro_rules | `(tactic| walk_at "call builtin:bytearray.find") => `(tactic| (k_here; (try simp only [List.cons_append, List.nil_append]); (with_reducible show wpAny _ _ (call (Value.builtin "bytearray.find") [Value.ref _, Value.bytes _ _, Value.int _ _]) _ _ _); k_dflt (refine' find3NE ?bN ?bm ?bi ?bf ?_; (case bN => k_asm); (case bm => k_mem); (case bi => first | assumption | decide | omega); (case bf => assumption)); intro t' k'))
local macro_rules | `(tactic| walk_at "call builtin:bytes.find") => `(tactic| (k_here; (try simp only [List.cons_append, List.nil_append]); (with_reducible show wpAny _ _ (call (Value.builtin "bytes.find") [Value.bytes _ _, Value.bytes _ _, Value.int _ _]) _ _ _); k_dflt (refine' find3BE ?bi ?bf ?_; (case bi => first | assumption | decide | omega); (case bf => assumption)); intro t' k'))
local macro_rules | `(tactic| walk_at "call builtin:bytes.find") => `(tactic| (k_here; (try simp only [List.cons_append, List.nil_append]); (with_reducible show wpAny _ _ (call (Value.builtin "bytes.find") [Value.bytes _ _, Value.bytes _ _]) _ _ _); k_dflt (refine' find2BE ?bf ?_; (case bf => assumption)); intro t' k'))
local macro_rules | `(tactic| walk_at "subscriptTail") => `(tactic| (k_here; (with_reducible show wpAny _ _ (subscriptTail _ _ (Value.ref _) (Value.int _ _)) _ _ _); k_dflt (refine' item_piece ?bl ?ba ?b0 ?b1 ?b2 ?_ ?bs; (case bl => is_list); (case ba => (repeat' first | exact True.intro | refine And.intro ⟨_, _, rfl, by decide⟩ ?_)); (case b0 => omega); (case b1 => (simp only [List.length_cons, List.length_nil]; omega)); (case b2 => omega); (case bs => with_unfolding_all rfl)); intro p' t' hp'))
local macro_rules | `(tactic| walk_at "binaryOp Add bytes bytes") => `(tactic| (k_here; (with_reducible show wpAny _ _ (binaryOp Operator.Add (Value.bytes _ _) (Value.bytes _ _)) _ _ _); (refine' addB ?bz ?_; (case bz => omega)); intro t' k'))
local macro_rules | `(tactic| walk_at "call builtin:list.append") => `(tactic| (k_here; (with_reducible show wpAny _ _ (call (Value.builtin _) [Value.ref _, _]) _ _ _); k_dflt (refine' append_K ?k1 ?k2 ?k3 ?_ ?z; (case k1 => k_asm); (case k2 => k_asm); (case k3 => k_upd); (case z => (rw [List.size_toArray, sizeLine_eq]; omega)); k_whole); intro h' F' N'; (try k_sweep)))
set_option maxHeartbeats 8000000 in
theorem ll_code {w : World} {A : Around} {s : Shared} {R : Result → Shared → Prop} {d : List UInt8} {t : Tok}
    (hnone : due1 [] d = none → ∀ h' tk, (∀ b o, s.heap.get? b = some o → h'.get? b = some o) → R (.ok (.ret .none)) ⟨h', s.gens, s.drawn, tk, s.os⟩)
    (hsome : ∀ ls e, due1 [] d = some (ls, e) → ∀ h' tk l tup vs c te, (∀ b o, s.heap.get? b = some o → h'.get? b = some o) → h'.get? l = some (W.listOf (List.toArray vs) c) → h'.get? tup = some { cls := .type "tuple", data := .seq #[.ref l, .int (e : Int) te] } → s.heap.get? l = none → s.heap.get? tup = none → l ≠ tup → BytesAre vs ls → R (.ok (.ret (.ref tup))) ⟨h', s.gens, s.drawn, tk, s.os⟩) :
    (hd.heap_39 w.params).In s.heap → s.heap.NoLimit → A.depth < recursionLimit → d.length ≤ 378 →
    codeAny (model Challenge.rw_jr0005_01.row.prog w) A (.call (.ref 117) ⟨[.bytes d.toArray t], []⟩) R s := by
  k_fill
  intro X hlim hroom hz
  k_dflt (refine' code_fresh ?k3 ?k5 ?k6 ?k7 ?k8 ?k9 ?kB ?_ ?c2 ?c3 ?c4 ?c5; (case k3 => k_asm); (case k5 => k_asm); (case k6 => k_is); (case k7 => k_is); (case k8 => exact hroom); (case k9 => exact BindsTo.of_eq rfl); (case c5 => decide); (case kB => exact locs rfl); (case c2 => exact rfl); (case c3 => exact rfl); (case c4 => exact rfl))
  intro h₁ F N
  dsimp only
  all_goals try k_fold
  obtain ⟨v0, hv0⟩ : ∃ v, findI d [10] 0 = v := ⟨_, rfl⟩
  repeat ((fail_if_success (with_reducible show wpAny _ _ (exec (Stmt.While _ _ _ _) _) _ _ _)); (first | (k_unfold; (try dsimp only)) | walk1 | (dsimp only; walk1)))
  with_reducible rename Fr _ _ _ _ => F3
  with_reducible rename News _ _ _ _ => N3
  refine wpAny_While ?_
  refine codeAny_whileLoop (LLInv s.heap s.heap.objs.size d t s) ?turn (d.length + 1) ?start
  case start => exact ll_inv F3 N3 rfl (by rfl) (by rfl) (by rfl) (by rfl) hv0 (loop_start d) (by trivial) (by simp) (by simp)
  case turn =>
    clear F3 N3 hv0
    intro n s5 hI
    obtain ⟨h5, tk5, acc, st, vs, c, m, l, v, tst, tpl, rfl, F5, N5, hm1, hm2, hm3, hm4, hv, hL, hB, hn, hal⟩ := hI
    have F6 := fr_ll F5 hm1 hm2 hm3 hm4
    clear F5
    rcases findI_cases (d := d) (sub := [10]) (i := st) (by simp) with ⟨hf, hno⟩ | ⟨j, hf, hj1, hj2, hj3, hj4⟩
    · rw [hf] at hv
      subst hv
      have hdue := loop_end hL hno
      repeat (first | (k_unfold; (try dsimp only)) | walk1 | (dsimp only; walk1))
      exact hnone hdue _ _ F6.keep
    · rw [hf] at hv
      subst hv
      obtain ⟨ln, hln⟩ : ∃ x, (d.take (j : Int).toNat).drop (st : Int).toNat = x := ⟨_, rfl⟩
      have hln' : (d.take j).drop st = ln := hln
      have hgo := loop_go hL hj1 hj2 hj3
      have hret := loop_ret hL hj1 hj2 hj3
      rw [hln'] at hgo hret
      have hll : ln.length ≤ 378 := by rw [← hln', List.length_drop, List.length_take]; omega
      obtain ⟨La, hLa⟩ : ∃ x, ln.drop (ln.length - 1) = x := ⟨_, rfl⟩
      by_cases hcr : La = [13]
      · subst hcr
        rw [strip_yes hLa] at hgo hret
        obtain ⟨L2, hL2⟩ : ∃ x, ln.dropLast = x := ⟨_, rfl⟩
        rw [hL2] at hgo hret
        rcases L2 with _ | ⟨c0, r0⟩
        · have hdue := hret rfl
          repeat (first | (k_unfold; (try dsimp only)) | walk1 | (dsimp only; walk1))
          with_reducible rename Fr _ _ _ _ => F8
          with_reducible rename News _ _ _ _ => N8
          refine hsome _ _ hdue _ _ l _ vs c _ F8.keep (N8 _ (.tail _ (.head _))).1 (N8 _ (.head _)).1 (N8 _ (.tail _ (.head _))).2.2 (N8 _ (.head _)).2.2 (by k_ne) hB
        · have hinv := hgo (by simp)
          obtain ⟨v2, hv2⟩ : ∃ v, findI d [10] ((j : Int) + 1).toNat = v := ⟨_, rfl⟩
          have hj0 : ((j : Int) + 1).toNat = j + 1 := by omega
          have hvl : vs.length ≤ 378 := by rw [hB.length]; have := hL.1; omega
          repeat (first | (k_unfold; (try dsimp only)) | walk1 | (dsimp only; walk1))
          rotate_left 1
          · exact ll_inv (n := d.length + 1 - (j + 1)) (st := j + 1) (by k_asm) (by k_asm) (by rw [List.push_toArray]) (by rfl) (by rfl) (by rfl) (by rfl) (by rw [← hj0]; exact hv2) hinv hB.snoc rfl (by have := hL.1; simp; omega)
          · omega
      · rw [strip_no (by rw [hLa]; exact hcr)] at hgo hret
        have hcr' : ¬ ((La == [13]) = true) := by simpa using hcr
        rcases ln with _ | ⟨c0, r0⟩
        · have hdue := hret rfl
          repeat (first | (k_unfold; (try dsimp only)) | walk1 | (dsimp only; walk1))
          with_reducible rename Fr _ _ _ _ => F8
          with_reducible rename News _ _ _ _ => N8
          refine hsome _ _ hdue _ _ l _ vs c _ F8.keep (N8 _ (.tail _ (.head _))).1 (N8 _ (.head _)).1 (N8 _ (.tail _ (.head _))).2.2 (N8 _ (.head _)).2.2 (by k_ne) hB
        · have hinv := hgo (by simp)
          obtain ⟨v2, hv2⟩ : ∃ v, findI d [10] ((j : Int) + 1).toNat = v := ⟨_, rfl⟩
          have hj0 : ((j : Int) + 1).toNat = j + 1 := by omega
          have hvl : vs.length ≤ 378 := by rw [hB.length]; have := hL.1; omega
          repeat (first | (k_unfold; (try dsimp only)) | walk1 | (dsimp only; walk1))
          rotate_left 1
          · exact ll_inv (n := d.length + 1 - (j + 1)) (st := j + 1) (by k_asm) (by k_asm) (by rw [List.push_toArray]) (by rfl) (by rfl) (by rfl) (by rfl) (by rw [← hj0]; exact hv2) hinv hB.snoc rfl (by have := hL.1; simp; omega)
          · omega
section
variable {w : World} {A : Around} {s : Shared} {E : Value → Shared → Prop} {h₀ : Heap} {L : Addr} {m mg mb : Str → Option Value} {news : List (Addr × Obj)} {p : Program} {loose : List Str} {mean : ExcName → Option Value} {d : List UInt8} {t : Tok} {Q : Value → Shared → Prop}
theorem ll_none (F : Fr h₀ L s.heap m) (N : News h₀ L s.heap news) (X₀ : (hd.heap_39 w.params).In h₀) (T : Top p loose mean mg mb h₀) (hroom : A.depth < recursionLimit) (hz : d.length ≤ 378) (hD : due1 [] d = none)
    (h : ∀ h' k, Fr h₀ L h' m → News h₀ L h' news → Q .none { s with heap := h', toks := k }) : wpAny (model Challenge.rw_jr0005_01.row.prog w) A (call (.ref 117) [.bytes d.toArray t]) Q E s :=
  wpAny_call (ll_code (fun _ h' k hk => h h' k (F.keeps hk) (N.grown hk)) (fun ls e h2 => by rw [hD] at h2; cases h2) (X₀.keeps F.keep) (T.nolimit.keeps F.keep) hroom hz)
theorem ll_some {ls : List (List UInt8)} {e : Nat} (F : Fr h₀ L s.heap m) (N : News h₀ L s.heap news) (X₀ : (hd.heap_39 w.params).In h₀) (T : Top p loose mean mg mb h₀) (hroom : A.depth < recursionLimit) (hz : d.length ≤ 378) (hD : due1 [] d = some (ls, e))
    (h : ∀ h' k l tup vs c te, Fr h₀ L h' m → News h₀ L h' ((tup, { cls := .type "tuple", data := .seq #[.ref l, .int (e : Int) te] }) :: (l, W.listOf (List.toArray vs) c) :: news) → BytesAre vs ls → Q (.ref tup) { s with heap := h', toks := k }) :
    wpAny (model Challenge.rw_jr0005_01.row.prog w) A (call (.ref 117) [.bytes d.toArray t]) Q E s :=
  wpAny_call (ll_code (fun h2 => by rw [hD] at h2; cases h2) (fun ls' e' h2 h' k l tup vs c te hk hl htup nl nt hne hB => by
    rw [hD] at h2
    simp only [Option.some.injEq, Prod.mk.injEq] at h2
    obtain ⟨rfl, rfl⟩ := h2
    refine h h' k l tup vs c te (F.keeps hk) (fun q hq => ?_) hB
    have hf : ∀ a, s.heap.get? a = none → a ≠ L ∧ h₀.get? a = none := fun a ha => by
      refine ⟨fun e => ?_, ?_⟩
      · obtain ⟨oL, _, _, hL, _⟩ := F.ns
        rw [e, hL] at ha; cases ha
      · rcases hg : h₀.get? a with _ | o
        · rfl
        · rw [F.keep _ _ hg] at ha; cases ha
    rcases List.mem_cons.mp hq with rfl | hq
    · exact ⟨htup, hf _ nt⟩
    · rcases List.mem_cons.mp hq with rfl | hq
      · exact ⟨hl, hf _ nl⟩
      · exact (N.grown hk) q hq) (X₀.keeps F.keep) (T.nolimit.keeps F.keep) hroom hz)
end
end Mine
end

section
open PySem PySem.W PyProof.Rows PySem.Spec PySem.Calls
namespace Mine
section
variable {prog : Program} {w : World} {A : Around} {E : Value → Shared → Prop} {s : Shared} {h₀ : Heap} {L : Addr} {m : Str → Option Value} {news : List (Addr × Obj)}
theorem any_execs_cut {M : Model} {env : Env} {st : Stmt} {rest : List Stmt} {Q : Flow → Shared → Prop} (Mid : Shared → Prop)
    (h1 : wpAny M A (exec st env) (fun f s' => f = .next ∧ Mid s') (fun _ _ => False) s) (h2 : ∀ s', Mid s' → wpAny M A (execs rest env) Q E s') : wpAny M A (execs (st :: rest) env) Q E s :=
  wpAny_execs_cons (wpAny_mono h1 (fun f s' h => by obtain ⟨rfl, h⟩ := h; exact h2 s' h) fun _ _ x => x.elim)
theorem BytesAre.get : ∀ {vs ls} {j : Nat} {l : List UInt8}, BytesAre vs ls → ls[j]? = some l → ∃ t, vs[j]? = some (.bytes l.toArray t)
  | [], [], _, _, _, h => by simp at h
  | v :: _, l :: _, 0, _, ⟨⟨t, e⟩, _⟩, h => by
    obtain rfl := Option.some.inj h
    exact ⟨t, by rw [e]; rfl⟩
  | _ :: vs, _ :: ls, j + 1, l, ⟨_, r⟩, h => by
    obtain ⟨t, e⟩ := BytesAre.get (vs := vs) (ls := ls) (j := j) (l := l) r (by simpa using h)
    exact ⟨t, by simpa using e⟩
  | [], _ :: _, _, _, r, _ => r.elim
  | _ :: _, [], _, _, r, _ => r.elim
theorem eqAt_bytes (l : List UInt8) (t u : Tok) : SeqAt.EqAt A s (.bytes l.toArray t) (.bytes l.toArray u) true := fun prog w E Q h => by
  unfold eqBool
  refine wpAny_holding ?_
  refine wpAny_ite_split (fun _ => wpAny_bind (wpAny_rule (wpAny_pure h))) (fun _ => ?_)
  refine wpAny_bind ?_
  have hb : (l.toArray.toList == l.toArray.toList) = true := beq_self_eq_true _
  exact eq_bytes (prog := prog) (w := w) (A := A) (E := E) (s := s) (b := l.toArray) (c := l.toArray) (t := t) (u := u) (Q := fun a s' => wpAny (model prog w) A (truthOfDropped a) Q E s') (by rw [hb]; exact wpAny_truthy_bool h)
theorem ne_bytes_same {a b : Addr} {xs ys : List Value} {ls : List (List UInt8)} {Q : Value → Shared → Prop} (ha : s.heap.IsList a xs.toArray) (hb : s.heap.IsList b ys.toArray) (hx : BytesAre xs ls) (hy : BytesAre ys ls) (hu : A.units < cLine) (h : Q (.bool false) s) :
    wpAny (model prog w) A (compareOp .NotEq (.ref a) (.ref b)) Q E s := by
  show wpAny _ _ (richCompare .NotEq (.ref a) (.ref b)) _ _ _
  refine SeqAt.RcNeAt.lists (e := fun _ => true) ha hb (by rw [List.size_toArray, List.size_toArray, hx.length, hy.length]) hu (fun j h1 h2 => ?_) prog w E Q ?_
  · rw [List.size_toArray] at h1 h2
    have h3 : j < ls.length := hx.length ▸ h1
    obtain ⟨t, e⟩ := hx.get (List.getElem?_eq_getElem h3)
    obtain ⟨u, e'⟩ := hy.get (List.getElem?_eq_getElem h3)
    have e1 : xs.toArray[j] = .bytes ls[j].toArray t := by
      rw [List.getElem?_eq_getElem h1] at e; simpa using e
    have e2 : ys.toArray[j] = .bytes ls[j].toArray u := by
      rw [List.getElem?_eq_getElem h2] at e'; simpa using e'
    rw [e1, e2]; exact eqAt_bytes _ _ _
  · have : (List.range xs.toArray.size).all (fun _ => true) = true := by simp
    rw [this]; exact h
end
section
variable {prog : Program} {w : World} {A : Around} {h₀ : Heap} {L : Addr} {m : Str → Option Value} {env : Env} {elt : PySem.Expr} {x : Str} {scope : Scope} {cl : List (Str × Addr)} {s : Shared} {S : List (Addr × Obj) → Prop} {Fin : List Value → List (Addr × Obj) → Prop} {news : List (Addr × Obj)} {vs : List Value} {ls : List (List UInt8)}
def CbEl (news : List (Addr × Obj)) (l : List UInt8) (y : Value) (news' : List (Addr × Obj)) : Prop := news' = news ∧ ∃ t : Tok, y = .bytes l.toArray t
/-- [bytes(line) for line in ..] -/
theorem cb_rest (hR : RefsTo news vs ls)
    (turn : ∀ a l I oI C oC D m₂ ys h tk (E' : Value → Shared → Prop), (a, baObj l.toArray) ∈ news → l ∈ ls → LCg.NsObj oC m₂ → m₂ x = some (.ref a) → Fr h₀ L h m → News h₀ L h ((I, oI) :: (C, oC) :: (D, LCg.lst ys) :: news) → LCg.Off3 I C D news → ((@Ne Nat I C) ∧ (@Ne Nat I D) ∧ (@Ne Nat C D)) →
      wpAny (model prog w) A (eval elt (compEnvC scope cl C env)) (LCg.CompEnd h₀ L m { s with heap := h, toks := tk } I oI C oC D (LCg.lst ys) S (fun y news' => CbEl news l y news')) E' { s with heap := h, toks := tk })
    (fin : ∀ ys, BytesAre ys ls → Fin ys news) : LCg.CompRest prog w A h₀ L m env elt x scope cl s S (fun i v => vs.toArray[i]? = some v) Fin vs.toArray.size 0 [] news := by
  have hlen := hR.length
  have key : ∀ (j i : Nat) (ys : List Value), i + j = vs.length → BytesAre ys (ls.take i) → LCg.CompRest prog w A h₀ L m env elt x scope cl s S (fun i v => vs.toArray[i]? = some v) Fin j i ys news := by
    intro j
    induction j with
    | zero =>
      intro i ys hi hy
      rw [List.take_of_length_le (by omega)] at hy
      exact LCg.CompRest.zero (fin ys hy)
    | succ j ih =>
      intro i ys hi hy
      refine LCg.CompRest.succ ?_
      intro v I oI C oC D m₂ h tk E' hv hC hx F N off ne
      have hil : i < ls.length := by omega
      obtain ⟨a, hva, hm⟩ := hR.get (List.getElem?_eq_getElem hil)
      have hv' : v = .ref a := by
        have : vs[i]? = some v := by simpa using hv
        rw [hva] at this; exact (Option.some.inj this).symm
      rw [hv'] at hx
      refine wpAny_mono (turn a ls[i] I oI C oC D m₂ ys h tk E' hm (List.getElem_mem hil) hC hx F N off ne) (fun y s₂ hq => ?_) fun _ _ e => e
      obtain ⟨h', tk', nw, e, F', N', off', hS, hn, t', hy'⟩ := hq
      rw [hn] at N' off' hS
      refine ⟨h', tk', news, e, F', N', off', hS, ?_⟩
      rw [hy']
      refine ih (i + 1) _ (by omega) ?_
      rw [List.take_add_one, List.getElem?_eq_getElem hil]
      exact hy.snoc
  rw [List.size_toArray]
  exact key vs.length 0 [] (by omega) trivial
def CsEl (news : List (Addr × Obj)) (l : List UInt8) (y : Value) (news' : List (Addr × Obj)) : Prop := ∃ a objs, y = .ref a ∧ news' = objs ++ news ∧ (a, baObj (strip l).toArray) ∈ news'
theorem RefsTo.snoc {O : List (Addr × Obj)} {a : Addr} {l : List UInt8} (hm : (a, baObj l.toArray) ∈ O) : ∀ {vs ls}, RefsTo O vs ls → RefsTo O (vs ++ [.ref a]) (ls ++ [l])
  | [], [], _ => ⟨⟨a, rfl, hm⟩, trivial⟩
  | _ :: _, _ :: _, ⟨h, r⟩ => ⟨h, RefsTo.snoc hm r⟩
  | [], _ :: _, r => r.elim
  | _ :: _, [], r => r.elim
/-- [line[:-1] if line.endswith(..) else line for line in ..] -/
theorem cs_rest (hR : RefsTo news vs ls)
    (turn : ∀ a l I oI C oC D m₂ ys news1 h tk (E' : Value → Shared → Prop), (a, baObj l.toArray) ∈ news1 → l ∈ ls → (∀ p ∈ news, p ∈ news1) → LCg.NsObj oC m₂ → m₂ x = some (.ref a) → Fr h₀ L h m → News h₀ L h ((I, oI) :: (C, oC) :: (D, LCg.lst ys) :: news1) → LCg.Off3 I C D news1 → ((@Ne Nat I C) ∧ (@Ne Nat I D) ∧ (@Ne Nat C D)) →
      wpAny (model prog w) A (eval elt (compEnvC scope cl C env)) (LCg.CompEnd h₀ L m { s with heap := h, toks := tk } I oI C oC D (LCg.lst ys) S (fun y news' => CsEl news1 l y news')) E' { s with heap := h, toks := tk })
    (fin : ∀ ys objs, RefsTo (objs ++ news) ys (ls.map strip) → Fin ys (objs ++ news)) : LCg.CompRest prog w A h₀ L m env elt x scope cl s S (fun i v => vs.toArray[i]? = some v) Fin vs.toArray.size 0 [] news := by
  have hlen := hR.length
  have key : ∀ (j i : Nat) (ys : List Value) (objs : List (Addr × Obj)), i + j = vs.length → RefsTo (objs ++ news) ys ((ls.take i).map strip) → LCg.CompRest prog w A h₀ L m env elt x scope cl s S (fun i v => vs.toArray[i]? = some v) Fin j i ys (objs ++ news) := by
    intro j
    induction j with
    | zero =>
      intro i ys objs hi hy
      rw [List.take_of_length_le (by omega)] at hy
      exact LCg.CompRest.zero (fin ys objs hy)
    | succ j ih =>
      intro i ys objs hi hy
      refine LCg.CompRest.succ ?_
      intro v I oI C oC D m₂ h tk E' hv hC hx F N off ne
      have hil : i < ls.length := by omega
      obtain ⟨a, hva, hm⟩ := hR.get (List.getElem?_eq_getElem hil)
      have hv' : v = .ref a := by
        have : vs[i]? = some v := by simpa using hv
        rw [hva] at this; exact (Option.some.inj this).symm
      rw [hv'] at hx
      refine wpAny_mono (turn a ls[i] I oI C oC D m₂ ys (objs ++ news) h tk E' (List.mem_append.mpr (.inr hm)) (List.getElem_mem hil) (fun p hp => List.mem_append.mpr (.inr hp)) hC hx F N off ne) (fun y s₂ hq => ?_) fun _ _ e => e
      obtain ⟨h', tk', nw, e, F', N', off', hS, a', objs', rfl, rfl, hm'⟩ := hq
      refine ⟨h', tk', _, e, F', N', off', hS, ?_⟩
      rw [← List.append_assoc] at hm' ⊢
      refine ih (i + 1) _ (objs' ++ objs) (by omega) ?_
      rw [List.take_add_one, List.getElem?_eq_getElem hil]
      rw [Option.toList_some, List.map_append]
      refine RefsTo.snoc hm' (RefsTo.mono (fun p hp => ?_) hy)
      rw [List.append_assoc]; exact List.mem_append.mpr (.inr hp)
  rw [List.size_toArray]
  exact key vs.length 0 [] [] (by omega) trivial
end
end Mine
end

section
open PySem PySem.W PyProof.Rows PySem.Spec PySem.Calls
namespace Mine
section
variable {prog : Program} {w : World} {A : Around} {E : Value → Shared → Prop} {s : Shared} {h₀ : Heap} {L a : Addr} {m : Str → Option Value} {news : List (Addr × Obj)} {value slice : PySem.Expr} {Q : Value → Shared → Prop} {vs : List Value} {v1 v2 : Value} {n : Nat}
theorem item_m2 {u : Tok} (N : News h₀ L s.heap news) (hm : (a, { cls := .type "list", data := .seq (vs ++ [v1, v2]).toArray n }) ∈ news) (h : Q v1 s)
    (hs : subscripted slice false (.ref a) (.int (-2) u) = operate [.ref a, .int (-2) u] (getItem (.ref a) (.int (-2) u)) := by with_unfolding_all rfl) (hg : ∀ r, letTemporaryGo value (.ref a) r = pure () := by intro _; with_unfolding_all rfl) :
    wpAny (model prog w) A (subscriptTail value slice (.ref a) (.int (-2) u)) Q E s := by
  refine kim_back (l := vs ++ [v1, v2]) N hm rfl rfl (by decide) (by simp; omega) (by decide) ?_ h hs hg
  have : (-2 + ((vs ++ [v1, v2]).length : Int)).toNat = vs.length := by simp; omega
  rw [this, List.getElem?_append_right (Nat.le_refl _), Nat.sub_self]; rfl
theorem item_m1 {u : Tok} (N : News h₀ L s.heap news) (hm : (a, { cls := .type "list", data := .seq (vs ++ [v1, v2]).toArray n }) ∈ news) (h : Q v2 s)
    (hs : subscripted slice false (.ref a) (.int (-1) u) = operate [.ref a, .int (-1) u] (getItem (.ref a) (.int (-1) u)) := by with_unfolding_all rfl) (hg : ∀ r, letTemporaryGo value (.ref a) r = pure () := by intro _; with_unfolding_all rfl) :
    wpAny (model prog w) A (subscriptTail value slice (.ref a) (.int (-1) u)) Q E s := by
  refine kim_back (l := vs ++ [v1, v2]) N hm rfl rfl (by decide) (by simp; omega) (by decide) ?_ h hs hg
  have : (-1 + ((vs ++ [v1, v2]).length : Int)).toNat = vs.length + 1 := by simp; omega
  rw [this, List.getElem?_append_right (Nat.le_succ _)]
  have : vs.length + 1 - vs.length = 1 := by omega
  rw [this]; rfl
theorem slice_m2 {t : Tok} (F : Fr h₀ L s.heap m) (N : News h₀ L s.heap news) (hm : (a, { cls := .type "list", data := .seq (vs ++ [v1, v2]).toArray n }) ∈ news) (hz : vs.length ≤ 100000)
    (h : ∀ q h', Fr h₀ L h' m → News h₀ L h' ((q, { cls := .type "list", data := .seq vs.toArray }) :: news) → (∀ p ∈ news, p.1 < q) → Q (.ref q) { s with heap := h' })
    (hs : subscripted slice false (.ref a) (.ref s.heap.objs.size) = operate [.ref s.heap.objs.size, .ref a] (getItem (.ref a) (.ref s.heap.objs.size)) := by with_unfolding_all rfl) :
    wpAny (model prog w) A (subscriptTail value slice (.ref a) (.ref s.heap.objs.size)) Q E { s with heap := s.heap.push { cls := .type "slice", data := .fields #[.none, .int (-2) t, .none] } } := by
  have F1 := F.push { cls := .type "slice", data := .fields #[.none, .int (-2) t, .none] }
  have N1 : News h₀ L (s.heap.push { cls := .type "slice", data := .fields #[.none, .int (-2) t, .none] }) news := fun p hp => (N.push F { cls := .type "slice", data := .fields #[.none, .int (-2) t, .none] }) p (.tail _ hp)
  have e1 := (N1 _ hm).1
  have hl : (s.heap.push { cls := .type "slice", data := .fields #[.none, .int (-2) t, .none] }).IsList a (vs ++ [v1, v2]).toArray := ⟨_, e1, rfl, _, rfl⟩
  refine tail_any hl.typeIs slot_list_getitem.lookup (wpAny_getItem_list_slice (lo := none) (hi := some (-2)) (st := none) hl (Heap.IsSliceOf.new _ _ _ _) .none (.int _ _) .none (fun e => nomatch e) ?_ ?_) hs
  · have e : slicePick (vs ++ [v1, v2]).toArray none (some (-2)) none = vs.toArray := by
      have := slicePick_butLast (vs ++ [v1, v2]).toArray 2 (by decide)
      have h2 : (-((2 : Nat) : Int)) = -2 := rfl
      rw [h2] at this
      rw [this]
      have h3 : (vs ++ [v1, v2]).toArray.size - 2 = vs.length := by simp
      rw [h3]
      simp
    rw [e]
    exact h _ _ (F1.push _) (N1.push F1 _) fun p hp => Heap.lt_size (N1 p hp).1
  · rw [List.size_toArray, sizeLine_eq]; simp; omega
theorem item_tup1 {u : Tok} {n : Nat} (N : News h₀ L s.heap news) (hm : (a, { cls := .type "tuple", data := .seq #[v1, v2] n }) ∈ news) (h : Q v2 s)
    (hs : subscripted slice false (.ref a) (.int 1 u) = operate [.ref a, .int 1 u] (getItem (.ref a) (.int 1 u)) := by with_unfolding_all rfl) (hg : ∀ r, letTemporaryGo value (.ref a) r = pure () := by intro _; with_unfolding_all rfl) :
    wpAny (model prog w) A (subscriptTail value slice (.ref a) (.int 1 u)) Q E s :=
  kim_tup (l := [v1, v2]) (j := 1) N hm rfl rfl (by decide) (by decide) rfl rfl h hs hg
theorem item_tup0 {u : Tok} {n : Nat} (N : News h₀ L s.heap news) (hm : (a, { cls := .type "tuple", data := .seq #[v1, v2] n }) ∈ news) (h : Q v1 s)
    (hs : subscripted slice false (.ref a) (.int 0 u) = operate [.ref a, .int 0 u] (getItem (.ref a) (.int 0 u)) := by with_unfolding_all rfl) (hg : ∀ r, letTemporaryGo value (.ref a) r = pure () := by intro _; with_unfolding_all rfl) :
    wpAny (model prog w) A (subscriptTail value slice (.ref a) (.int 0 u)) Q E s :=
  kim_tup (l := [v1, v2]) (j := 0) N hm rfl rfl (by decide) (by decide) rfl rfl h hs hg
theorem ne_bytesN {b : Addr} {xs ys : List Value} {i j : Nat} {ls : List (List UInt8)} (N : News h₀ L s.heap news) (ha : (a, { cls := .type "list", data := .seq xs.toArray i }) ∈ news) (hb : (b, { cls := .type "list", data := .seq ys.toArray j }) ∈ news) (hx : BytesAre xs ls) (hy : BytesAre ys ls) (hu : A.units < cLine) (h : Q (.bool false) s) :
    wpAny (model prog w) A (compareOp .NotEq (.ref a) (.ref b)) Q E s :=
  ne_bytes_same ⟨_, (N _ ha).1, rfl, _, rfl⟩ ⟨_, (N _ hb).1, rfl, _, rfl⟩ hx hy hu h
theorem endsNE {d sub : List UInt8} {t : Tok} {r : Bool} (N : News h₀ L s.heap news) (hm : (a, baObj d.toArray) ∈ news) (hr : (if d.length < sub.length then false else d.drop (d.length - sub.length) == sub) = r) (h : Q (.bool r) s) :
    wpAny (model prog w) A (call (.builtin "bytearray.endswith") [.ref a, .bytes sub.toArray t]) Q E s := endsN N hm fun r' h' => by rw [h', hr]; exact h
end
theorem strip_le (l : List UInt8) : (strip l).length ≤ l.length := by
  unfold strip
  split
  · rw [List.length_dropLast]; omega
  · exact Nat.le_refl _
theorem due1_len {d : List UInt8} : ∀ {cur ls e}, due1 cur d = some (ls, e) → ls.length ≤ d.length ∧ ∀ l ∈ ls, l.length ≤ cur.length + d.length := by
  induction d with
  | nil => intro cur ls e h; simp [due1] at h
  | cons c r ih =>
    intro cur ls e h
    rw [due1] at h
    split at h
    · split at h
      · simp only [Option.some.injEq, Prod.mk.injEq] at h
        obtain ⟨rfl, rfl⟩ := h
        exact ⟨by simp, fun l hl => nomatch hl⟩
      · rcases h2 : due1 [] r with _ | ⟨l2, e2⟩ <;> rw [h2] at h <;> simp at h
        obtain ⟨rfl, rfl⟩ := h
        have := ih h2
        refine ⟨by simp; omega, fun l hl => ?_⟩
        rcases List.mem_cons.mp hl with rfl | hl
        · have := strip_le cur; simp; omega
        · have := this.2 l hl; simp at this ⊢; omega
    · rcases h2 : due1 (cur ++ [c]) r with _ | ⟨l2, e2⟩ <;> rw [h2] at h <;> simp at h
      obtain ⟨rfl, rfl⟩ := h
      have := ih h2
      refine ⟨by simp; omega, fun l hl => ?_⟩
      have := this.2 l hl; simp at this ⊢; omega
theorem fr_told {h₀ : Heap} {L : Addr} {h : Heap} {m : Str → Option Value} {x : Addr} {r p : Value} (F : Fr h₀ L h m) (h0 : m "told" = some p) (h1 : m "buffer" = some (.ref x)) (h2 : m "rest" = some r) :
    Fr h₀ L h (fun y => if y = Str.ofString "told" then some p else if y = Str.ofString "buffer" then some (.ref x) else if y = Str.ofString "rest" then some r else m y) := by
  have F := fr_two F h1 h2
  have e : (fun y => if y = Str.ofString "buffer" then some (.ref x) else if y = Str.ofString "rest" then some r else m y) = (fun y => if y = Str.ofString "told" then some p else if y = Str.ofString "buffer" then some (.ref x) else if y = Str.ofString "rest" then some r else m y) := by
    funext y
    by_cases e1 : y = Str.ofString "told"
    · simp only [if_pos e1]; subst e1; rw [if_neg (by decide), if_neg (by decide)]; exact h0
    · simp only [if_neg e1]
  rw [e] at F; exact F
/-- the lines are told: the list lies in the ledger, its items are bytearrays of the lines, the buffer holds the rest -/
def ToldIs (P : Params) (h₀ : Heap) (L x d I l : Addr) (oI ol : Obj) (dat : List UInt8) (tr : Tok) (s₂ s' : Shared) : Prop :=
  ∃ h tk lt vs c O ls e q t1 t2 t3 ta tb m, s' = ⟨h, s₂.gens, s₂.drawn, tk, s₂.os⟩ ∧ Fr h₀ L h m ∧ News h₀ L h ((lt, W.listOf (List.toArray vs) c) :: O) ∧ m "told" = some (.ref lt) ∧ m "buffer" = some (.ref x) ∧ m "rest" = some (.bytes dat.toArray tr) ∧
    due1 [] dat = some (ls, e) ∧ RefsTo O vs ls ∧ (q, baObj (dat.drop e).toArray) ∈ O ∧ (x, instObj 99 d) ∈ O ∧ (d, bufDict P t1 t2 t3 ta tb q (0 : Int) (0 : Int)) ∈ O ∧ (I, oI) ∈ O ∧ (l, ol) ∈ O ∧ ((@Ne Nat q I) ∧ (@Ne Nat q l) ∧ (@Ne Nat q x) ∧ (@Ne Nat q d))
theorem told_is {P : Params} {h₀ : Heap} {L x d I l : Addr} {oI ol : Obj} {dat rst : List UInt8} {tr : Tok} {s₂ : Shared} {h : Heap} {tk : Nat} {lt : Addr} {vs : List Value} {c : Nat} {O : List (Addr × Obj)} {ls : List (List UInt8)} {e : Nat} {q : Addr} {t1 t2 t3 ta tb : Tok} {m : Str → Option Value} {arr : Array Value}
    (F : Fr h₀ L h m) (N : News h₀ L h ((lt, W.listOf arr c) :: O)) (ha : arr = List.toArray vs) (h0 : m "told" = some (.ref lt)) (h1 : m "buffer" = some (.ref x)) (h2 : m "rest" = some (.bytes dat.toArray tr)) (hd : due1 [] dat = some (ls, e)) (hR : RefsTo O vs ls) (hre : dat.drop e = rst)
    (m1 : (q, baObj rst.toArray) ∈ O) (m2 : (x, instObj 99 d) ∈ O) (m3 : (d, bufDict P t1 t2 t3 ta tb q (0 : Int) (0 : Int)) ∈ O) (m4 : (I, oI) ∈ O) (m5 : (l, ol) ∈ O) (e1 : @Ne Nat q I) (e2 : @Ne Nat q l) (e3 : @Ne Nat q x) (e4 : @Ne Nat q d) :
    ToldIs P h₀ L x d I l oI ol dat tr s₂ ⟨h, s₂.gens, s₂.drawn, tk, s₂.os⟩ := by
  subst ha hre
  exact ⟨h, tk, lt, vs, c, O, ls, e, q, t1, t2, t3, ta, tb, m, rfl, F, N, h0, h1, h2, hd, hR, m1, m2, m3, m4, m5, e1, e2, e3, e4⟩
theorem or_third {a b c d : Prop} (h : a ∨ b ∨ c ∨ d) : c ∨ (a ∨ b ∨ d) := by
  rcases h with h | h | h | h
  · exact .inr (.inl h)
  · exact .inr (.inr (.inl h))
  · exact .inl h
  · exact .inr (.inr (.inr h))
end Mine
end

section
open PySem PySem.W PyProof.Rows PySem.Spec PySem.Calls
namespace Mine
theorem refs_split {O : List (Addr × Obj)} {a b : List UInt8} : ∀ {P : List (List UInt8)} {ys : List Value}, RefsTo O ys (P ++ [a, b]) →
    ∃ vs a1 a2, ys = vs ++ [.ref a1, .ref a2] ∧ RefsTo O vs P ∧ (a1, baObj a.toArray) ∈ O ∧ (a2, baObj b.toArray) ∈ O
  | [], [], h => h.elim
  | [], [_], h => h.2.elim
  | [], [_, _], ⟨⟨a1, e1, m1⟩, ⟨a2, e2, m2⟩, _⟩ => ⟨[], a1, a2, by rw [e1, e2]; rfl, trivial, m1, m2⟩
  | [], _ :: _ :: _ :: _, h => h.2.2.elim
  | _ :: _, [], h => h.elim
  | _ :: P, y :: ys, ⟨h, r⟩ => by
    obtain ⟨vs, a1, a2, rfl, hR, m1, m2⟩ := refs_split (P := P) r
    exact ⟨y :: vs, a1, a2, rfl, ⟨h, hR⟩, m1, m2⟩
theorem memR {α : Type} {a : α} {x y : List α} (h : List.Mem a y) : List.Mem a (x ++ y) := List.mem_append.mpr (.inr h)
section
variable {prog : Program} {w : World} {A : Around} {E : Value → Shared → Prop} {s : Shared} {h₀ : Heap} {L a : Addr} {m : Str → Option Value} {news : List (Addr × Obj)} {d : List UInt8}
theorem splitNE {S : List (List UInt8)} {t : Tok} {Q : Value → Shared → Prop} (F : Fr h₀ L s.heap m) (N : News h₀ L s.heap news) (hm : (a, baObj d.toArray) ∈ news) (hz : d.length ≤ 100000) (hS : sp [] d = S)
    (h : ∀ h' l vs objs, Fr h₀ L h' m → News h₀ L h' ((l, { cls := .type "list", data := .seq vs.toArray }) :: (news ++ objs)) → RefsTo objs vs S → vs.length ≤ d.length + 1 → Q (.ref l) { s with heap := h' }) :
    wpAny (model prog w) A (call (.builtin "bytearray.split") [.ref a, .bytes #[10] t]) Q E s :=
  splitN F N hm hz fun h' l vs objs F' N' hR => h h' l vs objs F' N' (hS ▸ hR) (by rw [hR.length]; exact Nat.le_trans (sp_length (d := d) (cur := [])) (Nat.le_refl _))
def MatchIs (g : Heap) (L : Addr) (m0 : Str → Option Value) (news0 : List (Addr × Obj)) (e : Int) (s s' : Shared) : Prop :=
  ∃ h tk t, s' = ⟨h, s.gens, s.drawn, tk, s.os⟩ ∧ Fr g L h (fun y => if y = Str.ofString "match" then some (.int e t) else m0 y) ∧ News g L h news0
theorem match_is {g : Heap} {L : Addr} {m0 : Str → Option Value} {news0 news1 : List (Addr × Obj)} {e e' : Int} {s : Shared} {h : Heap} {tk : Nat} {t : Tok} (he : e' = e)
    (F : Fr g L h (fun y => if y = Str.ofString "match" then some (.int e' t) else m0 y)) (N : News g L h news1) (hs : ∀ p ∈ news0, p ∈ news1) : MatchIs g L m0 news0 e s ⟨h, s.gens, s.drawn, tk, s.os⟩ := by
  subst he
  exact ⟨h, tk, t, rfl, F, fun p hp => N p (hs p hp)⟩
theorem match_cut {M : Model} {env : Env} {st : Stmt} {rest : List Stmt} {Q : Flow → Shared → Prop} {e : Int} (F : Fr h₀ L s.heap m) (N : News h₀ L s.heap news)
    (h1 : wpAny M A (exec st env) (fun f s' => f = .next ∧ MatchIs h₀ L m news e s s') (fun _ _ => False) s)
    (h2 : ∀ h tk t, Fr h₀ L h (fun y => if y = Str.ofString "match" then some (.int e t) else m y) → News h₀ L h news → wpAny M A (execs rest env) Q E ⟨h, s.gens, s.drawn, tk, s.os⟩) : wpAny M A (execs (st :: rest) env) Q E s :=
  any_execs_cut (MatchIs h₀ L m news e s) h1 fun s' ⟨h, tk, t, e, F', N'⟩ => by subst e; exact h2 h tk t F' N'
end
theorem ends_yes {l : List UInt8} (h : l.drop (l.length - 1) = [13]) : (if l.length < ([13] : List UInt8).length then false else l.drop (l.length - ([13] : List UInt8).length) == [13]) = true := by
  have : 0 < l.length := by
    rcases l with _ | ⟨c, r⟩
    · simp at h
    · simp
  have h1 : ([13] : List UInt8).length = 1 := rfl
  rw [h1, if_neg (by omega), h, beq_self_eq_true]
theorem ends_no {l : List UInt8} (h : l.drop (l.length - 1) ≠ [13]) : (if l.length < ([13] : List UInt8).length then false else l.drop (l.length - ([13] : List UInt8).length) == [13]) = false := by
  have h1 : ([13] : List UInt8).length = 1 := rfl
  rw [h1]
  split
  · rfl
  · simpa using h
theorem sp_told {d : List UInt8} {ls : List (List UInt8)} {e : Nat} (h : due1 [] d = some (ls, e)) : (sp [] (d.take e)).map strip = ls ++ [[], []] ∧ ∀ l ∈ sp [] (d.take e), l.length ≤ d.length := by
  obtain ⟨ps, x, h1, h2, h3⟩ := due1_sp h
  refine ⟨by rw [h1, List.map_append, h2]; simp [h3, strip_nil], fun l hl => ?_⟩
  have := sp_bound l hl
  rw [List.length_take] at this
  simp at this; omega
theorem match_val {i e : Nat} {v1 v2 : Int} (h : (v1 = i ∧ e = i + 2 ∧ (v2 = -1 ∨ v1 < v2)) ∨ (v2 = i ∧ e = i + 3 ∧ (v1 = -1 ∨ v2 < v1))) :
    (v1 = i ∧ v2 = -1 ∧ (e : Int) = i + 2) ∨ (v1 = i ∧ v1 < v2 ∧ (e : Int) = i + 2) ∨ (v2 = i ∧ v1 = -1 ∧ (e : Int) = i + 3) ∨ (v2 = i ∧ v2 < v1 ∧ (e : Int) = i + 3) := by
  rcases h with ⟨h1, h2, h3 | h3⟩ | ⟨h1, h2, h3 | h3⟩
  · exact .inl ⟨h1, h3, by omega⟩
  · exact .inr (.inl ⟨h1, h3, by omega⟩)
  · exact .inr (.inr (.inl ⟨h1, h3, by omega⟩))
  · exact .inr (.inr (.inr ⟨h1, h3, by omega⟩))
theorem cs_end_yes {h₀ : Heap} {L I C D q : Addr} {m : Str → Option Value} {s₁ : Shared} {oI oC oD : Obj} {S : List (Addr × Obj) → Prop} {news1 : List (Addr × Obj)} {l X : List UInt8} {h' : Heap} {tk : Nat}
    (F : Fr h₀ L h' m) (N : News h₀ L h' ((q, baObj X.toArray) :: (I, oI) :: (C, oC) :: (D, oD) :: news1)) (off : LCg.Off3 I C D news1) (q1 : @Ne Nat q I) (q2 : @Ne Nat q C) (q3 : @Ne Nat q D) (hS : S ((q, baObj X.toArray) :: news1)) (hst : strip l = X) :
    LCg.CompEnd h₀ L m s₁ I oI C oC D oD S (fun y news' => CsEl news1 l y news') (.ref q) { s₁ with heap := h', toks := tk } :=
  LCg.CompEnd.intro F N ((q, baObj X.toArray) :: news1) (fun p hp => by
    simp only [List.mem_cons] at hp ⊢
    rcases hp with hp | hp | hp | hp | hp
    · exact .inr (.inl hp)
    · exact .inr (.inr (.inl hp))
    · exact .inr (.inr (.inr (.inl hp)))
    · exact .inl hp
    · exact .inr (.inr (.inr (.inr hp)))) ⟨⟨q1, q2, q3⟩, off⟩ hS ⟨q, [(q, baObj X.toArray)], rfl, rfl, by rw [hst]; exact .head _⟩
end Mine
end

section
open PySem PySem.W PyProof.Rows PySem.Spec PySem.Calls
namespace Mine
theorem enter_callN {M : Model} {A : Around} {s : Shared} {f : Value} {pos : List Value} {kw : List (PySem.Str × Value)} {c : ClaimW} {cl : PySem.Str → Option Addr} {mean : ExcName → Option Value} {args : List WData} {s₁ : Shared}
    (h : codeN M A (.call f ⟨pos, kw⟩) (GoodW c cl mean args s₁) s) : wpN M A (PySem.call f pos kw) (fun v s' => GoodWG c cl mean args s₁ (.ok (.ret v)) s') (fun e s' => GoodWG c cl mean args s₁ (.error e) s') s :=
  wpN_call (codeN_mono h fun res s' g => by rcases g.1 with ⟨v, _, _, rfl, _⟩ | ⟨e, _, _, rfl, _⟩ <;> exact g.toG)

local macro_rules | `(tactic| k_steps) => `(tactic| repeat' ((fail_if_success (with_reducible show wpN _ _ _ _ _ _)); (first | (k_unfold; (try dsimp only)) | walk1 | (dsimp only; walk1) | (leave1; walk_say "STEP leave1"; try dsimp only))))

local macro_rules | `(tactic| walk_at "subscriptTail") => `(tactic| (k_here; (with_reducible show wpAny _ _ (subscriptTail _ (Expr.Slice _ _ none _) (Value.ref _) (Value.ref _)) _ _ _); (with_reducible rename Fr _ _ _ _ => F'); (with_reducible rename News _ _ _ _ => N'); k_dflt (refine' ba_slice (s := ⟨_, _, _, _, _⟩) F' N' ?bm ?bl ?bu ?bp ?bz ?_ ?bs; (case bm => k_mem); (case bl => constructor); (case bu => constructor); (case bp => first | ((with_reducible show KBy.picked _ none (some (-1)) = _); first | exact picked_initE (by assumption) | exact picked_init) | ((with_reducible show KBy.picked _ (some (-1)) none = _); first | exact picked_lastE (by assumption) | exact picked_last) | ((with_reducible show KBy.picked _ none (some _) = _); first | exact picked_uptoE (by first | decide | omega) (by assumption) | exact picked_upto (by first | decide | omega)) | ((with_reducible show KBy.picked _ (some _) none = _); first | exact picked_fromE (by first | decide | omega) (by assumption) | exact picked_from (by first | decide | omega)) | ((with_reducible show KBy.picked _ (some _) (some _) = _); first | exact picked_midE (by first | decide | omega) (by first | decide | omega) (by assumption) | exact picked_mid (by first | decide | omega) (by first | decide | omega))); (case bz => first | omega | (simp only [List.length_take, List.length_drop]; omega)); (case bs => with_unfolding_all rfl)); intro q' h' F' N' l1; (try k_lt l1); (try k_sweep)))
local macro_rules | `(tactic| walk_at "subscriptTail") => `(tactic| (k_here; (with_reducible show wpAny _ _ (subscriptTail _ (Expr.Slice _ _ none _) (Value.bytes _ _) (Value.ref _)) _ _ _); (with_reducible rename Fr _ _ _ _ => F'); (with_reducible rename News _ _ _ _ => N'); k_dflt (refine' by_slice (s := ⟨_, _, _, _, _⟩) F' N' ?bl ?bu ?bp ?bz ?_ ?bs ?bt; (case bl => constructor); (case bu => constructor); (case bp => first | ((with_reducible show KBy.picked _ none (some (-1)) = _); first | exact picked_initE (by assumption) | exact picked_init) | ((with_reducible show KBy.picked _ (some (-1)) none = _); first | exact picked_lastE (by assumption) | exact picked_last) | ((with_reducible show KBy.picked _ none (some _) = _); first | exact picked_uptoE (by first | decide | omega) (by assumption) | exact picked_upto (by first | decide | omega)) | ((with_reducible show KBy.picked _ (some _) none = _); first | exact picked_fromE (by first | decide | omega) (by assumption) | exact picked_from (by first | decide | omega)) | ((with_reducible show KBy.picked _ (some _) (some _) = _); first | exact picked_midE (by first | decide | omega) (by first | decide | omega) (by assumption) | exact picked_mid (by first | decide | omega) (by first | decide | omega))); (case bz => first | omega | (simp only [List.length_take, List.length_drop]; omega)); (case bs => with_unfolding_all rfl); (case bt => intro _; with_unfolding_all rfl)); intro h' t' k' F' N'; (try k_sweep)))
local macro_rules | `(tactic| walk_at "truthy ref") => `(tactic| (k_here; (with_reducible show wpAny _ _ (truthy (Value.ref _)) _ _ _); k_dflt (refine' truthyN ?bN ?bm ?bz ?_; (case bN => k_asm); (case bm => k_mem); (case bz => first | omega | (simp only [List.length_take, List.length_drop]; omega))); intro k'))
local macro_rules | `(tactic| walk_at "call builtin:len") => `(tactic| (k_here; (with_reducible show wpAny _ _ (call (Value.builtin "len") [Value.ref _]) _ _ _); k_dflt (refine' lenN ?bN ?bm ?bz ?_; (case bN => k_asm); (case bm => k_mem); (case bz => first | omega | (simp only [List.length_take, List.length_drop]; omega))); intro t' k'))
local macro_rules | `(tactic| walk_at "call builtin:len") => `(tactic| (k_here; (with_reducible show wpAny _ _ (call (Value.builtin "len") [Value.bytes _ _]) _ _ _); k_dflt (refine' lenB ?bz ?_; (case bz => first | omega | (simp only [List.length_take, List.length_drop]; omega))); intro t' k'))
local macro_rules | `(tactic| walk_at "call type:bytes") => `(tactic| (k_here; (with_reducible show wpAny _ _ (call (Value.type "bytes") [Value.ref _]) _ _ _); k_dflt (refine' bytesN ?bN ?bm ?bz ?_; (case bN => k_asm); (case bm => k_mem); (case bz => first | omega | (simp only [List.length_take, List.length_drop]; omega))); intro t' k'))
local macro_rules | `(tactic| walk_at "compareOp Eq ref bytes") => `(tactic| (k_here; (with_reducible show wpAny _ _ (compareOp CmpOp.Eq (Value.ref _) (Value.bytes _ _)) _ _ _); k_dflt (refine' eqN ?bu ?bN ?bm ?_; (case bu => k_units); (case bN => k_asm); (case bm => k_mem))))
local macro_rules | `(tactic| walk_at "compareOp Eq bytes bytes") => `(tactic| (k_here; (with_reducible show wpAny _ _ (compareOp CmpOp.Eq (Value.bytes _ _) (Value.bytes _ _)) _ _ _); refine eqB ?_))
local macro_rules | `(tactic| walk_at "compareOp NotEq bytes bytes") => `(tactic| (k_here; (with_reducible show wpAny _ _ (compareOp CmpOp.NotEq (Value.bytes _ _) (Value.bytes _ _)) _ _ _); refine neB ?_))
local macro_rules | `(tactic| walk_at "getMethod ref") => `(tactic| (k_here; (with_reducible show wpAny _ _ (getMethod (Value.ref _) (PySem.Str.ofString "find") _) _ _ _); k_dflt (refine' getMethodN ?bN ?bm FA.slot_bytearray_find FA.type_bytearray_find ?_; (case bN => k_asm); (case bm => k_mem))))
local macro_rules | `(tactic| walk_at "getMethod ref") => `(tactic| (k_here; (with_reducible show wpAny _ _ (getMethod (Value.ref _) (PySem.Str.ofString "split") _) _ _ _); k_dflt (refine' getMethodN ?bN ?bm FA.slot_bytearray_split FA.type_bytearray_split ?_; (case bN => k_asm); (case bm => k_mem))))
local macro_rules | `(tactic| walk_at "getMethod ref") => `(tactic| (k_here; (with_reducible show wpAny _ _ (getMethod (Value.ref _) (PySem.Str.ofString "endswith") _) _ _ _); k_dflt (refine' getMethodN ?bN ?bm FA.slot_bytearray_endswith FA.type_bytearray_endswith ?_; (case bN => k_asm); (case bm => k_mem))))
local macro_rules | `(tactic| walk_at "getMethod bytes") => `(tactic| (k_here; (with_reducible show wpAny _ _ (getMethod (Value.bytes _ _) (PySem.Str.ofString "find") _) _ _ _); refine getMethodB FA.slot_bytes_find FA.type_bytes_find ?_))
local macro_rules | `(tactic| walk_at "ite") => `(tactic| first | (refine ite_neg (by assumption) ?_) | (refine ite_pos (by assumption) ?_) | (refine ite_neg (by simp only [beq_cons_nil, len_cons_eq, beq_self_eq_true, bne_self_eq_false, Bool.not_true, Bool.false_eq_true, not_false_eq_true, ne_eq, not_true_eq_false, decide_false, decide_true, List.isEmpty_nil, List.isEmpty_cons, Bool.not_false, List.length_nil]; done) ?_) | (refine ite_pos (by simp only [bne_iff_ne, ne_eq, decide_eq_true_eq, not_false_eq_true, decide_true, beq_cons_nil, len_cons_eq, len_cons_eq, beq_self_eq_true, List.isEmpty_nil, List.isEmpty_cons, Bool.not_false, Bool.not_true]; done) ?_) | (refine ite_neg (by (simp only [beq_iff_eq, bne_iff_ne, decide_eq_true_eq, ge_iff_le, gt_iff_lt, ne_eq, Bool.not_eq_true', decide_eq_false_iff_not, Int.not_le, Int.not_lt]); omega) ?_) | (refine ite_pos (by (simp only [beq_iff_eq, bne_iff_ne, decide_eq_true_eq, ge_iff_le, gt_iff_lt, ne_eq, Bool.not_eq_true', decide_eq_false_iff_not, Int.not_le, Int.not_lt]); omega) ?_))
local macro_rules | `(tactic| walk_at "subscriptTail") => `(tactic| (k_here; (with_reducible show wpAny _ _ (subscriptTail _ _ (Value.ref _) (Value.int _ _)) _ _ _); k_dflt (first | (refine' itemN0 ?bN ?bm ?_ ?bs; (case bN => k_asm); (case bm => k_mem); (case bs => with_unfolding_all rfl); intro t' k') | (refine' itemN_out ?bh ?bN ?bm ?_ ?bs; (case bh => exact rfl); (case bN => k_asm); (case bm => k_mem); (case bs => with_unfolding_all rfl)))))
local macro_rules | `(tactic| walk_at "call ref") => `(tactic| (k_here; (with_reducible show wpAny _ (Around.deeper callerA _) _ _ _ _); (fail_if_success (with_reducible rename TI.Caller _ _ _ _ => tiC')); tlg_look; k_dflt (first | (refine call_meth (by k_asm) (by k_mem) ?_; tlg_enter) | (refine wpAny_call ?_; tlg_enter))))
local macro_rules | `(tactic| walk_at "subscriptTail") => `(tactic| (k_here; (with_reducible show wpAny _ _ (subscriptTail _ _ (Value.bytes (List.toArray (List.cons _ _)) _) (Value.int _ _)) _ _ _); k_dflt (refine' itemB0 ?bz ?_ ?bs ?bt; (case bz => first | omega | (simp only [List.length_take, List.length_drop]; omega)); (case bs => with_unfolding_all rfl); (case bt => intro _; with_unfolding_all rfl)); intro t' k'))
local macro_rules | `(tactic| walk_at "call builtin:bytearray.find") => `(tactic| (k_here; (try simp only [List.cons_append, List.nil_append]); (with_reducible show wpAny _ _ (call (Value.builtin "bytearray.find") [Value.ref _, Value.bytes _ _, Value.int _ _]) _ _ _); k_dflt (refine' find3NE ?bN ?bm ?bi ?bf ?_; (case bN => k_asm); (case bm => k_mem); (case bi => first | assumption | decide | omega); (case bf => assumption)); intro t' k'))
local macro_rules | `(tactic| walk_at "call builtin:bytes.find") => `(tactic| (k_here; (try simp only [List.cons_append, List.nil_append]); (with_reducible show wpAny _ _ (call (Value.builtin "bytes.find") [Value.bytes _ _, Value.bytes _ _, Value.int _ _]) _ _ _); k_dflt (refine' find3BE ?bi ?bf ?_; (case bi => first | assumption | decide | omega); (case bf => assumption)); intro t' k'))
local macro_rules | `(tactic| walk_at "call builtin:bytes.find") => `(tactic| (k_here; (try simp only [List.cons_append, List.nil_append]); (with_reducible show wpAny _ _ (call (Value.builtin "bytes.find") [Value.bytes _ _, Value.bytes _ _]) _ _ _); k_dflt (refine' find2BE ?bf ?_; (case bf => assumption)); intro t' k'))
local macro_rules | `(tactic| walk_at "subscriptTail") => `(tactic| (k_here; (with_reducible show wpAny _ _ (subscriptTail _ _ (Value.ref _) (Value.int _ _)) _ _ _); k_dflt (refine' item_piece ?bl ?ba ?b0 ?b1 ?b2 ?_ ?bs; (case bl => is_list); (case ba => (repeat' first | exact True.intro | refine And.intro ⟨_, _, rfl, by decide⟩ ?_)); (case b0 => omega); (case b1 => (simp only [List.length_cons, List.length_nil]; omega)); (case b2 => omega); (case bs => with_unfolding_all rfl)); intro p' t' hp'))
local macro_rules | `(tactic| walk_at "binaryOp Add bytes bytes") => `(tactic| (k_here; (with_reducible show wpAny _ _ (binaryOp Operator.Add (Value.bytes _ _) (Value.bytes _ _)) _ _ _); k_dflt (refine' addB ?bz ?_; (case bz => omega)); intro t' k'))
local macro_rules | `(tactic| walk_at "call builtin:list.append") => `(tactic| (k_here; (with_reducible show wpAny _ _ (call (Value.builtin _) [Value.ref _, _]) _ _ _); k_dflt (refine' append_K ?k1 ?k2 ?k3 ?_ ?z; (case k1 => k_asm); (case k2 => k_asm); (case k3 => k_upd); (case z => (rw [List.size_toArray, sizeLine_eq]; omega)); k_whole); intro h' F' N'; (try k_sweep)))
local macro_rules | `(tactic| walk_at "call ref") => `(tactic| (k_here; (try simp only [List.nil_append]); (with_reducible show wpAny _ _ (call (Value.ref 117) [Value.bytes _ _]) _ _ _); k_dflt (refine' ll_none ?l1 ?l2 ?l3 ?l4 ?l5 ?l6 ?l7 ?_; (case l7 => assumption); (case l1 => k_asm); (case l2 => k_asm); (case l3 => k_asm); (case l4 => k_asm); (case l5 => k_room); (case l6 => omega)); intro h' k' F' N'; (try k_sweep)))
local macro_rules | `(tactic| walk_at "call ref") => `(tactic| (k_here; (try simp only [List.nil_append]); (with_reducible show wpAny _ _ (call (Value.ref 117) [Value.bytes _ _]) _ _ _); k_dflt (refine' ll_some ?l1 ?l2 ?l3 ?l4 ?l5 ?l6 ?l7 ?_; (case l7 => assumption); (case l1 => k_asm); (case l2 => k_asm); (case l3 => k_asm); (case l4 => k_asm); (case l5 => k_room); (case l6 => omega)); intro h' k' l' u' vs' c' te' F' N' hB'; (try k_sweep)))
local macro_rules | `(tactic| walk_at "subscriptTail") => `(tactic| (k_here; (with_reducible show wpAny _ _ (subscriptTail _ _ (Value.ref _) (Value.int 1 _)) _ _ _); k_dflt (refine' item_tup1 ?N ?m ?_ ?bs ?bg; (case N => k_asm); (case m => k_mem); (case bs => with_unfolding_all rfl); (case bg => intro _; with_unfolding_all rfl))))
local macro_rules | `(tactic| walk_at "subscriptTail") => `(tactic| (k_here; (with_reducible show wpAny _ _ (subscriptTail (PySem.Expr.Name (PySem.Str.ofString "due") _) _ (Value.ref _) (Value.int 0 _)) _ _ _); k_dflt (refine' item_tup0 ?N ?m ?_ ?bs ?bg; (case N => k_asm); (case m => k_mem); (case bs => with_unfolding_all rfl); (case bg => intro _; with_unfolding_all rfl))))
local macro_rules | `(tactic| walk_at "eval ListComp") => `(tactic| (k_here; k_dflt (refine LCg.ListComp_U (F₀ := by k_asm) (by rfl) (by decide) (by rfl) (by decide) (by rfl) ?_)))
local macro_rules | `(tactic| walk_at "CompSrc") => `(tactic| (k_here; k_dflt (refine LCg.CompSrc.ledger (by rfl) (by k_asm) (by k_asm) (by k_mem) (by rw [List.size_toArray, sizeLine_eq]; omega) ?_); intro g'))
local macro_rules | `(tactic| walk_at "compareOp NotEq ref ref") => `(tactic| (k_here; (with_reducible show wpAny _ _ (compareOp CmpOp.NotEq (Value.ref _) (Value.ref _)) _ _ _); k_dflt (refine' ne_bytesN ?nN ?na ?nb ?nx ?ny ?nu ?_; (case nN => k_asm); (case na => k_mem); (case nb => k_mem); (case nx => assumption); (case ny => assumption); (case nu => k_units))))
local macro_rules | `(tactic| walk_at "call type:bytes") => `(tactic| (k_here; (try simp only [List.nil_append]); (with_reducible show wpAny _ _ (call (Value.type "bytes") [Value.ref _]) _ _ _); k_dflt (refine' bytesN ?bN ?bm ?bz ?_; (case bN => k_asm); (case bm => k_mem); (case bz => first | omega | (simp only [List.length_take, List.length_drop]; omega))); intro t' k'))
local macro_rules | `(tactic| walk_at "call builtin:bytearray.split") => `(tactic| (k_here; (try simp only [List.cons_append, List.nil_append]); (with_reducible show wpAny _ _ (call (Value.builtin "bytearray.split") [Value.ref _, Value.bytes _ _]) _ _ _); k_dflt (refine' splitNE ?sF ?sN ?sm ?sz ?sS ?_; (case sF => k_asm); (case sN => k_asm); (case sm => k_mem); (case sz => omega); (case sS => assumption)); intro h' l' vs' objs' F' N' hR' hl'; (try simp only [List.cons_append, List.nil_append] at N')))
local macro_rules | `(tactic| walk_at "exec Assign cons ListComp") => `(tactic| (k_here; k_dflt (refine LCg.Assign_ListComp_U (F₀ := by k_asm) (by rfl) (by with_unfolding_all rfl) (by rfl) (by decide) (by rfl) (by decide) (by rfl) (by rfl) (by rfl) ?_)))
local macro_rules | `(tactic| walk_at "call builtin:bytearray.endswith") => `(tactic| (k_here; (try simp only [List.cons_append, List.nil_append]); (with_reducible show wpAny _ _ (call (Value.builtin "bytearray.endswith") [Value.ref _, Value.bytes _ _]) _ _ _); k_dflt (refine' endsNE ?bN ?bm ?br ?_; (case bN => k_asm); (case bm => k_mem); (case br => assumption))))
local macro_rules | `(tactic| walk_at "compareOp Eq ref ref") => `(tactic| (k_here; (with_reducible show wpAny _ _ (compareOp CmpOp.Eq (Value.ref _) (Value.ref _)) _ _ _); k_dflt (refine' eqNN (d := []) (c := []) ?bu ?bN ?bm ?bm2 ?_; (case bu => k_units); (case bN => k_asm); (case bm => k_mem); (case bm2 => k_mem))))
local macro_rules | `(tactic| walk_at "compareOp Eq ref bytes") => `(tactic| (k_here; (with_reducible show wpAny _ _ (compareOp CmpOp.Eq (Value.ref _) (Value.bytes (List.toArray []) _)) _ _ _); k_dflt (refine' eqN (d := []) ?bu ?bN ?bm ?_; (case bu => k_units); (case bN => k_asm); (case bm => k_mem))))
local macro_rules | `(tactic| walk_at "subscriptTail") => `(tactic| (k_here; (with_reducible show wpAny _ _ (subscriptTail (PySem.Expr.Name (PySem.Str.ofString "lines") _) _ (Value.ref _) (Value.int (-2) _)) _ _ _); k_dflt (refine' item_m2 ?N ?m ?_ ?bs ?bg; (case N => k_asm); (case m => first | exact List.Mem.head _ | k_mem); (case bs => with_unfolding_all rfl); (case bg => intro _; with_unfolding_all rfl))))
local macro_rules | `(tactic| walk_at "subscriptTail") => `(tactic| (k_here; (with_reducible show wpAny _ _ (subscriptTail (PySem.Expr.Name (PySem.Str.ofString "lines") _) _ (Value.ref _) (Value.int (-1) _)) _ _ _); k_dflt (refine' item_m1 ?N ?m ?_ ?bs ?bg; (case N => k_asm); (case m => first | exact List.Mem.head _ | k_mem); (case bs => with_unfolding_all rfl); (case bg => intro _; with_unfolding_all rfl))))
local macro_rules | `(tactic| walk_at "subscriptTail Name Slice ref ref") => `(tactic| (k_here; (with_reducible show wpAny _ _ (subscriptTail (PySem.Expr.Name (PySem.Str.ofString "lines") _) (Expr.Slice _ _ none _) (Value.ref _) (Value.ref _)) _ _ _); (with_reducible rename Fr _ _ _ _ => F'); (with_reducible rename News _ _ _ _ => N'); k_dflt (refine' slice_m2 (s := ⟨_, _, _, _, _⟩) F' N' ?sm ?sz ?_ ?bs; (case sm => first | exact List.Mem.head _ | k_mem); (case sz => omega); (case bs => with_unfolding_all rfl)); intro q' h' F' N' l1; (try k_lt l1); (try k_sweep)))
local macro_rules | `(tactic| k_mem) => `(tactic| (with_reducible refine memR ?_; k_mem))
local macro_rules | `(tactic| k_mem) => `(tactic| assumption)
local macro_rules | `(tactic| k_in) => `(tactic| (exact Frag.In.keeps (by k_asm) (Fr.keep (by k_asm))))
set_option maxHeartbeats 8000000 in
theorem w0 : PySem.Challenge.rw_jr0005_01.Holds := hd (by
  w_strict (
  k_fill
  intro w s₀ s₁ mg mb G Y fa o pm cd doc dV kV ho hd hcd hD hmg hg args vals as hpre hlay hrd hwl hlo
  have KX := kIn_of Y
  have X := (Ground.X G).1
  have V := (Ground.X G).2
  have GL := glob_more (Ground.glob G (by first | k_qdec | decide +kernel) (by first | k_qdec | decide +kernel)) V
  refine Ground.open G ?_
  intro T B D TE TW
  try (refine guard_noD D (by decide +kernel) ?_; clear D)
  obtain ⟨_, _, M⟩ := bmod_of_top T
  have TA := at_of_top T
  try (obtain ⟨_, _, he, B0⟩ := based_of_top T rfl hmg ho hd; have he' : cd = _ := he; subst he'; clear he)
  clear hmg
  wrow_args hpre hlay hrd hwl hlo
  refine any_guard ?pass ?main
  case pass =>
    refine GoodW.toG ⟨.inl ⟨.bool true, .bool true, [], rfl, raisesW_false (by wrow_none_raised), .bool true, ?_, unshared_nil⟩, fun _ _ e => e, rfl, hg⟩
    exact postW_of (by wrow_shape) (by wtm_val) rfl
  case main =>
    refine enter_callN ?_
    w_top on
    have K0 := below_caller (Top.heap T)
    have he := Dflts.none hD rfl; subst he
    refine call_topN (by decide) ho hd (Top.nolimit T) hcd (BindsTo.of_eq rfl) (locs rfl) fun h₁ F => ?_
    w_binds F
    have N0 := (News.nil : News _ _ _ []).at F
    clear hd TA
    k_drop
    refine wpN_mono (E := fun _ _ => False) ?_ (fun _ _ z => z) (fun _ _ z => z.elim)
    refine wpN_execs_cons (wpN_Assign_Name (wpN_Call_Name ?_))
    walk1
    refine' callWith_KN0 ?k1 ?k2 ?_
    case k1 => k_in
    case k2 => k_is
    try dsimp only [List.nil_append]
    refine' call_clsN ?k1 ?k2 ?k3 ?k4 ?k5 ?k6 ?_
    case k1 => k_asm
    case k2 => k_asm
    case k3 => k_asm
    case k4 => k_is
    case k5 => k_is
    case k6 => k_is
    intro x' d' h' F' N' l1 l2
    k_lt2 l2
    k_sweep
    k_dflt (refine' code_defN ?k1 ?k2 ?k3 ?k4 ?k5 ?kA ?kF ?kK ?k6 ?k7 ?k8 ?k9 ?kB ?_ ?c2 ?c3 ?c4 ?c5; (case kA => exact rfl); (case kF => exact rfl); (case kK => exact rfl); (case k1 => k_asm); (case k2 => k_asm); (case k3 => k_asm); (case k4 => k_asm); (case k5 => k_asm); (case k6 => k_is); (case k7 => k_is); (case k8 => k_room); (case k9 => exact BindsTo.of_eq rfl); (case c5 => decide); (case kB => exact locs rfl); (case c2 => exact rfl); (case c3 => exact rfl); (case c4 => exact rfl))
    intro g' L' h' FG' F' N' B' X' T' l3
    k_lt l3
    dsimp only
    refine wpN_mono (E := fun _ _ => False) ?_ (fun _ _ z => z) (fun _ _ z => z.elim)
    refine wpN_execs_last (wpN_Assign_Attribute (wpN_Call_Name ?_))
    walk1
    refine callWith_typeN0 ?_
    refine call_baN (by k_asm) (by k_asm) ?_
    intro q' h' F' N' l4
    k_lt l4
    k_sweep
    dsimp only
    all_goals try k_fold
    k_steps
    refine wpN_execs_cons (wpN_any ?_)
    k_steps
    refine wpN_execs_cons ?_
    refine wpN_For (h₀ := Top.heap T) (P := fun ns m news t => ns.length ≤ 63 ∧ Inv w.params 99 x' d' 0 m news ∧ t.gens = s₁.gens ∧ t.os = s₁.os) (JJ w.params 99 x' d') (by rfl) (by rfl) (by rfl) ?iter ?start ?turn ?done
    case start => exact fun ns m news s₁ h => ⟨h.1, Nat.zero_le _, h.2.1⟩
    case iter =>
      k_steps
      · refine iterIs_intro (by k_asm) (by k_asm) (by repeat constructor) (by k_all) ⟨by decide, inv_start (by exact rfl) (by exact rfl) ⟨by k_ne, by k_ne, by k_ne⟩, rfl, rfl⟩
      · refine iterIs_intro (by k_asm) (by k_asm) (by assumption) (by k_all) ⟨by (simp only [List.length_take]; omega), inv_start (by exact rfl) (by exact rfl) ⟨by k_ne, by k_ne, by k_ne⟩, rfl, rfl⟩
    case turn => 
      clear B' X' T'
      intro ns m₀ news₀ s₂ hP I l oI ol i n t m₁ news₁ s₃ hs₃ hn hJ hoff F₁ N₁
      obtain ⟨hs3h, hs3t, rfl⟩ := hs₃
      obtain ⟨hnl, hil, dat, sa, sb, q, tr, t1, t2, t3, ta, tb, hm1, hm2, rfl, ⟨e1, e2, e3⟩, hsz, hsa, hsb, hEol, hBl, hB2⟩ := hJ
      have F₂ := fr_turn F₁ hm1 hm2
      clear F₁
      simp only [List.cons_append, List.nil_append] at N₁
      have o1 := neNat (hoff _ (.head _) _ (.head _))
      have o2 := neNat (hoff _ (.head _) _ (.tail _ (.head _)))
      have o3 := neNat (hoff _ (.tail _ (.head _)) _ (.head _))
      have o4 := neNat (hoff _ (.tail _ (.head _)) _ (.tail _ (.head _)))
      have o5 := neNat (hoff _ (.tail _ (.tail _ (.head _))) _ (.head _))
      have o6 := neNat (hoff _ (.tail _ (.tail _ (.head _))) _ (.tail _ (.head _)))
      have o7 := neNat e1
      have o8 := neNat e2
      have o9 := neNat e3
      clear hoff e1 e2 e3
      dsimp only at o1 o2 o3 o4 o5 o6
      have hi63 : i < 63 := by
        have := (List.getElem?_eq_some_iff.mp hn).1
        omega
      have hsz2 : dat.length ≤ 378 := by omega
      have hil1 : i + 1 ≤ ns.length := (List.getElem?_eq_some_iff.mp hn).1
      refine wpN_execs_cons (wpN_any ?_)
      all_goals try k_fold
      k_steps
      refine wpN_execs_mid (TurnEnd (Top.heap T) s₁.heap.objs.size (JJ w.params 99 x' d' ns (i + 1)) [(I, oI), (l, ol)] { s₂ with heap := hs3h, toks := hs3t } .next) ?main ?tail
      case tail =>
        intro s4 hT4
        obtain ⟨_, h4, tk4, m4, news4, rfl, F4, N4, off4, hnl4, hil4, dat4, sa4, sb4, q4, tr4, u1, u2, u3, ua, ub, hm1', hm2', rfl, ⟨e1', e2', e3'⟩, hsz4, hsa4, hsb4, hEol4, hBl4, hB4⟩ := hT4
        have F5 := fr_two F4 hm1' hm2'
        simp only [List.cons_append, List.nil_append] at N4
        have p1 := neNat (off4 _ (.head _) _ (.head _))
        have p2 := neNat (off4 _ (.head _) _ (.tail _ (.head _)))
        have p7 := neNat e1'
        have p8 := neNat e2'
        clear off4 e1' e2' e3' F4
        dsimp only at p1 p2
        have hsz5 : dat4.length ≤ 378 := by omega
        clear F₂ N₁ hm1 hm2 hEol hBl hB2 hsa hsb hsz hsz2
        refine wpN_execs_mid (TurnEnd (Top.heap T) s₁.heap.objs.size (JJ w.params 99 x' d' ns (i + 1)) [(I, oI), (l, ol)] { s₂ with heap := hs3h, toks := hs3t } .next) ?chk1 ?chk2
        case chk1 =>
          refine wpN_any ?_
          all_goals try k_fold
          rcases dat4 with _ | ⟨c4, r4⟩
          ·
            repeat (first | (k_unfold; (try dsimp only)) | walk1 | (dsimp only; walk1))
            exact turn_close (by k_asm) (by k_asm) (by k_mem) (by k_mem) (by k_mem) (by k_mem) (by k_mem) (by first | exact hm1' | rfl) (by first | exact hm2' | rfl) rfl (by k_ne) (by k_ne) (by k_ne) (by k_ne) (by k_ne) (by k_ne) (by k_ne) (by k_ne) (by k_ne) (by assumption) (by assumption) (by assumption) (by omega) (by omega) (by assumption) (by omega) (by omega) (by assumption)
          ·
            have hpos : 0 < (c4 :: r4).length := Nat.succ_pos _
            repeat (first | (k_unfold; (try dsimp only)) | walk1 | (dsimp only; walk1))
            exact turn_close (by k_asm) (by k_asm) (by k_mem) (by k_mem) (by k_mem) (by k_mem) (by k_mem) (by first | exact hm1' | rfl) (by first | exact hm2' | rfl) rfl (by k_ne) (by k_ne) (by k_ne) (by k_ne) (by k_ne) (by k_ne) (by k_ne) (by k_ne) (by k_ne) (by assumption) (by assumption) (by assumption) (by omega) (by omega) (by assumption) (by omega) (by omega) (by assumption)
        case chk2 =>
          intro s6 hT6
          clear N4 F5 hm1' hm2' hEol4 hBl4 hB4 hsa4 hsb4 hsz4 hsz5
          obtain ⟨_, h6, tk6, m6, news6, rfl, F6, N6, off6, hnl6, hil6, dat6, sa6, sb6, q6, tr6, v1, v2, v3, va, vb, hm1', hm2', rfl, ⟨e1', e2', e3'⟩, hsz6, hsa6, hsb6, hEol6, hBl6, hB6⟩ := hT6
          have F7 := fr_two F6 hm1' hm2'
          simp only [List.cons_append, List.nil_append] at N6
          have p1 := neNat (off6 _ (.head _) _ (.head _))
          have p2 := neNat (off6 _ (.head _) _ (.tail _ (.head _)))
          have p7 := neNat e1'
          have p8 := neNat e2'
          clear off6 e1' e2' e3' F6
          dsimp only at p1 p2
          have hsz5 : dat6.length ≤ 378 := by omega
          refine wpN_any ?_
          all_goals try k_fold
          rcases dat6 with _ | ⟨c6, r6⟩
          ·
            repeat (first | (k_unfold; (try dsimp only)) | walk1 | (dsimp only; walk1))
            exact turn_close (by k_asm) (by k_asm) (by k_mem) (by k_mem) (by k_mem) (by k_mem) (by k_mem) (by first | exact hm1' | rfl) (by first | exact hm2' | rfl) rfl (by k_ne) (by k_ne) (by k_ne) (by k_ne) (by k_ne) (by k_ne) (by k_ne) (by k_ne) (by k_ne) (by assumption) (by assumption) (by assumption) (by omega) (by omega) (by assumption) (by omega) (by omega) (by assumption)
          ·
            repeat (first | (k_unfold; (try dsimp only)) | walk1 | (dsimp only; walk1))
            exact turn_close (by k_asm) (by k_asm) (by k_mem) (by k_mem) (by k_mem) (by k_mem) (by k_mem) (by first | exact hm1' | rfl) (by first | exact hm2' | rfl) rfl (by k_ne) (by k_ne) (by k_ne) (by k_ne) (by k_ne) (by k_ne) (by k_ne) (by k_ne) (by k_ne) (by assumption) (by assumption) (by assumption) (by omega) (by omega) (by assumption) (by omega) (by omega) (by assumption)
      case main =>
        have hk0 : 0 ≤ (if n < 0 then -n else n) := by split <;> omega
        generalize (if n < 0 then -n else n) = k at *
        have hk1 : 0 ≤ (k.fdiv 6).fmod 40 := fmod_lo _ (by decide)
        have hk2 : 0 ≤ (k.fdiv 6).fmod 12 := fmod_lo _ (by decide)
        refine wpN_If ?_
        repeat (first | (k_unfold; (try dsimp only)) | walk1 | (dsimp only; walk1))
        · refine wpN_execs_mid (PieceIs (Top.heap T) s₁.heap.objs.size x' (.bytes dat.toArray tr) [(q, baObj dat.toArray), (x', instObj 99 d'), (d', bufDict w.params t1 t2 t3 ta tb q (sa : Int) (sb : Int)), (I, oI), (l, ol)] s₂) ?pc ?go
          case pc =>
            refine wpN_any ?_
            all_goals try k_fold
            repeat (first | (k_unfold; (try dsimp only)) | walk1 | (dsimp only; walk1))
            · exact piece_is (by k_asm) (by k_asm) (by intro z hz; first | exact hz | exact .tail _ hz | exact .tail _ (.tail _ hz)) (by rfl) (by rfl) (by rfl) (by assumption)
            · repeat (first | (k_unfold; (try dsimp only)) | walk1 | (dsimp only; walk1))
              exact piece_is (by k_asm) (by k_asm) (by intro z hz; first | exact hz | exact .tail _ hz | exact .tail _ (.tail _ hz)) (by rfl) (by rfl) (by rfl) (by simp)
          case go =>
            intro s8 hP8
            clear F₂ N₁
            obtain ⟨h8, tk8, p, tp, m8, rfl, F8, N8, hp0, hp1, hp2, hple⟩ := hP8
            have F9 := fr_piece F8 hp0 hp1 hp2
            clear F8
            refine wpN_execs_cons (wpN_Expr (wpN_Call_Method ?_))
            walk1
            walk1
            refine' callWith_KN ?k1 ?k2 ?_
            case k1 => k_asm
            case k2 => k_is
            iterate 4 (first | (k_unfold; (try dsimp only)) | walk1 | (dsimp only; walk1))
            refine wpN_call ?_
            k_dflt (refine' code_defN ?k1 ?k2 ?k3 ?k4 ?k5 ?kA ?kF ?kK ?k6 ?k7 ?k8 ?k9 ?kB ?_ ?c2 ?c3 ?c4 ?c5; (case kA => exact rfl); (case kF => exact rfl); (case kK => exact rfl); (case k1 => k_asm); (case k2 => k_asm); (case k3 => k_asm); (case k4 => k_asm); (case k5 => k_asm); (case k6 => k_is); (case k7 => k_is); (case k8 => k_room); (case k9 => exact BindsTo.of_eq rfl); (case c5 => decide); (case kB => exact locs rfl); (case c2 => exact rfl); (case c3 => exact rfl); (case c4 => exact rfl))
            intro g' L' h' FG' F' N' B' X' T' l3
            k_lt l3
            dsimp only
            refine wpN_mono (E := fun _ _ => False) ?_ (fun _ _ z => z) (fun _ _ z => z.elim)
            refine wpN_execs_last (wpN_AugAssign_Attribute ?_)
            iterate 3 walk1
            refine' iaddN ?k1 ?k2 ?k3 ?k4 ?_
            case k1 => exact F'
            case k2 => exact N'
            case k3 =>
              intro z hz
              simp only [List.mem_cons, List.not_mem_nil, or_false] at hz
              rcases hz with rfl | rfl | rfl | rfl
              · exact o7.symm
              · exact o8.symm
              · exact o1.symm
              · exact o2.symm
            case k4 => omega
            clear F' N'
            intro h' F' N'
            have hapl : (dat ++ p).length = dat.length + p.length := List.length_append
            dsimp only
            repeat (first | (k_unfold; (try dsimp only)) | walk1 | (dsimp only; walk1))
            refine wpN_any ?_
            all_goals try k_fold
            repeat (first | (k_unfold; (try dsimp only)) | walk1 | (dsimp only; walk1))
            exact turn_close (by k_asm) (by k_asm) (by k_mem) (by k_mem) (by k_mem) (by k_mem) (by k_mem) (by rfl) (by rfl) (by rfl) (by k_ne) (by k_ne) (by k_ne) (by k_ne) (by k_ne) (by k_ne) (by k_ne) (by k_ne) (by k_ne) (by assumption) (by omega) (by omega) (by omega) (by omega) (by exact noEol_app hEol hsa) (by omega) (by omega) (by exact noBlank_app hBl hB2)
        · refine wpN_any ?_
          all_goals try k_fold
          iterate 12 (first | (k_unfold; (try dsimp only)) | walk1 | (dsimp only; walk1))
          · have hDl : (dat.drop ((k.fdiv 6).fmod 40).toNat).length ≤ dat.length := by rw [List.length_drop]; omega
            have hTl : (dat.take ((k.fdiv 6).fmod 40).toNat).length ≤ dat.length := by rw [List.length_take]; omega
            obtain ⟨Dd, hD⟩ : ∃ D, dat.drop ((k.fdiv 6).fmod 40).toNat = D := ⟨_, rfl⟩
            obtain ⟨Tt, hT⟩ : ∃ T, dat.take ((k.fdiv 6).fmod 40).toNat = T := ⟨_, rfl⟩
            have hLd := drop_len hT
            rw [hD] at hDl hLd
            rw [hT] at hTl
            rcases Tt with _ | ⟨c0, r0⟩
            · repeat (first | (k_unfold; (try dsimp only)) | walk1 | (dsimp only; walk1))
              exact turn_close (by k_asm) (by k_asm) (by k_mem) (by k_mem) (by k_mem) (by k_mem) (by k_mem) (by first | exact hm1 | rfl) (by rfl) (by first | rfl | exact hLd.symm) (by k_ne) (by k_ne) (by k_ne) (by k_ne) (by k_ne) (by k_ne) (by k_ne) (by k_ne) (by k_ne) (by assumption) (by omega) (by omega) (by omega) (by omega) (by assumption) (by omega) (by omega) (by assumption)
            · repeat (first | (k_unfold; (try dsimp only)) | walk1 | (dsimp only; walk1))
              exact turn_close (by k_asm) (by k_asm) (by k_mem) (by k_mem) (by k_mem) (by k_mem) (by k_mem) (by first | exact hm1 | rfl) (by rfl) (by first | rfl | exact hLd) (by k_ne) (by k_ne) (by k_ne) (by k_ne) (by k_ne) (by k_ne) (by k_ne) (by k_ne) (by k_ne) (by assumption) (by omega) (by omega) (by omega) (by omega) (by first | assumption | exact noEol_zero _) (by omega) (by omega) (by first | assumption | exact noBlank_zero _)
          · iterate 14 (first | (k_unfold; (try dsimp only)) | walk1 | (dsimp only; walk1))
            · have hix := next_nn sa
              have hfx := next_ix hEol
              have hz0 := noEol_zero dat
              rcases findI_cases (d := dat) (sub := [13, 10]) (i := 0) (by simp) with ⟨hf0, hno⟩ | ⟨j, hf0, -, -, -, hjl⟩
              · rw [hf0] at hfx
                have hEl := noEol_of hno dat.length
                have hd0 : dat.drop ((([] : List UInt8).length : Nat) : Int).toNat = dat := rfl
                repeat (first | (k_unfold; (try dsimp only)) | walk1 | (dsimp only; walk1))
                exact turn_close (by k_asm) (by k_asm) (by k_mem) (by k_mem) (by k_mem) (by k_mem) (by k_mem) (by first | exact hm1 | rfl) (by rfl) (by rfl) (by k_ne) (by k_ne) (by k_ne) (by k_ne) (by k_ne) (by k_ne) (by k_ne) (by k_ne) (by k_ne) (by assumption) (by omega) (by omega) (by omega) (by omega) (by assumption) (by omega) (by omega) (by assumption)
              · rw [hf0] at hfx
                rw [List.length_cons, List.length_cons, List.length_nil] at hjl
                have hDl : (dat.drop ((j : Int) + 2).toNat).length ≤ dat.length := by rw [List.length_drop]; omega
                have hTl : (dat.take ((j : Int) + 2).toNat).length = j + 2 := by rw [List.length_take]; omega
                obtain ⟨Dd, hD⟩ : ∃ D, dat.drop ((j : Int) + 2).toNat = D := ⟨_, rfl⟩
                obtain ⟨Tt, hT⟩ : ∃ T, dat.take ((j : Int) + 2).toNat = T := ⟨_, rfl⟩
                have hLd := drop_len hT
                rw [hD] at hDl hLd
                rw [hT] at hTl
                rcases Tt with _ | ⟨c0, r0⟩
                · rw [List.length_nil] at hTl; omega
                repeat (first | (k_unfold; (try dsimp only)) | walk1 | (dsimp only; walk1))
                exact turn_close (by k_asm) (by k_asm) (by k_mem) (by k_mem) (by k_mem) (by k_mem) (by k_mem) (by first | exact hm1 | rfl) (by rfl) (by first | rfl | exact hLd) (by k_ne) (by k_ne) (by k_ne) (by k_ne) (by k_ne) (by k_ne) (by k_ne) (by k_ne) (by k_ne) (by assumption) (by omega) (by omega) (by omega) (by omega) (by first | assumption | exact noEol_zero _) (by omega) (by omega) (by first | assumption | exact noBlank_zero _)
            · rcases or_third (lines_cases hBl) with ⟨hc1, hc2, hv1, hv2, hdue, hnb⟩ | hcs
              · obtain ⟨T1, hT1⟩ : ∃ D, dat.take (1 : Int).toNat = D := ⟨_, rfl⟩
                obtain ⟨T2, hT2⟩ : ∃ D, dat.take (2 : Int).toNat = D := ⟨_, rfl⟩
                have hn1 : ¬ ((T1 == [10]) = true) := by rw [← hT1]; simpa using hc1
                have hn2 : ¬ ((T2 == [13, 10]) = true) := by rw [← hT2]; simpa using hc2
                have hv1' : findI dat [10, 10] (sb : Int).toNat = -1 := hv1
                have hv2' : findI dat [10, 13, 10] (sb : Int).toNat = -1 := hv2
                repeat (first | (k_unfold; (try dsimp only)) | walk1 | (dsimp only; walk1))
                exact turn_close (by k_asm) (by k_asm) (by k_mem) (by k_mem) (by k_mem) (by k_mem) (by k_mem) (by first | exact hm1 | rfl) (by rfl) (by rfl) (by k_ne) (by k_ne) (by k_ne) (by k_ne) (by k_ne) (by k_ne) (by k_ne) (by k_ne) (by k_ne) (by assumption) (by omega) (by omega) (by omega) (by omega) (by assumption) (by split <;> omega) (by split <;> omega) (by exact hnb _)
              · refine any_execs_cut (ToldIs w.params (Top.heap T) s₁.heap.objs.size x' d' I l oI ol dat tr s₂) ?call ?rest
                case call =>
                  rcases hcs with ⟨hc1, hdue⟩ | ⟨hc1, hc2, hdue⟩ | ⟨hc1, hc2, ls, ib, eb, v1, v2, hdue, hv1, hv2, hvv⟩
                  · have hT1 : dat.take (1 : Int).toNat = [10] := hc1
                    have hDl : (dat.drop (1 : Int).toNat).length ≤ dat.length := by rw [List.length_drop]; omega
                    obtain ⟨Dd, hD⟩ : ∃ D, dat.drop (1 : Int).toNat = D := ⟨_, rfl⟩
                    rw [hD] at hDl
                    repeat (first | (k_unfold; (try dsimp only)) | walk1 | (dsimp only; walk1))
                    exact told_is (vs := []) (ls := []) (e := 1) (rst := Dd) (by k_asm) (by k_asm) rfl (by rfl) (by rfl) (by rfl) hdue trivial hD (by k_mem) (by k_mem) (by k_mem) (by k_mem) (by k_mem) (by k_ne) (by k_ne) (by k_ne) (by k_ne)
                  · have hT2 : dat.take (2 : Int).toNat = [13, 10] := hc2
                    obtain ⟨T1, hT1⟩ : ∃ D, dat.take (1 : Int).toNat = D := ⟨_, rfl⟩
                    have hn1 : ¬ ((T1 == [10]) = true) := by rw [← hT1]; simpa using hc1
                    have hDl : (dat.drop (2 : Int).toNat).length ≤ dat.length := by rw [List.length_drop]; omega
                    obtain ⟨Dd, hD⟩ : ∃ D, dat.drop (2 : Int).toNat = D := ⟨_, rfl⟩
                    rw [hD] at hDl
                    repeat (first | (k_unfold; (try dsimp only)) | walk1 | (dsimp only; walk1))
                    exact told_is (vs := []) (ls := []) (e := 2) (rst := Dd) (by k_asm) (by k_asm) rfl (by rfl) (by rfl) (by rfl) hdue trivial hD (by k_mem) (by k_mem) (by k_mem) (by k_mem) (by k_mem) (by k_ne) (by k_ne) (by k_ne) (by k_ne)
                  · obtain ⟨T1, hT1⟩ : ∃ D, dat.take (1 : Int).toNat = D := ⟨_, rfl⟩
                    obtain ⟨T2, hT2⟩ : ∃ D, dat.take (2 : Int).toNat = D := ⟨_, rfl⟩
                    have hn1 : ¬ ((T1 == [10]) = true) := by rw [← hT1]; simpa using hc1
                    have hn2 : ¬ ((T2 == [13, 10]) = true) := by rw [← hT2]; simpa using hc2
                    have hv1' : findI dat [10, 10] (sb : Int).toNat = v1 := hv1
                    have hv2' : findI dat [10, 13, 10] (sb : Int).toNat = v2 := hv2
                    iterate 45 (first | (k_unfold; (try dsimp only)) | walk1 | (dsimp only; walk1))
                    dsimp only
                    refine match_cut (e := (eb : Int)) (by k_asm) (by k_asm) ?mt ?gon
                    case mt =>
                      rcases match_val hvv with ⟨f1, f2, f3⟩ | ⟨f1, f2, f3⟩ | ⟨f1, f2, f3⟩ | ⟨f1, f2, f3⟩
                      all_goals (repeat (first | (k_unfold; (try dsimp only)) | walk1 | (dsimp only; walk1)))
                      all_goals try (exfalso; omega)
                      all_goals (repeat (first | (k_unfold; (try dsimp only)) | walk1 | (dsimp only; walk1)))
                      all_goals try (exfalso; omega)
                      all_goals (repeat (first | (k_unfold; (try dsimp only)) | walk1 | (dsimp only; walk1)))
                      all_goals first | (exfalso; omega) | (refine match_is ?he (by k_asm) (by k_asm) (by intro z hz; exact hz); (case he => omega))
                    case gon =>
                      intro h9 tk9 t9 F9 N9
                      have heb := due1_le hdue
                      have hTl : (dat.take (eb : Int).toNat).length ≤ dat.length := by rw [List.length_take]; omega
                      have hDl : (dat.drop (eb : Int).toNat).length ≤ dat.length := by rw [List.length_drop]; omega
                      have hsp0 := sp_told hdue
                      have hTk0 : dat.take (eb : Int).toNat = dat.take eb := rfl
                      obtain ⟨Dd, hD⟩ : ∃ D, dat.drop (eb : Int).toNat = D := ⟨_, rfl⟩
                      obtain ⟨Tk, hTk⟩ : ∃ D, dat.take (eb : Int).toNat = D := ⟨_, rfl⟩
                      rw [← hTk0, hTk] at hsp0
                      rw [hD] at hDl
                      rw [hTk] at hTl
                      obtain ⟨SS, hSS⟩ : ∃ D, sp [] Tk = D := ⟨_, rfl⟩
                      rw [hSS] at hsp0
                      iterate 84 (first | (k_unfold; (try dsimp only)) | walk1 | (dsimp only; walk1))
                      with_reducible rename RefsTo _ _ _ => hRs
                      refine cs_rest (RefsTo.mono (by intro p hp; repeat (first | exact hp | refine List.Mem.tail _ ?_)) hRs) ?sturn ?sfin
                      case sturn =>
                        intro ax lx I' oI' C' oC' D' m' ys' news1 h' tk' E' hmx hlx hsub hC' hx' F' N' off' ne'
                        have hlz : lx.length ≤ dat.length := hsp0.2 lx hlx
                        obtain ⟨La, hLa⟩ : ∃ x, lx.drop (lx.length - 1) = x := ⟨_, rfl⟩
                        by_cases hcr : La = [13]
                        · subst hcr
                          have hst := strip_yes hLa
                          have hen := ends_yes hLa
                          obtain ⟨Lb, hLb⟩ : ∃ x, lx.dropLast = x := ⟨_, rfl⟩
                          rw [hLb] at hst
                          repeat (first | (k_unfold; (try dsimp only)) | walk1 | (dsimp only; walk1))
                          try k_unfold
                          try dsimp only
                          refine cs_end_yes ?yF ?yN off' ?y1 ?y2 ?y3 ?yS hst
                          case yF => k_asm
                          case yN => k_asm
                          case y1 => k_ne
                          case y2 => k_ne
                          case y3 => k_ne
                          case yS => exact Or.inr ⟨_, .tail _ (hsub _ (by first | exact List.Mem.head _ | k_mem)), rfl, _, rfl⟩
                        · have hst := strip_no (l := lx) (by rw [hLa]; exact hcr)
                          have hen := ends_no (l := lx) (by rw [hLa]; exact hcr)
                          repeat (first | (k_unfold; (try dsimp only)) | walk1 | (dsimp only; walk1))
                          exact LCg.CompEnd.intro (by k_asm) (by k_asm) news1 (fun p hp => hp) off' (Or.inr ⟨_, hsub _ (by k_mem), rfl, _, rfl⟩) ⟨_, [], rfl, rfl, by rw [hst]; exact hmx⟩
                      case sfin =>
                        intro ys' objs2 hR2
                        rw [hsp0.1] at hR2
                        obtain ⟨vs2, a1, a2, rfl, hR4, hm1', hm2'⟩ := refs_split hR2
                        have hls0 := due1_len hdue
                        have hvl2 : vs2.length ≤ 1000 := by rw [hR4.length]; omega
                        repeat (first | (k_unfold; (try dsimp only)) | walk1 | (dsimp only; walk1))
                        exact told_is (vs := vs2) (ls := ls) (e := eb) (rst := Dd) (by k_asm) (by k_asm) rfl (by rfl) (by rfl) (by rfl) hdue (RefsTo.mono (by intro p hp; repeat (first | exact hp | refine List.Mem.tail _ ?_)) hR4) hD (by k_mem) (by k_mem) (by k_mem) (by k_mem) (by k_mem) (by k_ne) (by k_ne) (by k_ne) (by k_ne)
                case rest =>
                  intro s7 hT7
                  clear F₂ N₁
                  obtain ⟨h7, tk7, lt, vs, c, O, ls, e, q7, u1, u2, u3, ua, ub, m7, rfl, F7, N7, hm70, hm71, hm72, hdu, hR7, k1, k2, k3, k4, k5, ⟨p1, p2, p3, p4⟩⟩ := hT7
                  have F8 := fr_told F7 hm70 hm71 hm72
                  clear F7
                  have hDl0 : (dat.drop e).length ≤ dat.length := by rw [List.length_drop]; omega
                  have hDl : (dat.drop (e : Int).toNat).length ≤ dat.length := by rw [List.length_drop]; omega
                  obtain ⟨Dd, hD⟩ : ∃ D, dat.drop (e : Int).toNat = D := ⟨_, rfl⟩
                  rw [hD] at hDl
                  have hls : ls.length ≤ dat.length ∧ ∀ l ∈ ls, l.length ≤ dat.length := by simpa using due1_len hdu
                  have hvl : vs.length ≤ 378 := by rw [hR7.length]; omega
                  iterate 55 (first | (k_unfold; (try dsimp only)) | walk1 | (dsimp only; walk1))
                  refine cb_rest (RefsTo.mono (by intro p hp; repeat (first | exact hp | refine List.Mem.tail _ ?_)) hR7) ?cturn ?cfin
                  case cturn =>
                    intro ax lx I' oI' C' oC' D' m' ys' h' tk' E' hmx hlx hC' hx' F' N' off' ne'
                    have hlz := hls.2 lx hlx
                    repeat (first | (k_unfold; (try dsimp only)) | walk1 | (dsimp only; walk1))
                    exact LCg.CompEnd.intro (by k_asm) (by k_asm) _ (fun p hp => hp) off' (Or.inr ⟨_, by k_mem, rfl, _, rfl⟩) ⟨rfl, _, rfl⟩
                  case cfin =>
                    intro ys' hY'
                    repeat (first | (k_unfold; (try dsimp only)) | walk1 | (dsimp only; walk1))
                    exact turn_close (by k_asm) (by k_asm) (by k_mem) (by k_mem) (by k_mem) (by k_mem) (by k_mem) (by first | exact hm1 | rfl) (by rfl) (by first | rfl | exact hD.symm) (by k_ne) (by k_ne) (by k_ne) (by k_ne) (by k_ne) (by k_ne) (by k_ne) (by k_ne) (by k_ne) (by assumption) (by omega) (by omega) (by omega) (by omega) (by first | assumption | exact noEol_zero _) (by omega) (by omega) (by first | assumption | exact noBlank_zero _)
    case done =>
      intro ns m₀ news₀ s₂ hP m₁ news₁ h tk hJ F₁ N₁
      dsimp only
      refine wpN_any ?_
      k_steps
      dsimp only
      obtain ⟨_, _, hg2, ho2⟩ := hP
      exact goodW_bool F₁ (hg2.trans hg) (raisesW_false (by wrow_none_raised)) (postW_of (by wrow_shape) (by wtm_val) rfl) ho2))
end Mine
end

theorem PySem.Challenge.cw_jr0005_01_holds : PySem.Challenge.rw_jr0005_01.Holds := by
  exact Mine.w0
