import PyProof.Rows.All
import Wide.All
import OpenK.AllK
import Wide.FinOn
import PySem.Challenge.RW_mg0080_01
set_option Elab.async false
section
open PySem PySem.W PyProof.Rows PySem.Calls
namespace Mine
open Sem (wp)

/-! A logic of our own: wpC is wpAny, asked only of the contexts whose stack bears the claim's caller. -/

def callerIn (Γ : Ctx) : Bool := Γ.code.isCaller || Γ.below.any fun x => x.1.isCaller

def wpC {α : Type} (M : Model) (A : Around) (t : Sem α) (Q : α → Shared → Prop) (E : Value → Shared → Prop) (s : Shared) : Prop :=
  ∀ (Γ : Ctx) (p : Pos), Γ.In A → callerIn Γ = true → wp M Γ t (fun a _ s' => Q a s') (fun e _ s' => E e s') p s

def codeC (M : Model) (A : Around) (c : Code) (R : Result → Shared → Prop) (s : Shared) : Prop :=
  ∀ (Γ : Ctx) (p : Pos), Γ.code = c → Γ.Below A → (Γ.below.any fun x => x.1.isCaller) = true → wpCode M Γ R p s

section
variable {α β : Type} {M : Model} {A : Around} {E : Value → Shared → Prop} {s : Shared}

theorem enter_caller {Γ : Ctx} (h : callerIn Γ = true) (p : Pos) : (((Γ.code, p) :: Γ.below).any fun x => x.1.isCaller) = true := by
  rw [List.any_cons]; exact h

theorem wpC_any {t : Sem α} {Q : α → Shared → Prop} (h : wpAny M A t Q E s) : wpC M A t Q E s := fun Γ p hΓ _ => h Γ p hΓ
theorem codeC_any {c : Code} {R : Result → Shared → Prop} (h : codeAny M A c R s) : codeC M A c R s := fun Γ p hc hΓ _ => h Γ p hc hΓ
theorem wpC_pure {a : α} {Q : α → Shared → Prop} (h : Q a s) : wpC M A (pure a) Q E s := fun _ _ _ _ => h
theorem wpC_mono {t : Sem α} {Q Q' : α → Shared → Prop} {E' : Value → Shared → Prop} (h : wpC M A t Q E s)
    (hQ : ∀ a s, Q a s → Q' a s) (hE : ∀ e s, E e s → E' e s) : wpC M A t Q' E' s :=
  fun Γ p hΓ hc => Sem.wp_mono M Γ t (fun a _ s => hQ a s) (fun e _ s => hE e s) p s (h Γ p hΓ hc)
theorem codeC_mono {c : Code} {R R' : Result → Shared → Prop} (h : codeC M A c R s) (hR : ∀ r s, R r s → R' r s) : codeC M A c R' s :=
  fun Γ p hc hΓ hl => wpCode_mono hR (h Γ p hc hΓ hl)
theorem wpC_bind {m : Sem α} {f : α → Sem β} {Q : β → Shared → Prop} (h : wpC M A m (fun a s' => wpC M A (f a) Q E s') E s) :
    wpC M A (m >>= f) Q E s := fun Γ p hΓ hc => by
  rw [Sem.wp_bind']
  exact Sem.wp_mono M Γ m (fun a p' s' h' => h' Γ p' hΓ hc) (fun _ _ _ h' => h') p s (h Γ p hΓ hc)
/-- the first part by the library's logic, the second by ours -/
theorem wpC_bindA {m : Sem α} {f : α → Sem β} {Q : β → Shared → Prop} (h : wpAny M A m (fun a s' => wpC M A (f a) Q E s') E s) :
    wpC M A (m >>= f) Q E s := wpC_bind (wpC_any h)
theorem wpC_onRaise {m : Sem α} {k : Value → Sem Unit} {Q : α → Shared → Prop}
    (h : wpC M A m Q (fun e s' => wpC M A (k e) (fun _ s'' => E e s'') E s') s) : wpC M A (m.onRaise k) Q E s := fun Γ p hΓ hc => by
  rw [Sem.wp_onRaise]
  exact Sem.wp_mono M Γ m (fun _ _ _ h' => h') (fun e p' s' h' => h' Γ p' hΓ hc) p s (h Γ p hΓ hc)
theorem wpC_attempt {m : Sem α} {Q : Except Value α → Shared → Prop} (h : wpC M A m (fun a => Q (.ok a)) (fun e => Q (.error e)) s) :
    wpC M A m.attempt Q E s := fun Γ p hΓ hc => by rw [Sem.wp_attempt]; exact h Γ p hΓ hc
theorem wpC_holding {vs : List Value} {m : Sem α} {Q : α → Shared → Prop} (h : wpC M A m Q E s) : wpC M A (holding vs m) Q E s :=
  fun Γ p hΓ hc => by rw [Sem.wp_holding]; exact h Γ p hΓ hc
theorem wpC_keep {vs : List Value} {m : Sem α} {Q : α → Shared → Prop} (h : wpC M A m Q E s) : wpC M A (m.keep vs) Q E s :=
  fun Γ p hΓ hc => by rw [Sem.wp_keep]; exact h Γ p hΓ hc
theorem wpC_standAt {pos : Pos} {Q : Unit → Shared → Prop} (h : Q () s) : wpC M A (standAt pos) Q E s := fun _ _ _ _ => h
theorem wpC_run {c : Code} {Q : Flow → Shared → Prop}
    (h : codeC M A c (fun r s' => match r with | .ok f => Q f s' | .error e => E e s') s) : wpC M A (run c none) Q E s :=
  fun Γ p hΓ hc => by rw [Sem.wp_run]; exact h _ p rfl (hΓ.enter c none p (by intro x; cases x)) (enter_caller hc p)
theorem wpC_runValue {c : Code} {Q : Value → Shared → Prop}
    (h : codeC M A c (fun r s' => match r with | .ok (.ret v) => Q v s' | .ok _ => False | .error e => E e s') s) :
    wpC M A (runValue c) Q E s := fun Γ p hΓ hc => by
  rw [Sem.wp_runValue]; exact h _ p rfl (hΓ.enter c none p (by intro x; cases x)) (enter_caller hc p)
theorem wpC_call {f : Value} {pos : List Value} {kw : List (Str × Value)} {Q : Value → Shared → Prop}
    (h : codeC M A (.call f ⟨pos, kw⟩) (fun r s' => match r with | .ok (.ret v) => Q v s' | .ok _ => False | .error e => E e s') s) :
    wpC M A (call f pos kw) Q E s := wpC_runValue h
theorem codeC_tree {c : Code} {R : Result → Shared → Prop}
    (h : wpC M (A.under c) (M.den c) (fun fin s' => match fin with | .done f => R (.ok f) s' | .again c' => c'.quiet = true ∧ codeC M A c' R s')
      (fun e s' => R (.error e) s') s) : codeC M A c R s := fun Γ p hc hΓ hl => by
  rw [wpCode_iff_wp, hc]
  have hin : callerIn Γ = true := by unfold callerIn; rw [hl, Bool.or_true]
  refine Sem.wp_mono M Γ _ (fun fin p' s' h' => ?_) (fun _ _ _ h' => h') p s (h Γ p (hc ▸ hΓ.in) hin)
  cases fin with
  | done f => exact h'
  | again c' => exact ⟨h'.1, h'.2 (Γ.goto c') p' rfl (hΓ.goto c') hl⟩
/-- at a look at the stack: the caller is seen -/
theorem wpC_stack {Q : List (Code × Pos) → Shared → Prop} (h : ∀ st : List (Code × Pos), (st.any fun x => x.1.isCaller) = true → Q st s) : wpC M A stack Q E s := fun Γ p _ hc => by
  show Q ((Γ.code, p) :: Γ.below) s
  exact h _ (enter_caller hc p)
end
end Mine
end
section
open PySem PySem.W PyProof.Rows PySem.Calls
namespace Mine
open Sem (wp)

/-- look at the stack: t where the claim's caller is on it, else d -/
def seen {α : Type} (t d : Sem α) : Sem α := .stack fun st => if (st.any fun x => x.1.isCaller) = true then t else d

theorem wpAny_seen {α : Type} {M : Model} {A : Around} {t d : Sem α} {Q : α → Shared → Prop} {E : Value → Shared → Prop} {s : Shared}
    (h : wpC M A t Q E s) (hd : wpAny M A d Q E s) : wpAny M A (seen t d) Q E s := fun Γ p hΓ => by
  unfold seen
  rw [Sem.wp_stack]
  by_cases hc : (((Γ.code, p) :: Γ.below).any fun x => x.1.isCaller) = true
  · rw [if_pos hc]
    refine h Γ p hΓ ?_
    rw [List.any_cons] at hc; exact hc
  · rw [if_neg hc]; exact hd Γ p hΓ

abbrev callerT (t : Sem Fin) : Thread := ⟨t, .builtin "claim.caller" {}, default, []⟩

theorem sched_seen {prog : Program} {w : World} {s : Shared} {t d : Sem Fin} {n : Nat} {o : Outcome} {s' : Shared} (hz : s.asleep)
    (h : schedN (denote table) prog w n (.single s (callerT (seen t d))) = .halted o s') :
    ∃ n', schedN (denote table) prog w n' (.single s (callerT t)) = .halted o s' := by
  cases n with
  | zero => cases h
  | succ n =>
    have hstep : step (denote table) prog w s (callerT (seen t d)) = .go s (callerT t) := by
      obtain ⟨heap, gens, drawn, toks, os⟩ := s
      rfl
    have hs : sstep (denote table) prog w (.single s (callerT (seen t d))) = .go (.single s (callerT t)) := by
      rcases sstep_single (denote table) prog w s (callerT (seen t d)) rfl hz with e | e
      · rw [e, hstep]; rfl
      · rw [hstep] at e; cases e
    refine ⟨n, ?_⟩
    simp only [schedN, hs] at h
    exact h

theorem holds_seen {c : ClaimW} {k d : List Value → Sem Fin} {defs kps : List Str} {writes : Bool}
    (H : c.HoldsOpenBy (fun vs => callerT (seen (k vs) (d vs))) defs kps writes) : c.HoldsOpenBy (fun vs => callerT (k vs)) defs kps writes := by
  obtain ⟨h1, h2, h3⟩ := H
  refine ⟨h1, h2, fun w => ⟨(h3 w).1, fun s hs => ?_⟩⟩
  obtain ⟨s₀, hf, hg, s₁, hT, hp, hr, hr', hC⟩ := (h3 w).2 s hs
  refine ⟨s₀, hf, hg, s₁, hT, hp, hr, hr', fun args hpre hlay ord hord => ?_⟩
  obtain ⟨vs, s₂, hl, n, o, s', hrun, rest⟩ := hC args hpre hlay ord hord
  have hs' : AfterImport (opening c.prog) w s := hs
  have hz₁ : s₁.asleep := Shared.asleep_of_life (hT.2.1.trans (fence_lifeW hf)) hs'.life
  have hz : s₂.asleep := Shared.asleep_of_life (layAllW_rest _ _ _ hl).2.2.2 hz₁
  obtain ⟨n', hrun'⟩ := sched_seen hz hrun
  exact ⟨vs, s₂, hl, n', o, s', hrun', rest⟩
end Mine
end
section
open PySem PySem.W PyProof.Rows PySem.Calls
namespace Mine
open Sem (wp)

theorem wpC_seen {α : Type} {M : Model} {A : Around} {t d : Sem α} {Q : α → Shared → Prop} {E : Value → Shared → Prop} {s : Shared}
    (h : wpAny M A (seen t d) Q E s) : wpC M A t Q E s := fun Γ p hΓ hc => by
  have h' := h Γ p hΓ
  unfold seen at h'
  rw [Sem.wp_stack, if_pos (enter_caller hc p)] at h'
  exact h'
theorem other_seen {α : Type} {M : Model} {A : Around} {t d : Sem α} {Q : α → Shared → Prop} {E : Value → Shared → Prop} {s : Shared}
    (h : wpAny M A (seen t d) Q E s) {Γ : Ctx} {p : Pos} (hΓ : Γ.In A) (hc : ¬ (((Γ.code, p) :: Γ.below).any fun x => x.1.isCaller) = true) :
    wp M Γ d (fun a _ s' => Q a s') (fun e _ s' => E e s') p s := by
  have h' := h Γ p hΓ
  unfold seen at h'
  rw [Sem.wp_stack, if_neg hc] at h'
  exact h'
theorem wpAny_seen2 {α : Type} {M : Model} {A : Around} {t d : Sem α} {Q : α → Shared → Prop} {E : Value → Shared → Prop} {s : Shared}
    (h : wpC M A t Q E s) (hd : ∀ (Γ : Ctx) (p : Pos), Γ.In A → ¬ (((Γ.code, p) :: Γ.below).any fun x => x.1.isCaller) = true → wp M Γ d (fun a _ s' => Q a s') (fun e _ s' => E e s') p s) :
    wpAny M A (seen t d) Q E s := fun Γ p hΓ => by
  unfold seen
  rw [Sem.wp_stack]
  by_cases hc : (((Γ.code, p) :: Γ.below).any fun x => x.1.isCaller) = true
  · rw [if_pos hc]
    refine h Γ p hΓ ?_
    rw [List.any_cons] at hc; exact hc
  · rw [if_neg hc]; exact hd Γ p hΓ hc

/-- what is to be walked: as the library's WalkO, in our logic -/
abbrev WalkC (q : Program) (loose : List Str) (XP : (Str → Option Value) → Heap → Prop) (YP : World → Heap → Prop) (r : RowW) (d : DefRec) (kwd : List (Str × Expr)) (run : Value → List Value → Sem Value) : Prop :=
  ∀ (w : World) (s₀ s₁ : Shared) (mg mb : Str → Option Value), Ground q loose r.records XP w s₀ mg mb s₁.heap → YP w s₁.heap → ∀ (a : Addr) (o : Obj) (pm cd doc dV kV : Value), s₁.heap.get? a = some o →
    o.data = .func { docDef d.name d.params d.body d.scope pm cd doc with defaults := dV, kwdefaults := kV } → s₁.heap.CodeRec cd d.name → Dflts mg s₁.heap d.params kwd dV kV → mg d.name = some (.ref a) → s₁.gens = #[] →
    ∀ (args : List WData) (vals : List Value) (as : List Addr), r.claim.pre args = true → WData.layableAll args = true → ReadsAllW r.records (classAt s₀.heap) s₁.heap vals args as → WellAll w.params s₁.heap vals args → (∀ a ∈ as, (a == sysModules) = false) →
      wpC (model r.prog w) callerA (run (.ref a) vals) (fun v s' => GoodWG r.claim (classAt s₀.heap) (ExcName.means s₀.heap) args s₁ (.ok (.ret v)) s')
        (fun e s' => GoodWG r.claim (classAt s₀.heap) (ExcName.means s₀.heap) args s₁ (.error e) s') s₁ ∧
      GoodWG r.claim (classAt s₀.heap) (ExcName.means s₀.heap) args s₁ (.ok (.ret (.bool true))) s₁

/-- the head, from a walk in our logic: the library's own head for a tree that looks at the stack first -/
theorem PySem.W.holds_open {r : OpenRow} {q : Program} {loose : List Str} {Xt : Shared → Bool} {XP : (Str → Option Value) → Heap → Prop} {α : Type} {Yf : Shared → α} {Ya : World → α} {YP : World → Heap → Prop} {d : DefRec} {kwd : List (Str × Expr)} {N : Nat}
    (left : LeftO r.prog q loose Xt Yf Ya N) (hY : ∀ w s, Yf s = Ya w → YP w s.heap) (hYk : ∀ w h h', YP w h → (∀ b o, h.get? b = some o → h'.get? b = some o) → YP w h')
    (hX : ∀ s, Xt s = true → XP (s.heap.nsMap mainGlobals) s.heap) (hXk : ∀ mg h h', XP mg h → (∀ b o, h.get? b = some o → h'.get? b = some o) → XP mg h')
    (hdef : defOf q r.name = some (d, kwd)) (hp : r.prog.theDef r.name = some (d.params, d.body, d.scope)) (hk : kwWritten? d.params.kwonlyargs d.params.kw_defaults = some kwd) (hRf : ∀ s, Xt s = true → RecFacts r.records s.heap) (hwr : (!r.writes || r.records.isEmpty) = true)
    (k1 : r.wellSaid = true) (ok : (chainsOk q && opensWell r.prog && (frees r.toRowW && r.within.isEmpty)) = true) (hb : r.prog.bare) (hw : r.toRowW.promised)
    (call : WalkC q loose XP YP r.toRowW d kwd fun f vs => PySem.call f vs) : r.Holds := by
  refine ⟨k1, hw, holds_seen (d := fun _ => pure (.done (.ret (.bool true)))) (open_anyG (r := r.toRowW) (run := fun f vs => seen (PySem.call f vs) (pure (.bool true)))
    (tree := fun vs => seen (do match ← nsGet mainNs r.name with
      | some f => do ret (← PySem.call f vs)
      | none => unsupported "claim.caller:no-such-global") (pure (.done (.ret (.bool true))))) left hY hYk hX hXk hRf hwr ok hb hw ?_ (fun w s hg G n hn => ?_) fun w s₀ s₁ mg mb G Y args vs as hpre hlay L low => ?_)⟩
  · intro vs w s mg f Q E hg hf h
    refine wpAny_seen2 (wpC_bindA (wpAny_nsGet hg ?_)) fun Γ p hΓ hc => other_seen h hΓ hc
    rw [hf]
    exact wpC_bind (wpC_mono (wpC_seen h) (fun _ _ x => wpC_pure x) fun _ _ x => x)
  · obtain rfl : n = r.name := by split at hn <;> simp_all
    exact pinned_of_view hg G hdef hp hk
  · obtain ⟨a, o, pm, cd, doc, dV, kV, h1, h2, h3, h4, h5⟩ := G.fn hdef
    obtain ⟨hc, hg⟩ := call w s₀ s₁ mg mb G Y a o pm cd doc dV kV h2 h3 h4 h5 (defOf_name hdef ▸ h1) L.gens args vs as hpre hlay L.reads L.well (L.low low)
    exact ⟨.ref a, h1, wpAny_seen hc (wpAny_pure hg)⟩
set_option maxRecDepth 100000 in
set_option maxHeartbeats 8000000 in
open_top top for PySem.Challenge.rw_mg0080_01
end Mine
end
section
open PySem PySem.W PyProof.Rows PySem.Calls PySem.NumText
set_option maxRecDepth 100000
namespace Mine
open Sem (wp)
section
variable {prog : Program} {w : World} {A : Around} {E : Value → Shared → Prop} {s : Shared}

set_option maxHeartbeats 4000000 in
theorem int_new_refused {Q : Fin → Shared → Prop} {x : PySem.Str} {u : Tok}
    (hE : wpC (model prog w) A ((int_private% "intFromText") (.str x u) (numTextOf x) 10) (fun _ _ => False) E s) :
    wpC (model prog w) A (Builtin.«int.__new__» ⟨[.type "int", .str x u], []⟩) Q E s := by
  have f1 := F.conv_sub_int
  have f2 := F.madeHere_int
  have f3 := KIN.str_int
  have f4 := KIN.str_idx
  have f5 := KIN.str_trunc
  have f6 : typeOf (.str x u) = pure (.type "str") := rfl
  obtain ⟨hp, g, d, tk, os⟩ := s
  unfold Builtin.«int.__new__»
  refine wpC_bindA ?_
  repeat (any_goals (first | assumption | wp_step))
  show wpC _ _ (isSubtype (.type "int") (.type "int") >>= _) _ _ _
  refine wpC_bindA (wpAny_of_eq f1 ?_)
  show wpC _ _ (Bind.madeHere "int.__new__" (.type "int") >>= _) _ _ _
  refine wpC_bindA (wpAny_of_eq f2 ?_)
  show wpC _ _ ((int_private% "intFromObject") (.str x u) >>= _) _ _ _
  refine wpC_bind (wpC_mono (Q := fun _ _ => False) ?_ (fun _ _ h => h.elim) fun _ _ h => h)
  show wpC _ _ (callSpecial? (.str x u) (Str.ofString "__int__") >>= _) _ _ _
  refine wpC_bindA ?_
  repeat (any_goals (first | assumption | wp_step))


theorem mark_quiet {own : List String} {e : Value} {Q : Unit → Shared → Prop} (h : Q () s) : wpC (model prog w) A (markTheRefusal own e) Q E s := by
  unfold markTheRefusal
  refine wpC_bind (wpC_stack fun st hc => ?_)
  have key : ∀ a b c : Bool, a = true → ((!a && b) && c) = false := by decide
  have e1 : pythonCodeMadeTheCall own (st.map (·.1)) = false := by
    unfold pythonCodeMadeTheCall
    refine key _ _ _ ?_
    rw [List.any_map]
    exact hc
  rw [e1]
  exact wpC_pure h

theorem refusal_tail {Q : Value → Shared → Prop} {x m₁ : PySem.Str} {u : Tok} (hl : x.length ≤ 640) (hsig : ∀ c ∈ x.cps.toList, c < 128) (hm : m₁.length ≤ 1000) (hh : A.handled = none)
    (hE : ∀ h' tk e, Heap.NewExc s.heap h' e "ValueError" → E (.ref e) { s with heap := h', toks := tk }) :
    wpC (model prog w) A (do
      let shown ← pyRepr (.str x u)
      let m ← mkStr (m₁ ++ { cps := shown.cps.extract 0 200 })
      let refusal ← newExc (.type "ValueError") [m]
      markTheRefusal ["int.__new__"] refusal
      raiseNew refusal : Sem Value) Q E s := by
  refine wpC_bindA ?_
  unfold pyRepr
  have hr : (reprText x).length ≤ sizeLine := by
    have h1 := StrLaws.reprText_len x (fun c hc => by have := hsig c hc; omega)
    rw [sizeLine_eq]; omega
  refine wpAny_bind (pyReprObj_str (wpAny_pure ?_) hr)
  refine wpC_bindA (wpAny_mkStr ?_ ?hz)
  case hz =>
    rw [Str.length_append, sizeLine_eq]
    have : (({ cps := (reprText x).cps.extract 0 200 } : PySem.Str)).length ≤ 200 := by
      show ((reprText x).cps.extract 0 200).size ≤ 200
      simp; omega
    omega
  refine wpC_bindA ?_
  unfold newExc newTuple
  refine wpAny_bind (wpAny_newObj_type ?_)
  refine wpAny_bind (m := firstArgMember _ _) (wpAny_of_eq (a := Value.none) (by simp only [firstArgMember, plainExc_ValueError.first]; rfl) ?_)
  rw [plainExc_ValueError.own]
  refine wpAny_newObj_type ?_
  refine wpC_bind (mark_quiet (wpC_any ?_))
  unfold raiseNew
  refine wpAny_bind (wpAny_handled ?_)
  rw [hh]
  refine wpAny_bind (wpAny_pure (wpAny_throw ?_))
  exact hE _ _ _ ⟨fun b o hb => Heap.get?_push_of_some _ (Heap.get?_push_of_some _ hb), Heap.get?_none_of_le (by simp), _, .ref s.heap.objs.size, Heap.get?_push_size _ rfl, rfl, by simp⟩

set_option maxHeartbeats 4000000 in
theorem intFromText_refused {Q : Value → Shared → Prop} {x : PySem.Str} {u : Tok} (hl : x.length ≤ 640) (hn : PySem.intText? x = none) (hsig : ∀ c ∈ x.cps.toList, c < 128) (hh : A.handled = none)
    (hE : ∀ h' tk e, Heap.NewExc s.heap h' e "ValueError" → E (.ref e) { s with heap := h', toks := tk }) :
    wpC (model prog w) A ((int_private% "intFromText") (.str x u) (numTextOf x) 10) Q E s := by
  have hs : (numSeenOf x).length ≤ 640 := Nat.le_trans (seen_length x) hl
  show wpC _ _ (if (numSeenOf x).length ≤ 640 then _ else _) _ _ _
  rw [if_pos hs]
  refine wpC_bindA (wpAny_pure ?_)
  have hr : (int_private% "readNumeral") 0 10 (numSeenOf x) = int_private% "Numeral.invalid" ∨
      ∃ i, (int_private% "readNumeral") 0 10 (numSeenOf x) = (int_private% "Numeral.value") i ∧ ¬ ((numSeenOf x).length == (numTextOf x).length) = true := by
    rcases read0 x hs with ⟨n, h1, _⟩ | ⟨_, h⟩
    · rw [hn] at h1; cases h1
    · exact h
  rcases hr with hr | ⟨i, hr, hne⟩
  · simp only [hr]
    refine wpC_bindA ?_
    repeat (any_goals (first | assumption | wp_step))
    show wpC _ _ (rule "int.__new__.invalid-literal" >>= _) _ _ _
    refine wpC_bindA (wpAny_rule ?_)
    refine wpC_bindA ?_
    repeat (any_goals (first | assumption | wp_step))
    exact refusal_tail hl hsig (by decide +kernel) hh hE
  · simp only [hr]
    show wpC _ _ (if ((numSeenOf x).length == (numTextOf x).length) = true then _ else _) _ _ _
    rw [if_neg hne]
    show wpC _ _ (rule "int.__new__.invalid-literal" >>= _) _ _ _
    refine wpC_bindA (wpAny_rule ?_)
    refine wpC_bindA ?_
    repeat (any_goals (first | assumption | wp_step))
    exact refusal_tail hl hsig (by decide +kernel) hh hE
end
end Mine
end
section
open PySem PySem.W PyProof.Rows PySem.Calls PySem.NumText
set_option maxRecDepth 100000
namespace Mine
open Sem (wp)
section
variable {prog : Program} {w : World} {A : Around} {E : Value → Shared → Prop} {s : Shared}

theorem codeC_builtin {id : String} {args : Args} {b : Builtin} {R : Result → Shared → Prop} (hb : entryFor table id = some b)
    (h : wpC (model prog w) (A.under (.builtin id args)) (b args) (fun fin s' => match fin with | .done f => R (.ok f) s' | .again c' => c'.quiet = true ∧ codeC (model prog w) A c' R s') (fun e s' => R (.error e) s') s) :
    codeC (model prog w) A (.builtin id args) R s := by
  refine codeC_tree ?_
  show wpC _ _ (match entryFor table id with | some b => b args | none => unsupported ((withoutEnding? id "#data").getD id)) _ _ s
  rw [hb]; exact h
theorem codeC_call_builtin {id : String} {args : Args} {b : Builtin} {R : Result → Shared → Prop} (hp : plainId id = true) (hb : entryFor table id = some b) (hc : checkBuiltinCall id args = pure ())
    (h : wpC (model prog w) A.in1 (b args) (fun fin s' => match fin with | .done f => R (.ok f) s' | .again c' => c'.quiet = true ∧ codeC (model prog w) A c' R s') (fun e s' => R (.error e) s') s) :
    codeC (model prog w) A (.call (.builtin id) args) R s := by
  refine codeC_tree ?_
  show wpC _ A.in1 (do checkBuiltinCall id args; again (.builtin id args)) _ _ s
  refine wpC_bindA (wpAny_of_eq hc (wpC_pure ⟨plainId_quiet hp args, codeC_builtin hb ?_⟩))
  rw [Around.under_plainId hp args]
  exact h

set_option maxHeartbeats 4000000 in
theorem call_int_refused {Q : Value → Shared → Prop} {x : PySem.Str} {u : Tok} (hl : x.length ≤ 640) (hn : PySem.intText? x = none) (hsig : ∀ c ∈ x.cps.toList, c < 128) (hh : A.handled = none)
    (hE : ∀ h' tk e, Heap.NewExc s.heap h' e "ValueError" → E (.ref e) { s with heap := h', toks := tk }) :
    wpC (model prog w) A (call (.type "int") [.str x u]) Q E s := by
  have ft := F.called_int
  have h1 := ft.notType
  have h2 := ft.canCreate
  obtain ⟨c, tl, hmro⟩ := ft.mro
  refine wpC_call (codeC_tree ?_)
  show wpC _ _ (callAny (.type "int") _) _ _ _
  refine wpC_pure ⟨Code.quiet_builtin _ (by decide +kernel), codeC_builtin F.entry_type_call ?_⟩
  rw [Around.under_plain (weight_type_call_type "int" [.str x u] []) (units_type_call_type "int" [.str x u] [])]
  unfold Builtin.«type.__call__»
  simp only [h1, h2, Bool.false_eq_true, if_false, F.typeCall_int_1, pure_bind, hmro, ft.made]
  show wpC _ _ (holding [Value.builtin "int.__new__"] (call (.builtin "int.__new__") [.type "int", .str x u]) >>= _) _ _ _
  refine wpC_bind (wpC_holding (wpC_call (codeC_call_builtin ft.plain F.entry_int_new (F.newCall_int_1 _) ?_)))
  exact int_new_refused (intFromText_refused hl hn hsig hh hE)
end
end Mine
end
section
open PySem PySem.W PyProof.Rows PySem.Calls
set_option maxRecDepth 100000
namespace Mine
open Sem (wp)

/-! the statements and calls along which a refused text may come -/
abbrev NoE : Value → Shared → Prop := fun _ _ => False

section
variable {M : Model} {A : Around} {E : Value → Shared → Prop} {s : Shared} {env : Env}

theorem wpC_execs_cons {st : Stmt} {rest : List Stmt} {Q : Flow → Shared → Prop}
    (h : wpC M A (exec st env) (fun f s' => match f with | .next => wpC M A (execs rest env) Q E s' | f => Q f s') E s) : wpC M A (execs (st :: rest) env) Q E s := by
  rw [execs_cons]
  refine wpC_bind (wpC_mono h (fun f s' h' => ?_) fun _ _ x => x)
  cases f <;> first | exact h' | exact wpC_pure h'

theorem wpC_If {test : Expr} {body orelse : List Stmt} {pos : Pos} {Q : Flow → Shared → Prop}
    (h : wpC M A (isTrue test env (eval test env)) (fun b s₂ => if b then wpC M A (execs body env) Q E s₂ else wpC M A (execs orelse env) Q E s₂) E s) :
    wpC M A (exec (.If test body orelse pos) env) Q E s := by
  show wpC M A (do standAt pos; if ← isTrue test env (eval test env) then execs body env else execs orelse env) Q E s
  refine wpC_bind (wpC_standAt (wpC_bind (wpC_mono h (fun b s₂ h₂ => ?_) fun _ _ x => x)))
  cases b <;> exact h₂

theorem wpC_isTrue_Compare1 {l r : Expr} {op : CmpOp} {pos : Pos} {whole : Sem Value} {Q : Bool → Shared → Prop}
    (h : wpC M A (eval l env) (fun a s₁ => wpAny M A (eval r env) (fun b s₂ => wpAny M A (compareOp op a b) (fun c s₃ => wpAny M A (truthy c) Q E s₃) E s₂) E s₁) E s)
    (hm : behindInMarks op r = false := by with_unfolding_all rfl) : wpC M A (isTrue (.Compare l [op] [r] pos) env whole) Q E s := fun Γ p hΓ hc => by
  simp only [isTrue_Compare1, markedBehindIn_of_false hm, Sem.wp_bind', Sem.wp_holding, Sem.wp_cmd_standAt, Sem.wp_operate]
  exact Sem.wp_mono M Γ _ (fun a p₁ s₁ h₁ => Sem.wp_mono M Γ _ (fun b _ s₂ h₂ => Sem.wp_mono M Γ _ (fun c p₃ s₃ h₃ => h₃ Γ p₃ hΓ)
    (fun _ _ _ h' => h') _ _ (h₂ Γ _ hΓ)) (fun _ _ _ h' => h') _ _ (h₁ Γ p₁ hΓ)) (fun _ _ _ h' => h') _ _ (h Γ p hΓ hc)

theorem wpC_Assign_Name {x : Str} {pos' pos : Pos} {value : Expr} {Q : Flow → Shared → Prop}
    (h : wpC M A (eval value env) (fun v s₁ => wpAny M A (storeName env x v) (fun _ => Q .next) E s₁) E s)
    (hs : swapsWith value (some (.Name x pos')) pos.line env = pure false := by rfl) : wpC M A (exec (.Assign [.Name x pos'] value pos) env) Q E s := fun Γ p hΓ hc => by
  simp only [exec_Assign_Name env x pos' value pos hs, Sem.wp_bind', Sem.wp_cmd_standAt, Sem.wp_bindName, Sem.wp_pure']
  exact Sem.wp_mono M Γ _ (fun v _ s₁ h₁ => h₁ Γ _ hΓ) (fun _ _ _ h' => h') _ _ (h Γ _ hΓ hc)

theorem wpC_Try {body orelse : List Stmt} {h₀ : ExceptHandler} {hs : List ExceptHandler} {pos : Pos} {Q : Flow → Shared → Prop}
    (h : wpC M A (execs body env) (fun f s₁ => match f with | .next => wpAny M A (execs orelse env) Q E s₁ | f => Q f s₁)
      (fun e s₁ => wpAny M A (noteFrame e env) (fun _ s₂ => wpAny M A (setFlight e none) (fun _ s₃ => wpAny M A (handleBy e env (h₀ :: hs)) Q E s₃) E s₂) E s₁) s) :
    wpC M A (exec (.Try body (h₀ :: hs) orelse [] pos) env) Q E s := by
  show wpC M A (do standAt pos; tryStmt false (execs body env) (h₀ :: hs) (execs orelse env) [] env) Q E s
  refine wpC_bind (wpC_standAt ?_)
  unfold tryStmt
  simp only [List.isEmpty_nil, if_true, List.isEmpty_cons, Bool.false_and, Bool.false_eq_true, if_false]
  refine wpC_bind (wpC_attempt (wpC_mono h (fun f s₁ h₁ => ?_) fun e s₁ h₁ => ?_))
  · cases f <;> first | exact wpC_any h₁ | exact wpC_pure h₁
  · exact wpC_any (wpAny_bind (wpAny_mono h₁ (fun _ _ h₂ => wpAny_bind h₂) fun _ _ x => x))

/-- a call of a def by its name -/
theorem wpC_Call_def {id : Str} {p pos : Pos} {args : List Expr} {a : Addr} {o : Obj} {fd : FuncData} {Q : Value → Shared → Prop}
    (h : wpAny M A (eval (.Name id p) env) (fun f s₁ => f = .ref a ∧ wpAny M A (evalArgs (.ref a) true (backTo pos (starEach args env)) []) (fun x s₂ => (s₂.heap.get? a = some o ∧ o.data = .func fd) ∧ wpC M A (call (.ref a) x.pos x.kw) Q E s₂) E s₁) E s)
    (hlen : args.length ≤ 30) (hst : (backTo pos (starEach args env)).any (·.1) = false) (hl : (backTo pos (starEach args env)).length = args.length) :
    wpC M A (eval (.Call (.Name id p) args [] pos) env) Q E s := by
  show wpC M A (do callWith pos (← eval (.Name id p) env) [] (backTo pos (starEach args env)) []) Q E s
  refine wpC_bindA (wpAny_mono h (fun f s₁ h₁ => ?_) fun _ _ x => x)
  obtain ⟨rfl, h₁⟩ := h₁
  unfold callWith
  refine wpC_bindA (wpAny_holding (wpAny_mono h₁ (fun x s₂ h₂ => ?_) fun _ _ x => x))
  refine wpC_bindA (wpAny_standAt ?_)
  simp only [hst, hl, List.any_nil, Bool.or_false, List.nil_append, List.length_nil, Nat.mul_zero, Nat.add_zero]
  refine wpC_bindA (m := keeperOf (.ref a)) ?_
  unfold keeperOf
  refine wpAny_bind (wpAny_load h₂.1.1 ?_)
  rw [h₂.1.2]
  refine wpAny_pure ?_
  dsimp only
  rw [if_neg (by omega)]
  unfold callMarked
  exact wpC_bind (wpC_keep (wpC_mono h₂.2 (fun r s₃ hr => wpC_any (wpAny_bind (wpAny_holding (wpAny_point (wpAny_pure hr))))) fun _ _ x => x))

/-- a call of a built-in type by its name -/
theorem wpC_Call_type {id : Str} {p pos : Pos} {args : List Expr} {T : String} {Q : Value → Shared → Prop}
    (h : wpAny M A (eval (.Name id p) env) (fun f s₁ => f = .type T ∧ wpAny M A (evalArgs (.type T) true (backTo pos (starEach args env)) []) (fun x s₂ => wpC M A (call (.type T) x.pos x.kw) Q E s₂) E s₁) E s)
    (hst : (backTo pos (starEach args env)).any (·.1) = false) :
    wpC M A (eval (.Call (.Name id p) args [] pos) env) Q E s := by
  show wpC M A (do callWith pos (← eval (.Name id p) env) [] (backTo pos (starEach args env)) []) Q E s
  refine wpC_bindA (wpAny_mono h (fun f s₁ h₁ => ?_) fun _ _ x => x)
  obtain ⟨rfl, h₁⟩ := h₁
  unfold callWith
  refine wpC_bindA (wpAny_holding (wpAny_mono h₁ (fun x s₂ h₂ => ?_) fun _ _ x => x))
  refine wpC_bindA (wpAny_standAt ?_)
  simp only [hst, List.any_nil, Bool.or_false, List.nil_append]
  refine wpC_bindA (m := keeperOf (.type T)) (wpAny_pure ?_)
  dsimp only
  exact wpC_bind (wpC_mono h₂ (fun r s₃ hr => wpC_any (wpAny_bind (wpAny_holding (wpAny_point (wpAny_pure hr))))) fun _ _ x => x)

theorem wpC_For {target iter : Expr} {body orelse : List Stmt} {pos : Pos} {Q : Flow → Shared → Prop}
    (h : wpAny M A (eval iter env) (fun x s₁ => wpAny M A (pyIter x) (fun it s₂ =>
      codeC M A (.forLoop target it body orelse env) (fun r s' => match r with | .ok f => Q f s' | .error _ => False) s₂) NoE s₁) NoE s)
    (hs : ∀ x, foldedSetIterable iter env x = pure x := by intro _; rfl) : wpC M A (exec (.For target iter body orelse pos) env) Q NoE s := by
  rw [exec_For]
  refine wpC_bind (wpC_standAt (wpC_bindA (wpAny_mono h (fun x s₁ h₁ => wpC_bindA (wpAny_of_eq (hs x) (wpC_bind (wpC_standAt (wpC_bindA (wpAny_holding
    (wpAny_mono h₁ (fun it s₂ h₂ => ?_) fun _ _ h' => h'))))))) fun _ _ h' => h')))
  unfold runOwn
  refine wpC_onRaise (wpC_mono (wpC_run (E := NoE) (codeC_mono h₂ fun r s' hr => ?_)) (fun _ _ x => x) fun _ _ x => x.elim)
  cases r <;> exact hr
end

section
variable {prog : Program} {w : World} {A : Around} {E : Value → Shared → Prop} {s : Shared} {R : Result → Shared → Prop}

theorem codeC_func {body : List Stmt} {env : Env} (h : wpC (model prog w) (A.deeper env) (execs body env) (fun f s' => R (.ok (.ret (match f with | .ret v => v | _ => .none))) s') NoE s) :
    codeC (model prog w) A (.func body env) R s := by
  refine codeC_tree ?_
  show wpC _ (A.deeper env) (do point; match ← (execs body env).onRaise (leaving env) with | .ret v => ret v | _ => ret .none) _ _ s
  refine wpC_bindA (wpAny_point (wpC_bind (wpC_onRaise (wpC_mono h (fun f s' h' => ?_) fun _ _ x => x.elim))))
  cases f <;> exact wpC_pure h'

theorem codeC_call_function {a : Addr} {args : Args} {o : Obj} {fd : FuncData} {body : List Stmt} (hroom : A.depth < recursionLimit) (ho : s.heap.get? a = some o)
    (hd' : o.data = .func fd) (hco : fd.scope.isCoroutine = false) (hgen : fd.scope.isGenerator = false) (hbody : fd.body = .stmts body) (hcd : s.heap.CodeRec fd.code fd.qualname)
    (h : wpAny (model prog w) A.in1 (bindArgs fd args) (fun binds s₁ =>
      wpAny (model prog w) A.in1 (newFunctionEnv fd.scope fd.globals fd.closure binds (fd.qualname ++ ".<locals>.") (some a) fd.code none fd.builtins)
        (fun env s₂ => s₂.heap.NoLimit ∧ codeC (model prog w) A (.func body env) R s₂) NoE s₁) NoE s) :
    codeC (model prog w) A (.call (.ref a) args) R s := by
  refine codeC_tree ?_
  show wpC _ A.in1 (callAny (.ref a) args) _ _ s
  simp only [callAny]
  refine wpC_bindA (wpAny_load ho ?_)
  obtain ⟨c, oc, vs, tq, hc, hoc, hdc, hq⟩ := hcd
  simp only [hd', callFunction, hco, hgen, hbody, hc]
  rw [hc] at h
  refine wpC_bindA (m := field (.ref c) 1) (wpAny_field hoc hdc hq (wpC_bindA (wpAny_pure ?_)))
  exact wpC_bindA (wpAny_mono h (fun binds s₁ h₁ => wpC_bindA (wpAny_mono h₁ (fun env s₂ h₂ => wpC_bindA (wpAny_enterFrame h₂.1 hroom
    (wpC_pure ⟨rfl, h₂.2⟩))) fun _ _ h' => h'.elim)) fun _ _ h' => h'.elim)

theorem codeC_call_def {a : Addr} {o : Obj} {fd : FuncData} {body : List Stmt} {args : Args} {binds : List (Str × Value)}
    (hroom : A.depth < recursionLimit) (ho : s.heap.get? a = some o) (hdata : o.data = .func fd) (hlim : s.heap.NoLimit) (hcd : s.heap.CodeRec fd.code fd.qualname)
    (hbody : fd.body = .stmts body) (hbind : BindsTo s fd args binds) (hcell : ∀ x ∈ fd.scope.names, x.2 ≠ .cell) (hloc : ∀ x ∈ binds, fd.scope.names.lookup x.1 = some .local)
    (h : ∀ h₀, h₀.Ns s.heap.objs.size (fun x => binds.reverse.lookup x) → (∀ b o, s.heap.get? b = some o → h₀.get? b = some o) →
      wpC (model prog w) (A.deeper (callEnv fd s.heap.objs.size a)) (execs body (callEnv fd s.heap.objs.size a)) (fun f s' => R (.ok (.ret (match f with | .ret v => v | _ => .none))) s') NoE
        { s with heap := h₀, toks := s.toks + binds.length })
    (hco : fd.scope.isCoroutine = false) (hgen : fd.scope.isGenerator = false) (hk : fd.scope.kind = .function) :
    codeC (model prog w) A (.call (.ref a) args) R s := by
  refine codeC_call_function hroom ho hdata hco hgen hbody hcd (hbind _ _ _ _ ?_)
  refine wpAny_newFunctionEnv hcell hloc (fun h₀ hns₀ hsb₀ => ⟨hlim.fresh _ hsb₀, codeC_func (h h₀ hns₀ fun b o e => ?_)⟩) hk
  exact hsb₀.extBut b o (Nat.ne_of_lt (Heap.lt_size e)) (Heap.get?_push_of_some _ e)

/-- a for in turns: the invariant I, its number falls -/
theorem codeC_forLoop {target : Expr} {it : Value} {body : List Stmt} {env : Env} (I : Nat → Shared → Prop)
    (turn : ∀ n s, I n s → wpAny (model prog w) A (pyNext it) (fun r s₁ => match r with
      | none => R (.ok .next) s₁
      | some v => wpAny (model prog w) A (assign target env v) (fun _ s₂ => wpC (model prog w) A (execs body env) (fun f s₃ => match f with
          | .next | .cont => ∃ m, m < n ∧ I m s₃
          | .brk => R (.ok .next) s₃
          | .ret v => R (.ok (.ret v)) s₃) NoE s₂) NoE s₁) NoE s)
    (n : Nat) (h : I n s) (ht : ∀ v, letOwnedTupleGo target it v = pure () := by intro _; rfl) : codeC (model prog w) A (.forLoop target it body [] env) R s := by
  induction n using Nat.strongRecOn generalizing s with
  | ind n ih =>
    refine codeC_tree ?_
    show wpC _ _ ((forTurn target it body [] env).onRaise (fun x => do noteFrame x env; theTreesLotGoes x)) _ _ s
    refine wpC_onRaise (wpC_mono (E := NoE) ?_ (fun _ _ x => x) fun _ _ x => x.elim)
    simp only [forTurn]
    refine wpC_bind (wpC_standAt (wpC_bindA (wpAny_onRaise (wpAny_mono (turn n s h) (fun r s₁ h₁ => ?_) fun _ _ h' => h'.elim))))
    cases r with
    | none => exact wpC_pure ⟨rfl, codeC_any (codeAny_block (wpAny_execs_nil h₁))⟩
    | some v =>
      refine wpC_bindA (wpAny_of_eq (ht v) ?_)
      refine wpC_bindA (wpAny_mono h₁ (fun _ s₂ h₂ => wpC_bind (wpC_mono h₂ (fun f s₃ h₃ => ?_) fun _ _ h' => h')) fun _ _ h' => h')
      cases f with
      | next => obtain ⟨m, hm, hI⟩ := h₃; exact wpC_pure ⟨rfl, ih m hm hI⟩
      | cont => obtain ⟨m, hm, hI⟩ := h₃; exact wpC_pure ⟨rfl, ih m hm hI⟩
      | brk => exact wpC_pure h₃
      | ret v => exact wpC_pure h₃
end
end Mine
end
section
open PySem PySem.W PyProof.Rows PySem.Calls
set_option maxRecDepth 100000
namespace Mine
open Sem (wp)

section
variable {prog : Program} {w : World} {A A₀ : Around} {E : Value → Shared → Prop} {s : Shared} {K : Frag} {L : Addr} {h₀ base : Heap} {m mg mb : Str → Option Value} {news : List (Addr × Obj)} {p : Program} {loose : List Str} {mean : ExcName → Option Value}

/-- a def of the text is entered, the frames and the ledger kept -/
theorem codeC_def {env : Env} {outer : List Env} {R : Result → Shared → Prop} {name qual : Str} {params : Arguments} {body : List Stmt} {scope : Scope} {dV kV doc pm cdv ct oc : Value} {an od : Option Addr} {osl : Array (Option Value)} {f : Addr} {args : Args} {binds : List (Str × Value)}
    (B : Below A₀ base outer h₀) (F : Fr h₀ L s.heap m) (X₀ : K.In h₀) (N : News h₀ L s.heap news) (T : Top p loose mean mg mb h₀) (hA : A.frames = some (env :: outer)) (hf : env.frame = some L) (hke : env.scope.kind = .function)
    (ho : K.lookup f = some ⟨oc, od, .func (fnOf name qual params body scope dV kV doc pm an cdv ct), osl⟩) (hcd : codeIn K cdv qual = true) (hroom : A.depth < recursionLimit)
    (hbind : BindsTo s (fnOf name qual params body scope dV kV doc pm an cdv ct) args binds) (hloc : ∀ y ∈ binds, scope.names.lookup y.1 = some .local)
    (h : ∀ g L' h₁, Fr h₀ L g m → Fr g L' h₁ (fun y => binds.reverse.lookup y) → News g L' h₁ news → Below A base (env :: outer) g → K.In g → Top p loose mean mg mb g →
      wpC (model prog w) (A.deeper (envOf qual scope L' f cdv)) (execs body (envOf qual scope L' f cdv))
        (fun fl s' => LeaveK h₀ L m g R (match fl with | .ret v => v | _ => .none) s') NoE
        { s with heap := h₁, toks := s.toks + binds.length })
    (hco : scope.isCoroutine = false) (hgen : scope.isGenerator = false) (hk : scope.kind = .function)
    (hcell : ∀ x ∈ scope.names, x.2 ≠ .cell) : codeC (model prog w) A (.call (.ref f) args) R s := by
  obtain ⟨FG, BG, st, lv⟩ := groundX (R := R) B F N hA hf hke
  refine codeC_call_def (fd := fnOf name qual params body scope dV kV doc pm an cdv ct) (body := body) (binds := binds) hroom ((X₀.keeps F.keep) _ _ ho) rfl (T.nolimit.keeps F.keep) (codeRec_of (X₀.keeps F.keep) hcd) rfl hbind hcell hloc (fun h₁ hns hk₁ => ?_) hco hgen hk
  exact wpC_mono (h _ s.heap.objs.size h₁ FG ⟨hns, fun b o e => hk₁ b o (of_hideAll _ e), Nat.le_of_eq (hideAll_size _ _)⟩
    (fun q hq => ⟨hk₁ _ _ (N q hq).1, Nat.ne_of_lt (Heap.lt_size (N q hq).1), hideAll_none _ (List.mem_map_of_mem hq)⟩) BG (X₀.keeps st) (T.keeps st)) (fun fl s' hl => lv _ _ hl) fun _ _ y => y

/-- a loop over a list of the ledger; the ledger stays, of the frame's names J is kept -/
theorem forC_list {env : Env} {x : Str} {px : Pos} {body : List Stmt} {l : Addr} {ob : Obj} {items : Array Value} {c : Nat} {Q : Flow → Shared → Prop} (hh : A.handled = none) (hx : env.kindOf x = some .local)
    (hp : (env.scope.kind == .class || (env.scope.kind == .module && env.locals != env.globals)) = false)
    (F : Fr h₀ env.locals s.heap m) (N : News h₀ env.locals s.heap news) (hl : (l, ob) ∈ news) (hob : ob.cls = .type "list") (hit : ob.data = .seq items c)
    (J : (Str → Option Value) → Prop) (h0 : J m)
    (turn : ∀ (i : Nat) (v : Value) (m₁ : Str → Option Value) (h : Heap) (tk : Nat) (q : Addr × Obj), items[i]? = some v → J m₁ → Fr h₀ env.locals h (fun y => if y = x then some v else m₁ y) → News h₀ env.locals h (q :: news) →
      wpC (model prog w) A (execs body env) (fun f s' => f = .next ∧ ∃ h' tk' m', s' = { s with heap := h', toks := tk' } ∧ Fr h₀ env.locals h' m' ∧ News h₀ env.locals h' (q :: news) ∧ J m') NoE { s with heap := h, toks := tk })
    (done : ∀ h tk m', Fr h₀ env.locals h m' → News h₀ env.locals h news → J m' → Q .next { s with heap := h, toks := tk }) :
    wpAny (model prog w) A (pyIter (.ref l)) (fun it s₂ => codeC (model prog w) A (.forLoop (.Name x px) it body [] env) (fun r s' => match r with | .ok f => Q f s' | .error _ => False) s₂) NoE s := by
  have hlist : s.heap.IsList l items := ⟨ob, (N _ hl).1, hob, c, hit⟩
  refine wpAny_pyIter_list hlist ?_
  let I : Addr := s.heap.objs.size
  have hIl : I ≠ l := fun e => absurd (Heap.lt_size (N _ hl).1) (by show ¬ l < s.heap.objs.size; rw [← e]; exact Nat.lt_irrefl _)
  have hIL : I ≠ env.locals := fun e => absurd F.ns.lt (by rw [← e]; exact Nat.lt_irrefl _)
  have hI0 : h₀.get? I = none := next_is_new F
  have hInews : ∀ q ∈ news, q.1 ≠ I := fun q hq e => absurd (Heap.lt_size (N q hq).1) (by rw [e]; exact Nat.lt_irrefl _)
  refine codeC_forLoop (fun k s' => ∃ h tk m₁ i, s' = { s with heap := h, toks := tk } ∧ i ≤ items.size ∧ k = items.size - i ∧ h.IsListIter I l i ∧ Fr h₀ env.locals h m₁ ∧ News h₀ env.locals h news ∧ J m₁) ?_ items.size
    ⟨_, _, m, 0, rfl, Nat.zero_le _, rfl, ⟨_, Heap.get?_push_size _ rfl, rfl, rfl⟩, F.push _, fun q hq => ⟨Heap.get?_push_of_some _ (N q hq).1, (N q hq).2⟩, h0⟩
  rintro k s' ⟨h, tk, m₁, i, rfl, hi, rfl, hiter, F₁, N₁, hJ⟩
  have hlist₁ : h.IsList l items := ⟨ob, (N₁ _ hl).1, hob, c, hit⟩
  by_cases hlt : i < items.size
  · have hx' : items[i]? = some items[i] := by simp [hlt]
    refine wpAny_pyNext_list_item (s := { s with heap := h, toks := tk }) hiter hlist₁ hx' fun h₁ hit₁ hsb => ?_
    have F₂ : Fr h₀ env.locals h₁ m₁ := ⟨F₁.ns.at' fun o e => (hsb.2 _ hIL.symm).trans e, fun b o e => (hsb.2 b fun q => by subst q; rw [hI0] at e; cases e).trans (F₁.keep b o e), F₁.above⟩
    have N₂ : News h₀ env.locals h₁ news := fun q hq => ⟨(hsb.2 _ (hInews q hq)).trans (N₁ q hq).1, (N₁ q hq).2⟩
    refine wpAny_assign_Name (wpAny_storeName_local hx F₂.ns (fun h₂ hn₂ hs₂ => ?_) hp)
    obtain ⟨oi, hoi, hci, hdi⟩ := id hit₁
    have hoi₂ : h₂.get? I = some oi := (hs₂.2 _ hIL).trans hoi
    have N₃ : News h₀ env.locals h₂ ((I, oi) :: news) := by
      intro q hq
      rcases List.mem_cons.mp hq with rfl | hq
      · exact ⟨hoi₂, hIL, hI0⟩
      · exact ⟨(hs₂.2 _ (N₂ q hq).2.1).trans (N₂ q hq).1, (N₂ q hq).2⟩
    refine wpC_mono (turn i _ m₁ h₂ _ (I, oi) hx' hJ (F₂.set hn₂ hs₂) N₃) (fun f s₃ h₃ => ?_) fun _ _ y => y
    obtain ⟨rfl, h', tk', m', rfl, F', N', hJ'⟩ := h₃
    exact ⟨items.size - (i + 1), by omega, h', tk', m', i + 1, rfl, hlt, rfl, ⟨oi, (N' _ (.head _)).1, hci, hdi⟩, F', fun q hq => N' q (.tail _ hq), hJ'⟩
  · have hx' : items[i]? = none := by simp; omega
    refine wpAny_pyNext_list_end (s := { s with heap := h, toks := tk }) hh hiter hlist₁ hx' fun h₁ hext => ?_
    exact done h₁ tk m₁ ⟨F₁.ns.at' fun o e => hext _ o hIL.symm e, fun b o e => hext b o (fun q => by subst q; rw [hI0] at e; cases e) (F₁.keep b o e), F₁.above⟩
      (fun q hq => ⟨hext _ _ (hInews q hq) (N₁ q hq).1, (N₁ q hq).2⟩) hJ
end
end Mine
end
section
open PySem PySem.W PyProof.Rows PySem.Calls
namespace Mine

/-- a whole number read sign by sign: single underscores between figures (u: an underscore, or the start, stands right before) -/
def scanI : List Int → Int → Bool → Option Int
  | [], n, u => if u then none else some n
  | c :: r, n, u => if c = 95 then (if u then none else scanI r n true) else if 48 ≤ c ∧ c ≤ 57 then scanI r (n * 10 + (c - 48)) false else none

/-- the plain figures of a number above nought; none for nought -/
def tell (n : Nat) : List Nat := if n = 0 then [] else tell (n / 10) ++ [48 + n % 10]
termination_by n
decreasing_by omega

def mkS (l : List Nat) : PySem.Str := ⟨l.toArray⟩

def lessOf (part : PySem.Str) : Option PySem.Str := (scanI (KStt.codes (Txt.rstripChars part (Str.ofString " "))) 0 true).map fun n => mkS (tell (n - 3).toNat)

abbrev figs : PySem.Str := Str.ofString "0123456789"
abbrev noFig (k : Nat) : Bool := (Builtin.Str.occurrences figs { cps := #[k] } 0 figs.length 1).isEmpty

theorem one_beq (k c : Nat) : (({ cps := #[k] } : PySem.Str) == { cps := #[c] }) = decide (k = c) := by
  rw [Bool.eq_iff_iff, beq_iff_eq, decide_eq_true_eq]
  constructor
  · intro h; injection h with h; simpa using h
  · intro h; rw [h]
theorem us_is : Str.ofString "_" = ({ cps := #[95] } : PySem.Str) := by decide +kernel
theorem under_code (k : Nat) : (({ cps := #[k] } : PySem.Str) == Str.ofString "_") = decide (k = 95) := by
  rw [us_is]; exact one_beq k 95
theorem figs_codes : figs.cps.toList = [48, 49, 50, 51, 52, 53, 54, 55, 56, 57] := by decide +kernel
theorem noFig_is (k : Nat) : noFig k = decide (¬ (48 ≤ k ∧ k ≤ 57)) := by
  have h := StrLaws.found_one figs k
  rw [figs_codes] at h
  have e : decide (k ∈ [48, 49, 50, 51, 52, 53, 54, 55, 56, 57]) = decide (48 ≤ k ∧ k ≤ 57) := by
    rw [Bool.eq_iff_iff, decide_eq_true_eq, decide_eq_true_eq]
    simp only [List.mem_cons, List.not_mem_nil, or_false]
    omega
  rw [e] at h
  have h2 : noFig k = !decide (48 ≤ k ∧ k ≤ 57) := by rw [← h, Bool.not_not]
  rw [h2]; simp only [decide_not]
theorem find_fig : ∀ d : Nat, d < 10 → Txt.find figs { cps := #[48 + d] } = (d : Int) := by decide +kernel
theorem find_code {k : Nat} (h : 48 ≤ k ∧ k ≤ 57) : Txt.find figs { cps := #[k] } = (k : Int) - 48 := by
  have h1 := find_fig (k - 48) (by omega)
  rw [show 48 + (k - 48) = k by omega] at h1
  rw [h1]; omega
theorem item_fig : ∀ d : Nat, d < 10 → Txt.item figs (d : Int) = { cps := #[48 + d] } := by decide +kernel

structure ScanInv (pre : List Int) (n : Int) (last : PySem.Str) : Prop where
  lo : 0 ≤ n
  hi : n < 10 ^ pre.length
  one : last.length = 1
  rest : ∀ rest, scanI (pre ++ rest) 0 true = scanI rest n (last == Str.ofString "_")

theorem scan_start : ScanInv [] 0 (Str.ofString "_") := ⟨Int.le_refl _, by decide, by decide +kernel, fun _ => rfl⟩
theorem scan_under {pre : List Int} {n : Int} {last : PySem.Str} {k : Nat} (h : ScanInv pre n last) (hk : (({ cps := #[k] } : PySem.Str) == Str.ofString "_") = true) (hl : (last == Str.ofString "_") = false) :
    ScanInv (pre ++ [(k : Int)]) n { cps := #[k] } := by
  have hk' : k = 95 := by rw [under_code] at hk; exact of_decide_eq_true hk
  refine ⟨h.lo, ?_, rfl, fun rest => ?_⟩
  · rw [List.length_append, List.length_singleton, Int.pow_succ]
    have h1 := h.hi; have h0 := h.lo
    omega
  · rw [List.append_assoc, h.rest, hk, hl, hk']; rfl
theorem scan_fig {pre : List Int} {n : Int} {last : PySem.Str} {k : Nat} (h : ScanInv pre n last) (hk : (({ cps := #[k] } : PySem.Str) == Str.ofString "_") = false) (hf : noFig k = false) :
    ScanInv (pre ++ [(k : Int)]) (n * 10 + Txt.find figs { cps := #[k] }) { cps := #[k] } := by
  have hf' : 48 ≤ k ∧ k ≤ 57 := by rw [noFig_is] at hf; exact Decidable.not_not.mp (of_decide_eq_false hf)
  rw [find_code hf']
  have h1 := h.hi; have h0 := h.lo
  refine ⟨by omega, ?_, rfl, fun rest => ?_⟩
  · rw [List.length_append, List.length_singleton, Int.pow_succ]
    omega
  · rw [List.append_assoc, h.rest, hk]
    show scanI ((k : Int) :: rest) n _ = _
    rw [scanI, if_neg (by omega), if_pos (by omega)]
theorem none_under {part : PySem.Str} {pre post : List Int} {n : Int} {last : PySem.Str} {k : Nat} (h : ScanInv pre n last) (e : KStt.codes (Txt.rstripChars part (Str.ofString " ")) = pre ++ (k : Int) :: post)
    (hk : (({ cps := #[k] } : PySem.Str) == Str.ofString "_") = true) (hl : (last == Str.ofString "_") = true) : lessOf part = none := by
  have hk' : k = 95 := by rw [under_code] at hk; exact of_decide_eq_true hk
  unfold lessOf
  rw [e, h.rest, hl, hk']; rfl
theorem none_other {part : PySem.Str} {pre post : List Int} {n : Int} {last : PySem.Str} {k : Nat} (h : ScanInv pre n last) (e : KStt.codes (Txt.rstripChars part (Str.ofString " ")) = pre ++ (k : Int) :: post)
    (hk : (({ cps := #[k] } : PySem.Str) == Str.ofString "_") = false) (hf : noFig k = true) : lessOf part = none := by
  have hk' : k ≠ 95 := by rw [under_code] at hk; exact of_decide_eq_false hk
  have hf' : ¬ (48 ≤ k ∧ k ≤ 57) := by rw [noFig_is] at hf; exact of_decide_eq_true hf
  unfold lessOf
  rw [e, h.rest, scanI, if_neg (by omega), if_neg (by omega)]; rfl
theorem none_end {part : PySem.Str} {n : Int} {last : PySem.Str} (h : ScanInv (KStt.codes (Txt.rstripChars part (Str.ofString " "))) n last) (hl : (last == Str.ofString "_") = true) : lessOf part = none := by
  have := h.rest []
  rw [List.append_nil, hl] at this
  unfold lessOf; rw [this]; rfl
theorem less_some {part : PySem.Str} {n : Int} {last : PySem.Str} (h : ScanInv (KStt.codes (Txt.rstripChars part (Str.ofString " "))) n last) (hl : (last == Str.ofString "_") = false) :
    lessOf part = some (mkS (tell (n - 3).toNat)) := by
  have := h.rest []
  rw [List.append_nil, hl] at this
  unfold lessOf; rw [this]; rfl

theorem tell_len : ∀ (k n : Nat), n < 10 ^ k → (tell n).length ≤ k
  | 0, n, h => by
    have : n = 0 := by simpa using h
    subst this; rw [tell]; simp
  | k + 1, n, h => by
    rw [tell]
    split
    · simp
    · have := tell_len k (n / 10) (by rw [Nat.pow_succ] at h; omega)
      simp only [List.length_append, List.length_singleton]; omega

structure TellInv (N n : Int) (told : PySem.Str) : Prop where
  len : (tell N.toNat).length ≤ 61
  eq : tell n.toNat ++ told.cps.toList = tell N.toNat
theorem TellInv.small {N n : Int} {told : PySem.Str} (h : TellInv N n told) : told.length ≤ 61 := by
  have h1 := h.len
  rw [← h.eq, List.length_append] at h1
  have e : told.cps.toList.length = told.length := Array.length_toList
  omega
theorem tell_start {pre : List Int} {n : Int} {last : PySem.Str} (h : ScanInv pre n last) (hl : pre.length ≤ 61) : TellInv (n - 3) (n - 3) (Str.ofString "") := by
  refine ⟨?_, by rw [show (Str.ofString "").cps.toList = [] from by decide +kernel, List.append_nil]⟩
  refine Nat.le_trans (tell_len pre.length _ ?_) hl
  have h1 := h.hi
  have h2 : ((10 ^ pre.length : Nat) : Int) = (10 : Int) ^ pre.length := by simp
  rw [← h2] at h1
  have h3 : 0 < 10 ^ pre.length := Nat.pow_pos (by decide)
  generalize 10 ^ pre.length = c at h1 h3 ⊢
  omega
theorem tell_step {N n : Int} {told : PySem.Str} (h : TellInv N n told) (hn : 0 < n) : TellInv N (Int.fdiv n 10) (Txt.item figs (Int.fmod n 10) ++ told) := by
  refine ⟨h.len, ?_⟩
  rw [← h.eq]
  have e1 : Int.fmod n 10 = ((n.toNat % 10 : Nat) : Int) := by rw [Int.fmod_eq_emod_of_nonneg _ (by decide)]; omega
  have e2 : (Int.fdiv n 10).toNat = n.toNat / 10 := by rw [Int.fdiv_eq_ediv_of_nonneg _ (by decide)]; omega
  rw [e1, e2, item_fig _ (Nat.mod_lt _ (by decide)), PySem.Str.cps_append, Array.toList_append]
  conv => rhs; rw [tell]
  rw [if_neg (by omega), List.append_assoc]
theorem tell_done {N n : Int} {told : PySem.Str} (h : TellInv N n told) (hn : ¬ 0 < n) : told = mkS (tell N.toNat) := by
  have e := h.eq
  rw [show n.toNat = 0 by omega, tell, if_pos rfl, List.nil_append] at e
  rw [← e]; rfl
theorem tell_less {n : Int} (hn : 0 < n) : (Int.fdiv n 10).toNat < n.toNat := by
  rw [Int.fdiv_eq_ediv_of_nonneg _ (by decide)]; omega
end Mine
end
section
open PySem PySem.W PyProof.Rows PySem.Calls
namespace Mine
set_option maxRecDepth 100000 in
theorem fillme (w : World) (h : Heap) : PySem.Challenge.rw_mg0080_01.prog = PySem.Challenge.rw_mg0080_01.prog ∨ (top.heap_39 w.params).In h := by k_fill; exact .inl rfl
def optVal : Option PySem.Str → Tok → Value
  | none, _ => .none
  | some x, t => .str x t
section
variable {h₀ h' : Heap} {L : Addr} {m : Str → Option Value} {news news' : List (Addr × Obj)} {s : Shared} {Q : Value → Shared → Prop} {tk' : Nat} {part : PySem.Str} {t : Tok} {x : PySem.Str}
theorem less_ret_none (hret : ∀ (t : Tok) (h' : Heap) (tk' : Nat), Fr h₀ L h' m → News h₀ L h' news → Q (optVal (lessOf part) t) { s with heap := h', toks := tk' }) (e : lessOf part = none)
    (F : Fr h₀ L h' m) (N : News h₀ L h' news') (hs : ∀ p ∈ news, p ∈ news') : Q .none { s with heap := h', toks := tk' } := by
  have := hret 0 h' tk' F fun p hp => N p (hs p hp)
  rw [e] at this; exact this
theorem less_ret_some (hret : ∀ (t : Tok) (h' : Heap) (tk' : Nat), Fr h₀ L h' m → News h₀ L h' news → Q (optVal (lessOf part) t) { s with heap := h', toks := tk' }) (e : lessOf part = some x)
    (F : Fr h₀ L h' m) (N : News h₀ L h' news') (hs : ∀ p ∈ news, p ∈ news') : Q (.str x t) { s with heap := h', toks := tk' } := by
  have := hret t h' tk' F fun p hp => N p (hs p hp)
  rw [e] at this; exact this
end
theorem tf {b : Bool} (h1 : b = true) (h2 : b = false) : False := by rw [h1] at h2; cases h2
set_option maxRecDepth 100000 in
set_option maxHeartbeats 8000000 in
theorem three_less (w : World) (mean : ExcName → Option Value) (mg mb : Str → Option Value) (part : Str) (pt : Tok) (hlen : part.length ≤ 61)
    (dp un : Nat) (gd : Option (List Code)) (cn : Str) (cs : Scope) (a : Addr) (ccd : Value) (cl : List (Str × Addr)) (outer : List Env) (A₀ : Around) (base h₀ : Heap) (L : Addr) (m : Str → Option Value) (news : List (Addr × Obj)) (s : Shared) (Q E : Value → Shared → Prop)
    (B : Below A₀ base outer h₀) (F : Fr h₀ L s.heap m) (X : (top.heap_39 w.params).In h₀) (N : News h₀ L s.heap news) (T : Top top.view_39 (looseW top.view_39 []) mean mg mb h₀) (hk : cs.kind = .function)
    (hdp : dp + 1 < recursionLimit) (hun : un + 8 < cLine)
    (hret : ∀ (t : Tok) (h' : Heap) (tk' : Nat), Fr h₀ L h' m → News h₀ L h' news → Q (optVal (lessOf part) t) { s with heap := h', toks := tk' }) :
    wpAny (model PySem.Challenge.rw_mg0080_01.row.prog w) (ktrTop dp un gd cn cs L a ccd cl outer) (call (.ref 35) [.str part pt]) Q E s := by
  w_top off
  k_with_none
  k_with "state" => first | exact scan_start | exact scan_under (by assumption) (by assumption) (by assumption) | exact scan_fig (by assumption) (by assumption) (by assumption) | exact ⟨(tell_start (by assumption) (by first | assumption | (rw [KStt.codes_length]; omega))).small, tell_start (by assumption) (by first | assumption | (rw [KStt.codes_length]; omega))⟩ | exact ⟨(tell_step (by assumption) (by assumption)).small, tell_step (by assumption) (by assumption)⟩
  k_with "measure" => exact tell_less (by assumption)
  k_with "pyIter str" => k_state (fun pre n last => ScanInv pre n last) "n" "last"
  k_with "exec While Compare cons nil" => k_while_given ["n!"] (fun n₀ _ n told => told.length ≤ 61 ∧ TellInv n₀ n told) (fun _ _ n _ => n.toNat) "n" "told"
  refine wpAny_call ?_
  k_dflt cell_enter
  k_steps
  all_goals first
    | exact less_ret_none hret (none_under (by assumption) (by assumption) (by assumption) (by assumption)) (by assumption) (by assumption) (fun p hp => List.mem_append_left _ hp)
    | exact less_ret_none hret (none_other (by assumption) (by assumption) (by assumption) (by assumption)) (by assumption) (by assumption) (fun p hp => List.mem_append_left _ hp)
    | exact less_ret_none hret (none_end (by assumption) (by assumption)) (by assumption) (by assumption) (fun p hp => hp)
    | exact less_ret_some hret ((less_some (by assumption) (by assumption)).trans (congrArg some (tell_done (by assumption) (by assumption)).symm)) (by assumption) (by assumption) (fun p hp => hp)
    | exact (tf (b := noFig _) (by assumption) (by assumption)).elim
end Mine
end
section
open PySem PySem.W PyProof.Rows PySem.Calls
namespace Mine

/-- where the first part ends: the place of the first dot, or the text's end -/
def dotAt (x : PySem.Str) : Int := ((x.cps.toList.takeWhile (· != 46)).length : Int)
def firstCode (x : PySem.Str) : Nat := (Txt.item x 0).cps.getD 0 0

structure DotInv (told : PySem.Str) (k : Int) : Prop where
  lo : 0 ≤ k
  hi : k ≤ (told.length : Int)
  free : ∀ j : Nat, (j : Int) < k → ∃ c, told.cps.toList[j]? = some c ∧ c ≠ 46

theorem dot_is : Str.ofString "." = ({ cps := #[46] } : PySem.Str) := by decide +kernel
theorem item_code {x : PySem.Str} {k : Int} (h0 : 0 ≤ k) (h1 : k < (x.length : Int)) : ∃ c, x.cps.toList[k.toNat]? = some c ∧ Txt.item x k = { cps := #[c] } := by
  obtain ⟨c, hc⟩ := StrLaws.some_at h0 h1
  refine ⟨c, by simpa using hc, ?_⟩
  unfold Txt.item Txt.charAt
  rw [StrLaws.at_nonneg h0 hc]
  rfl
theorem dot_start (told : PySem.Str) : 0 ≤ (0 : Int) ∧ (0 : Int) ≤ (told.length : Int) ∧ DotInv told 0 :=
  ⟨Int.le_refl _, by omega, ⟨Int.le_refl _, by omega, fun j hj => by omega⟩⟩
theorem dot_step {told : PySem.Str} {k : Int} (h : DotInv told k) (h1 : k < (told.length : Int)) (h2 : (Txt.item told k != Str.ofString ".") = true) :
    0 ≤ k + 1 ∧ k + 1 ≤ (told.length : Int) ∧ DotInv told (k + 1) := by
  obtain ⟨c, hc, hi⟩ := item_code h.lo h1
  have h0 := h.lo
  refine ⟨by omega, by omega, ⟨by omega, by omega, fun j hj => ?_⟩⟩
  by_cases e : (j : Int) < k
  · exact h.free j e
  · have : j = k.toNat := by omega
    subst this
    refine ⟨c, hc, fun e46 => ?_⟩
    rw [hi, dot_is, bne, one_beq, e46] at h2
    cases h2
theorem takeWhile_at {l : List Nat} {p : Nat → Bool} : ∀ {k : Nat}, (∀ j, j < k → ∃ c, l[j]? = some c ∧ p c = true) → (∀ c, l[k]? = some c → p c = false) → (l.takeWhile p).length = k := by
  induction l with
  | nil =>
    intro k h1 _
    cases k with
    | zero => rfl
    | succ k => obtain ⟨c, hc, _⟩ := h1 0 (by omega); simp at hc
  | cons a l ih =>
    intro k h1 h2
    cases k with
    | zero => rw [List.takeWhile_cons, h2 a rfl]; rfl
    | succ k =>
      obtain ⟨c, hc, hp⟩ := h1 0 (by omega)
      have : a = c := by simpa using hc
      subst this
      rw [List.takeWhile_cons, hp]
      simp only [if_true, List.length_cons]
      rw [ih (k := k) (fun j hj => by simpa using h1 (j + 1) (by omega)) (fun c hc => h2 c (by simpa using hc))]
theorem dot_end {told : PySem.Str} {k : Int} (h : DotInv told k) (h2 : ∀ c, told.cps.toList[k.toNat]? = some c → c = 46) : k = dotAt told := by
  unfold dotAt
  rw [takeWhile_at (k := k.toNat) (fun j hj => ?_) (fun c hc => ?_)]
  · have := h.lo; omega
  · obtain ⟨c, hc, hne⟩ := h.free j (by omega)
    exact ⟨c, hc, by simpa using hne⟩
  · have := h2 c hc; subst this; rfl
theorem dot_end1 {told : PySem.Str} {k : Int} (h : DotInv told k) (h1 : ¬ k < (told.length : Int)) : k = dotAt told := by
  refine dot_end h fun c hc => ?_
  have e : told.cps.toList.length = told.length := Array.length_toList
  have := (List.getElem?_eq_some_iff.mp hc).1
  omega
theorem dot_end2 {told : PySem.Str} {k : Int} (h : DotInv told k) (h1 : k < (told.length : Int)) (h2 : (Txt.item told k != Str.ofString ".") = false) : k = dotAt told := by
  refine dot_end h fun c hc => ?_
  obtain ⟨c', hc', hi⟩ := item_code h.lo h1
  rw [hc] at hc'
  injection hc' with hc'
  subst hc'
  rw [hi, dot_is, bne, one_beq] at h2
  simpa using h2


theorem scan_bound : ∀ (l : List Int) (n : Int) (u : Bool) (r : Int), 0 ≤ n → scanI l n u = some r → r < (n + 1) * 10 ^ l.length
  | [], n, u, r, h0, h => by
    cases u with
    | true => cases h
    | false =>
      have e : n = r := Option.some.inj h
      subst e
      simp only [List.length_nil, Int.pow_zero, Int.mul_one]; omega
  | c :: l, n, u, r, h0, h => by
    rw [scanI] at h
    have hp : (0 : Int) < 10 ^ l.length := Int.pow_pos (by decide)
    rw [List.length_cons, Int.pow_succ]
    split at h
    · cases u with
      | true => cases h
      | false =>
        have h1 := scan_bound l n true r h0 h
        have h2 : (n + 1) * 10 ^ l.length ≤ (n + 1) * (10 ^ l.length * 10) := Int.mul_le_mul_of_nonneg_left (by omega) (by omega)
        omega
    · split at h
      · rename_i hc
        have h1 := scan_bound l _ false r (by omega) h
        have h2 : (n * 10 + (c - 48) + 1) * 10 ^ l.length ≤ ((n + 1) * 10) * 10 ^ l.length := Int.mul_le_mul_of_nonneg_right (by omega) (by omega)
        have h3 : ((n + 1) * 10) * 10 ^ l.length = (n + 1) * (10 ^ l.length * 10) := by rw [Int.mul_assoc, Int.mul_comm 10]
        omega
      · cases h
theorem less_len {part l : PySem.Str} (hl : part.length ≤ 61) (h : lessOf part = some l) : l.length ≤ 61 := by
  unfold lessOf at h
  obtain ⟨n, hn, rfl⟩ := Option.map_eq_some_iff.mp h
  have h1 := scan_bound _ _ _ _ (Int.le_refl 0) hn
  rw [KStt.codes_length] at h1
  have h2 := len_rstripChars part (Str.ofString " ")
  show (tell (n - 3).toNat).toArray.size ≤ 61
  rw [List.size_toArray]
  refine Nat.le_trans (tell_len (Txt.rstripChars part (Str.ofString " ")).length _ ?_) (Nat.le_trans h2 hl)
  have e : ((10 ^ (Txt.rstripChars part (Str.ofString " ")).length : Nat) : Int) = (10 : Int) ^ (Txt.rstripChars part (Str.ofString " ")).length := by simp
  rw [← e] at h1
  have h3 : 0 < 10 ^ (Txt.rstripChars part (Str.ofString " ")).length := Nat.pow_pos (by decide)
  generalize 10 ^ (Txt.rstripChars part (Str.ofString " ")).length = c at h1 h3 ⊢
  omega
/-- what the law's own reckoning gives: the name, the release -/
def laOf (name told : PySem.Str) : PySem.Str × PySem.Str :=
  if (name == Str.ofString "win32") = true then (Str.ofString "Windows", told)
  else if (name == Str.ofString "win16") = true then (Str.ofString "Windows", told)
  else if (name != Str.ofString "SunOS") = true then (name, told)
  else if (told == Str.ofString "") = true then (name, told)
  else if ((firstCode told : Nat) : Int) < 53 then (name, told)
  else match lessOf (Txt.slice told none (some (dotAt told))) with
    | none => (Str.ofString "Solaris", told)
    | some l => (Str.ofString "Solaris", l ++ Txt.slice told (some (dotAt told)) none)
section
variable {name told : PySem.Str}
theorem la_win32 (h : (name == Str.ofString "win32") = true) : laOf name told = (Str.ofString "Windows", told) := by unfold laOf; rw [if_pos h]
theorem la_win16 (h : (name == Str.ofString "win32") = false) (h2 : (name == Str.ofString "win16") = true) : laOf name told = (Str.ofString "Windows", told) := by
  unfold laOf; rw [h, if_neg Bool.false_ne_true, if_pos h2]
theorem la_other (h : (name == Str.ofString "win32") = false) (h2 : (name == Str.ofString "win16") = false) (h3 : (name != Str.ofString "SunOS") = true) : laOf name told = (name, told) := by
  unfold laOf; rw [h, h2, if_neg Bool.false_ne_true, if_neg Bool.false_ne_true, if_pos h3]
theorem la_empty (h : (name == Str.ofString "win32") = false) (h2 : (name == Str.ofString "win16") = false) (h3 : (name != Str.ofString "SunOS") = false) (h4 : (told == Str.ofString "") = true) : laOf name told = (name, told) := by
  unfold laOf; rw [h, h2, h3, if_neg Bool.false_ne_true, if_neg Bool.false_ne_true, if_neg Bool.false_ne_true, if_pos h4]
theorem la_low (h : (name == Str.ofString "win32") = false) (h2 : (name == Str.ofString "win16") = false) (h3 : (name != Str.ofString "SunOS") = false) (h4 : (told == Str.ofString "") = false)
    (h5 : (((Txt.item told 0).cps.getD 0 0 : Nat) : Int) < 53) : laOf name told = (name, told) := by
  unfold laOf firstCode; rw [h, h2, h3, h4, if_neg Bool.false_ne_true, if_neg Bool.false_ne_true, if_neg Bool.false_ne_true, if_neg Bool.false_ne_true, if_pos h5]
theorem la_none {k : Int} (h : (name == Str.ofString "win32") = false) (h2 : (name == Str.ofString "win16") = false) (h3 : (name != Str.ofString "SunOS") = false) (h4 : (told == Str.ofString "") = false)
    (h5 : ¬ (((Txt.item told 0).cps.getD 0 0 : Nat) : Int) < 53) (hk : k = dotAt told) (h6 : lessOf (Txt.slice told none (some k)) = none) : laOf name told = (Str.ofString "Solaris", told) := by
  unfold laOf firstCode; rw [h, h2, h3, h4, if_neg Bool.false_ne_true, if_neg Bool.false_ne_true, if_neg Bool.false_ne_true, if_neg Bool.false_ne_true, if_neg h5, ← hk, h6]
theorem la_some {k : Int} {l : PySem.Str} (h : (name == Str.ofString "win32") = false) (h2 : (name == Str.ofString "win16") = false) (h3 : (name != Str.ofString "SunOS") = false) (h4 : (told == Str.ofString "") = false)
    (h5 : ¬ (((Txt.item told 0).cps.getD 0 0 : Nat) : Int) < 53) (hk : k = dotAt told) (h6 : lessOf (Txt.slice told none (some k)) = some l) :
    laOf name told = (Str.ofString "Solaris", l ++ Txt.slice told (some k) none) := by
  unfold laOf firstCode; rw [h, h2, h3, h4, if_neg Bool.false_ne_true, if_neg Bool.false_ne_true, if_neg Bool.false_ne_true, if_neg Bool.false_ne_true, if_neg h5, ← hk, h6]
end
abbrev tup3 (x y z : PySem.Str) (t1 t2 t3 : Tok) : Obj := { cls := .type "tuple", data := .seq #[.str x t1, .str y t2, .str z t3] }
end Mine
end
section
open PySem PySem.W PyProof.Rows PySem.Calls
namespace Mine
set_option maxRecDepth 100000 in
theorem fillme2 (w : World) (h : Heap) : PySem.Challenge.rw_mg0080_01.prog = PySem.Challenge.rw_mg0080_01.prog ∨ (top.heap_39 w.params).In h := by k_fill; exact .inl rfl

section
variable {h₀ h' : Heap} {L D : Addr} {m : Str → Option Value} {news news' : List (Addr × Obj)} {s : Shared} {Q : Value → Shared → Prop} {tk' : Nat} {r : PySem.Str × PySem.Str} {third x y : PySem.Str} {t1 t2 t3 : Tok}
theorem tup_ret (hret : ∀ (D : Addr) (t1 t2 t3 : Tok) (h' : Heap) (tk' : Nat), Fr h₀ L h' m → News h₀ L h' ((D, tup3 r.1 r.2 third t1 t2 t3) :: news) → Q (.ref D) { s with heap := h', toks := tk' }) (e : r = (x, y))
    (F : Fr h₀ L h' m) (N : News h₀ L h' ((D, tup3 x y third t1 t2 t3) :: news')) (hs : ∀ p ∈ news, p ∈ news') : Q (.ref D) { s with heap := h', toks := tk' } := by
  subst e
  refine hret D t1 t2 t3 h' tk' F fun p hp => ?_
  rcases List.mem_cons.mp hp with rfl | hp
  · exact N _ (.head _)
  · exact N p (.tail _ (hs p hp))
end
def HoldIt (P : Prop) : Prop := P
theorem hold_it {P : Prop} (h : HoldIt P) : P := h
set_option maxRecDepth 100000 in
set_option maxHeartbeats 8000000 in
theorem law_alias (w : World) (mean : ExcName → Option Value) (mg mb : Str → Option Value) (name told third : Str) (nt tt ht : Tok) (hlen : told.length ≤ 61)
    (dp un : Nat) (gd : Option (List Code)) (cn : Str) (cs : Scope) (a : Addr) (ccd : Value) (cl : List (Str × Addr)) (outer : List Env) (A₀ : Around) (base h₀ : Heap) (L : Addr) (m : Str → Option Value) (news : List (Addr × Obj)) (s : Shared) (Q E : Value → Shared → Prop)
    (B : Below A₀ base outer h₀) (F : Fr h₀ L s.heap m) (X : (top.heap_39 w.params).In h₀) (N : News h₀ L s.heap news) (T : Top top.view_39 (looseW top.view_39 []) mean mg mb h₀) (hk : cs.kind = .function)
    (hdp : dp + 2 < recursionLimit) (hun : un + 16 < cLine)
    (hret : ∀ (D : Addr) (t1 t2 t3 : Tok) (h' : Heap) (tk' : Nat), Fr h₀ L h' m → News h₀ L h' ((D, tup3 (laOf name told).1 (laOf name told).2 third t1 t2 t3) :: news) → Q (.ref D) { s with heap := h', toks := tk' }) :
    wpAny (model PySem.Challenge.rw_mg0080_01.row.prog w) (ktrTop dp un gd cn cs L a ccd cl outer) (call (.ref 42) [.str name nt, .str told tt, .str third ht]) Q E s := by
  w_top off
  k_with_none
  k_with "state" => first | exact dot_start told | exact dot_step (by assumption) (by assumption) (by assumption)
  k_with "measure" => omega
  k_with "exec While BoolOp cons nil" => k_while (fun _ k => 0 ≤ k ∧ k ≤ (told.length : Int) ∧ DotInv told k) (fun _ k => told.length - k.toNat) "k"
  k_with "call ref" => (with_reducible show wpAny _ _ (call (Value.ref 35) [Value.str _ _]) _ _ _); (refine hold_it ?_)
  refine wpAny_call ?_
  k_dflt cell_enter
  k_steps
  all_goals first
    | (fail_if_success unfold HoldIt)
    | (unfold HoldIt
       (k_dflt (refine' three_less w mean mg mb _ _ ?kl _ _ _ _ _ _ _ _ _ _ _ _ _ _ _ _ _ _ ?k1 ?k2 ?k3 ?k4 ?k5 ?kK ?kd ?ku ?_))
       (case k1 => k_asm)
       (case k2 => k_asm)
       (case k3 => k_asm)
       (case k4 => k_asm)
       (case k5 => k_asm)
       (case kK => exact rfl)
       (case kd => ktr_room)
       (case ku => ktr_units)
       (case kl => omega)
       intro t9 h9 tk9 F9 N9
       (try dsimp only)
       generalize e9 : lessOf _ = r9
       have l9 := fun x (q : r9 = some x) => less_len (l := x) (by omega) (e9.trans q)
       cases r9
       case' none => (clear l9; dsimp only [optVal])
       case' some x9 => (replace l9 := l9 x9 rfl; dsimp only [optVal])
       all_goals k_steps)
  all_goals first
    | exact tup_ret hret (la_win32 (by with_reducible assumption)) (by with_reducible assumption) (by with_reducible assumption) (fun p hp => hp)
    | exact tup_ret hret (la_win16 (by with_reducible assumption) (by with_reducible assumption)) (by with_reducible assumption) (by with_reducible assumption) (fun p hp => hp)
    | exact tup_ret hret (la_other (by with_reducible assumption) (by with_reducible assumption) (by with_reducible assumption)) (by with_reducible assumption) (by with_reducible assumption) (fun p hp => hp)
    | exact tup_ret hret (la_empty (by with_reducible assumption) (by with_reducible assumption) (by with_reducible assumption) (by with_reducible assumption)) (by with_reducible assumption) (by with_reducible assumption) (fun p hp => hp)
    | exact tup_ret hret (la_low (by with_reducible assumption) (by with_reducible assumption) (by with_reducible assumption) (by with_reducible assumption) (by with_reducible assumption)) (by with_reducible assumption) (by with_reducible assumption) (fun p hp => hp)
    | exact tup_ret hret (la_none (by with_reducible assumption) (by with_reducible assumption) (by with_reducible assumption) (by with_reducible assumption) (by with_reducible assumption) (by first | exact dot_end1 (by with_reducible assumption) (by with_reducible assumption) | exact dot_end2 (by with_reducible assumption) (by with_reducible assumption) (by with_reducible assumption)) (by with_reducible assumption)) (by with_reducible assumption) (by with_reducible assumption) (fun p hp => hp)
    | exact tup_ret hret (la_some (by with_reducible assumption) (by with_reducible assumption) (by with_reducible assumption) (by with_reducible assumption) (by with_reducible assumption) (by first | exact dot_end1 (by with_reducible assumption) (by with_reducible assumption) | exact dot_end2 (by with_reducible assumption) (by with_reducible assumption) (by with_reducible assumption)) (by with_reducible assumption)) (by with_reducible assumption) (by with_reducible assumption) (fun p hp => hp)
end Mine
end
section
open PySem PySem.W PyProof.Rows PySem.Calls
namespace Mine

/-- a text of plain signs, n at most -/
def GoodT (n : Nat) (x : PySem.Str) : Prop := x.length ≤ n ∧ ∀ c ∈ x.cps.toList, 32 ≤ c ∧ c < 127
theorem GoodT.append {n k : Nat} {x y : PySem.Str} (hx : GoodT n x) (hy : GoodT k y) : GoodT (n + k) (x ++ y) := by
  refine ⟨by rw [Str.length_append]; have := hx.1; have := hy.1; omega, fun c hc => ?_⟩
  rw [PySem.Str.cps_append, Array.toList_append] at hc
  rcases List.mem_append.mp hc with hc | hc
  · exact hx.2 c hc
  · exact hy.2 c hc
theorem GoodT.mono {n k : Nat} {x : PySem.Str} (hx : GoodT n x) (h : n ≤ k) : GoodT k x := ⟨Nat.le_trans hx.1 h, hx.2⟩

structure TextsInv (pre : List Int) (ws : List PySem.Str) : Prop where
  all : ∀ x ∈ ws, GoodT (5 * pre.length) x
theorem texts_start : ([Str.ofString ""] : List PySem.Str).length = ([] : List Int).length + 1 ∧ TextsInv [] [Str.ofString ""] :=
  ⟨rfl, ⟨fun x hx => by rw [List.mem_singleton.mp hx]; exact ⟨by decide +kernel, by decide +kernel⟩⟩⟩
theorem TextsInv.last {pre : List Int} {ws : List PySem.Str} (h : TextsInv pre ws) (hl : ws.length = pre.length + 1) : GoodT (5 * pre.length) (ws.getLastD PySem.Str.empty) := by
  cases e : ws.getLast? with
  | none => rw [List.getLast?_eq_none_iff.mp e] at hl; simp at hl
  | some x =>
    rw [List.getLastD_eq_getLast?, e]
    exact h.all x (List.mem_of_getLast? e)
theorem texts_step {pre : List Int} {ws : List PySem.Str} {n : Int} {y : PySem.Str} (hl : ws.length = pre.length + 1) (h : TextsInv pre ws) (hy : GoodT 5 y) :
    (ws ++ [ws.getLastD PySem.Str.empty ++ y]).length = (pre ++ [n]).length + 1 ∧ TextsInv (pre ++ [n]) (ws ++ [ws.getLastD PySem.Str.empty ++ y]) := by
  refine ⟨by simp [hl], ⟨fun x hx => ?_⟩⟩
  have e : 5 * (pre ++ [n]).length = 5 * pre.length + 5 := by simp; omega
  rw [e]
  rcases List.mem_append.mp hx with hx | hx
  · exact (h.all x hx).mono (by omega)
  · rw [List.mem_singleton.mp hx]
    exact (h.last hl).append hy
theorem add_fits {n k : Nat} {x y : PySem.Str} (hx : GoodT n x) (hy : GoodT k y) (h : n + k ≤ 1000) : x.length + y.length ≤ sizeLine := by
  have := hx.1; have := hy.1
  rw [sizeLine_eq]; omega
def pieceL : List PySem.Str := [Str.ofString "5", Str.ofString "6", Str.ofString "4", Str.ofString "10", Str.ofString ".", Str.ofString "_", Str.ofString " ", Str.ofString "a", Str.ofString "0", Str.ofString "-", Str.ofString "5.", Str.ofString "8", Str.ofString "win", Str.ofString "32", Str.ofString "SunOS", Str.ofString ":"]
theorem piece_good : ∀ j, GoodT 5 (pieceL.getD j PySem.Str.empty) := by
  intro j
  by_cases h : j < 16
  · have : ∀ j, j < 16 → GoodT 5 (pieceL.getD j PySem.Str.empty) := by unfold GoodT; decide +kernel
    exact this j h
  · rw [List.getD_eq_getElem?_getD, List.getElem?_eq_none (by show pieceL.length ≤ j; have : pieceL.length = 16 := rfl; omega)]
    exact ⟨by decide, by decide⟩
section
variable {prog : Program} {w : World} {A : Around} {E : Value → Shared → Prop} {s : Shared} {h₀ : Heap} {L l : Addr} {news : List (Addr × Obj)} {us : List Value} {ws : List PySem.Str} {c : Nat} {u : Tok} {Q : Value → Shared → Prop} {value slice : PySem.Expr}
theorem last_item (N : News h₀ L s.heap news) (hm : (l, W.listOf us.toArray c) ∈ news) (hw : StrsAre us ws) (hne : 1 ≤ ws.length) (h : ∀ t, Q (.str (ws.getLastD PySem.Str.empty) t) s)
    (hs : subscripted slice false (.ref l) (.int (-1) u) = operate [.ref l, .int (-1) u] (getItem (.ref l) (.int (-1) u)) := by with_unfolding_all rfl) :
    wpAny (model prog w) A (subscriptTail value slice (.ref l) (.int (-1) u)) Q E s := by
  have hl : s.heap.IsList l us.toArray := ⟨_, (N _ hm).1, rfl, c, rfl⟩
  have el := hw.length
  have e1 : ws[ws.length - 1]? = some (ws.getLastD PySem.Str.empty) := by
    rw [← List.getLast?_eq_getElem?, List.getLastD_eq_getLast?]
    cases e : ws.getLast? with
    | none => rw [List.getLast?_eq_none_iff.mp e] at hne; simp at hne
    | some x => rfl
  obtain ⟨t, e⟩ := hw.get _ _ e1
  refine tail_any hl.typeIs slot_list_getitem.lookup (wpAny_getItem_list_neg hl (by decide) (by simp; omega) (by decide) (x := .str _ t) ?_ (h t)) hs
  have e2 : (-1 + (us.toArray.size : Int)).toNat = ws.length - 1 := by simp only [List.size_toArray]; omega
  rw [e2]
  simpa using e
end
end Mine
end
section
open PySem PySem.W PyProof.Rows PySem.Calls
namespace Mine
set_option maxRecDepth 100000 in
theorem fillme5 (w : World) (h : Heap) : PySem.Challenge.rw_mg0080_01.prog = PySem.Challenge.rw_mg0080_01.prog ∨ (top.heap_39 w.params).In h := by k_fill; exact .inl rfl

theorem texts_ret {h₀ h' : Heap} {L D : Addr} {m : Str → Option Value} {news news' : List (Addr × Obj)} {s : Shared} {Q : Value → Shared → Prop} {tk' c : Nat} {us : List Value} {ws : List PySem.Str} {pre : List Int}
    (hret : ∀ (D : Addr) (us : List Value) (ws : List PySem.Str) (c : Nat) (h' : Heap) (tk' : Nat), StrsAre us ws → (∀ x ∈ ws, GoodT 60 x) → Fr h₀ L h' m → News h₀ L h' ((D, W.listOf us.toArray c) :: news) → Q (.ref D) { s with heap := h', toks := tk' })
    (hs : StrsAre us ws) (hi : TextsInv pre ws) (hp : pre.length ≤ 12) (F : Fr h₀ L h' m) (N : News h₀ L h' news') (hm : (D, W.listOf us.toArray c) ∈ news') (hsub : ∀ p ∈ news, p ∈ news') : Q (.ref D) { s with heap := h', toks := tk' } := by
  refine hret D us ws c h' tk' hs (fun x hx => (hi.all x hx).mono (by omega)) F fun p hp => ?_
  rcases List.mem_cons.mp hp with rfl | hp
  · exact N _ hm
  · exact N p (hsub p hp)
set_option maxRecDepth 100000 in
set_option maxHeartbeats 8000000 in
theorem law_texts (w : World) (mean : ExcName → Option Value) (mg mb : Str → Option Value) (l : Addr) (vs : List Value) (ns : List Int)
    (dp un : Nat) (gd : Option (List Code)) (cn : Str) (cs : Scope) (a : Addr) (ccd : Value) (cl : List (Str × Addr)) (outer : List Env) (A₀ : Around) (base h₀ : Heap) (L : Addr) (m : Str → Option Value) (news : List (Addr × Obj)) (s : Shared) (Q E : Value → Shared → Prop)
    (hl : base.IsList l vs.toArray) (hi : IntsAre vs ns) (hfit : ns.length ≤ 63)
    (B : Below A₀ base outer h₀) (F : Fr h₀ L s.heap m) (X : (top.heap_39 w.params).In h₀) (N : News h₀ L s.heap news) (T : Top top.view_39 (looseW top.view_39 []) mean mg mb h₀) (hk : cs.kind = .function)
    (hdp : dp + 1 < recursionLimit) (hun : un + 8 < cLine)
    (hret : ∀ (D : Addr) (us : List Value) (ws : List PySem.Str) (c : Nat) (h' : Heap) (tk' : Nat), StrsAre us ws → (∀ x ∈ ws, GoodT 60 x) → Fr h₀ L h' m → News h₀ L h' ((D, W.listOf us.toArray c) :: news) → Q (.ref D) { s with heap := h', toks := tk' }) :
    wpAny (model PySem.Challenge.rw_mg0080_01.row.prog w) (ktrTop dp un gd cn cs L a ccd cl outer) (call (.ref 28) [.ref l]) Q E s := by
  w_top off
  k_with_none
  k_with "exec For Name Subscript cons nil" => (k_here; (rename Fr _ _ _ _ => lF'); (with_unfolding_all refine' For_invVF lF' ?k1 ?k2 ?_; (case k1 => exact rfl); (case k2 => exact rfl); k_whole))
  k_with "state" => first | exact texts_start | exact texts_step (by with_reducible assumption) (by with_reducible assumption) (piece_good _)
  k_with "pyIter ref" => k_state (fun pre ws => ws.length = pre.length + 1 ∧ TextsInv pre ws) "texts$"
  k_with "subscriptTail Name UnaryOp ref int" => ((k_dflt (refine' last_item ?k1 ?k2 ?k3 ?k4 ?_)); (case k1 => k_asm); (case k2 => k_mem); (case k3 => with_reducible assumption); (case k4 => omega); (intro t9); (try dsimp only))
  k_with "binaryOp Add str str" => ((k_dflt (refine' PyProof.Rows.add_str (hsz := ?z) ?_)); (case z => exact add_fits (TextsInv.last (by with_reducible assumption) (by with_reducible assumption)) (piece_good _) (by omega)); (intro t9 tk9))
  refine wpAny_call ?_
  k_dflt cell_enter
  k_steps
  all_goals exact texts_ret hret (by with_reducible assumption) (by with_reducible assumption) (by rw [List.length_take]; omega) (by assumption) (by assumption) (by k_mem) (by intro p hp; simp only [List.mem_cons, hp, or_true])
end Mine
end
section
open PySem PySem.W PyProof.Rows PySem.Calls
namespace Mine
abbrev partsO (l : List (PySem.Str × Tok)) (c : Nat) : Obj := W.listOf (strValues l).toArray c
section
variable {prog : Program} {w : World} {A : Around} {E : Value → Shared → Prop} {s : Shared} {h₀ : Heap} {L D : Addr} {m : Str → Option Value} {news : List (Addr × Obj)} {x x0 y : PySem.Str} {t0 t u ty : Tok} {rest : List (PySem.Str × Tok)} {c : Nat}

theorem split_step {Q : Value → Shared → Prop} (F : Fr h₀ L s.heap m) (N : News h₀ L s.heap news) (hx : x.length ≤ 100)
    (h : ∀ D x0 t0 rest h' k, x0 :: rest.map (·.1) = Txt.split x (Str.ofString ".") → (∀ p ∈ news, p.1 < D) → Fr h₀ L h' m → News h₀ L h' ((D, partsO ((x0, t0) :: rest) 0) :: news) → Q (.ref D) { s with heap := h', toks := k }) :
    wpAny (model prog w) A (call (.builtin "str.split") [.str x t, .str (Str.ofString ".") u]) Q E s := by
  refine splitN1A F N (by decide +kernel) (fun l h' k e _ _ _ F' N' => ?_) (by rw [sizeLine_eq]; omega)
  have hpos := len_of_split e
  cases l with
  | nil => simp at hpos
  | cons p rest =>
    obtain ⟨x0, t0⟩ := p
    exact h _ x0 t0 rest h' k e (fun q hq => Heap.lt_size (N q hq).1) F' N'
theorem truthy_step {Q : Bool → Shared → Prop} (N : News h₀ L s.heap news) (hm : (D, partsO ((x0, t0) :: rest) c) ∈ news) (hr : rest.length ≤ 200) (h : Q true { s with toks := s.toks + 1 + 1 }) :
    wpAny (model prog w) A (truthy (.ref D)) Q E s := by
  have hl : s.heap.IsList D (strValues ((x0, t0) :: rest)).toArray := ⟨_, (N _ hm).1, rfl, c, rfl⟩
  refine wpAny_truthy_list hl ?_ h
  simp [strValues]; omega
theorem first_step {Q : Value → Shared → Prop} {value slice : PySem.Expr} (N : News h₀ L s.heap news) (hm : (D, partsO ((x0, t0) :: rest) c) ∈ news) (h : Q (.str x0 t0) s)
    (hs : subscripted slice false (.ref D) (.int 0 u) = operate [.ref D, .int 0 u] (getItem (.ref D) (.int 0 u)) := by with_unfolding_all rfl) :
    wpAny (model prog w) A (subscriptTail value slice (.ref D) (.int 0 u)) Q E s := by
  have hl : s.heap.IsList D (strValues ((x0, t0) :: rest)).toArray := ⟨_, (N _ hm).1, rfl, c, rfl⟩
  exact tail_any hl.typeIs slot_list_getitem.lookup (wpAny_getItem_list hl (by decide) (by decide) (x := .str x0 t0) rfl h) hs
theorem set_step {Q : Unit → Shared → Prop} (F : Fr h₀ L s.heap m) (N : News h₀ L s.heap ((D, partsO ((x0, t0) :: rest) c) :: news)) (hD : ∀ p ∈ news, p.1 < D)
    (h : ∀ h', Fr h₀ L h' m → News h₀ L h' ((D, partsO ((y, ty) :: rest) c) :: news) → Q () { s with heap := h' }) :
    wpAny (model prog w) A (setItem (.ref D) (.int 0 u) (.str y ty)) Q E s := by
  have z := N _ (.head _)
  refine ki_setAt z.1 (by decide) (by decide) (by simp [strValues]) (h _ (F.change (Heap.SameBut.update ..) z.2.1 z.2.2) (ki_turn (pre := []) _ N (fun _ hp => nomatch hp) (fun p hp => Nat.ne_of_lt (hD p hp)) ?_ ?_))
  · simp [strValues]
  · simp [strValues]
theorem join_step {Q : Value → Shared → Prop} (N : News h₀ L s.heap news) (hm : (D, partsO ((x0, t0) :: rest) c) ∈ news) (hw : ((x0 :: rest.map (·.1)).map (·.length)).sum + (x0 :: rest.map (·.1)).length ≤ 10000)
    (h : ∀ t' k, Q (.str (Txt.join (Str.ofString ".") (x0 :: rest.map (·.1))) t') { s with toks := k }) : wpAny (model prog w) A (call (.builtin "str.join") [.str (Str.ofString ".") t, .ref D]) Q E s := by
  have hl : s.heap.IsList D (strValues ((x0, t0) :: rest)).toArray := ⟨_, (N _ hm).1, rfl, c, rfl⟩
  exact SC.join hl (texts := x0 :: rest.map (·.1)) rfl (joinOk_of_weight (by omega) (by decide +kernel)) h
end
end Mine
end
section
open PySem PySem.W PyProof.Rows PySem.Calls PySem.NumText
namespace Mine

/-! the plain laws: texts and numbers alone, no program in sight -/

theorem take_dropWhile (p : Nat → Bool) (l : List Nat) : l.take (l.length - (l.reverse.takeWhile p).length) = (l.reverse.dropWhile p).reverse := by
  have h : l.reverse.takeWhile p ++ l.reverse.dropWhile p = l.reverse := List.takeWhile_append_dropWhile
  have h2 : l = (l.reverse.dropWhile p).reverse ++ (l.reverse.takeWhile p).reverse := by
    rw [← List.reverse_append, h, List.reverse_reverse]
  have h3 : l.length - (l.reverse.takeWhile p).length = (l.reverse.dropWhile p).reverse.length := by
    have := congrArg List.length h2
    rw [List.length_append, List.length_reverse, List.length_reverse] at this
    rw [List.length_reverse]; omega
  rw [h3]
  conv => lhs; rw [h2]
  rw [List.take_left']
  conv => rhs; rw [← h2]

theorem rstrip_codes (x : PySem.Str) : (Txt.rstripChars x (Str.ofString " ")).cps.toList = (x.cps.toList.reverse.dropWhile (· == 32)).reverse := by
  unfold Txt.rstripChars
  rw [PyProof.Rows.stripBy_eq, StrLaws.strSub_toList]
  have e : ∀ c : Nat, (Str.ofString " ").cps.contains c = (c == 32) := by
    intro c
    rw [show Str.ofString " " = ({ cps := #[32] } : PySem.Str) from by decide +kernel]
    rw [Bool.eq_iff_iff]; simp
  have e' : (Str.ofString " ").cps.contains = fun c : Nat => (c == 32) := funext e
  rw [e']
  unfold stripLo stripHi
  simp only [if_true, Bool.false_eq_true, if_false, List.drop_zero, Nat.sub_zero]
  have el : x.length = x.cps.toList.length := Array.length_toList.symm
  rw [el]
  exact take_dropWhile _ _

theorem dropWhile_congr {p q : Nat → Bool} : ∀ {l : List Nat}, (∀ c ∈ l, p c = q c) → l.dropWhile p = l.dropWhile q
  | [], _ => rfl
  | c :: l, h => by
    rw [List.dropWhile_cons, List.dropWhile_cons, h c (List.mem_cons_self ..), dropWhile_congr fun d hd => h d (List.mem_cons_of_mem _ hd)]

def valOf (ds : Array Nat) : Nat := ds.foldl (fun acc d => acc * 10 + d) 0
theorem valOf_push (ds : Array Nat) (d : Nat) : valOf (ds.push d) = valOf ds * 10 + d := by unfold valOf; simp

theorem step_is (ds : Array Nat) (b : Bool) (c : Nat) : NumText.step 10 (ds, b) c = if c = 95 then (if b then some (ds, false) else none) else if 48 ≤ c ∧ c ≤ 57 then some (ds.push (c - 48), true) else none := by
  unfold NumText.step
  by_cases h95 : c = 95
  · rw [if_pos h95, if_pos (beq_iff_eq.mpr h95)]
  · rw [if_neg h95, if_neg (by simpa using h95)]
    by_cases hd : 48 ≤ c ∧ c ≤ 57
    · rw [if_pos hd, digit_of hd]
      exact if_pos (by omega)
    · rw [if_neg hd]
      have e : digit? c = none ∨ ∃ d, digit? c = some d ∧ ¬ d < 10 := by
        unfold digit?
        by_cases h1 : 97 ≤ c ∧ c ≤ 122
        · exact .inr ⟨c - 87, by rw [if_neg (by simpa using hd), if_pos (by simpa using h1)], by omega⟩
        · by_cases h2 : 65 ≤ c ∧ c ≤ 90
          · exact .inr ⟨c - 55, by rw [if_neg (by simpa using hd), if_neg (by simpa using h1), if_pos (by simpa using h2)], by omega⟩
          · exact .inl (by rw [if_neg (by simpa using hd), if_neg (by simpa using h1), if_neg (by simpa using h2)])
      rcases e with e | ⟨d, e, hd⟩
      · rw [e]
      · rw [e]; exact if_neg hd

theorem step_scan : ∀ (l : List Nat) (ds : Array Nat) (b : Bool),
    ((l.foldlM (NumText.step 10) (ds, b)).bind fun p => if p.2 then some p.1 else none).map (fun a => ((valOf a : Nat) : Int)) = scanI (l.map fun c : Nat => (c : Int)) ((valOf ds : Nat) : Int) (!b)
  | [], ds, b => by cases b <;> rfl
  | c :: l, ds, b => by
    rw [List.foldlM_cons, List.map_cons, scanI, step_is]
    by_cases h95 : c = 95
    · rw [if_pos h95, if_pos (show (c : Int) = 95 by omega)]
      cases b with
      | true => exact step_scan l ds false
      | false => rfl
    · rw [if_neg h95, if_neg (show ¬ (c : Int) = 95 by omega)]
      by_cases hd : 48 ≤ c ∧ c ≤ 57
      · rw [if_pos hd, if_pos (show 48 ≤ (c : Int) ∧ (c : Int) ≤ 57 by omega)]
        have e := step_scan l (ds.push (c - 48)) true
        rw [valOf_push] at e
        have e2 : (((valOf ds * 10 + (c - 48) : Nat)) : Int) = ((valOf ds : Nat) : Int) * 10 + ((c : Int) - 48) := by omega
        rw [e2] at e
        exact e
      · rw [if_neg hd, if_neg (show ¬ (48 ≤ (c : Int) ∧ (c : Int) ≤ 57) by omega)]; rfl

/-- int(text) and the law's own reading agree: plain signs, the first from 5 upwards -/
theorem int_scan {x : PySem.Str} {c0 : Nat} {r : List Nat} (hx : x.cps.toList = c0 :: r) (h0 : 53 ≤ c0) (hg : ∀ c ∈ x.cps.toList, 32 ≤ c ∧ c < 127) (hl : x.length ≤ 4000) :
    PySem.intText? x = scanI (KStt.codes (Txt.rstripChars x (Str.ofString " "))) 0 true := by
  have e1 : numTextOf x = x.cps.toList := by
    refine if_pos ?_
    rw [← Array.all_toList, List.all_eq_true]
    intro c hc
    have := hg c hc
    exact decide_eq_true (by omega)
  have e2 : numSeenOf x = x.cps.toList := by
    show (numTextOf x).takeWhile _ = _
    rw [e1]
    refine takeWhile_all fun c hc => ?_
    have := hg c hc
    exact bne_iff_ne.mpr (by omega)
  have ed : x.cps.toList.dropWhile blank = x.cps.toList := by rw [hx]; exact dropWhile_of (by omega)
  have es : sign x.cps.toList = (false, x.cps.toList) := by rw [hx]; exact sign_of (by omega) (by omega)
  have ec : core x.cps.toList = (Txt.rstripChars x (Str.ofString " ")).cps.toList := by
    unfold core
    rw [ed, es, rstrip_codes]
    rw [dropWhile_congr (p := blank) (q := fun c => c == 32)]
    intro c hc
    have := hg c (List.mem_reverse.mp hc)
    unfold blank
    rw [decide_eq_false (show ¬ c ≤ 13 by omega), Bool.and_false, Bool.or_false]
  unfold PySem.intText?
  rw [e1, e2, ec, ed, es]
  rw [if_pos (beq_self_eq_true _)]
  have ev := step_scan (Txt.rstripChars x (Str.ofString " ")).cps.toList #[] false
  have hv0 : ((valOf #[] : Nat) : Int) = 0 := rfl
  rw [hv0] at ev
  show (match digits? 10 (Txt.rstripChars x (Str.ofString " ")).cps.toList with | some ds => if ds.size ≤ 4300 then some (worth false ds) else none | none => none) = scanI ((Txt.rstripChars x (Str.ofString " ")).cps.toList.map fun c : Nat => (c : Int)) 0 (!false)
  rw [← ev]
  show _ = (digits? 10 (Txt.rstripChars x (Str.ofString " ")).cps.toList).map _
  cases hd : digits? 10 (Txt.rstripChars x (Str.ofString " ")).cps.toList with
  | none => rfl
  | some ds =>
    have h1 := digits_size hd
    have h2 : (Txt.rstripChars x (Str.ofString " ")).cps.toList.length = (Txt.rstripChars x (Str.ofString " ")).length := Array.length_toList
    have h3 := len_rstripChars x (Str.ofString " ")
    show (if ds.size ≤ 4300 then some (worth false ds) else none) = some _
    rw [if_pos (by omega)]
    rfl

theorem scan_ge : ∀ (l : List Int) (n : Int) (u : Bool) (r : Int), 0 ≤ n → scanI l n u = some r → n ≤ r
  | [], n, u, r, h0, h => by
    cases u with
    | true => cases h
    | false => have e : n = r := Option.some.inj h; omega
  | c :: l, n, u, r, h0, h => by
    rw [scanI] at h
    split at h
    · cases u with
      | true => cases h
      | false => exact scan_ge l n true r h0 h
    · split at h
      · have := scan_ge l _ false r (by omega) h
        omega
      · cases h

theorem tell_digits : ∀ m : Nat, 0 < m → tell m = (Nat.toDigits 10 m).map Char.toNat := by
  intro m
  induction m using Nat.strongRecOn with
  | _ m ih =>
    intro hm
    have hd : ∀ d : Nat, d < 10 → (Nat.digitChar d).toNat = 48 + d := by decide
    by_cases h : m < 10
    · rw [Nat.toDigits_of_lt_base h, tell, if_neg (by omega), tell, if_pos (by omega)]
      show [48 + m % 10] = [(Nat.digitChar m).toNat]
      rw [hd m h, Nat.mod_eq_of_lt h]
    · have hm' : m % 10 < 10 := Nat.mod_lt m (by decide)
      have t : Nat.toDigits 10 (m / 10) ++ Nat.toDigits 10 (m % 10) = Nat.toDigits 10 (10 * (m / 10) + m % 10) := Nat.toDigits_append_toDigits (by decide) (by omega) hm'
      rw [Nat.div_add_mod] at t
      rw [← t, List.map_append, Nat.toDigits_of_lt_base hm', tell, if_neg (by omega), ih (m / 10) (by omega) (by omega)]
      show _ ++ [48 + m % 10] = _ ++ [(Nat.digitChar (m % 10)).toNat]
      rw [hd _ hm']

theorem tell_text {n : Int} (h : 0 < n) : Str.ofString (toString n) = mkS (tell n.toNat) := by
  obtain ⟨m, rfl⟩ := Int.eq_ofNat_of_zero_le (Int.le_of_lt h)
  refine PySem.Str.ext' (Array.toList_inj.mp ?_)
  rw [KIN.signs_num]
  show _ = (tell ((m : Nat) : Int).toNat)
  rw [Int.toNat_natCast, tell_digits m (by omega)]

/-- the two readings of a first part -/
theorem less_int {x : PySem.Str} {c0 : Nat} {r : List Nat} (hx : x.cps.toList = c0 :: r) (h0 : 53 ≤ c0) (hg : ∀ c ∈ x.cps.toList, 32 ≤ c ∧ c < 127) (hl : x.length ≤ 4000) :
    lessOf x = (PySem.intText? x).map fun n => Str.ofString (toString (n - 3)) := by
  rw [int_scan hx h0 hg hl]
  unfold lessOf
  cases hs : scanI (KStt.codes (Txt.rstripChars x (Str.ofString " "))) 0 true with
  | none => rfl
  | some n =>
    show some (mkS (tell (n - 3).toNat)) = some (Str.ofString (toString (n - 3)))
    have e : ∃ r', KStt.codes (Txt.rstripChars x (Str.ofString " ")) = (c0 : Int) :: r' := by
      have ec : (Txt.rstripChars x (Str.ofString " ")).cps.toList = (x.cps.toList.reverse.dropWhile (· == 32)).reverse := rstrip_codes x
      rw [hx] at ec
      have hne : ∀ l : List Nat, ∃ l', ((l ++ [c0]).dropWhile (· == 32)) = l' ++ [c0] := by
        intro l
        induction l with
        | nil => exact ⟨[], by rw [List.nil_append, List.dropWhile_cons, if_neg (by simp; omega)]⟩
        | cons a l ih =>
          rw [List.cons_append, List.dropWhile_cons]
          split
          · exact ih
          · exact ⟨a :: l, rfl⟩
      obtain ⟨l', hl'⟩ := hne r.reverse
      rw [List.reverse_cons, hl', List.reverse_append] at ec
      refine ⟨l'.reverse.map fun c : Nat => (c : Int), ?_⟩
      unfold KStt.codes
      rw [ec]; rfl
    obtain ⟨r', er⟩ := e
    rw [er, scanI] at hs
    split at hs
    · cases hs
    · split at hs
      · have := scan_ge _ _ _ _ (by omega) hs
        rw [tell_text (by omega)]
      · cases hs
end Mine
end
section
open PySem PySem.W PyProof.Rows PySem.Calls PySem.NumText
namespace Mine

theorem split_nonempty (x : PySem.Str) : ∃ x0 rest, Txt.split x (Str.ofString ".") = x0 :: rest := by
  have h := split_pos x (Str.ofString ".")
  cases e : Txt.split x (Str.ofString ".") with
  | nil => rw [e] at h; simp at h
  | cons a r => exact ⟨a, r, rfl⟩

theorem takeWhile_free {l r : List Nat} (h : 46 ∉ l) : (l ++ 46 :: r).takeWhile (· != 46) = l := by
  induction l with
  | nil => rfl
  | cons a l ih =>
    rw [List.cons_append, List.takeWhile_cons, if_pos (by simp only [List.mem_cons, not_or] at h; simpa using fun e => h.1 e.symm), ih fun hm => h (List.mem_cons_of_mem _ hm)]
theorem takeWhile_free' {l : List Nat} (h : 46 ∉ l) : l.takeWhile (· != 46) = l := by
  refine takeWhile_all fun c hc => ?_
  have : c ≠ 46 := fun e => h (e ▸ hc)
  simpa using this

/-- the first part and the rest, of a text split at its dots -/
structure Parts (x x0 : PySem.Str) (rest : List PySem.Str) : Prop where
  head : x.cps.toList.takeWhile (· != 46) = x0.cps.toList
  join : ∀ y : PySem.Str, (Txt.join (Str.ofString ".") (y :: rest)).cps.toList = y.cps.toList ++ x.cps.toList.drop x0.length
theorem parts_of {x x0 : PySem.Str} {rest : List PySem.Str} (h : Txt.split x (Str.ofString ".") = x0 :: rest) : Parts x x0 rest := by
  have hd : Str.ofString "." = ({ cps := #[46] } : PySem.Str) := dot_is
  have hj := StrLaws.join_split x (Str.ofString ".")
  have hf : 46 ∉ x0.cps.toList := by
    have := StrLaws.split_free x 46
    rw [← hd, h] at this
    exact this x0 (List.mem_cons_self ..)
  rw [h] at hj
  have el : x0.cps.toList.length = x0.length := Array.length_toList
  cases rest with
  | nil =>
    have hx : x0 = x := hj
    subst hx
    refine ⟨takeWhile_free' hf, fun y => ?_⟩
    unfold Txt.join
    rw [StrLaws.glued_eq_join]
    show y.cps.toList = _
    rw [List.drop_of_length_le (by omega), List.append_nil]
  | cons z rest =>
    have hx : x0 ++ Str.ofString "." ++ Str.join (Str.ofString ".") (z :: rest) = x := hj
    have ex : x.cps.toList = x0.cps.toList ++ 46 :: (Str.join (Str.ofString ".") (z :: rest)).cps.toList := by
      rw [← hx, PySem.Str.cps_append, PySem.Str.cps_append, Array.toList_append, Array.toList_append, hd]
      simp
    refine ⟨by rw [ex]; exact takeWhile_free hf, fun y => ?_⟩
    unfold Txt.join
    rw [StrLaws.glued_eq_join]
    show (y ++ Str.ofString "." ++ Str.join (Str.ofString ".") (z :: rest)).cps.toList = _
    rw [PySem.Str.cps_append, PySem.Str.cps_append, Array.toList_append, Array.toList_append, ex, ← el, List.drop_left', hd]
    · simp
    · rfl

theorem slice_is (x : PySem.Str) (l u : Option Int) : Txt.slice x l u = StrLaws.sliceText x l u := rfl
theorem cut_to {x x0 : PySem.Str} {rest : List PySem.Str} (h : Parts x x0 rest) : Txt.slice x none (some (dotAt x)) = x0 := by
  have hk : dotAt x = (x0.length : Int) := by unfold dotAt; rw [h.head]; exact congrArg _ Array.length_toList
  have hle : x0.length ≤ x.cps.toList.length := by
    have : x0.cps.toList.length = x0.length := Array.length_toList
    rw [← this, ← h.head]
    exact NumText.len_takeWhile _ _
  rw [slice_is, hk, StrLaws.sliceText_to ⟨by omega, by omega⟩]
  refine PySem.Str.ext' (Array.toList_inj.mp ?_)
  show ((x.cps.toList.drop 0).take ((x0.length : Int) - 0).toNat) = x0.cps.toList
  have e : ((x0.length : Int) - 0).toNat = x0.cps.toList.length := by
    have : x0.cps.toList.length = x0.length := Array.length_toList
    omega
  rw [List.drop_zero, e]
  conv => lhs; rw [← List.takeWhile_append_dropWhile (p := fun c : Nat => c != 46) (l := x.cps.toList), h.head]
  exact List.take_left' rfl
theorem cut_from {x x0 : PySem.Str} {rest : List PySem.Str} (h : Parts x x0 rest) (y : PySem.Str) : y ++ Txt.slice x (some (dotAt x)) none = Txt.join (Str.ofString ".") (y :: rest) := by
  have hk : dotAt x = (x0.length : Int) := by unfold dotAt; rw [h.head]; exact congrArg _ Array.length_toList
  have hle : x0.length ≤ x.cps.toList.length := by
    have : x0.cps.toList.length = x0.length := Array.length_toList
    rw [← this, ← h.head]
    exact NumText.len_takeWhile _ _
  refine PySem.Str.ext' (Array.toList_inj.mp ?_)
  rw [h.join, PySem.Str.cps_append, Array.toList_append, slice_is, hk, StrLaws.sliceText_from ⟨by omega, by omega⟩]
  show _ ++ ((x.cps.toList.drop (x0.length : Int).toNat).take ((x.cps.toList.length : Int) - (x0.length : Int)).toNat) = _
  rw [Int.toNat_natCast, List.take_of_length_le (by rw [List.length_drop]; omega)]

/-- what the function gives: the name, the release -/
def saOf (system release : PySem.Str) : PySem.Str × PySem.Str :=
  if (system == Str.ofString "SunOS") = true then
    if release.cps.toList < (Str.ofString "5").cps.toList then (system, release)
    else match Txt.split release (Str.ofString ".") with
      | [] => (Str.ofString "Solaris", release)
      | x0 :: rest => match PySem.intText? x0 with
        | none => (Str.ofString "Solaris", release)
        | some n => (Str.ofString "Solaris", Txt.join (Str.ofString ".") (Str.ofString (toString (n - 3)) :: rest))
  else if ([Str.ofString "win32", Str.ofString "win16"].any fun x => x == system) = true then (Str.ofString "Windows", release)
  else (system, release)

section
variable {system release x0 : PySem.Str} {rest : List PySem.Str} {n : Int}
theorem sa_low (h : (system == Str.ofString "SunOS") = true) (h2 : release.cps.toList < (Str.ofString "5").cps.toList) : saOf system release = (system, release) := by unfold saOf; rw [if_pos h, if_pos h2]
theorem sa_some (h : (system == Str.ofString "SunOS") = true) (h2 : ¬ release.cps.toList < (Str.ofString "5").cps.toList) (h3 : x0 :: rest = Txt.split release (Str.ofString ".")) (h4 : PySem.intText? x0 = some n) :
    saOf system release = (Str.ofString "Solaris", Txt.join (Str.ofString ".") (Str.ofString (toString (n - 3)) :: rest)) := by
  unfold saOf; rw [if_pos h, if_neg h2, ← h3]; dsimp only; rw [h4]
theorem sa_none (h : (system == Str.ofString "SunOS") = true) (h2 : ¬ release.cps.toList < (Str.ofString "5").cps.toList) (h3 : x0 :: rest = Txt.split release (Str.ofString ".")) (h4 : PySem.intText? x0 = none) :
    saOf system release = (Str.ofString "Solaris", release) := by
  unfold saOf; rw [if_pos h, if_neg h2, ← h3]; dsimp only; rw [h4]
theorem sa_win (h : (system == Str.ofString "SunOS") = false) (h2 : ([Str.ofString "win32", Str.ofString "win16"].any fun x => x == system) = true) : saOf system release = (Str.ofString "Windows", release) := by
  unfold saOf; rw [h, if_neg Bool.false_ne_true, if_pos h2]
theorem sa_other (h : (system == Str.ofString "SunOS") = false) (h2 : ([Str.ofString "win32", Str.ofString "win16"].any fun x => x == system) = false) : saOf system release = (system, release) := by
  unfold saOf; rw [h, h2, if_neg Bool.false_ne_true, if_neg Bool.false_ne_true]
end
theorem five_is : (Str.ofString "5").cps.toList = [53] := by decide +kernel
theorem lt_five (x : PySem.Str) : x.cps.toList < (Str.ofString "5").cps.toList ↔ (x == Str.ofString "") = true ∨ ((firstCode x : Nat) : Int) < 53 := by
  rw [five_is]
  have he : Str.ofString "" = ({ cps := #[] } : PySem.Str) := by decide +kernel
  cases hx : x.cps.toList with
  | nil =>
    have : x = Str.ofString "" := by rw [he]; exact PySem.Str.ext' (Array.toList_inj.mp hx)
    constructor
    · intro _; exact .inl (beq_iff_eq.mpr this)
    · intro _; exact List.nil_lt_cons _ _
  | cons c r =>
    have hne : ¬ (x == Str.ofString "") = true := by
      intro h
      have := eq_of_beq h
      rw [this, he] at hx; cases hx
    have hlen : (0 : Int) < (x.length : Int) := by
      have e : x.cps.toList.length = x.length := Array.length_toList
      rw [hx] at e; simp at e; omega
    obtain ⟨c', hc', hi⟩ := item_code (x := x) (Int.le_refl 0) hlen
    have : c' = c := by rw [hx] at hc'; simpa using hc'.symm
    subst this
    have hfc : firstCode x = c' := by unfold firstCode; rw [hi]; rfl
    rw [hfc, List.cons_lt_cons_iff]
    constructor
    · rintro (h | ⟨_, h⟩)
      · exact .inr (by omega)
      · exact absurd h (by simp)
    · rintro (h | h)
      · exact absurd h hne
      · exact .inl (by omega)

theorem names_apart {name : PySem.Str} (h : (name == Str.ofString "SunOS") = true) : (name == Str.ofString "win32") = false ∧ (name == Str.ofString "win16") = false := by
  have := eq_of_beq h
  subst this
  exact ⟨by decide +kernel, by decide +kernel⟩

/-- at SunOS, from 5 upwards: the first part begins with that sign -/
theorem first_part {x x0 : PySem.Str} {rest : List PySem.Str} (hg : GoodT 61 x) (h : Txt.split x (Str.ofString ".") = x0 :: rest) (hlt : ¬ x.cps.toList < (Str.ofString "5").cps.toList) :
    ∃ c0 r, x0.cps.toList = c0 :: r ∧ 53 ≤ c0 ∧ (∀ c ∈ x0.cps.toList, 32 ≤ c ∧ c < 127) ∧ x0.length ≤ 61 := by
  have P := parts_of h
  have hsub : ∀ c ∈ x0.cps.toList, c ∈ x.cps.toList := by
    intro c hc
    rw [← P.head] at hc
    exact (List.takeWhile_prefix _).subset hc
  rw [five_is] at hlt
  have hl : x0.length ≤ 61 := by
    have e : x0.cps.toList.length = x0.length := Array.length_toList
    have e2 : x.cps.toList.length = x.length := Array.length_toList
    rw [← e, ← P.head]
    exact Nat.le_trans (NumText.len_takeWhile _ _) (by have := hg.1; omega)
  cases hx : x.cps.toList with
  | nil => rw [hx] at hlt; exact absurd (List.nil_lt_cons _ _) hlt
  | cons c r =>
    rw [hx, List.cons_lt_cons_iff] at hlt
    have hc : 53 ≤ c := by
      by_cases h : 53 ≤ c
      · exact h
      · exact absurd (Or.inl (by omega)) hlt
    have e := P.head
    rw [hx, List.takeWhile_cons, if_pos (by simp; omega)] at e
    exact ⟨c, _, e.symm, hc, fun c hc => hg.2 c (hsub c hc), hl⟩

/-- the number's size -/
theorem int_fits {x x0 : PySem.Str} {rest : List PySem.Str} {n : Int} (hg : GoodT 61 x) (h : x0 :: rest = Txt.split x (Str.ofString ".")) (hlt : ¬ x.cps.toList < (Str.ofString "5").cps.toList) (hn : PySem.intText? x0 = some n) :
    (n - 3).natAbs.log2 < 1920 ∧ (Str.ofString (toString (n - 3))).length ≤ 61 ∧ x0.length ≤ 61 := by
  obtain ⟨c0, r, hx0, hc0, hgood, hlen⟩ := first_part hg h.symm hlt
  have hl := less_int hx0 hc0 hgood (by omega)
  rw [hn] at hl
  have h2 := less_len hlen hl
  refine ⟨?_, h2, hlen⟩
  rw [int_scan hx0 hc0 hgood (by omega)] at hn
  have h1 := scan_bound _ _ _ _ (Int.le_refl 0) hn
  have h0 := scan_ge _ _ _ _ (Int.le_refl 0) hn
  rw [KStt.codes_length] at h1
  have h3 := len_rstripChars x0 (Str.ofString " ")
  have e : ((10 ^ (Txt.rstripChars x0 (Str.ofString " ")).length : Nat) : Int) = (10 : Int) ^ (Txt.rstripChars x0 (Str.ofString " ")).length := by simp
  rw [← e] at h1
  have h4 : 10 ^ (Txt.rstripChars x0 (Str.ofString " ")).length ≤ 10 ^ 61 := Nat.pow_le_pow_right (by decide) (by omega)
  have h5 : (n - 3).natAbs < 2 ^ 1920 := by
    have : (10 : Nat) ^ 61 + 3 < 2 ^ 1920 := by decide +kernel
    generalize 10 ^ (Txt.rstripChars x0 (Str.ofString " ")).length = c at h1 h4
    generalize (2 : Nat) ^ 1920 = d at this ⊢
    generalize (10 : Nat) ^ 61 = b at this h4
    omega
  by_cases hz : (n - 3).natAbs = 0
  · rw [hz]; decide
  · exact (Nat.log2_lt hz).mpr h5

/-- the two agree -/
theorem la_sa {name told : PySem.Str} (hg : GoodT 61 told) : laOf name told = saOf name told := by
  unfold laOf saOf
  by_cases hs : (name == Str.ofString "SunOS") = true
  · obtain ⟨h1, h2⟩ := names_apart hs
    have h3 : (name != Str.ofString "SunOS") = false := by unfold bne; rw [hs]; rfl
    rw [h1, h2, h3, if_neg Bool.false_ne_true, if_neg Bool.false_ne_true, if_neg Bool.false_ne_true, if_pos hs]
    by_cases hlt : told.cps.toList < (Str.ofString "5").cps.toList
    · rw [if_pos hlt]
      rcases (lt_five told).mp hlt with h | h
      · rw [if_pos h]
      · rw [if_pos h]; split <;> rfl
    · rw [if_neg hlt]
      have hn := fun h => hlt ((lt_five told).mpr h)
      rw [if_neg fun h => hn (.inl h), if_neg fun h => hn (.inr h)]
      obtain ⟨x0, rest, hsp⟩ := split_nonempty told
      obtain ⟨c0, r, hx0, hc0, hgood, hlen⟩ := first_part hg hsp hlt
      have P := parts_of hsp
      rw [hsp, cut_to P, less_int hx0 hc0 hgood (by omega)]
      dsimp only
      cases PySem.intText? x0 with
      | none => rfl
      | some n => exact congrArg (Prod.mk _) (cut_from P _)
  · have h3 : (name != Str.ofString "SunOS") = true := by unfold bne; rw [Bool.eq_false_iff.mpr hs]; rfl
    rw [if_neg hs]
    have e1 : (Str.ofString "win32" == name) = (name == Str.ofString "win32") := by rw [Bool.eq_iff_iff, beq_iff_eq, beq_iff_eq]; exact eq_comm
    have e2 : (Str.ofString "win16" == name) = (name == Str.ofString "win16") := by rw [Bool.eq_iff_iff, beq_iff_eq, beq_iff_eq]; exact eq_comm
    simp only [List.any_cons, List.any_nil, Bool.or_false, e1, e2]
    by_cases w1 : (name == Str.ofString "win32") = true
    · rw [if_pos w1, w1, Bool.true_or, if_pos rfl]
    · rw [if_neg w1, Bool.eq_false_iff.mpr w1, Bool.false_or]
      by_cases w2 : (name == Str.ofString "win16") = true
      · rw [if_pos w2, if_pos w2]
      · rw [if_neg w2, if_neg w2, if_pos h3]
end Mine
end
section
open PySem PySem.W PyProof.Rows PySem.Calls
namespace Mine
set_option maxRecDepth 100000 in
theorem fillme6 (w : World) (h : Heap) : PySem.Challenge.rw_mg0080_01.prog = PySem.Challenge.rw_mg0080_01.prog ∨ (top.heap_39 w.params).In h := by k_fill; exact .inl rfl
theorem rest_len {x x0 : PySem.Str} {rest : List (PySem.Str × Tok)} (h : x0 :: rest.map (·.1) = Txt.split x (Str.ofString ".")) (hl : x.length ≤ 61) : rest.length ≤ 200 := by
  have h1 := split_le x (Str.ofString ".")
  rw [← h] at h1
  simp at h1; omega
theorem join_weight {x x0 y : PySem.Str} {rest : List (PySem.Str × Tok)} (h : x0 :: rest.map (·.1) = Txt.split x (Str.ofString ".")) (hl : x.length ≤ 61) (hy : y.length ≤ 61) :
    ((y :: rest.map (·.1)).map (·.length)).sum + (y :: rest.map (·.1)).length ≤ 10000 := by
  have h1 := split_weight x (Str.ofString ".") (by decide +kernel)
  rw [← h] at h1
  simp only [List.map_cons, List.sum_cons, List.length_cons] at h1 ⊢
  omega
set_option maxRecDepth 100000 in
set_option maxHeartbeats 8000000 in
theorem sys_alias_plain (w : World) (mean : ExcName → Option Value) (mg mb : Str → Option Value) (system release version : Str) (nt tt ht : Tok) (hg : GoodT 61 release) (hlen : release.length ≤ 61)
    (hno : ∀ x0 rest, x0 :: rest = Txt.split release (Str.ofString ".") → (system == Str.ofString "SunOS") = true → ¬ release.cps.toList < (Str.ofString "5").cps.toList → ∃ n, PySem.intText? x0 = some n)
    (dp un : Nat) (gd : Option (List Code)) (cn : Str) (cs : Scope) (a : Addr) (ccd : Value) (cl : List (Str × Addr)) (outer : List Env) (A₀ : Around) (base h₀ : Heap) (L : Addr) (m : Str → Option Value) (news : List (Addr × Obj)) (s : Shared) (Q E : Value → Shared → Prop)
    (B : Below A₀ base outer h₀) (F : Fr h₀ L s.heap m) (X : (top.heap_39 w.params).In h₀) (N : News h₀ L s.heap news) (T : Top top.view_39 (looseW top.view_39 []) mean mg mb h₀) (hk : cs.kind = .function)
    (hdp : dp + 2 < recursionLimit) (hun : un + 16 < cLine)
    (hret : ∀ (D : Addr) (t1 t2 t3 : Tok) (h' : Heap) (tk' : Nat), Fr h₀ L h' m → News h₀ L h' ((D, tup3 (saOf system release).1 (saOf system release).2 version t1 t2 t3) :: news) → Q (.ref D) { s with heap := h', toks := tk' }) :
    wpAny (model PySem.Challenge.rw_mg0080_01.row.prog w) (ktrTop dp un gd cn cs L a ccd cl outer) (call (.ref 21) [.str system nt, .str release tt, .str version ht]) Q E s := by
  w_top off
  k_with_none
  k_with "call builtin:str.split" => ((k_dflt (refine' split_step ?k1 ?k2 ?k3 ?_)); (case k1 => k_asm); (case k2 => k_asm); (case k3 => omega); (intro D9 x9 t9 r9 h9 k9 e9 l9 F9 N9); (obtain ⟨n9, i9⟩ := hno _ _ e9 (by with_reducible assumption) (by with_reducible assumption)); (obtain ⟨z9, zb9, zc9⟩ := int_fits hg e9 (by with_reducible assumption) i9); (have y9 := rest_len e9 hlen); (have v9 := join_weight e9 hlen zb9); (try dsimp only))
  k_with "truthy ref" => ((k_dflt (refine' truthy_step ?k1 ?k2 ?k3 ?_)); (case k1 => k_asm); (case k2 => k_mem); (case k3 => with_reducible assumption))
  k_with "subscriptTail Name Constant ref int" => ((k_dflt (refine' first_step ?k1 ?k2 ?_)); (case k1 => k_asm); (case k2 => k_mem))
  k_with "call type:int" => (refine KIN.call_text (by with_reducible assumption) (by omega) ?_)
  k_with "call type:str" => (refine PySem.P.str_of_int (by with_reducible assumption) ?_)
  k_with "setItem ref int str" => ((k_dflt (refine' set_step ?k1 ?k2 ?k3 ?_)); (case k1 => k_asm); (case k2 => k_asm); (case k3 => with_reducible assumption); (intro h9 F9 N9))
  k_with "call builtin:str.join" => ((k_dflt (refine' join_step ?k1 ?k2 ?k3 ?_)); (case k1 => k_asm); (case k2 => k_mem); (case k3 => with_reducible assumption); (intro t9 k9))
  refine wpAny_call ?_
  k_dflt cell_enter
  k_steps
  all_goals first
    | exact tup_ret hret (sa_low (by with_reducible assumption) (by with_reducible assumption)) (by with_reducible assumption) (by with_reducible assumption) (fun p hp => hp)
    | exact tup_ret hret (sa_some (by with_reducible assumption) (by with_reducible assumption) (by with_reducible assumption) (by with_reducible assumption)) (by with_reducible assumption) (by with_reducible assumption) (fun p hp => List.mem_cons_of_mem _ hp)
    | exact tup_ret hret (sa_win (by with_reducible assumption) (by with_reducible assumption)) (by with_reducible assumption) (by with_reducible assumption) (fun p hp => List.mem_cons_of_mem _ hp)
    | exact tup_ret hret (sa_other (by with_reducible assumption) (by with_reducible assumption)) (by with_reducible assumption) (by with_reducible assumption) (fun p hp => List.mem_cons_of_mem _ hp)
end Mine
end
section
open PySem PySem.W PyProof.Rows PySem.Calls
namespace Mine
set_option maxRecDepth 100000 in
theorem fillme7 (w : World) (h : Heap) : PySem.Challenge.rw_mg0080_01.prog = PySem.Challenge.rw_mg0080_01.prog ∨ (top.heap_39 w.params).In h := by k_fill; exact .inl rfl
/-- a def of the text that holds a try is entered: the caller's frame lies in the ledger -/
theorem codeC_defT {prog : Program} {w : World} {A : Around} {s : Shared} {h₀ : Heap} {L a : Addr} {m : Str → Option Value} {cn : Str} {cs : Scope} {ccd : Value} {news : List (Addr × Obj)} {K : Frag} {p : Program} {loose : List Str} {mean : ExcName → Option Value} {mg mb : Str → Option Value}
    {R : Result → Shared → Prop} {name qual : Str} {params : Arguments} {body : List Stmt} {scope : Scope} {dV kV doc pm cdv ct oc : Value} {an od : Option Addr} {osl : Array (Option Value)} {f : Addr} {args : Args} {binds : List (Str × Value)}
    (F : Fr h₀ L s.heap m) (X₀ : K.In h₀) (N : News h₀ L s.heap news) (T : Top p loose mean mg mb h₀)
    (ho : K.lookup f = some ⟨oc, od, .func (fnOf name qual params body scope dV kV doc pm an cdv ct), osl⟩) (hcd : codeIn K cdv qual = true) (hroom : A.depth < recursionLimit)
    (hbind : BindsTo s (fnOf name qual params body scope dV kV doc pm an cdv ct) args binds) (hloc : ∀ y ∈ binds, scope.names.lookup y.1 = some .local)
    (h : ∀ L' oL h₁, TI.Caller h₀ L m oL → TI.Frs [envOf cn cs L a ccd] [(L, oL)] → (∀ p ∈ news, p.1 ≠ L) → Fr h₀ L' h₁ (fun y => binds.reverse.lookup y) → News h₀ L' h₁ (news ++ [(L, oL)]) →
      wpC (model prog w) (A.deeper (envOf qual scope L' f cdv)) (execs body (envOf qual scope L' f cdv))
        (fun fl s' => TI.LeaveI s' (R (.ok (.ret (match fl with | .ret v => v | _ => .none))) s')) NoE
        { s with heap := h₁, toks := s.toks + binds.length })
    (hck : cs.kind = .function) (hco : scope.isCoroutine = false) (hgen : scope.isGenerator = false) (hk : scope.kind = .function)
    (hcell : ∀ x ∈ scope.names, x.2 ≠ .cell) : codeC (model prog w) A (.call (.ref f) args) R s := by
  have X := X₀.keeps F.keep
  obtain ⟨oL, es, ep, hL, hLd, hLk, hLf⟩ := F.ns
  have hLt := Heap.lt_size hL
  have hkind : (envOf cn cs L a ccd).scope.kind ≠ .module := by
    show cs.kind ≠ .module
    rw [hck]; decide
  refine codeC_call_def (fd := fnOf name qual params body scope dV kV doc pm an cdv ct) (body := body) (binds := binds) hroom (X _ _ ho) rfl (T.nolimit.keeps F.keep) (codeRec_of X hcd) rfl hbind hcell hloc (fun h₁ hns hk₁ => ?_) hco hgen hk
  have up : ∀ b o, s.heap.get? b = some o → h₁.get? b = some o := fun b o e => hk₁ b o e
  refine wpC_mono (h _ oL h₁ ⟨fun h' sl e => ⟨_, es, ep, e, hLd, hLk, hLf⟩, ⟨es, ep, hLd⟩, F.above⟩ ⟨hkind, rfl, ⟨es, ep, hLd⟩, trivial⟩ (fun p hp => (N p hp).2.1)
    ⟨hns, fun b o e => up b o (F.keep b o e), Nat.le_trans F.above (Nat.le_of_lt hLt)⟩ (fun p hp => ?_)) (fun _ _ x => x) fun _ _ x => x
  rcases List.mem_append.mp hp with hp | hp
  · obtain ⟨h1, h2, h3⟩ := N p hp
    exact ⟨up _ _ h1, Nat.ne_of_lt (Heap.lt_size h1), h3⟩
  · rcases List.mem_cons.mp hp with rfl | hp
    · exact ⟨up _ _ hL, Nat.ne_of_lt hLt, Heap.get?_none_of_le F.above⟩
    · exact nomatch hp
theorem ne_dict {h₀ h : Heap} {L' L : Addr} {p : Addr × Obj} {rest : List (Addr × Obj)} {oL : Obj} {env : Env} (N : News h₀ L' h (p :: (rest ++ [(L, oL)]))) (Fs : TI.Frs [env] [(L, oL)])
    (hp : ∀ es ep, p.2.data ≠ .dict es ep) : p.1 ≠ L := by
  obtain ⟨_, _, ⟨es, ep, hd⟩, _⟩ := Fs
  intro e
  have h1 := (N p List.mem_cons_self).1
  have h2 := (N (L, oL) (List.mem_cons_of_mem _ (List.mem_append_right _ List.mem_cons_self))).1
  rw [e] at h1
  rw [h1] at h2
  exact hp es ep (by rw [Option.some.inj h2]; exact hd)
theorem evalArgs_es {M : Model} {A : Around} {E : Value → Shared → Prop} {s : Shared} {f : Value} {e : PySem.Expr} {es : List PySem.Expr} {env : Env} {pos : Pos} {Q : Args → Shared → Prop}
    (h : wpAny M A (spliced (backTo pos (starEach (e :: es) env))) (fun vs s' => Q ⟨vs, []⟩ s') E s) (he : starEach (e :: es) env = (false, eval e env) :: starEach es env := by rfl) :
    wpAny M A (evalArgs f true (backTo pos (starEach (e :: es) env)) []) Q E s := by
  rw [he] at h ⊢
  exact evalArgs_plain h
set_option maxRecDepth 100000 in
set_option maxHeartbeats 8000000 in
theorem sys_alias_refused (w : World) (mean : ExcName → Option Value) (mg mb : Str → Option Value) (system release version : Str) (nt tt ht : Tok) (hg : GoodT 61 release) (hlen : release.length ≤ 61)
    (hS : (system == Str.ofString "SunOS") = true) (hlt : ¬ release.cps.toList < (Str.ofString "5").cps.toList) (hno : ∀ x0 rest, x0 :: rest = Txt.split release (Str.ofString ".") → PySem.intText? x0 = none)
    (dp un : Nat) (gd : Option (List Code)) (cn : Str) (cs : Scope) (a : Addr) (ccd : Value) (cl : List (Str × Addr)) (h₀ : Heap) (L : Addr) (m : Str → Option Value) (news : List (Addr × Obj)) (s : Shared) (Q : Value → Shared → Prop)
    (F : Fr h₀ L s.heap m) (X : (top.heap_39 w.params).In h₀) (N : News h₀ L s.heap news) (T : Top top.view_39 (looseW top.view_39 []) mean mg mb h₀) (hk : cs.kind = .function)
    (hdp : dp + 2 < recursionLimit) (hun : un + 16 < cLine)
    (hret : ∀ (D : Addr) (t1 t2 t3 : Tok) (h' : Heap) (tk' : Nat), Fr h₀ L h' m → News h₀ L h' ((D, tup3 (saOf system release).1 (saOf system release).2 version t1 t2 t3) :: news) → Q (.ref D) { s with heap := h', toks := tk' }) :
    wpC (model PySem.Challenge.rw_mg0080_01.row.prog w) (ktrTop dp un gd cn cs L a ccd cl []) (call (.ref 21) [.str system nt, .str release tt, .str version ht]) Q NoE s := by
  w_top off
  k_with_none
  k_with "call builtin:str.split" => ((k_dflt (refine' split_step ?k1 ?k2 ?k3 ?_)); (case k1 => k_asm); (case k2 => k_asm); (case k3 => omega); (intro D9 x9 t9 r9 h9 k9 e9 l9 F9 N9); (have i9 := hno _ _ e9); (have y9 := rest_len e9 hlen); (try dsimp only))
  k_with "truthy ref" => ((k_dflt (refine' truthy_step ?k1 ?k2 ?k3 ?_)); (case k1 => k_asm); (case k2 => k_mem); (case k3 => with_reducible assumption))
  k_with "subscriptTail Name Constant ref int" => ((k_dflt (refine' first_step ?k1 ?k2 ?_)); (case k1 => k_asm); (case k2 => k_mem))
  refine wpC_call ?_
  k_dflt (refine' codeC_defT (cn := cn) (cs := cs) (a := a) (ccd := ccd) ?k2 ?k3 ?k4 ?k5 ?k6 ?k7 ?k8 ?k9 ?kB ?_ ?kK ?c2 ?c3 ?c4 ?c5; (case kK => exact hk); (case k2 => k_asm); (case k3 => k_asm); (case k4 => k_asm); (case k5 => k_asm); (case k6 => k_is); (case k7 => k_is); (case k8 => ktr_room); (case k9 => exact BindsTo.of_eq rfl); (case c5 => decide); (case kB => exact locs rfl); (case c2 => exact rfl); (case c3 => exact rfl); (case c4 => exact rfl); k_whole; intro L' oL' h' tiC' tiF' tiE' F' N'; (try dsimp only))
  refine wpC_execs_cons ?_
  refine wpC_If (wpC_any ?_)
  k_steps
  refine wpC_execs_cons (wpC_any ?_)
  k_steps
  refine wpC_execs_cons (wpC_any ?_)
  k_steps
  refine wpC_execs_cons ?_
  refine wpC_If (wpC_any ?_)
  k_steps
  refine wpC_execs_cons ?_
  refine wpC_Try ?_
  refine wpC_execs_cons ?_
  refine wpC_Assign_Name ?_
  refine wpC_Call_type (T := "int") ?_ (by rfl)
  k_steps
  refine evalArgs_es ?_
  k_steps
  obtain ⟨c0, r0, hx0, hc0, hgood, hl0⟩ := first_part hg e9.symm hlt
  refine' call_int_refused ?ka i9 ?kb ?kc ?_
  case ka => omega
  case kb => exact fun c hc => by have := hgood c hc; omega
  case kc => exact rfl
  intro h8 tk8 e8 x8
  rename News h₀ L' _ (_ :: _) => NN
  rename Fr h₀ L' _ _ => FF
  refine TLg.noted_new1 (new := (D9, partsO ((x9, t9) :: r9) 0) :: news) rfl tiF' x8 FF NN ⟨ne_dict NN tiF' (fun _ _ q => by cases q), TLgL.allNe_of tiE'⟩ ?_ rfl
  clear x8
  intro h7 sl7 tiG tiH
  have tiH7 := TT.HeldNA.held tiH
  k_steps
  dsimp only
  refine wpC_any ?_
  k_steps
  dsimp only
  refine wpC_any ?_
  k_steps
  all_goals (dsimp only; refine wpC_any ?_; k_steps)
  all_goals
    rename News h₀ L' _ (_ :: _) => NN2
    rename Fr h₀ L' _ _ => FF2
    refine TLg.leave_back (new := _ :: (D9, partsO ((x9, t9) :: r9) 0) :: news) tiC' FF2 NN2 ⟨ne_dict (rest := (D9, partsO ((x9, t9) :: r9) 0) :: news) NN2 tiG (fun _ _ q => by cases q), ne_dict (rest := news) (fun p hp => NN2 p (.tail _ hp)) tiG (fun _ _ q => by cases q), TLgL.allNe_of tiE'⟩ ?_
    intro F5 N5
    exact tup_ret hret (sa_none hS hlt e9 i9) F5 N5 (fun p hp => List.mem_cons_of_mem _ hp)
end Mine
end
section
open PySem PySem.W PyProof.Rows PySem.Calls
namespace Mine
/-- system_alias, whatever the text -/
theorem sys_alias (w : World) (mean : ExcName → Option Value) (mg mb : Str → Option Value) (system release version : Str) (nt tt ht : Tok) (hg : GoodT 61 release)
    (dp un : Nat) (gd : Option (List Code)) (cn : Str) (cs : Scope) (a : Addr) (ccd : Value) (cl : List (Str × Addr)) (A₀ : Around) (base h₀ : Heap) (L : Addr) (m : Str → Option Value) (news : List (Addr × Obj)) (s : Shared) (Q : Value → Shared → Prop)
    (B : Below A₀ base [] h₀) (F : Fr h₀ L s.heap m) (X : (top.heap_39 w.params).In h₀) (N : News h₀ L s.heap news) (T : Top top.view_39 (looseW top.view_39 []) mean mg mb h₀) (hk : cs.kind = .function)
    (hdp : dp + 2 < recursionLimit) (hun : un + 16 < cLine)
    (hret : ∀ (D : Addr) (t1 t2 t3 : Tok) (h' : Heap) (tk' : Nat), Fr h₀ L h' m → News h₀ L h' ((D, tup3 (saOf system release).1 (saOf system release).2 version t1 t2 t3) :: news) → Q (.ref D) { s with heap := h', toks := tk' }) :
    wpC (model PySem.Challenge.rw_mg0080_01.row.prog w) (ktrTop dp un gd cn cs L a ccd cl []) (call (.ref 21) [.str system nt, .str release tt, .str version ht]) Q NoE s := by
  have hlen : release.length ≤ 61 := hg.1
  by_cases hq : (system == Str.ofString "SunOS") = true ∧ ¬ release.cps.toList < (Str.ofString "5").cps.toList ∧ ∀ x0 rest, x0 :: rest = Txt.split release (Str.ofString ".") → PySem.intText? x0 = none
  · obtain ⟨hS, hlt, hno⟩ := hq
    exact sys_alias_refused w mean mg mb system release version nt tt ht hg hlen hS hlt hno dp un gd cn cs a ccd cl h₀ L m news s Q F X N T hk hdp hun hret
  · refine wpC_any (sys_alias_plain w mean mg mb system release version nt tt ht hg hlen (fun x0 rest he hS hlt => ?_) dp un gd cn cs a ccd cl [] A₀ base h₀ L m news s Q NoE B F X N T hk hdp hun hret)
    cases hi : PySem.intText? x0 with
    | some n => exact ⟨n, rfl⟩
    | none =>
      refine absurd ⟨hS, hlt, fun x1 r1 h1 => ?_⟩ hq
      rw [← he] at h1
      injection h1 with h1 h2
      rw [h1]; exact hi
end Mine
end
section
open PySem PySem.W PyProof.Rows PySem.Calls
open PySem.Builtin PySem.Builtin.Str
namespace Mine
section
variable {prog : Program} {w : World} {A : Around} {E : Value → Shared → Prop} {s : Shared} {value slice : PySem.Expr} {x : PySem.Str} {t u : Tok} {h₀ : Heap} {L : Addr} {m : PySem.Str → Option Value} {news : List (Addr × Obj)} {Q : Value → Shared → Prop}

theorem rev_idx (n : Nat) : (strSliceIndices none none (-1) n).length ≤ n := by
  show (sliceRange ((n : Int) - 1) (-1) (-1)).length ≤ n
  rw [krv_sliceRange]; simp

/-- x[::-1] : some text no longer than x -/
theorem rev_str (hF : Fr h₀ L s.heap m) (hN : News h₀ L s.heap news) (hsz : x.length ≤ 100)
    (h : ∀ y t' h' k, y.length ≤ x.length → Fr h₀ L h' m → News h₀ L h' news → Q (.str y t') { s with heap := h', toks := k })
    (hs : subscripted slice false (.str x t) (.ref s.heap.objs.size) = operate [.ref s.heap.objs.size, .str x t] (getItem (.str x t) (.ref s.heap.objs.size)))
    (ht : ∀ r, letTemporaryGo value (.str x t) r = pure ()) :
    wpAny (model prog w) A (subscriptTail value slice (.str x t) (.ref s.heap.objs.size)) Q E { s with heap := s.heap.push { cls := .type "slice", data := .fields #[.none, .none, .int (-1) u] } } := by
  have hl : ((slicePicked x none none (some (-1, u))).filterMap (x.cps[·]?)).length ≤ x.length := Nat.le_trans (List.length_filterMap_le _ _) (rev_idx _)
  have h100 : 100 ≤ sizeLine := by decide
  refine tail_of_ItemOn ⟨"str", _, F.slot_str_getitem.lookup, typeIs_str _ _ _, wpAny_getItem_str_slice (l := none) (u := none) (st := some (-1, u)) ⟨_, Heap.get?_push_size _ rfl, rfl, rfl⟩ rfl ?_⟩ hs ht
  unfold sliceMade
  rw [if_neg (by simp)]
  have hk := keptFrN (h₀ := h₀) (L := L) (m := m) (news := news) s.heap { cls := .type "slice", data := .fields #[.none, .none, .int (-1) u] } ⟨hF, hN⟩
  refine ⟨?_, ?_⟩
  · exact Nat.le_trans hl (Nat.le_trans hsz h100)
  · exact h _ _ _ _ hl hk.1 hk.2
end
end Mine
end
section
open PySem PySem.W PyProof.Rows PySem.Calls PySem.SeqAt
namespace Mine
section
variable {prog : Program} {w : World} {A : Around} {E : Value → Shared → Prop} {s : Shared} {h₀ : Heap} {L a b : Addr} {news : List (Addr × Obj)} {Q : Value → Shared → Prop} {x y z : PySem.Str} {t1 t2 t3 u1 u2 u3 : Tok}

/-- two tuples of the same three texts: they do not differ -/
theorem ne_tup3 (N : News h₀ L s.heap news) (ma : (a, tup3 x y z t1 t2 t3) ∈ news) (mb : (b, tup3 x y z u1 u2 u3) ∈ news) (hu : A.units < cLine) (h : Q (.bool false) s) :
    wpAny (model prog w) A (compareOp .NotEq (.ref a) (.ref b)) Q E s := by
  have ha : s.heap.IsTuple a #[.str x t1, .str y t2, .str z t3] := ⟨_, (N _ ma).1, rfl, _, rfl⟩
  have hb : s.heap.IsTuple b #[.str x u1, .str y u2, .str z u3] := ⟨_, (N _ mb).1, rfl, _, rfl⟩
  refine RcNeAt.tuples (e := fun _ => true) ha hb hu (fun j j1 j2 => ?_) prog w E Q ?_
  · have hj : j = 0 ∨ j = 1 ∨ j = 2 := by simp at j1; omega
    rcases hj with rfl | rfl | rfl
    · have := EqAt.str_str (A := A.in1) (s := s) x t1 x u1; rw [beq_self_eq_true] at this; exact this
    · have := EqAt.str_str (A := A.in1) (s := s) y t2 y u2; rw [beq_self_eq_true] at this; exact this
    · have := EqAt.str_str (A := A.in1) (s := s) z t3 z u3; rw [beq_self_eq_true] at this; exact this
  · exact h
end
end Mine
end
section
open PySem PySem.W PyProof.Rows PySem.Calls
namespace Mine
theorem strs_item {us : List Value} {ws : List PySem.Str} (h : StrsAre us ws) {i : Nat} {v : Value} (hv : us.toArray[i]? = some v) : ∃ x t, v = .str x t ∧ x ∈ ws := by
  obtain ⟨y, t, e, h1⟩ := h.item i v (by simpa using hv)
  exact ⟨y, t, e, List.mem_of_getElem? h1⟩
theorem pin1 {m : PySem.Str → Option Value} {k : PySem.Str} {v : Value} (h : m k = some v) : m = fun y => if y = k then some v else m y := by
  funext y; by_cases e : y = k
  · rw [if_pos e, e, h]
  · rw [if_neg e]
theorem pin2 {m : PySem.Str → Option Value} {k k' : PySem.Str} {v v' : Value} (h : m k = some v) (h' : m k' = some v') : m = fun y => if y = k then some v else if y = k' then some v' else m y := by
  funext y; by_cases e : y = k
  · rw [if_pos e, e, h]
  · rw [if_neg e]; exact congrFun (pin1 h') y
theorem pin3 {m : PySem.Str → Option Value} {k k' k2 : PySem.Str} {v v' v2 : Value} (h : m k = some v) (h' : m k' = some v') (h2 : m k2 = some v2) : m = fun y => if y = k then some v else if y = k' then some v' else if y = k2 then some v2 else m y := by
  funext y; by_cases e : y = k
  · rw [if_pos e, e, h]
  · rw [if_neg e]; exact congrFun (pin2 h' h2) y
theorem item_in {its : List Value} {i : Nat} {v : Value} (h : its.toArray[i]? = some v) : v ∈ its := List.mem_of_getElem? (by simpa using h)
theorem seven_good {x : PySem.Str} (h : GoodT 60 x) : GoodT 61 (Str.ofString "7" ++ x) :=
  GoodT.append (n := 1) (k := 60) ⟨by decide, by decide⟩ h
/-- a def with written defaults is entered from the caller -/
theorem callC_full {prog : Program} {w : World} {A : Around} {R : Result → Shared → Prop} {s : Shared} {name : Str} {params : Arguments} {body : List Stmt} {scope : Scope}
    {dV kV pm cd doc : Value} {a : Addr} {o : Obj} {args : Args} {binds : List (Str × Value)}
    (hroom : A.depth < recursionLimit) (ho : s.heap.get? a = some o) (hdata : o.data = .func { docDef name params body scope pm cd doc with defaults := dV, kwdefaults := kV }) (hlim : s.heap.NoLimit) (hcd : s.heap.CodeRec cd name)
    (hbind : BindsTo s { docDef name params body scope pm cd doc with defaults := dV, kwdefaults := kV } args binds)
    (hloc : ∀ x ∈ binds, scope.names.lookup x.1 = some .local)
    (h : ∀ L h₁, Fr s.heap L h₁ (fun x => binds.reverse.lookup x) →
      wpC (model prog w) (A.deeper (envOf name scope L a cd)) (execs body (envOf name scope L a cd))
        (fun f s' => R (.ok (.ret (match f with | .ret v => v | _ => .none))) s') NoE
        { s with heap := h₁, toks := s.toks + binds.length })
    (hcell : ∀ x ∈ scope.names, x.2 ≠ .cell) (hco : scope.isCoroutine = false) (hgen : scope.isGenerator = false) (hk : scope.kind = .function) :
    codeC (model prog w) A (.call (.ref a) args) R s :=
  codeC_call_def (fd := { docDef name params body scope pm cd doc with defaults := dV, kwdefaults := kV }) (body := body) (binds := binds) hroom ho hdata hlim hcd rfl hbind hcell hloc
    (fun h₁ hns hk₁ => h _ h₁ ⟨hns, hk₁, Nat.le_refl _⟩) hco hgen hk
set_option maxRecDepth 100000 in
set_option maxHeartbeats 8000000 in
theorem done : PySem.Challenge.rw_mg0080_01.Holds := by
  refine top ?_
  k_fill
  intro w s₀ s₁ mg mb G Y fa o pm cd doc dV kV ho hd hcd hD hmg hg args vals as hpre hlay hrd hwl hlo
  have KX := kIn_of Y
  have X := (Ground.X G).1
  have V := (Ground.X G).2
  refine Ground.open G ?_
  intro T B D TE TW
  try (refine guard_noD D (by decide +kernel) ?_; clear D)
  obtain ⟨_, _, M⟩ := bmod_of_top T
  have TA := at_of_top T
  try (obtain ⟨_, _, he, B0⟩ := based_of_top T rfl hmg ho hd; have he' : cd = _ := he; subst he'; clear he)
  clear hmg
  wrow_args hpre hlay hrd hwl hlo
  rename_i ns hs0 hlay0 hL1 hr1 hl2 as4 as3 l vs as0 hL ra w1 r0 hI hr hc63 hcT
  have hgood : ∀ s' : Shared, (∀ b o, s₁.heap.get? b = some o → s'.heap.get? b = some o) → s'.os = s₁.os → s'.gens = s₁.gens →
      GoodWG PySem.Challenge.rw_mg0080_01.row.toRowW.claim (classAt s₀.heap) (ExcName.means s₀.heap) [ofPy (PyData.list (List.map PyData.int ns))] s₁ (.ok (.ret (.bool true))) s' := by
    intro s' hk9 hos hge
    refine ⟨.inl ⟨.bool true, ofPy (.bool true), [], rfl, ?kz1, ?kz2, ?kz3, ?kz4⟩, .of_keep hk9, hos, .of_eq (hge.trans hg)⟩
    case kz1 => exact raisesW_false (by wrow_none_raised)
    case kz2 => exact readsW_of_reads (by row_reads)
    case kz3 => exact postW_of (by wrow_shape) (by wtm_val) (by w_fin)
    case kz4 => exact unshared_nil

  refine ⟨?_, hgood s₁ (fun _ _ e => e) rfl rfl⟩
  clear hs0 hlay0 hL1 hr1 hl2 ra w1 r0 hr hcT
  have K0 := below_caller (Top.heap T)
  have hfit : ns.length ≤ 63 := by omega
  refine wpC_call ?_
  have he := Dflts.none hD rfl
  subst he
  refine callC_full (by decide) ho hd (Top.nolimit T) hcd (BindsTo.of_eq rfl) (locs rfl) (fun L h₁ F => ?_) (by decide) rfl rfl rfl
  have N0 := (News.nil : News _ _ _ []).at F
  dsimp only
  clear ho hd hcd hD TA G Y
  refine wpC_execs_cons ?_
  refine wpC_For ?_
  w_top off
  k_with_none
  k_with "call ref" => (with_reducible show wpAny _ _ (call (Value.ref 28) [Value.ref _]) _ _ _); (refine hold_it ?_)
  k_steps
  unfold HoldIt
  k_dflt (refine' law_texts w _ mg mb l vs ns _ _ _ _ _ _ _ _ _ _ _ _ _ _ _ _ _ _ hL hI hfit ?k1 ?k2 ?k3 ?k4 ?k5 ?kK ?kd ?ku ?_)
  case k1 => k_asm
  case k2 => k_asm
  case k3 => k_asm
  case k4 => k_asm
  case k5 => k_asm
  case kK => exact rfl
  case kd => ktr_room
  case ku => ktr_units
  intro D us ws c h2 tk2 hsu hgt F2 N2
  dsimp only
  refine forC_list (J := fun _ => True) rfl rfl rfl F2 N2 (.head _) rfl rfl trivial ?turn ?done
  case done =>
    intro h3 tk3 m3 F3 N3 _
    dsimp only
    refine wpC_any ?_
    k_steps
    exact hgood _ F3.keep rfl rfl
  case turn =>
    intro i v m1 h3 tk3 q hv _ F3 N3
    obtain ⟨made, tmade, rfl, hmade⟩ := strs_item hsu hv
    have hG := hgt made hmade
    have hG1 : made.length ≤ 60 := hG.1
    clear hv
    k_with "subscriptTail Name Slice str ref" => ((k_dflt (refine' rev_str (s := ⟨_, _, _, _, _⟩) ?k1 ?k2 ?k3 ?_ ?k4 ?k5)); (case k1 => k_asm); (case k2 => k_asm); (case k3 => omega); (case k4 => with_unfolding_all rfl); (case k5 => (intro _; with_unfolding_all rfl)); (intro y9 t9 h9 k9 l9 F9 N9); (try dsimp only))
    k_with "pyIter ref" => refine hold_it ?_
    refine wpC_execs_cons (wpC_any ?_)
    k_steps
    dsimp only
    refine wpC_execs_cons ?_
    refine wpC_For ?_
    k_steps
    rename_i tb kb lb hh1 l4 hh2 F4 N4 lt4
    unfold HoldIt
    refine forC_list (J := fun m => m (Str.ofString "made") = some (.str made tmade) ∧ m (Str.ofString "behind") = some (.str (y9 ++ Str.ofString "#1") tb)) rfl rfl rfl F4 N4 (.head _) rfl rfl ⟨rfl, rfl⟩ ?turn ?done
    case done =>
      intro h5 tk5 m5 F5 N5 J5
      dsimp only
      refine wpC_any (wpAny_execs_nil ?_)
      exact ⟨rfl, h5, tk5, m5, rfl, F5, fun p hp => N5 p (.tail _ hp), trivial⟩
    case turn =>
      intro i2 v2 m2 h4 tk4 q2 hv2 hJ2 F5 N5
      obtain ⟨named, tn, rfl⟩ : ∃ x t, v2 = .str x t := by
        have := item_in hv2
        simp only [List.mem_cons, List.not_mem_nil, or_false] at this
        rcases this with rfl | rfl | rfl | rfl | rfl | rfl | rfl | rfl | rfl | rfl <;> exact ⟨_, _, rfl⟩
      clear hv2
      rw [pin2 hJ2.1 hJ2.2] at F5
      refine wpC_execs_cons ?_
      refine wpC_For ?_
      k_steps
      rename_i t7 k7 l7 l6 hh6 F6 N6 lt6
      unfold HoldIt
      refine forC_list (J := fun m => m (Str.ofString "named") = some (.str named tn) ∧ m (Str.ofString "made") = some (.str made tmade) ∧ m (Str.ofString "behind") = some (.str (y9 ++ Str.ofString "#1") tb)) rfl rfl rfl F6 N6 (.head _) rfl rfl ⟨rfl, rfl, rfl⟩ ?turn ?done
      case done =>
        intro h7 tk7 m7 F7 N7 J7
        dsimp only
        refine wpC_any (wpAny_execs_nil ?_)
        exact ⟨rfl, h7, tk7, m7, rfl, F7, fun p hp => N7 p (.tail _ hp), J7.2⟩
      case turn =>
        intro i3 v3 m3 h7 tk7 q3 hv3 hJ3 F7 N7
        obtain ⟨asked, ta, rfl, hga⟩ : ∃ x t, v3 = .str x t ∧ GoodT 61 x := by
          have := item_in hv3
          simp only [List.mem_cons, List.not_mem_nil, or_false] at this
          rcases this with rfl | rfl
          · exact ⟨_, _, rfl, hG.mono (by decide)⟩
          · exact ⟨_, _, rfl, seven_good hG⟩
        clear hv3
        rw [pin3 hJ3.1 hJ3.2.1 hJ3.2.2] at F7
        dsimp only at F7
        generalize y9 ++ Str.ofString "#1" = beh at *
        refine wpC_execs_cons ?_
        refine wpC_If ?_
        refine wpC_isTrue_Compare1 ?_
        obtain ⟨o21, fd21, hK21, hf21⟩ : ∃ o fd, (top.heap_39 w.params).lookup 21 = some o ∧ o.data = .func fd := ⟨_, _, by k_dflt k_is, rfl⟩
        refine wpC_Call_def (a := 21) (o := o21) (fd := fd21) ?_ (by decide) (by rfl) (by rfl)
        k_steps
        refine evalArgs_es ?_
        k_steps
        · exact (KX.keeps F7.keep) _ _ hK21
        k_dflt (refine' sys_alias w _ mg mb named asked beh _ _ _ hga _ _ _ _ _ _ _ _ _ _ _ _ _ _ _ _ ?k1 ?k2 ?k3 ?k4 ?k5 ?kK ?kd ?ku ?_)
        case k1 => exact K0
        case k2 => exact F7
        case k3 => k_asm
        case k4 => exact N7
        case k5 => k_asm
        case kK => exact rfl
        case kd => ktr_room
        case ku => ktr_units
        intro D8 u1 u2 u3 h8 tk8 F8 N8
        try dsimp only
        k_with "call ref" => (with_reducible show wpAny _ _ (call (Value.ref 42) [Value.str _ _, Value.str _ _, Value.str _ _]) _ _ _); (refine hold_it ?_)
        k_steps
        unfold HoldIt
        k_dflt (refine' law_alias w _ mg mb named asked beh _ _ _ hga.1 _ _ _ _ _ _ _ _ _ _ _ _ _ _ _ _ _ _ ?k1 ?k2 ?k3 ?k4 ?k5 ?kK ?kd ?ku ?_)
        case k1 => exact K0
        case k2 => exact F8
        case k3 => k_asm
        case k4 => exact N8
        case k5 => k_asm
        case kK => exact rfl
        case kd => ktr_room
        case ku => ktr_units
        intro D9 w1 w2 w3 h9' tk9 F9' N9'
        rw [la_sa hga] at N9'
        clear N8 F8
        refine ne_tup3 N9' (.tail _ (.head _)) (.head _) (by ktr_units) ?_
        k_steps
        refine wpC_any (wpAny_execs_nil ?_)
        dsimp only
        refine wpC_any (wpAny_execs_nil ?_)
        exact ⟨rfl, h9', tk9, _, rfl, F9', fun p hp => N9' p (.tail _ (.tail _ hp)), rfl, rfl, rfl⟩
end Mine
end
set_option maxRecDepth 100000 in
theorem PySem.Challenge.cw_mg0080_01_holds : PySem.Challenge.rw_mg0080_01.Holds := by
  exact Mine.done
